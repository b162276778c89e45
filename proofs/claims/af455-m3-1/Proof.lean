import JvmDerived
import JvmDerived.Pilot.@@N@@Statement
import JvmDerived.Pilot.@@N@@Code
set_option linter.unusedVariables false
set_option linter.unusedSimpArgs false
namespace Jvm.OwnKit
open Sem ClassFile Op Lib Jvm.Stand Jvm.Free Jvm.LawKit Jvm.RoadKit
section Kit
variable {p : Program} {l : Launch} {e : Env} {R : Room} {s : State} {m : MethodId} {args : Array Value} {below : List Frame} {meth : Method} {c : Code} {T : State} {locs : List Loc} {cells slots : Nat} {Z : State} {a0 : Array Value} {h h0 : Heap} {kc ks : Nat} {Q : Option Value → Heap → List Loc → Prop}
/-- from this state the body comes to its end, and Q holds of what it returns, of the heap there and of the places written -/
def Go (p : Program) (e : Env) (below : List Frame) (s : State) (kc ks : Nat) (Q : Option Value → Heap → List Loc → Prop) (a : State) : Prop :=
  ∃ (t : State) (o : Outcome), Steps p.tables e below a t ∧ t.status = .running ∧ Ended t below o ∧ ∃ v L, o = .returned v ∧ Q v t.heap L ∧ FrameEnd s o t L kc ks
theorem Go.of {a b : State} (st : ∀ t, Steps p.tables e below b t → Steps p.tables e below a t) (k : Go p e below s kc ks Q b) : Go p e below s kc ks Q a := by
  obtain ⟨t, o, h, r⟩ := k
  exact ⟨t, o, st t h, r⟩
theorem pad (X : Stand p l e R s m args below meth c T locs cells slots) {cells' slots' : Nat} (hc : cells ≤ cells') (hs : slots ≤ slots') : Stand p l e R s m args below meth c T locs cells' slots' :=
  ⟨X.admits, X.cas, X.clock, X.frames, X.room, X.hears, X.method, X.code, X.here, X.tail, X.warmed, X.limits, X.bytes, X.same.mono hc hs⟩
theorem Go.leave (X : Stand p l e R s m args below meth c T locs cells slots) (hlk : meth.locks = false) {v : Option Value} (hv : meth.sig.returnType = none → v = none) {g : JFrame}
    (st : ∀ fs, (∀ (f : JFrame) (acts : List Action), f.method = m → f.locked = none → f.entered = [] → (doReturn e (T.setTop f) acts v).1 = T.setFrames fs) → Steps p.tables e below (T.setTop g) (T.setFrames fs))
    (hc : cells ≤ kc) (hs : slots ≤ ks) (q : Q v T.heap locs) : Go p e below s kc ks Q (T.setTop g) := by
  obtain ⟨fs, hr, hrun, hended, hW, hsame⟩ := X.leave hv hlk
  exact ⟨_, _, st fs hr, hrun, hended, v, locs, rfl, q, ⟨_, rfl⟩, hW, hsame.mono hc hs⟩
theorem Go.retI (X : Stand p l e R s m args below meth c T locs cells slots) (hx : p.tables.exec = Jvm.exec) (hlk : meth.locks = false) (hret : meth.sig.returnType = some .int) {pc : Nat} {Ls : Array Slot} {z : Int32} {rest : List Value}
    (hd : decode c.code pc = .ok (.ireturn, 1)) (hc : cells ≤ kc) (hs : slots ≤ ks) (q : Q (some (.int z)) T.heap locs) : Go p e below s kc ks Q (T.setTop (mkF m pc Ls (.int z :: rest))) :=
  Go.leave X hlk (fun h => by rw [hret] at h; cases h) (fun fs hr => retOut X hx hret rfl (Or.inl ⟨rfl, Or.inl rfl, z, rfl⟩) hd hr) hc hs q
theorem Go.retN (X : Stand p l e R s m args below meth c T locs cells slots) (hx : p.tables.exec = Jvm.exec) (hlk : meth.locks = false) {t : FieldType} (hret : meth.sig.returnType = some t) (ht : t = .boolean ∨ t = .byte ∨ t = .char ∨ t = .short) {pc : Nat} {Ls : Array Slot} {z : Int32} {rest : List Value}
    (hd : decode c.code pc = .ok (.ireturn, 1)) (hz : nar t z = z) (hc : cells ≤ kc) (hs : slots ≤ ks) (q : Q (some (.int z)) T.heap locs) : Go p e below s kc ks Q (T.setTop (mkF m pc Ls (.int z :: rest))) :=
  Go.leave X hlk (fun h => by rw [hret] at h; cases h) (fun fs hr => RoadKit.retN X hx hret ht hd (by rw [hz]; exact hr)) hc hs q
theorem Go.retJ (X : Stand p l e R s m args below meth c T locs cells slots) (hx : p.tables.exec = Jvm.exec) (hlk : meth.locks = false) (hret : meth.sig.returnType = some .long) {pc : Nat} {Ls : Array Slot} {z : Int64} {rest : List Value}
    (hd : decode c.code pc = .ok (.lreturn, 1)) (hc : cells ≤ kc) (hs : slots ≤ ks) (q : Q (some (.long z)) T.heap locs) : Go p e below s kc ks Q (T.setTop (mkF m pc Ls (.long z :: rest))) :=
  Go.leave X hlk (fun h => by rw [hret] at h; cases h) (fun fs hr => retOut X hx hret rfl (Or.inr (Or.inl ⟨rfl, rfl, z, rfl⟩)) hd hr) hc hs q
theorem Go.retA (X : Stand p l e R s m args below meth c T locs cells slots) (hx : p.tables.exec = Jvm.exec) (hlk : meth.locks = false) {t : FieldType} (hret : meth.sig.returnType = some t) (ht : t.isReference = true) {pc : Nat} {Ls : Array Slot} {z : Value} {rest : List Value} (hz : z.isRef = true)
    (hd : decode c.code pc = .ok (.areturn, 1)) (hc : cells ≤ kc) (hs : slots ≤ ks) (q : Q (some z) T.heap locs) : Go p e below s kc ks Q (T.setTop (mkF m pc Ls (z :: rest))) :=
  Go.leave X hlk (fun h => by rw [hret] at h; cases h) (fun fs hr => retOut X hx hret (by cases t <;> first | rfl | (simp [FieldType.isReference] at ht; done)) (Or.inr (Or.inr (Or.inr (Or.inr ⟨rfl, ht, hz⟩)))) hd hr) hc hs q
theorem Go.retV (X : Stand p l e R s m args below meth c T locs cells slots) (hx : p.tables.exec = Jvm.exec) (hlk : meth.locks = false) (hret : meth.sig.returnType = none) {pc : Nat} {Ls : Array Slot}
    (hd : decode c.code pc = .ok (.return_, 1)) (hc : cells ≤ kc) (hs : slots ≤ ks) (q : Q none T.heap locs) : Go p e below s kc ks Q (T.setTop (mkF m pc Ls [])) :=
  Go.leave X hlk (fun _ => rfl) (fun fs hr => X.returnOut hx hret hd hr) hc hs q
/-- a body's contract: called with these arguments over this heap it returns, and Q holds -/
def Con (l : Launch) (Z : State) (y : MethodName) (bytes : ByteArray) (maxL : Nat) (ret : Option FieldType) (rm : Room) (as' : Array Value) (h0 : Heap) (Q : Option Value → Heap → List Loc → Prop) : Prop :=
  ∀ ws : List Cond, MetFree l y (head1 (Cond.code y bytes maxL ret :: ws) rm) (fun a U => a = as' ∧ Z.Warmed39 U.vm ∧ U.heap = h0) (fun _ _ _ _ _ => True) (fun _ U o U' => ∃ v L, o = .returned v ∧ Q v U'.heap L ∧ FrameEnd U o U' L rm.cells rm.slots)
theorem Con.intro {y : MethodName} {bytes : ByteArray} {maxL : Nat} {ret : Option FieldType} {rm : Room} {as' : Array Value} {gf : MethodId → JFrame} (hpl : plainFor y = true) (hef : ∀ m, entryFrame m as' maxL = gf m)
    (body : ∀ (p : Program) (e : Env) (s : State) (m : MethodId) (below : List Frame) (meth : Method) (c : Code) (s₁ : State), p.tables.exec = Jvm.exec → c.code = bytes → c.maxLocals = maxL → Z.Warmed39 s.vm → s.vm.findClass y.cls = some m.cls → meth.name = y.name → meth.sig.returnType = ret → meth.locks = false →
      Stand p l e rm s m as' below meth c s₁ [] 0 0 → s₁.heap = h0 → Go p e below s rm.cells rm.slots Q (s₁.setTop (gf m))) : Con l Z y bytes maxL ret rm as' h0 Q := by
  intro ws
  refine MetFree.of_bodySF hpl hisR ?_
  intro p e s m args below meth c s₁ Bd hml hP hK
  obtain ⟨rfl, hZ, hh⟩ := hP
  have k := body p e s m below meth c s₁ Bd.exec Bd.bytes hml hZ (findClass_of_methodNamed Bd.named) (name_of_methodNamed Bd.named Bd.method).1 Bd.returns Bd.notSynchronized (Stand.of_body Bd) (by rw [← hh, Bd.state]; rfl)
  rw [← hef m] at k
  exact k
theorem Go.static (X : Stand p l e R s m args below meth c T locs cells slots) (hx : p.tables.exec = Jvm.exec) (hZ : Z.Warmed39 s.vm) {own : String} {index : Nat} {y : MethodName} {bytes : ByteArray} {maxL : Nat} {ret : Option FieldType} {rm : Room} {Q' : Option Value → Heap → List Loc → Prop} {argsL : List Value}
    (hown : s.vm.findClass own = some m.cls) (w1 : (Cond.methodLink own index y).before a0 Z = true) (w2 : (Cond.static y).before a0 Z = true) (w3 : (Cond.initialized y.cls).before a0 Z = true) (w4 : (Cond.code y bytes maxL ret).before a0 Z = true)
    (hy : y.cls ≠ "java/lang/invoke/MethodHandle" ∧ y.cls ≠ "java/lang/invoke/VarHandle") (W : Nat) (eT : T.heap = h) (K : Con l Z y bytes maxL ret rm argsL.toArray h Q') (hf : rm.frames + 1 ≤ R.frames) (hlo : W + (maxL + 11) + rm.locals ≤ R.locals) (hc : cells + rm.cells ≤ R.cells) (hs : slots + rm.slots ≤ R.slots)
    {g : JFrame} (hg : g.method = m) (hsize : g.locals.size = c.maxLocals) {rest : List Value} (hlen : ∀ sig, parseMethodDescriptor y.desc = some sig → argsL.length = sig.parameters.length) (hstack : g.stack = argsL.reverse ++ rest) (hW : 2 * g.monitorRoom + (rest.map fun v => v.category).sum ≤ W)
    (hd : decode c.code g.pc = .ok (.invokestatic index, 3))
    (k : ∀ (T' : State) (v : Option Value) (L : List Loc), Stand p l e R s m args below meth c T' (locs ++ L) (cells + rm.cells) (slots + rm.slots) → Q' v T'.heap L → Go p e below s kc ks Q (T'.setTop { g with pc := g.pc + 3, stack := v.toList ++ rest })) : Go p e below s kc ks Q (T.setTop g) := by
  obtain ⟨v, _, ⟨T', L', k', n'⟩, -, X', ⟨Lc, hQ, l1, l2, l3⟩, st⟩ := Jvm.LawKit.callS X hx hown (mvT hZ w1) (mvT hZ w2) (mvT hZ w3) (mvT hZ w4) hy (backOf (W := W) (K []) hZ w4 w3 hf hlo) hg hsize hlen hstack hW hd (fun _ _ => ⟨rfl, eT, hc, hs⟩)
  dsimp only [Pt.U, Pt.locs, Pt.cells, Pt.slots] at X' l1 l2 l3 st hQ
  subst l1 l2 l3
  exact Go.of st (k T' v Lc X' hQ)
theorem Go.special (X : Stand p l e R s m args below meth c T locs cells slots) (hx : p.tables.exec = Jvm.exec) (hZ : Z.Warmed39 s.vm) {own : String} {index : Nat} {y : MethodName} {bytes : ByteArray} {maxL : Nat} {rm : Room} {Q' : Option Value → Heap → List Loc → Prop} {a : Addr} {argsL : List Value} (hy1 : y.name = "<init>")
    (hown : s.vm.findClass own = some m.cls) (w1 : (Cond.methodLink own index y).before a0 Z = true) (w2 : (Cond.instanceMethod y).before a0 Z = true) (w3 : (Cond.initialized y.cls).before a0 Z = true) (w4 : (Cond.code y bytes maxL none).before a0 Z = true)
    (hy : y.cls ≠ "java/lang/invoke/MethodHandle" ∧ y.cls ≠ "java/lang/invoke/VarHandle") (W : Nat) (eT : T.heap = h) (K : Con l Z y bytes maxL none rm (Value.ref a :: argsL).toArray h Q') (hf : rm.frames + 1 ≤ R.frames) (hlo : W + (maxL + 11) + rm.locals ≤ R.locals) (hc : cells + rm.cells ≤ R.cells) (hs : slots + rm.slots ≤ R.slots)
    {g : JFrame} (hg : g.method = m) (hsize : g.locals.size = c.maxLocals) {rest : List Value} (hlen : ∀ sig, parseMethodDescriptor y.desc = some sig → argsL.length = sig.parameters.length) (hstack : g.stack = argsL.reverse ++ .ref a :: rest) (hW : 2 * g.monitorRoom + (rest.map fun v => v.category).sum ≤ W)
    (hd : decode c.code g.pc = .ok (.invokespecial index, 3))
    (k : ∀ (T' : State) (v : Option Value) (L : List Loc), Stand p l e R s m args below meth c T' (locs ++ L) (cells + rm.cells) (slots + rm.slots) → Q' v T'.heap L → Go p e below s kc ks Q (T'.setTop { g with pc := g.pc + 3, stack := v.toList ++ rest })) : Go p e below s kc ks Q (T.setTop g) := by
  obtain ⟨v, _, ⟨T', L', k', n'⟩, -, X', ⟨Lc, hQ, l1, l2, l3⟩, st⟩ := X.specialBack hx hy1 hown (mvT hZ w1) (mvT hZ w2) (mvT hZ w4) hy (backOf (W := W) (K []) hZ w4 w3 hf hlo) hg hsize (Steps.refl _) hlen hstack hW hd (fun _ _ => ⟨rfl, eT, hc, hs⟩)
  dsimp only [Pt.U, Pt.locs, Pt.cells, Pt.slots] at X' l1 l2 l3 st hQ
  subst l1 l2 l3
  exact Go.of (fun _ q => st.trans q) (k T' v Lc X' hQ)
theorem Go.virtual (X : Stand p l e R s m args below meth c T locs cells slots) (hx : p.tables.exec = Jvm.exec) (hZ : Z.Warmed39 s.vm) {own C : String} {index : Nat} {y z : MethodName} {bytes : ByteArray} {maxL : Nat} {ret : Option FieldType} {rm : Room} {Q' : Option Value → Heap → List Loc → Prop} {a : Addr} {argsL : List Value}
    (hown : s.vm.findClass own = some m.cls) (w1 : (Cond.methodLink own index y).before a0 Z = true) (w2 : (Cond.declares y).before a0 Z = true) (hnf : NotFace s y) (w5 : (Cond.selects C y z).before a0 Z = true) (w6 : (Cond.instanceMethod z).before a0 Z = true) (w3 : (Cond.initialized z.cls).before a0 Z = true) (w4 : (Cond.code z bytes maxL ret).before a0 Z = true)
    (hy : y.cls ≠ "java/lang/invoke/MethodHandle" ∧ y.cls ≠ "java/lang/invoke/VarHandle") (W : Nat) (eT : T.heap = h) (E : Exa Z h a C) (K : Con l Z z bytes maxL ret rm (Value.ref a :: argsL).toArray h Q') (hf : rm.frames + 1 ≤ R.frames) (hlo : W + (maxL + 11) + rm.locals ≤ R.locals) (hc : cells + rm.cells ≤ R.cells) (hs : slots + rm.slots ≤ R.slots)
    {g : JFrame} (hg : g.method = m) (hsize : g.locals.size = c.maxLocals) {rest : List Value} (hlen : ∀ sig, parseMethodDescriptor y.desc = some sig → argsL.length = sig.parameters.length) (hstack : g.stack = argsL.reverse ++ .ref a :: rest) (hW : 2 * g.monitorRoom + (rest.map fun v => v.category).sum ≤ W)
    (hd : decode c.code g.pc = .ok (.invokevirtual index, 3))
    (k : ∀ (T' : State) (v : Option Value) (L : List Loc), Stand p l e R s m args below meth c T' (locs ++ L) (cells + rm.cells) (slots + rm.slots) → Q' v T'.heap L → Go p e below s kc ks Q (T'.setTop { g with pc := g.pc + 3, stack := v.toList ++ rest })) : Go p e below s kc ks Q (T.setTop g) := by
  obtain ⟨cq, kq, qa, -, qc⟩ := isOf hZ eT E
  obtain ⟨v, _, ⟨T', L', k', n'⟩, -, X', ⟨Lc, hQ, l1, l2, l3⟩, st⟩ := X.virtualBack hx hown (mvT hZ w1) (mvT hZ w2) hnf (mvT hZ w5) (mvT hZ w6) hy (backOf (W := W) (K []) hZ w4 w3 hf hlo) qa qc hg hsize (Steps.refl _) hlen hstack hW hd (fun _ _ => ⟨rfl, eT, hc, hs⟩)
  dsimp only [Pt.U, Pt.locs, Pt.cells, Pt.slots] at X' l1 l2 l3 st hQ
  subst l1 l2 l3
  exact Go.of (fun _ q => st.trans q) (k T' v Lc X' hQ)
theorem Go.virtualUp (X : Stand p l e R s m args below meth c T locs cells slots) (hx : p.tables.exec = Jvm.exec) (hZ : Z.Warmed39 s.vm) {own C owner : String} {index : Nat} {y z : MethodName} {bytes : ByteArray} {maxL : Nat} {ret : Option FieldType} {rm : Room} {Q' : Option Value → Heap → List Loc → Prop} {a : Addr} {argsL : List Value}
    (hown : s.vm.findClass own = some m.cls) (w1 : (Cond.methodLink own index y).before a0 Z = true) (w2 : (Cond.sameMethod y.cls owner y.name y.desc).before a0 Z = true) (w7 : (Cond.declares ⟨owner, y.name, y.desc⟩).before a0 Z = true) (w5 : (Cond.selects C y z).before a0 Z = true) (w6 : (Cond.instanceMethod z).before a0 Z = true) (w3 : (Cond.initialized z.cls).before a0 Z = true) (w4 : (Cond.code z bytes maxL ret).before a0 Z = true)
    (hy : owner ≠ "java/lang/invoke/MethodHandle" ∧ owner ≠ "java/lang/invoke/VarHandle") (W : Nat) (eT : T.heap = h) (E : Exa Z h a C) (K : Con l Z z bytes maxL ret rm (Value.ref a :: argsL).toArray h Q') (hf : rm.frames + 1 ≤ R.frames) (hlo : W + (maxL + 11) + rm.locals ≤ R.locals) (hc : cells + rm.cells ≤ R.cells) (hs : slots + rm.slots ≤ R.slots)
    {g : JFrame} (hg : g.method = m) (hsize : g.locals.size = c.maxLocals) {rest : List Value} (hlen : ∀ sig, parseMethodDescriptor y.desc = some sig → argsL.length = sig.parameters.length) (hstack : g.stack = argsL.reverse ++ .ref a :: rest) (hW : 2 * g.monitorRoom + (rest.map fun v => v.category).sum ≤ W)
    (hd : decode c.code g.pc = .ok (.invokevirtual index, 3))
    (k : ∀ (T' : State) (v : Option Value) (L : List Loc), Stand p l e R s m args below meth c T' (locs ++ L) (cells + rm.cells) (slots + rm.slots) → Q' v T'.heap L → Go p e below s kc ks Q (T'.setTop { g with pc := g.pc + 3, stack := v.toList ++ rest })) : Go p e below s kc ks Q (T.setTop g) := by
  obtain ⟨cq, kq, qa, -, qc⟩ := isOf hZ eT E
  obtain ⟨v, _, ⟨T', L', k', n'⟩, -, X', ⟨Lc, hQ, l1, l2, l3⟩, st⟩ := X.virtualBackUp hx hown (mvT hZ w1) (mvT hZ w2) (mvT hZ w7) hy (mvT hZ w5) (mvT hZ w6) (backOf (W := W) (K []) hZ w4 w3 hf hlo) qa qc hg hsize (Steps.refl _) hlen hstack hW hd (fun _ _ => ⟨rfl, eT, hc, hs⟩)
  dsimp only [Pt.U, Pt.locs, Pt.cells, Pt.slots] at X' l1 l2 l3 st hQ
  subst l1 l2 l3
  exact Go.of (fun _ q => st.trans q) (k T' v Lc X' hQ)
theorem refCat {v : Value} (h : v.isRef = true) : v.category = 1 := by rcases ref_cases h with rfl | ⟨_, rfl⟩ <;> rfl
theorem storeOne {ls l' : Array Slot} {i : Nat} {v : Value} {o : Slot} (hold : ls[i]? = some o) (ho : One o) (hv : v.category = 1) (e : ls.setIfInBounds i (.val v) = l') : storeLocals ls i v = some l' := by rw [← e]; exact XS.store1 hold ho hv
/-- a cast of what may be null -/
theorem castV (X : Stand p l e R s m args below meth c T locs cells slots) (hx : p.tables.exec = Jvm.exec) (hZ : Z.Warmed39 s.vm) {own K : String} {index : Nat} (hown : s.vm.findClass own = some m.cls) (w : (Cond.classLink own index K).before a0 Z = true) (eT : T.heap = h) {v : Value} (F : v = .null ∨ ∃ a, v = .ref a ∧ Ins Z h a K true)
    {g : JFrame} (hg : g.method = m) {rest : List Value} (hs : g.stack = v :: rest) (hd : decode c.code g.pc = .ok (.checkcast index, 3)) : ∃ T', Stand p l e R s m args below meth c T' locs cells slots ∧ T'.heap = h ∧ ∀ target, Steps p.tables e below (T'.setTop { g with pc := g.pc + 3 }) target → Steps p.tables e below (T.setTop g) target := by
  rcases F with rfl | ⟨a, rfl, I⟩
  · exact ⟨T, X, eT, fun target q => X.checkcastNull hx hg hs hd target q⟩
  · exact castY X hx hZ hown w eT I hg hs hd
end Kit
end Jvm.OwnKit
namespace Jvm.OwnKit
open Sem ClassFile Op Lib Jvm.Stand Jvm.Free Jvm.LawKit Jvm.RoadKit
section Wide
variable {p : Program} {l : Launch} {e : Env} {R : Room} {s s1 : State} {m : MethodId} {args : Array Value} {below : List Frame} {meth : Method} {c : Code} {T : State} {locs : List Loc} {cells slots : Nat} {Z : State} {a0 : Array Value} {h h0 : Heap} {kc ks : Nat} {vm0 : Vm} {k0 : Nat} {Q : Option Value → Heap → Vm → List Loc → Prop} {G : State → Prop}
/-- as Go, where a String constant may come to be interned on the way -/
def GoW (p : Program) (e : Env) (below : List Frame) (s : State) (kc ks : Nat) (Q : Option Value → Heap → Vm → List Loc → Prop) (a : State) : Prop :=
  ∃ (t : State) (o : Outcome), Steps p.tables e below a t ∧ t.status = .running ∧ Ended t below o ∧ ∃ v L, o = .returned v ∧ Q v t.heap t.vm L ∧ ReturnedEndW s o t L kc ks
theorem GoW.of {a b : State} (st : ∀ t, Steps p.tables e below b t → Steps p.tables e below a t) (k : GoW p e below s kc ks Q b) : GoW p e below s kc ks Q a := by
  obtain ⟨t, o, h, r⟩ := k
  exact ⟨t, o, st t h, r⟩
theorem GoW.leave (X : Stand p l e R (s.setVm vm0) m args below meth c T locs cells slots) (hS : s.Since vm0 k0) (hn : k0 ≤ T.heap.size) (hlk : meth.locks = false) {v : Option Value} (hv : meth.sig.returnType = none → v = none) {g : JFrame}
    (st : ∀ fs, (∀ (f : JFrame) (acts : List Action), f.method = m → f.locked = none → f.entered = [] → (doReturn e (T.setTop f) acts v).1 = T.setFrames fs) → Steps p.tables e below (T.setTop g) (T.setFrames fs))
    (hc : cells ≤ kc) (hs : slots ≤ ks) (q : Q v T.heap T.vm locs) : GoW p e below s kc ks Q (T.setTop g) := by
  obtain ⟨fs, hr, hrun, hended, hE⟩ := X.leaveW hS hn hv hlk
  exact ⟨_, _, st fs hr, hrun, hended, v, locs, rfl, q, hE.1, hE.2.1, hE.2.2.1, hE.2.2.2.mono hc hs⟩
theorem GoW.retI (X : Stand p l e R (s.setVm vm0) m args below meth c T locs cells slots) (hS : s.Since vm0 k0) (hn : k0 ≤ T.heap.size) (hx : p.tables.exec = Jvm.exec) (hlk : meth.locks = false) (hret : meth.sig.returnType = some .int) {pc : Nat} {Ls : Array Slot} {z : Int32} {rest : List Value}
    (hd : decode c.code pc = .ok (.ireturn, 1)) (hc : cells ≤ kc) (hs : slots ≤ ks) (q : Q (some (.int z)) T.heap T.vm locs) : GoW p e below s kc ks Q (T.setTop (mkF m pc Ls (.int z :: rest))) :=
  GoW.leave X hS hn hlk (fun h => by rw [hret] at h; cases h) (fun fs hr => retOut X hx hret rfl (Or.inl ⟨rfl, Or.inl rfl, z, rfl⟩) hd hr) hc hs q
theorem GoW.retN (X : Stand p l e R (s.setVm vm0) m args below meth c T locs cells slots) (hS : s.Since vm0 k0) (hn : k0 ≤ T.heap.size) (hx : p.tables.exec = Jvm.exec) (hlk : meth.locks = false) {t : FieldType} (hret : meth.sig.returnType = some t) (ht : t = .boolean ∨ t = .byte ∨ t = .char ∨ t = .short) {pc : Nat} {Ls : Array Slot} {z : Int32} {rest : List Value}
    (hd : decode c.code pc = .ok (.ireturn, 1)) (hz : nar t z = z) (hc : cells ≤ kc) (hs : slots ≤ ks) (q : Q (some (.int z)) T.heap T.vm locs) : GoW p e below s kc ks Q (T.setTop (mkF m pc Ls (.int z :: rest))) :=
  GoW.leave X hS hn hlk (fun h => by rw [hret] at h; cases h) (fun fs hr => RoadKit.retN X hx hret ht hd (by rw [hz]; exact hr)) hc hs q
theorem GoW.retA (X : Stand p l e R (s.setVm vm0) m args below meth c T locs cells slots) (hS : s.Since vm0 k0) (hn : k0 ≤ T.heap.size) (hx : p.tables.exec = Jvm.exec) (hlk : meth.locks = false) {t : FieldType} (hret : meth.sig.returnType = some t) (ht : t.isReference = true) {pc : Nat} {Ls : Array Slot} {z : Value} {rest : List Value} (hz : z.isRef = true)
    (hd : decode c.code pc = .ok (.areturn, 1)) (hc : cells ≤ kc) (hs : slots ≤ ks) (q : Q (some z) T.heap T.vm locs) : GoW p e below s kc ks Q (T.setTop (mkF m pc Ls (z :: rest))) :=
  GoW.leave X hS hn hlk (fun h => by rw [hret] at h; cases h) (fun fs hr => retOut X hx hret (by cases t <;> first | rfl | (simp [FieldType.isReference] at ht; done)) (Or.inr (Or.inr (Or.inr (Or.inr ⟨rfl, ht, hz⟩)))) hd hr) hc hs q
theorem GoW.retV (X : Stand p l e R (s.setVm vm0) m args below meth c T locs cells slots) (hS : s.Since vm0 k0) (hn : k0 ≤ T.heap.size) (hx : p.tables.exec = Jvm.exec) (hlk : meth.locks = false) (hret : meth.sig.returnType = none) {pc : Nat} {Ls : Array Slot}
    (hd : decode c.code pc = .ok (.return_, 1)) (hc : cells ≤ kc) (hs : slots ≤ ks) (q : Q none T.heap T.vm locs) : GoW p e below s kc ks Q (T.setTop (mkF m pc Ls [])) :=
  GoW.leave X hS hn hlk (fun _ => rfl) (fun fs hr => X.returnOut hx hret hd hr) hc hs q
/-- a contract of a body that may intern; V: what the tables say where it is called -/
def ConW (l : Launch) (Z : State) (y : MethodName) (bytes : ByteArray) (maxL : Nat) (ret : Option FieldType) (rm : Room) (as' : Array Value) (h0 : Heap) (V : Vm → Prop) (Q : Option Value → Heap → Vm → List Loc → Prop) : Prop :=
  ∀ ws : List Cond, MetFree l y (head1 (Cond.code y bytes maxL ret :: ws) rm) (fun a U => a = as' ∧ Z.Warmed39 U.vm ∧ U.heap = h0 ∧ V U.vm) (fun _ _ _ _ _ => True) (fun _ U o U' => ∃ v L, o = .returned v ∧ Q v U'.heap U'.vm L ∧ ReturnedEndW U o U' L rm.cells rm.slots)
theorem ConW.intro {y : MethodName} {bytes : ByteArray} {maxL : Nat} {ret : Option FieldType} {rm : Room} {as' : Array Value} {V : Vm → Prop} {gf : MethodId → JFrame} (hpl : plainFor y = true) (hef : ∀ m, entryFrame m as' maxL = gf m)
    (body : ∀ (p : Program) (e : Env) (s : State) (m : MethodId) (below : List Frame) (meth : Method) (c : Code) (s₁ : State), p.tables.exec = Jvm.exec → c.code = bytes → c.maxLocals = maxL → Z.Warmed39 (s.setVm s.vm).vm → (s.setVm s.vm).vm.findClass y.cls = some m.cls → meth.name = y.name → meth.sig.returnType = ret → meth.locks = false →
      Stand p l e rm (s.setVm s.vm) m as' below meth c s₁ [] 0 0 → s₁.heap = h0 → s.heap = h0 → V s.vm → s.Since s.vm 0 → GoW p e below s rm.cells rm.slots Q (s₁.setTop (gf m))) : ConW l Z y bytes maxL ret rm as' h0 V Q := by
  intro ws
  refine MetFree.of_bodySF hpl hisR ?_
  intro p e s m args below meth c s₁ Bd hml hP hK
  obtain ⟨rfl, hZ, hh, hV⟩ := hP
  have k := body p e s m below meth c s₁ Bd.exec Bd.bytes hml hZ (findClass_of_methodNamed Bd.named) (name_of_methodNamed Bd.named Bd.method).1 Bd.returns Bd.notSynchronized (Stand.of_body Bd) (by rw [← hh, Bd.state]; rfl) hh hV ((State.WarmedH.refl s).since 0)
  rw [← hef m] at k
  exact k
theorem backOfW {y : MethodName} {bytes : ByteArray} {maxL : Nat} {ret : Option FieldType} {rm : Room} {len W : Nat} {as' : Array Value} {V : Vm → Prop}
    (hM : ConW l Z y bytes maxL ret rm as' h V Q) (hZ : Z.Warmed39 s1.vm) (wc : (Cond.code y bytes maxL ret).before a0 Z = true) (wz : (Cond.initialized y.cls).before a0 Z = true) (hf : rm.frames + 1 ≤ R.frames) (hl : W + (maxL + 11) + rm.locals ≤ R.locals) :
    BackS l R p e below s1 args y len W (fun A a => a = as' ∧ A.U.heap = h ∧ V A.U.vm ∧ A.cells + rm.cells ≤ R.cells ∧ A.slots + rm.slots ≤ R.slots)
      (fun A _ v B => ∃ L, Q v B.U.heap B.U.vm L ∧ B.locs = A.locs ++ L ∧ B.cells = A.cells + rm.cells ∧ B.slots = A.slots + rm.slots) :=
  BackS.of_freeW (bytes := bytes) (maxL := maxL) (ret := ret) (E := fun _ _ o t L k n => k = rm.cells ∧ n = rm.slots ∧ ∃ v, o = .returned v ∧ Q v t.heap t.vm L) (hM []) hf hl
    (fun m meth c A a Y hp => have hU : Z.Warmed39 A.U.vm := wtrans hZ Y.warmed
      ⟨by show (Cond.and _ .tt).before a A.U = true; rw [Cond.before_and, mv hU wc]; rfl, mv hU wc, mv hU wz, hp.2.2.2.1, hp.2.2.2.2⟩)
    (fun m meth c A a g mk Y hp => ⟨hp.1, wtrans hZ Y.warmed, hp.2.1, hp.2.2.1⟩) (fun _ _ _ _ _ _ _ _ _ => trivial)
    (fun _ _ _ _ ⟨v, L, h1, h2, h3⟩ => ⟨L, _, _, h3, rfl, rfl, v, h1, h2⟩)
    (fun m meth c A a g mk v t L k n Y hp _ _ ⟨e1, e2, v', e3, e4⟩ => by cases e3; subst e1 e2; exact ⟨L, e4, rfl, rfl, rfl⟩)
/-- a static call of a body that may intern -/
theorem GoW.staticW (X : Stand p l e R (s.setVm vm0) m args below meth c T locs cells slots) (hS : s.Since vm0 k0) (hk : k0 ≤ h.size) (hx : p.tables.exec = Jvm.exec) (hZ : Z.Warmed39 (s.setVm vm0).vm) {own : String} {index : Nat} {y : MethodName} {bytes : ByteArray} {maxL : Nat} {ret : Option FieldType} {rm : Room} {V : Vm → Prop} {Q' : Option Value → Heap → Vm → List Loc → Prop} {argsL : List Value}
    (hown : (s.setVm vm0).vm.findClass own = some m.cls) (w1 : (Cond.methodLink own index y).before a0 Z = true) (w2 : (Cond.static y).before a0 Z = true) (w3 : (Cond.initialized y.cls).before a0 Z = true) (w4 : (Cond.code y bytes maxL ret).before a0 Z = true)
    (hy : y.cls ≠ "java/lang/invoke/MethodHandle" ∧ y.cls ≠ "java/lang/invoke/VarHandle") (W : Nat) (eT : T.heap = h) (hV : ∀ vm₁, (s.setVm vm0).WarmedH vm₁ → V vm₁) (K : ConW l Z y bytes maxL ret rm argsL.toArray h V Q') (hf : rm.frames + 1 ≤ R.frames) (hlo : W + (maxL + 11) + rm.locals ≤ R.locals) (hc : cells + rm.cells ≤ R.cells) (hs : slots + rm.slots ≤ R.slots)
    {g : JFrame} (hg : g.method = m) (hsize : g.locals.size = c.maxLocals) {rest : List Value} (hlen : ∀ sig, parseMethodDescriptor y.desc = some sig → argsL.length = sig.parameters.length) (hstack : g.stack = argsL.reverse ++ rest) (hW : 2 * g.monitorRoom + (rest.map fun v => v.category).sum ≤ W)
    (hd : decode c.code g.pc = .ok (.invokestatic index, 3))
    (k : ∀ (T' : State) (v : Option Value) (L : List Loc), Stand p l e R (s.setVm T'.vm) m args below meth c T' (locs ++ L) (cells + rm.cells) (slots + rm.slots) → s.Since T'.vm T'.heap.size → Z.Warmed39 (s.setVm T'.vm).vm → (s.setVm T'.vm).vm.findClass own = some m.cls → Q' v T'.heap T'.vm L → GoW p e below s kc ks Q (T'.setTop { g with pc := g.pc + 3, stack := v.toList ++ rest })) : GoW p e below s kc ks Q (T.setTop g) := by
  obtain ⟨v, _, ⟨T', L', k', n'⟩, -, X', hS', gr, ⟨Lc, hQ, l1, l2, l3⟩, st⟩ := callSS X hx hown (mvT hZ w1) (mvT hZ w2) (mvT hZ w3) (mvT hZ w4) hy (backOfW (W := W) K hZ w4 w3 hf hlo) hg hsize hlen hstack hW hd (fun vm₁ hW₁ => ⟨rfl, eT, hV vm₁ hW₁, hc, hs⟩)
  dsimp only [Pt.U, Pt.locs, Pt.cells, Pt.slots] at X' l1 l2 l3 st hQ hS' gr
  subst l1 l2 l3
  obtain ⟨Y, hS2, hZ2, hown2⟩ := rebS (Z := Z) (own := own) hS hk X' hS' (by rw [← eT]; exact gr) hZ hown
  exact GoW.of (fun _ q => st.trans q) (k T' v Lc Y hS2 hZ2 hown2 hQ)
/-- a constructor that may intern -/
theorem GoW.specialW (X : Stand p l e R (s.setVm vm0) m args below meth c T locs cells slots) (hS : s.Since vm0 k0) (hk : k0 ≤ h.size) (hx : p.tables.exec = Jvm.exec) (hZ : Z.Warmed39 (s.setVm vm0).vm) {own : String} {index : Nat} {y : MethodName} {bytes : ByteArray} {maxL : Nat} {rm : Room} {V : Vm → Prop} {Q' : Option Value → Heap → Vm → List Loc → Prop} {a : Addr} {argsL : List Value} (hy1 : y.name = "<init>")
    (hown : (s.setVm vm0).vm.findClass own = some m.cls) (w1 : (Cond.methodLink own index y).before a0 Z = true) (w2 : (Cond.instanceMethod y).before a0 Z = true) (w3 : (Cond.initialized y.cls).before a0 Z = true) (w4 : (Cond.code y bytes maxL none).before a0 Z = true)
    (hy : y.cls ≠ "java/lang/invoke/MethodHandle" ∧ y.cls ≠ "java/lang/invoke/VarHandle") (W : Nat) (eT : T.heap = h) (hV : ∀ vm₁, (s.setVm vm0).WarmedH vm₁ → V vm₁) (K : ConW l Z y bytes maxL none rm (Value.ref a :: argsL).toArray h V Q') (hf : rm.frames + 1 ≤ R.frames) (hlo : W + (maxL + 11) + rm.locals ≤ R.locals) (hc : cells + rm.cells ≤ R.cells) (hs : slots + rm.slots ≤ R.slots)
    {g : JFrame} (hg : g.method = m) (hsize : g.locals.size = c.maxLocals) {rest : List Value} (hlen : ∀ sig, parseMethodDescriptor y.desc = some sig → argsL.length = sig.parameters.length) (hstack : g.stack = argsL.reverse ++ .ref a :: rest) (hW : 2 * g.monitorRoom + (rest.map fun v => v.category).sum ≤ W)
    (hd : decode c.code g.pc = .ok (.invokespecial index, 3))
    (k : ∀ (T' : State) (v : Option Value) (L : List Loc), Stand p l e R (s.setVm T'.vm) m args below meth c T' (locs ++ L) (cells + rm.cells) (slots + rm.slots) → s.Since T'.vm T'.heap.size → Z.Warmed39 (s.setVm T'.vm).vm → (s.setVm T'.vm).vm.findClass own = some m.cls → Q' v T'.heap T'.vm L → GoW p e below s kc ks Q (T'.setTop { g with pc := g.pc + 3, stack := v.toList ++ rest })) : GoW p e below s kc ks Q (T.setTop g) := by
  obtain ⟨v, _, ⟨T', L', k', n'⟩, -, X', hS', gr, ⟨Lc, hQ, l1, l2, l3⟩, st⟩ := X.specialBackS hx hy1 hown (mvT hZ w1) (mvT hZ w2) (mvT hZ w4) hy (backOfW (W := W) K hZ w4 w3 hf hlo) hg hsize (Steps.refl _) hlen hstack hW hd (fun vm₁ hW₁ => ⟨rfl, eT, hV vm₁ hW₁, hc, hs⟩)
  dsimp only [Pt.U, Pt.locs, Pt.cells, Pt.slots] at X' l1 l2 l3 st hQ hS' gr
  subst l1 l2 l3
  obtain ⟨Y, hS2, hZ2, hown2⟩ := rebS (Z := Z) (own := own) hS hk X' hS' (by rw [← eT]; exact gr) hZ hown
  exact GoW.of (fun _ q => st.trans q) (k T' v Lc Y hS2 hZ2 hown2 hQ)
/-- calls of bodies that don't intern, towards any goal that steps carry -/
theorem callStatic (hG : ∀ {a b : State}, (∀ t, Steps p.tables e below b t → Steps p.tables e below a t) → G b → G a) (X : Stand p l e R s m args below meth c T locs cells slots) (hx : p.tables.exec = Jvm.exec) (hZ : Z.Warmed39 s.vm) {own : String} {index : Nat} {y : MethodName} {bytes : ByteArray} {maxL : Nat} {ret : Option FieldType} {rm : Room} {Q' : Option Value → Heap → List Loc → Prop} {argsL : List Value}
    (hown : s.vm.findClass own = some m.cls) (w1 : (Cond.methodLink own index y).before a0 Z = true) (w2 : (Cond.static y).before a0 Z = true) (w3 : (Cond.initialized y.cls).before a0 Z = true) (w4 : (Cond.code y bytes maxL ret).before a0 Z = true)
    (hy : y.cls ≠ "java/lang/invoke/MethodHandle" ∧ y.cls ≠ "java/lang/invoke/VarHandle") (W : Nat) (eT : T.heap = h) (K : Con l Z y bytes maxL ret rm argsL.toArray h Q') (hf : rm.frames + 1 ≤ R.frames) (hlo : W + (maxL + 11) + rm.locals ≤ R.locals) (hc : cells + rm.cells ≤ R.cells) (hs : slots + rm.slots ≤ R.slots)
    {g : JFrame} (hg : g.method = m) (hsize : g.locals.size = c.maxLocals) {rest : List Value} (hlen : ∀ sig, parseMethodDescriptor y.desc = some sig → argsL.length = sig.parameters.length) (hstack : g.stack = argsL.reverse ++ rest) (hW : 2 * g.monitorRoom + (rest.map fun v => v.category).sum ≤ W)
    (hd : decode c.code g.pc = .ok (.invokestatic index, 3))
    (k : ∀ (T' : State) (v : Option Value) (L : List Loc), Stand p l e R s m args below meth c T' (locs ++ L) (cells + rm.cells) (slots + rm.slots) → Q' v T'.heap L → G (T'.setTop { g with pc := g.pc + 3, stack := v.toList ++ rest })) : G (T.setTop g) := by
  obtain ⟨v, _, ⟨T', L', k', n'⟩, -, X', ⟨Lc, hQ, l1, l2, l3⟩, st⟩ := Jvm.LawKit.callS X hx hown (mvT hZ w1) (mvT hZ w2) (mvT hZ w3) (mvT hZ w4) hy (backOf (W := W) (K []) hZ w4 w3 hf hlo) hg hsize hlen hstack hW hd (fun _ _ => ⟨rfl, eT, hc, hs⟩)
  dsimp only [Pt.U, Pt.locs, Pt.cells, Pt.slots] at X' l1 l2 l3 st hQ
  subst l1 l2 l3
  exact hG st (k T' v Lc X' hQ)
theorem callSpecial (hG : ∀ {a b : State}, (∀ t, Steps p.tables e below b t → Steps p.tables e below a t) → G b → G a) (X : Stand p l e R s m args below meth c T locs cells slots) (hx : p.tables.exec = Jvm.exec) (hZ : Z.Warmed39 s.vm) {own : String} {index : Nat} {y : MethodName} {bytes : ByteArray} {maxL : Nat} {rm : Room} {Q' : Option Value → Heap → List Loc → Prop} {a : Addr} {argsL : List Value} (hy1 : y.name = "<init>")
    (hown : s.vm.findClass own = some m.cls) (w1 : (Cond.methodLink own index y).before a0 Z = true) (w2 : (Cond.instanceMethod y).before a0 Z = true) (w3 : (Cond.initialized y.cls).before a0 Z = true) (w4 : (Cond.code y bytes maxL none).before a0 Z = true)
    (hy : y.cls ≠ "java/lang/invoke/MethodHandle" ∧ y.cls ≠ "java/lang/invoke/VarHandle") (W : Nat) (eT : T.heap = h) (K : Con l Z y bytes maxL none rm (Value.ref a :: argsL).toArray h Q') (hf : rm.frames + 1 ≤ R.frames) (hlo : W + (maxL + 11) + rm.locals ≤ R.locals) (hc : cells + rm.cells ≤ R.cells) (hs : slots + rm.slots ≤ R.slots)
    {g : JFrame} (hg : g.method = m) (hsize : g.locals.size = c.maxLocals) {rest : List Value} (hlen : ∀ sig, parseMethodDescriptor y.desc = some sig → argsL.length = sig.parameters.length) (hstack : g.stack = argsL.reverse ++ .ref a :: rest) (hW : 2 * g.monitorRoom + (rest.map fun v => v.category).sum ≤ W)
    (hd : decode c.code g.pc = .ok (.invokespecial index, 3))
    (k : ∀ (T' : State) (v : Option Value) (L : List Loc), Stand p l e R s m args below meth c T' (locs ++ L) (cells + rm.cells) (slots + rm.slots) → Q' v T'.heap L → G (T'.setTop { g with pc := g.pc + 3, stack := v.toList ++ rest })) : G (T.setTop g) := by
  obtain ⟨v, _, ⟨T', L', k', n'⟩, -, X', ⟨Lc, hQ, l1, l2, l3⟩, st⟩ := X.specialBack hx hy1 hown (mvT hZ w1) (mvT hZ w2) (mvT hZ w4) hy (backOf (W := W) (K []) hZ w4 w3 hf hlo) hg hsize (Steps.refl _) hlen hstack hW hd (fun _ _ => ⟨rfl, eT, hc, hs⟩)
  dsimp only [Pt.U, Pt.locs, Pt.cells, Pt.slots] at X' l1 l2 l3 st hQ
  subst l1 l2 l3
  exact hG (fun _ q => st.trans q) (k T' v Lc X' hQ)
theorem callVirtual (hG : ∀ {a b : State}, (∀ t, Steps p.tables e below b t → Steps p.tables e below a t) → G b → G a) (X : Stand p l e R s m args below meth c T locs cells slots) (hx : p.tables.exec = Jvm.exec) (hZ : Z.Warmed39 s.vm) {own C : String} {index : Nat} {y z : MethodName} {bytes : ByteArray} {maxL : Nat} {ret : Option FieldType} {rm : Room} {Q' : Option Value → Heap → List Loc → Prop} {a : Addr} {argsL : List Value}
    (hown : s.vm.findClass own = some m.cls) (w1 : (Cond.methodLink own index y).before a0 Z = true) (w2 : (Cond.declares y).before a0 Z = true) (hnf : NotFace s y) (w5 : (Cond.selects C y z).before a0 Z = true) (w6 : (Cond.instanceMethod z).before a0 Z = true) (w3 : (Cond.initialized z.cls).before a0 Z = true) (w4 : (Cond.code z bytes maxL ret).before a0 Z = true)
    (hy : y.cls ≠ "java/lang/invoke/MethodHandle" ∧ y.cls ≠ "java/lang/invoke/VarHandle") (W : Nat) (eT : T.heap = h) (E : Exa Z h a C) (K : Con l Z z bytes maxL ret rm (Value.ref a :: argsL).toArray h Q') (hf : rm.frames + 1 ≤ R.frames) (hlo : W + (maxL + 11) + rm.locals ≤ R.locals) (hc : cells + rm.cells ≤ R.cells) (hs : slots + rm.slots ≤ R.slots)
    {g : JFrame} (hg : g.method = m) (hsize : g.locals.size = c.maxLocals) {rest : List Value} (hlen : ∀ sig, parseMethodDescriptor y.desc = some sig → argsL.length = sig.parameters.length) (hstack : g.stack = argsL.reverse ++ .ref a :: rest) (hW : 2 * g.monitorRoom + (rest.map fun v => v.category).sum ≤ W)
    (hd : decode c.code g.pc = .ok (.invokevirtual index, 3))
    (k : ∀ (T' : State) (v : Option Value) (L : List Loc), Stand p l e R s m args below meth c T' (locs ++ L) (cells + rm.cells) (slots + rm.slots) → Q' v T'.heap L → G (T'.setTop { g with pc := g.pc + 3, stack := v.toList ++ rest })) : G (T.setTop g) := by
  obtain ⟨cq, kq, qa, -, qc⟩ := isOf hZ eT E
  obtain ⟨v, _, ⟨T', L', k', n'⟩, -, X', ⟨Lc, hQ, l1, l2, l3⟩, st⟩ := X.virtualBack hx hown (mvT hZ w1) (mvT hZ w2) hnf (mvT hZ w5) (mvT hZ w6) hy (backOf (W := W) (K []) hZ w4 w3 hf hlo) qa qc hg hsize (Steps.refl _) hlen hstack hW hd (fun _ _ => ⟨rfl, eT, hc, hs⟩)
  dsimp only [Pt.U, Pt.locs, Pt.cells, Pt.slots] at X' l1 l2 l3 st hQ
  subst l1 l2 l3
  exact hG (fun _ q => st.trans q) (k T' v Lc X' hQ)
end Wide
end Jvm.OwnKit
namespace Jvm.OwnKit
open Sem ClassFile Op Lib Jvm.Stand Jvm.Free Jvm.LawKit Jvm.RoadKit
section Arrays
variable {p : Program} {l : Launch} {e : Env} {R : Room} {s : State} {m : MethodId} {args : Array Value} {below : List Frame} {meth : Method} {c : Code} {T : State} {locs : List Loc} {cells slots : Nat} {Z : State} {a0 : Array Value} {h h' : Heap} {a b : Addr} {k : ClassId} {ty : FieldType} {n i : Nat} {f : Nat → Value} {sl : Nat} {v w : Value} {ws : List Addr} {j : Int32}
/-- the array at a: its class, its kind, its length, what it holds -/
def AF (Z : State) (h : Heap) (a : Addr) (k : ClassId) (ty : FieldType) (n : Nat) (f : Nat → Value) : Prop :=
  ∃ c : Cell, Arr Z h a c ty ∧ c.cls = k ∧ c.slots.size = n ∧ n < 2 ^ 31 ∧ ∀ i, i < n → c.slots[i]? = some (f i)
def updV (f : Nat → Value) (i : Nat) (v : Value) : Nat → Value := fun k => if k = i then v else f k
def upI (f : Nat → Int32) (i : Nat) (v : Int32) : Nat → Int32 := fun k => if k = i then v else f k
/-- the index j is the place i of an array of n -/
def Ix (j : Int32) (i n : Nat) : Prop := j.toNatClampNeg = i ∧ ¬ j < 0 ∧ i < n
theorem Ix.not_out {c : Cell} (q : Ix j i n) (S : c.slots.size = n) : ¬ (j < 0 ∨ c.slots.size ≤ j.toNatClampNeg) := by
  obtain ⟨q1, q2, q3⟩ := q
  rintro (r | r)
  · exact q2 r
  · rw [q1, S] at r; exact absurd q3 (Nat.not_lt.mpr r)
theorem AF.new {z : Int32} {d : Value} (A : Arr Z h a (newA k ty z) ty) (q : ¬ z < 0) (e : z.toNatClampNeg = n) (hd : defaultValue ty = d) : AF Z h a k ty n (fun _ => d) :=
  ⟨_, A, rfl, by rw [sz_new, e], by rw [← e]; exact (back32 q).2, fun i hi => by simp [newA, e, hi, hd]⟩
theorem AF.lt (F : AF Z h a k ty n f) : a < h.size := by obtain ⟨c, A, -⟩ := F; exact A.lt
theorem AF.ext (F : AF Z h a k ty n f) (E : Ext h h') : AF Z h' a k ty n f := by obtain ⟨c, A, r⟩ := F; exact ⟨c, A.ext E, r⟩
theorem AF.other (F : AF Z h b k ty n f) (W : Wr h h' a sl v) (q : b ≠ a) : AF Z h' b k ty n f := by obtain ⟨c, A, r⟩ := F; exact ⟨c, A.other W q, r⟩
theorem AF.keep (F : AF Z h a k ty n f) (K : Keep h h' ws) (q : a ∉ ws) : AF Z h' a k ty n f := by obtain ⟨c, A, r⟩ := F; exact ⟨c, ⟨K.2.1 a c A.1 q, A.2⟩, r⟩
theorem AF.cast {g : Nat → Value} (F : AF Z h a k ty n f) (q : ∀ i, i < n → f i = g i) : AF Z h a k ty n g := by obtain ⟨c, A, r1, r2, r3, H⟩ := F; exact ⟨c, A, r1, r2, r3, fun i hi => by rw [H i hi, q i hi]⟩
theorem AF.set (F : AF Z h a k ty n f) (W : Wr h h' a j.toNatClampNeg v) (q : Ix j i n) : AF Z h' a k ty n (updV f i v) := by
  obtain ⟨c, A, r1, r2, r3, H⟩ := F
  refine ⟨_, Arr.same W A, r1, by rw [sz_set]; exact r2, r3, fun x hx => ?_⟩
  rw [q.1]
  by_cases e : x = i
  · subst e
    simp [Cell.setSlot, updV, r2, hx]
  · have : (c.setSlot i v).slots[x]? = c.slots[x]? := Array.getElem?_setIfInBounds_ne (Ne.symm e)
    rw [this, H x hx]; simp [updV, e]
theorem AF.toI {g : Nat → Int32} {x : Int32} (F : AF Z h a k ty n (updV (fun i => .int (g i)) i (.int x))) : AF Z h a k ty n (fun j => .int ((upI g i x) j)) := F.cast fun j _ => by simp only [updV, upI]; split <;> rfl
theorem AF.length (F : AF Z h a k ty n f) (X : Stand p l e R s m args below meth c T locs cells slots) (hx : p.tables.exec = Jvm.exec) (hZ : Z.Warmed39 s.vm) (eT : T.heap = h) {z : Int32} (hz : n.toInt32 = z) {g : JFrame} (hg : g.method = m) {rest : List Value} (hs : g.stack = .ref a :: rest) (hd : decode c.code g.pc = .ok (.arraylength, 1)) {target : State}
    (q : Steps p.tables e below (T.setTop { g with pc := g.pc + 1, stack := .int z :: rest }) target) : Steps p.tables e below (T.setTop g) target := by
  obtain ⟨cl, A, r1, r2, r3, H⟩ := F
  refine X.arraylength hx (by rw [eT]; exact A.1) (State.isArrayOf_alike hZ.alike A.2.1) hg hs hd _ ?_
  rw [r2, hz]
  exact q
theorem AF.iaload (F : AF Z h a k .int n f) (X : Stand p l e R s m args below meth c T locs cells slots) (hx : p.tables.exec = Jvm.exec) (hZ : Z.Warmed39 s.vm) (eT : T.heap = h) (hi : Ix j i n) (hv : f i = v) {g : JFrame} (hg : g.method = m) {rest : List Value} (hs : g.stack = .int j :: .ref a :: rest) (hd : decode c.code g.pc = .ok (.iaload, 1)) {target : State}
    (q : Steps p.tables e below (T.setTop { g with pc := g.pc + 1, stack := v :: rest }) target) : Steps p.tables e below (T.setTop g) target := by
  obtain ⟨cl, A, r1, r2, r3, H⟩ := F
  exact X.iaload hx (by rw [eT]; exact A.1) (State.isArrayOf_alike hZ.alike A.2.1) A.2.2 (hi.not_out r2) (by rw [hi.1, H i hi.2.2, hv]) hg hs hd _ q
theorem AF.caload (F : AF Z h a k .char n f) (X : Stand p l e R s m args below meth c T locs cells slots) (hx : p.tables.exec = Jvm.exec) (hZ : Z.Warmed39 s.vm) (eT : T.heap = h) (hi : Ix j i n) (hv : f i = v) {g : JFrame} (hg : g.method = m) {rest : List Value} (hs : g.stack = .int j :: .ref a :: rest) (hd : decode c.code g.pc = .ok (.caload, 1)) {target : State}
    (q : Steps p.tables e below (T.setTop { g with pc := g.pc + 1, stack := v :: rest }) target) : Steps p.tables e below (T.setTop g) target := by
  obtain ⟨cl, A, r1, r2, r3, H⟩ := F
  exact X.caload hx (by rw [eT]; exact A.1) (State.isArrayOf_alike hZ.alike A.2.1) A.2.2 (hi.not_out r2) (by rw [hi.1, H i hi.2.2, hv]) hg hs hd _ q
theorem AF.baload (F : AF Z h a k .byte n f) (X : Stand p l e R s m args below meth c T locs cells slots) (hx : p.tables.exec = Jvm.exec) (hZ : Z.Warmed39 s.vm) (eT : T.heap = h) (hi : Ix j i n) (hv : f i = v) {g : JFrame} (hg : g.method = m) {rest : List Value} (hs : g.stack = .int j :: .ref a :: rest) (hd : decode c.code g.pc = .ok (.baload, 1)) {target : State}
    (q : Steps p.tables e below (T.setTop { g with pc := g.pc + 1, stack := v :: rest }) target) : Steps p.tables e below (T.setTop g) target := by
  obtain ⟨cl, A, r1, r2, r3, H⟩ := F
  exact X.baloadBytes hx (by rw [eT]; exact A.1) (State.isArrayOf_alike hZ.alike A.2.1) A.2.2 (hi.not_out r2) (by rw [hi.1, H i hi.2.2, hv]) hg hs hd _ q
theorem AF.aaload (F : AF Z h a k ty n f) (hty : ty.isReference = true) (X : Stand p l e R s m args below meth c T locs cells slots) (hx : p.tables.exec = Jvm.exec) (hZ : Z.Warmed39 s.vm) (eT : T.heap = h) (hi : Ix j i n) (hv : f i = v) {g : JFrame} (hg : g.method = m) {rest : List Value} (hs : g.stack = .int j :: .ref a :: rest) (hd : decode c.code g.pc = .ok (.aaload, 1)) {target : State}
    (q : Steps p.tables e below (T.setTop { g with pc := g.pc + 1, stack := v :: rest }) target) : Steps p.tables e below (T.setTop g) target := by
  obtain ⟨cl, A, r1, r2, r3, H⟩ := F
  exact X.aaload hx (by rw [eT]; exact A.1) (State.isArrayOf_alike hZ.alike A.2.1) hty A.2.2 (hi.not_out r2) (by rw [hi.1, H i hi.2.2, hv]) hg hs hd _ q
theorem AF.iastore (F : AF Z h a k .int n f) (X : Stand p l e R s m args below meth c T locs cells slots) (hx : p.tables.exec = Jvm.exec) (hZ : Z.Warmed39 s.vm) (eT : T.heap = h) (hi : Ix j i n) {x : Int32} {g : JFrame} (hg : g.method = m) {rest : List Value} (hs : g.stack = .int x :: .int j :: .ref a :: rest) (hd : decode c.code g.pc = .ok (.iastore, 1)) :
    ∃ T' h', Stand p l e R s m args below meth c T' (locs ++ [⟨a, j.toNatClampNeg⟩]) cells slots ∧ T'.heap = h' ∧ Wr h h' a j.toNatClampNeg (.int x) ∧ AF Z h' a k .int n (updV f i (.int x)) ∧ ∀ target, Steps p.tables e below (T'.setTop { g with pc := g.pc + 1, stack := rest }) target → Steps p.tables e below (T.setTop g) target := by
  have F0 := F
  obtain ⟨cl, A, r1, r2, r3, H⟩ := F
  obtain ⟨T', h', X', e', W', st'⟩ := stI X hx hZ eT A (hi.not_out r2) hg hs hd
  exact ⟨T', h', X', e', W', F0.set W' hi, st'⟩
theorem AF.castore (F : AF Z h a k .char n f) (X : Stand p l e R s m args below meth c T locs cells slots) (hx : p.tables.exec = Jvm.exec) (hZ : Z.Warmed39 s.vm) (eT : T.heap = h) (hi : Ix j i n) {x : Int32} {g : JFrame} (hg : g.method = m) {rest : List Value} (hs : g.stack = .int x :: .int j :: .ref a :: rest) (hd : decode c.code g.pc = .ok (.castore, 1)) :
    ∃ T' h', Stand p l e R s m args below meth c T' (locs ++ [⟨a, j.toNatClampNeg⟩]) cells slots ∧ T'.heap = h' ∧ Wr h h' a j.toNatClampNeg (.int (nar .char x)) ∧ AF Z h' a k .char n (updV f i (.int (nar .char x))) ∧ ∀ target, Steps p.tables e below (T'.setTop { g with pc := g.pc + 1, stack := rest }) target → Steps p.tables e below (T.setTop g) target := by
  have F0 := F
  obtain ⟨cl, A, r1, r2, r3, H⟩ := F
  obtain ⟨T', h', X', e', W', st'⟩ := stC X hx hZ eT A (hi.not_out r2) hg hs hd
  exact ⟨T', h', X', e', W', F0.set W' hi, st'⟩
theorem AF.bastore (F : AF Z h a k .byte n f) (X : Stand p l e R s m args below meth c T locs cells slots) (hx : p.tables.exec = Jvm.exec) (hZ : Z.Warmed39 s.vm) (eT : T.heap = h) (hi : Ix j i n) {x : Int32} {g : JFrame} (hg : g.method = m) {rest : List Value} (hs : g.stack = .int x :: .int j :: .ref a :: rest) (hd : decode c.code g.pc = .ok (.bastore, 1)) :
    ∃ T' h', Stand p l e R s m args below meth c T' (locs ++ [⟨a, j.toNatClampNeg⟩]) cells slots ∧ T'.heap = h' ∧ Wr h h' a j.toNatClampNeg (.int x.toInt8.toInt32) ∧ AF Z h' a k .byte n (updV f i (.int x.toInt8.toInt32)) ∧ ∀ target, Steps p.tables e below (T'.setTop { g with pc := g.pc + 1, stack := rest }) target → Steps p.tables e below (T.setTop g) target := by
  have F0 := F
  obtain ⟨cl, A, r1, r2, r3, H⟩ := F
  obtain ⟨T', h', X', e', W', st'⟩ := stB X hx hZ eT A (hi.not_out r2) hg hs hd
  exact ⟨T', h', X', e', W', F0.set W' hi, st'⟩
theorem AF.aastore (F : AF Z h a k ty n f) (hty : ty.isReference = true) (X : Stand p l e R s m args below meth c T locs cells slots) (hx : p.tables.exec = Jvm.exec) (hZ : Z.Warmed39 s.vm) (eT : T.heap = h) (hi : Ix j i n) (hsto : Sto Z h a v) {g : JFrame} (hg : g.method = m) {rest : List Value} (hs : g.stack = v :: .int j :: .ref a :: rest) (hd : decode c.code g.pc = .ok (.aastore, 1)) :
    ∃ T' h', Stand p l e R s m args below meth c T' (locs ++ [⟨a, j.toNatClampNeg⟩]) cells slots ∧ T'.heap = h' ∧ Wr h h' a j.toNatClampNeg v ∧ AF Z h' a k ty n (updV f i v) ∧ ∀ target, Steps p.tables e below (T'.setTop { g with pc := g.pc + 1, stack := rest }) target → Steps p.tables e below (T.setTop g) target := by
  have F0 := F
  obtain ⟨cl, A, r1, r2, r3, H⟩ := F
  obtain ⟨T', h', X', e', W', st'⟩ := stR X hx hZ eT A (hi.not_out r2) hty hsto hg hs hd
  exact ⟨T', h', X', e', W', F0.set W' hi, st'⟩
theorem AF.ofArv {z : Int32} {vs : List Value} {d : Value} (F : Arv Z h a k ty z vs d) (hz : z.toNatClampNeg = n) (q : ∀ i, i < n → vs.getD i d = f i) : AF Z h a k ty n f := by
  obtain ⟨cl, A, r1, r2, r3, H, -⟩ := F
  refine ⟨cl, A, r1, by rw [r2, hz], by rw [← hz]; exact (back32 r3).2, fun i hi => ?_⟩
  rw [H i (by rw [r2, hz]; exact hi), q i hi]
theorem AF.sto {C : String} {y : Addr} (F : AF Z h a k ty n f) (O : Ovr Z k C) (I : Ins Z h y C true) : Sto Z h a (.ref y) := by
  obtain ⟨cl, A, r1, -⟩ := F
  exact Sto.ofV A r1 O I
end Arrays
end Jvm.OwnKit
namespace Jvm.Pilot.@@N@@
open Jvm Jvm.ClassFile Sem Op Lib Jvm.Free Jvm.Stand Jvm.LawKit Jvm.RoadKit Jvm.OwnKit Bundle Jvm.Pilot.@@N@@.Jvm.D
theorem eqi_no {args : Array Value} {first s : State} {o : Option Outcome} {idx : List Nat} {t : Term} {n x : Int32} (h : (Jvm.Cond.not (Jvm.Cond.eq t (.int n))).value args first o s idx = some true) (e : t.eval args first o idx s = some (.int x)) : ¬ x = n := by
  have q := not_v h
  intro r
  subst r
  simp [Cond.value, e, Term.eval] at q
def own_by (c : Int32) : Int32 := c.toInt8.toInt32
theorem own_by2 (c : Int32) : c.toInt8.toInt32.toInt8.toInt32 = own_by c := by
  unfold own_by
  have : c.toInt8.toInt32.toInt8 = c.toInt8 := Int8.toInt8_toInt32 _
  rw [this]
theorem own_chr (y : Int32) : ¬ (255 : Int32) < (y &&& (255 : Int32)).toUInt32.toUInt16.toUInt32.toInt32 := by
  rw [i2c_mask, Int32.lt_iff_toInt_lt]
  have := (c_and y 255 (by decide)).2
  have e : (255 : Int32).toInt = 255 := by decide
  omega
theorem own_chr2 (y : Int32) : ¬ (255 : Int32) < (y &&& (255 : Int32)).toUInt32.toUInt16.toUInt32.toInt32.toUInt32.toUInt16.toUInt32.toInt32 := by
  rw [i2c_mask]; exact own_chr y
theorem own_i2c2 (y : Int32) : (y &&& (255 : Int32)).toUInt32.toUInt16.toUInt32.toInt32.toUInt32.toUInt16.toUInt32.toInt32 = (y &&& (255 : Int32)) := by
  rw [i2c_mask, i2c_mask]
theorem own_cc2 (y : Int32) : y.toUInt32.toUInt16.toUInt32.toInt32.toUInt32.toUInt16.toUInt32.toInt32 = y.toUInt32.toUInt16.toUInt32.toInt32 := by
  apply Int32.toBitVec_inj.mp
  apply BitVec.eq_of_toNat_eq
  show ((((y.toBitVec.setWidth 16).setWidth 32).setWidth 16).setWidth 32).toNat = ((y.toBitVec.setWidth 16).setWidth 32).toNat
  simp only [BitVec.toNat_setWidth]
  omega
def own_cc (y : Int32) : Int32 := y.toUInt32.toUInt16.toUInt32.toInt32
theorem own_ncc (y : Int32) : nar .char (own_cc y) = own_cc y := own_cc2 y
def own_ch (b : Int32) : Int32 := (b &&& (255 : Int32)).toUInt32.toUInt16.toUInt32.toInt32
theorem own_nc (b : Int32) : nar .char (own_ch b) = own_ch b := own_cc2 _
theorem own_bych (c : Int32) : (own_by c) &&& 255 = c &&& 255 := by
  unfold own_by
  apply Int32.toBitVec_inj.mp
  rw [Int32.toBitVec_and, Int32.toBitVec_and]
  apply BitVec.eq_of_getLsbD_eq
  intro i hi
  rw [BitVec.getLsbD_and, BitVec.getLsbD_and]
  by_cases h : i < 8
  · congr 1
    show ((c.toBitVec.signExtend 8).signExtend 32).getLsbD i = _
    rw [BitVec.getLsbD_signExtend, BitVec.getLsbD_signExtend]
    simp [h, hi]
  · have e : (255 : Int32).toBitVec.getLsbD i = false := by
      show (255#32).getLsbD i = false
      simp only [BitVec.getLsbD, BitVec.toNat_ofNat]
      exact Nat.testBit_lt_two_pow (Nat.lt_of_lt_of_le (by decide) (Nat.pow_le_pow_right (by decide : 1 ≤ 2) (Nat.le_of_not_lt h)))
    rw [e, Bool.and_false, Bool.and_false]
def own_lo (c : Int32) : Int32 := (c >>> ((0 : Int32) &&& 31)).toInt8.toInt32.toInt8.toInt32
def own_hi (c : Int32) : Int32 := (c >>> ((8 : Int32) &&& 31)).toInt8.toInt32.toInt8.toInt32
def own_gc (a b : Int32) : Int32 := (((a &&& (255 : Int32)) <<< ((0 : Int32) &&& 31)) ||| ((b &&& (255 : Int32)) <<< ((8 : Int32) &&& 31))).toUInt32.toUInt16.toUInt32.toInt32
theorem own_ngc (a b : Int32) : nar .char (own_gc a b) = own_gc a b := own_cc2 _
theorem own_small {x : Int32} (h : own_cc x = x) : x.toBitVec.toNat < 65536 := by
  have q := congrArg (fun z : Int32 => z.toBitVec.toNat) h
  have r : (own_cc x).toBitVec.toNat = x.toBitVec.toNat % 65536 := by
    show ((x.toBitVec.setWidth 16).setWidth 32).toNat = _
    simp only [BitVec.toNat_setWidth]
    omega
  have q2 : (own_cc x).toBitVec.toNat = x.toBitVec.toNat := q
  omega
theorem own_bits (v : BitVec 32) (h : v.toNat < 65536) : ((v &&& 255#32) <<< 0 ||| ((v.sshiftRight 8) &&& 255#32) <<< 8) = v := by
  have hm : v.msb = false := by rw [BitVec.msb_eq_decide]; simp; omega
  rw [BitVec.sshiftRight_eq_of_msb_false hm]
  apply BitVec.eq_of_toNat_eq
  simp only [BitVec.toNat_or, BitVec.toNat_shiftLeft, BitVec.toNat_and, BitVec.toNat_ushiftRight, BitVec.toNat_ofNat]
  have e : ∀ n : Nat, n &&& 255 = n % 256 := fun n => Nat.and_two_pow_sub_one_eq_mod n 8
  rw [show (255 % 2 ^ 32 : Nat) = 255 from rfl, e, e, Nat.shiftLeft_eq, Nat.shiftLeft_eq, Nat.shiftRight_eq_div_pow]
  have k := Nat.two_pow_add_eq_or_of_lt (i := 8) (b := v.toNat % 256) (by omega) (v.toNat / 256)
  rw [Nat.or_comm, show (v.toNat / 2 ^ 8 % 256 * 2 ^ 8 % 2 ^ 32 : Nat) = 2 ^ 8 * (v.toNat / 256) by omega, show (v.toNat % 256 * 2 ^ 0 % 2 ^ 32 : Nat) = v.toNat % 256 by omega, ← k]
  omega
theorem own_rdU {x : Int32} (h : own_cc x = x) : own_gc (own_lo x) (own_hi x) = x := by
  have hs := own_small h
  have l : own_lo x &&& 255 = x &&& 255 := by
    unfold own_lo
    rw [own_by2, own_bych]
    congr 1
    apply Int32.toBitVec_inj.mp
    show x.toBitVec.sshiftRight 0 = x.toBitVec
    simp
  have k : own_hi x &&& 255 = (x >>> ((8 : Int32) &&& 31)) &&& 255 := by
    unfold own_hi
    rw [own_by2, own_bych]
  have e : (((x &&& (255 : Int32)) <<< ((0 : Int32) &&& 31)) ||| (((x >>> ((8 : Int32) &&& 31)) &&& (255 : Int32)) <<< ((8 : Int32) &&& 31))) = x := by
    apply Int32.toBitVec_inj.mp
    exact own_bits x.toBitVec hs
  unfold own_gc
  rw [l, k, e]
  exact h
theorem own_rdL {x : Int32} (h : own_cc x = x) (n : ¬ (255 : Int32) < x) : own_ch (own_by x) = x := by
  have hs := own_small h
  have t : x.toInt = x.toBitVec.toNat := by
    show x.toBitVec.toInt = _
    rw [BitVec.toInt_eq_toNat_cond, if_pos (by omega)]
  rw [Int32.lt_iff_toInt_lt, t] at n
  have n' : ¬ (255 : Int) < (x.toBitVec.toNat : Int) := n
  have e : x &&& 255 = x := by
    apply Int32.toBitVec_inj.mp
    apply BitVec.eq_of_toNat_eq
    rw [Int32.toBitVec_and, BitVec.toNat_and]
    show x.toBitVec.toNat &&& 255 = _
    rw [Nat.and_two_pow_sub_one_eq_mod _ 8]
    omega
  unfold own_ch
  rw [own_bych, i2c_mask, e]
theorem own_gt {x : Int32} (h : own_cc x = x) (n : (255 : Int32) < x) : (255 : Int32) < own_gc (own_lo x) (own_hi x) := by rw [own_rdU h]; exact n
def own_c4 (x1 x2 x3 x4 : Int32) (i : Nat) : Int32 := if i = 0 then x1 else if i = 1 then x2 else if i = 2 then x3 else x4
def own_u (g : Nat → Int32) (i : Nat) : Int32 := if i % 2 = 0 then own_lo (g (i / 2)) else own_hi (g (i / 2))
theorem own_c4cc {a b c d : Int32} (h1 : own_cc a = a) (h2 : own_cc b = b) (h3 : own_cc c = c) (h4 : own_cc d = d) : ∀ i, i < 4 → own_cc (own_c4 a b c d i) = own_c4 a b c d i := by
  intro i hi
  rcases (show i = 0 ∨ i = 1 ∨ i = 2 ∨ i = 3 by omega) with rfl | rfl | rfl | rfl
  · exact h1
  · exact h2
  · exact h3
  · exact h4
theorem own_allL {n : Nat} {g gb : Nat → Int32} (h : ∀ i, i < n → ¬ (255 : Int32) < g i) (e : ∀ i, i < n → gb i = g i) : ∀ i, i < n → ¬ (255 : Int32) < gb i := fun i hi => by rw [e i hi]; exact h i hi
theorem own_exU {n : Nat} {g gb : Nat → Int32} (h : ∃ i, i < n ∧ (255 : Int32) < g i) (e : ∀ i, i < n → gb i = g i) : ∃ i, i < n ∧ (255 : Int32) < gb i := by
  obtain ⟨i, hi, q⟩ := h
  exact ⟨i, hi, by rw [e i hi]; exact q⟩
theorem own_ccg {n : Nat} {g gb : Nat → Int32} (hn : n ≤ 4) (h : ∀ i, i < 4 → own_cc (g i) = g i) (e : ∀ i, i < n → gb i = g i) : ∀ i, i < n → own_cc (gb i) = gb i := fun i hi => by rw [e i hi]; exact h i (Nat.lt_of_lt_of_le hi hn)
theorem own_hgL {n : Nat} {g gb : Nat → Int32} (hn : n ≤ 4) (h : ∀ i, i < n → ¬ (255 : Int32) < g i) (hc : ∀ i, i < 4 → own_cc (g i) = g i) (e : ∀ i, i < n → gb i = g i) : ∀ i, i < n → own_ch (own_by (gb i)) = g i := fun i hi => by rw [e i hi]; exact own_rdL (hc i (Nat.lt_of_lt_of_le hi hn)) (h i hi)
theorem own_hgU {n : Nat} {g gb : Nat → Int32} (hn : n ≤ 4) (hc : ∀ i, i < 4 → own_cc (g i) = g i) (e : ∀ i, i < n → gb i = g i) : ∀ i, i < n → own_gc (own_u gb (2 * i)) (own_u gb (2 * i + 1)) = g i := by
  intro i hi
  have a : own_u gb (2 * i) = own_lo (gb i) := by
    unfold own_u
    rw [if_pos (by omega), show 2 * i / 2 = i by omega]
  have b : own_u gb (2 * i + 1) = own_hi (gb i) := by
    unfold own_u
    rw [if_neg (by omega), show (2 * i + 1) / 2 = i by omega]
  rw [a, b, e i hi]
  exact own_rdU (hc i (Nat.lt_of_lt_of_le hi hn))
theorem own_LU (n : Nat) (g : Nat → Int32) : (∀ i, i < n → ¬ (255 : Int32) < g i) ∨ ∃ i, i < n ∧ (255 : Int32) < g i := by
  by_cases h : ∃ i, i < n ∧ (255 : Int32) < g i
  · exact Or.inr h
  · exact Or.inl fun i hi q => h ⟨i, hi, q⟩
theorem own_first {g : Nat → Int32} : ∀ {n : Nat}, (∃ i, i < n ∧ (255 : Int32) < g i) → ∃ k, k < n ∧ (255 : Int32) < g k ∧ ∀ i, i < k → ¬ (255 : Int32) < g i
  | 0, h => by obtain ⟨i, hi, _⟩ := h; omega
  | n + 1, h => by
    by_cases q : ∃ i, i < n ∧ (255 : Int32) < g i
    · obtain ⟨k, hk, r⟩ := own_first q
      exact ⟨k, by omega, r⟩
    · obtain ⟨i, hi, r⟩ := h
      have e : i = n := by
        by_cases z : i < n
        · exact absurd ⟨i, z, r⟩ q
        · omega
      subst e
      exact ⟨i, by omega, r, fun j hj t => q ⟨j, hj, t⟩⟩
def own_hs (h : Int64) (c : Int32) : Int64 := (h ^^^ c.toInt64) * (1099511628211 : Int64)
def own_h (l : List Int32) : Int64 := l.foldl own_hs (-3750763034362895579 : Int64)
theorem fld_ne {Z : State} {h : Heap} {a b : Addr} {C n d : String} {v w : Value} (F : Jvm.RoadKit.Fld Z h a C n d v) (G : Jvm.RoadKit.Fld Z h b C n d w) (q : v ≠ w) : a ≠ b := by
  rintro rfl
  obtain ⟨c1, f1, k1, i1, x1, p1, p2, -, -, -, -, p3⟩ := F
  obtain ⟨c2, f2, k2, i2, x2, r1, r2, -, -, -, -, r3⟩ := G
  rw [p1] at r1; cases r1
  rw [p2] at r2; cases r2
  rw [p3] at r3; exact q (Option.some.inj r3)
theorem ref_v {args : Array Value} {first s : State} {o : Option Outcome} {idx : List Nat} {t : Term} (h : (Jvm.Cond.isRef t).value args first o s idx = some true) : ∃ v, t.eval args first o idx s = some v ∧ v.isRef = true := by
  simp only [Cond.value] at h
  cases q : t.eval args first o idx s with
  | none => simp [q] at h
  | some v => exact ⟨v, rfl, by cases v <;> simp [q, Value.isRef] at h ⊢⟩
theorem litZ {Z s : State} {vm : Vm} {o : String} {i : Nat} {a : Addr} (h : Jvm.RoadKit.Lit (s.setVm vm) o i a) : Jvm.RoadKit.Lit (Z.setVm vm) o i a := h
theorem af0_ne {Z : State} {h : Heap} {a b : Addr} {k : ClassId} {ty : FieldType} {f : Nat → Value} {C n d : String} {v : Value} (A : AF Z h b k ty 0 f) (F : Jvm.RoadKit.Fld Z h a C n d v) : b ≠ a := by
  rintro rfl
  obtain ⟨c, q1, -, q2, -⟩ := A
  obtain ⟨c1, f1, k1, i1, x1, p1, -, -, -, -, -, p3⟩ := F
  rw [q1.1] at p1; cases p1
  have := (Array.getElem?_eq_some_iff.mp p3).1
  omega
theorem eqi_v {args : Array Value} {first s : State} {o : Option Outcome} {idx : List Nat} {t : Term} {n : Int32} (h : (Jvm.Cond.eq t (.int n)).value args first o s idx = some true) : t.eval args first o idx s = some (.int n) := by
  simp only [Cond.value] at h
  cases ht : t.eval args first o idx s with
  | none => simp [ht] at h
  | some x => cases x <;> simp_all [Term.eval]
/-- the String a has the n chars g, in either coder -/
def own_St (Z : State) (h : Heap) (a : Addr) (n : Nat) (g : Nat → Int32) : Prop := ∃ (d : Addr) (kd : ClassId) (gd : Nat → Int32), Jvm.RoadKit.Fld Z h a "java/lang/String" "value" "[B" (.ref d) ∧ ((Jvm.RoadKit.Fld Z h a "java/lang/String" "coder" "B" (.int (0 : Int32)) ∧ AF Z h d kd .byte n (fun i => .int (gd i)) ∧ ∀ i, i < n → own_ch (gd i) = g i) ∨ (Jvm.RoadKit.Fld Z h a "java/lang/String" "coder" "B" (.int (1 : Int32)) ∧ AF Z h d kd .byte (2 * n) (fun i => .int (gd i)) ∧ ∀ i, i < n → own_gc (gd (2 * i)) (gd (2 * i + 1)) = g i))
theorem own_St.ext {Z : State} {h h' : Heap} {a : Addr} {n : Nat} {g : Nat → Int32} (S : own_St Z h a n g) (E : Ext h h') : own_St Z h' a n g := by
  obtain ⟨d, kd, gd, F, ⟨C, A, q⟩ | ⟨C, A, q⟩⟩ := S
  · exact ⟨d, kd, gd, F.ext E, Or.inl ⟨C.ext E, A.ext E, q⟩⟩
  · exact ⟨d, kd, gd, F.ext E, Or.inr ⟨C.ext E, A.ext E, q⟩⟩
theorem own_St.keep0 {Z : State} {h h' : Heap} {a : Addr} {n : Nat} {g : Nat → Int32} (S : own_St Z h a n g) (K : Keep h h' []) : own_St Z h' a n g := by
  obtain ⟨d, kd, gd, F, ⟨C, A, q⟩ | ⟨C, A, q⟩⟩ := S
  · exact ⟨d, kd, gd, F.keep K nin0, Or.inl ⟨C.keep K nin0, A.keep K nin0, q⟩⟩
  · exact ⟨d, kd, gd, F.keep K nin0, Or.inr ⟨C.keep K nin0, A.keep K nin0, q⟩⟩
theorem own_St.cast {Z : State} {h : Heap} {a : Addr} {n : Nat} {g g' : Nat → Int32} (S : own_St Z h a n g) (e : ∀ i, i < n → g i = g' i) : own_St Z h a n g' := by
  obtain ⟨d, kd, gd, F, ⟨C, A, q⟩ | ⟨C, A, q⟩⟩ := S
  · exact ⟨d, kd, gd, F, Or.inl ⟨C, A, fun i hi => (q i hi).trans (e i hi)⟩⟩
  · exact ⟨d, kd, gd, F, Or.inr ⟨C, A, fun i hi => (q i hi).trans (e i hi)⟩⟩
theorem own_St.mkL {Z : State} {h : Heap} {a d : Addr} {kd : ClassId} {n : Nat} {g gd : Nat → Int32} (F : Jvm.RoadKit.Fld Z h a "java/lang/String" "value" "[B" (.ref d)) (C : Jvm.RoadKit.Fld Z h a "java/lang/String" "coder" "B" (.int (0 : Int32))) (A : AF Z h d kd .byte n (fun i => .int (gd i))) (q : ∀ i, i < n → own_ch (gd i) = g i) : own_St Z h a n g := ⟨d, kd, gd, F, Or.inl ⟨C, A, q⟩⟩
theorem own_St.mkU {Z : State} {h : Heap} {a d : Addr} {kd : ClassId} {n : Nat} {g gd : Nat → Int32} (F : Jvm.RoadKit.Fld Z h a "java/lang/String" "value" "[B" (.ref d)) (C : Jvm.RoadKit.Fld Z h a "java/lang/String" "coder" "B" (.int (1 : Int32))) (A : AF Z h d kd .byte (2 * n) (fun i => .int (gd i))) (q : ∀ i, i < n → own_gc (gd (2 * i)) (gd (2 * i + 1)) = g i) : own_St Z h a n g := ⟨d, kd, gd, F, Or.inr ⟨C, A, q⟩⟩
/-- the bytes that compress makes of the n chars gb -/
def own_B (Z : State) (h : Heap) (d : Addr) (n : Nat) (gb : Nat → Int32) : Prop := ∃ kd : ClassId, (AF Z h d kd .byte n (fun i => .int ((fun i => own_by (gb i)) i)) ∧ ∀ i, i < n → ¬ (255 : Int32) < gb i) ∨ AF Z h d kd .byte (2 * n) (fun i => .int ((own_u gb) i))
theorem own_hL {n : Nat} {gb : Nat → Int32} (h : ∀ i, i < n → ¬ (255 : Int32) < gb i) (hc : ∀ i, i < n → own_cc (gb i) = gb i) : ∀ i, i < n → own_ch ((fun i => own_by (gb i)) i) = gb i := fun i hi => own_rdL (hc i hi) (h i hi)
theorem own_ue (gb : Nat → Int32) (i : Nat) : own_u gb (2 * i) = own_lo (gb i) := by
  unfold own_u
  rw [if_pos (by omega), show 2 * i / 2 = i by omega]
theorem own_uo (gb : Nat → Int32) (i : Nat) : own_u gb (2 * i + 1) = own_hi (gb i) := by
  unfold own_u
  rw [if_neg (by omega), show (2 * i + 1) / 2 = i by omega]
theorem own_hU {n : Nat} {gb : Nat → Int32} (hc : ∀ i, i < n → own_cc (gb i) = gb i) : ∀ i, i < n → own_gc ((own_u gb) (2 * i)) ((own_u gb) (2 * i + 1)) = gb i := fun i hi => by rw [own_ue, own_uo]; exact own_rdU (hc i hi)
theorem own_gt2 {gb : Nat → Int32} {k : Nat} (h : own_cc (gb k) = gb k) (q : (255 : Int32) < gb k) : (255 : Int32) < own_gc ((own_u gb) (2 * k)) ((own_u gb) (2 * k + 1)) := by rw [own_ue, own_uo]; exact own_gt h q
theorem own_p1 {x : Int32} {k n : Nat} (hx : x = Int32.ofNat k) (hk : k < n) (hn : n ≤ 8) : ¬ x < (0 : Int32) := by
  subst hx
  exact (show ∀ n, n ≤ 8 → ∀ k, k < n → ¬ Int32.ofNat k < (0 : Int32) by decide) n hn k hk
theorem own_p2 {x : Int32} {k n : Nat} (hx : x = Int32.ofNat k) (hk : k < n) (hn : n ≤ 8) : x < Int32.ofNat n := by
  subst hx
  exact (show ∀ n, n ≤ 8 → ∀ k, k < n → Int32.ofNat k < Int32.ofNat n by decide) n hn k hk
theorem own_ix {x : Int32} {k n : Nat} (hx : x = Int32.ofNat k) (hk : k < n) (hn : n ≤ 8) : Ix x k n := by
  refine ⟨?_, own_p1 hx hk hn, hk⟩
  subst hx
  exact (show ∀ n, n ≤ 8 → ∀ k, k < n → (Int32.ofNat k).toNatClampNeg = k by decide) n hn k hk
theorem own_ix2 {x : Int32} {k n : Nat} (hx : x = Int32.ofNat k) (hk : k < n / 2) (hn : n ≤ 8) : Ix (x <<< ((1 : Int32) &&& 31)) (2 * k) n := by
  subst hx
  have hk4 : k < 4 := by omega
  exact ⟨(show ∀ k, k < 4 → (Int32.ofNat k <<< ((1 : Int32) &&& 31)).toNatClampNeg = 2 * k by decide) k hk4, (show ∀ k, k < 4 → ¬ (Int32.ofNat k <<< ((1 : Int32) &&& 31)) < 0 by decide) k hk4, by omega⟩
theorem own_ix3 {x : Int32} {k n : Nat} (hx : x = Int32.ofNat k) (hk : k < n / 2) (hn : n ≤ 8) : Ix ((x <<< ((1 : Int32) &&& 31)) + (1 : Int32)) (2 * k + 1) n := by
  subst hx
  have hk4 : k < 4 := by omega
  exact ⟨(show ∀ k, k < 4 → ((Int32.ofNat k <<< ((1 : Int32) &&& 31)) + (1 : Int32)).toNatClampNeg = 2 * k + 1 by decide) k hk4, (show ∀ k, k < 4 → ¬ ((Int32.ofNat k <<< ((1 : Int32) &&& 31)) + (1 : Int32)) < 0 by decide) k hk4, by omega⟩
theorem own_half {n : Nat} (hn : n ≤ 8) : Int32.ofNat n >>> ((1 : Int32) &&& 31) = Int32.ofNat (n / 2) := (show ∀ n, n ≤ 8 → Int32.ofNat n >>> ((1 : Int32) &&& 31) = Int32.ofNat (n / 2) by decide) n hn
theorem own_sh0 {n : Nat} (hn : n ≤ 4) : Int32.ofNat n >>> ((0 : Int32) &&& 31) = Int32.ofNat n := (show ∀ n, n ≤ 4 → Int32.ofNat n >>> ((0 : Int32) &&& 31) = Int32.ofNat n by decide) n hn
theorem own_sh1 {n : Nat} (hn : n ≤ 4) : Int32.ofNat (2 * n) >>> ((1 : Int32) &&& 31) = Int32.ofNat n := (show ∀ n, n ≤ 4 → Int32.ofNat (2 * n) >>> ((1 : Int32) &&& 31) = Int32.ofNat n by decide) n hn
theorem own_48 {n : Nat} (hn : n ≤ 4) : n ≤ 8 := by omega
theorem own_28 {n : Nat} (hn : n ≤ 4) : 2 * n ≤ 8 := by omega
theorem own_h8 {n : Nat} (hn : n ≤ 8) : n / 2 ≤ 8 := by omega
theorem own_kk {k n : Nat} (hk : k < n) : k < 2 * n / 2 := by omega
theorem own_kn {k n : Nat} (hn : n ≤ 4) (hk : k ≤ n) : Int32.ofNat k = Int32.ofNat n ↔ k = n := ⟨fun e => (show ∀ n, n ≤ 4 → ∀ k, k ≤ n → Int32.ofNat k = Int32.ofNat n → k = n by decide) n hn k hk e, fun e => by rw [e]⟩
theorem own_lt {k n : Nat} (hn : n ≤ 4) (hk : k ≤ n) (h : ¬ Int32.ofNat k = Int32.ofNat n) : k < n := Nat.lt_of_le_of_ne hk fun e => h (by rw [e])
theorem own_four (x : Int32) : (x &&& (3 : Int32)) = (0 : Int32) ∨ (x &&& (3 : Int32)) = (1 : Int32) ∨ (x &&& (3 : Int32)) = (2 : Int32) ∨ (x &&& (3 : Int32)) = (3 : Int32) := by
  have h : (x &&& (3 : Int32)).toBitVec.toNat < 4 := by
    rw [Int32.toBitVec_and, BitVec.toNat_and]
    exact Nat.lt_of_le_of_lt Nat.and_le_right (by decide)
  generalize (x &&& (3 : Int32)) = y at *
  have k : y.toBitVec.toNat = 0 ∨ y.toBitVec.toNat = 1 ∨ y.toBitVec.toNat = 2 ∨ y.toBitVec.toNat = 3 := by omega
  rcases k with k | k | k | k
  · left; exact Int32.toBitVec_inj.mp (BitVec.eq_of_toNat_eq k)
  · right; left; exact Int32.toBitVec_inj.mp (BitVec.eq_of_toNat_eq k)
  · right; right; left; exact Int32.toBitVec_inj.mp (BitVec.eq_of_toNat_eq k)
  · right; right; right; exact Int32.toBitVec_inj.mp (BitVec.eq_of_toNat_eq k)
theorem d16_0 : decode jdk_41_method_11_code 0 = .ok (.iload_n 0, 1) := by decide +kernel
theorem d16_1 : decode jdk_41_method_11_code 1 = .ok (.ifCond .lt 8, 3) := by decide +kernel
theorem d16_4 : decode jdk_41_method_11_code 4 = .ok (.iload_n 0, 1) := by decide +kernel
theorem d16_5 : decode jdk_41_method_11_code 5 = .ok (.iload_n 1, 1) := by decide +kernel
theorem d16_6 : decode jdk_41_method_11_code 6 = .ok (.if_icmp .lt 10, 3) := by decide +kernel
theorem d16_16 : decode jdk_41_method_11_code 16 = .ok (.iload_n 0, 1) := by decide +kernel
theorem d16_17 : decode jdk_41_method_11_code 17 = .ok (.ireturn, 1) := by decide +kernel
theorem pn0 : plainName "jdk/internal/util/Preconditions" = true := by first | (simp [plainName, overriddenIn]; done) | decide +kernel
theorem ef_16 (m : MethodId) (x1 : Int32) (x2 : Int32) (fm : Value) (hfm : fm.isRef = true) : entryFrame m #[(.int x1), (.int x2), fm] 3 = mkF m 0 #[.val (.int x1), .val (.int x2), .val fm] [] := by rcases ref_cases hfm with rfl | ⟨_, rfl⟩ <;> (first | (simp [entryFrame, mkF, argsToLocals, Value.category]; done) | rfl)
def Q16 (Z : State) (x1 : Int32) (x2 : Int32) (fm : Value) (hfm : fm.isRef = true) (h0 : Heap) (n0 : Nat) (v : Option Value) (h : Heap) (L : List Loc) : Prop := v = some (.int x1) ∧ Fr n0 L ∧ h = h0
set_option maxRecDepth 65536 in
set_option maxHeartbeats 40000000 in
theorem rm16 (l : Launch) (Z : State) (a0 : Array Value) (hw : ∀ d ∈ tables_1, d.before a0 Z = true) (x1 : Int32) (x2 : Int32) (fm : Value) (hfm : fm.isRef = true) (h0 : Heap) (n0 : Nat) (Zs : n0 ≤ h0.size) (p1 : ¬ x1 < (0 : Int32)) (p2 : x1 < x2) :
    Con l Z (⟨"jdk/internal/util/Preconditions", "checkIndex", "(IILjava/util/function/BiFunction;)I"⟩ : MethodName) jdk_41_method_11_code 3 (some .int) ({ frames := 0, cells := 0, slots := 0, locals := 0 } : Room) #[(.int x1), (.int x2), fm] h0 (Q16 Z x1 x2 fm hfm h0 n0) := by
  refine Con.intro (plainFor_of_name pn0) (fun m => ef_16 m x1 x2 fm hfm) ?_
  intro p e s m below meth c s₁ hx hby hml0 hZ hown hnm hret hlk X0 e0
  have hml : c.maxLocals = 3 := hml0
  have N0 := Fr.nil n0
  have Kp : Keep h0 h0 [] := Keep.refl h0 _
  show Go _ _ _ _ _ _ _ (s₁.setTop (mkF m 0 #[.val (.int x1), .val (.int x2), .val fm] []))
  refine Go.of (fun _ q => XS.iloadN X0.here hx rfl (hb hby d16_0) rfl q) ?_
  refine Go.of (fun _ q => XS.ifNo X0.here hx rfl (hb hby d16_1) rfl ((if0 _ _).trans (flt p1).1) q) ?_
  refine Go.of (fun _ q => XS.iloadN X0.here hx rfl (hb hby d16_4) rfl q) ?_
  show Go _ _ _ _ _ _ _ (s₁.setTop (mkF m 5 #[.val (.int x1), .val (.int x2), .val fm] [(.int x1)]))
  refine Go.of (fun _ q => XS.iloadN X0.here hx rfl (hb hby d16_5) rfl q) ?_
  refine Go.of (fun _ q => XS.icmpYes X0.here hx rfl (pc0 := 6) (pc' := 16) rfl (hb hby d16_6) rfl (tlt p2).1 (by decide) (by decide) q) ?_
  refine Go.of (fun _ q => XS.iloadN X0.here hx rfl (hb hby d16_16) rfl q) ?_
  show Go _ _ _ _ _ _ _ (s₁.setTop (mkF m 17 #[.val (.int x1), .val (.int x2), .val fm] [(.int x1)]))
  refine Go.retI X0 hx hlk hret (hb hby d16_17) (by decide) (by decide) ?_
  rw [e0]
  exact ⟨rfl, N0, rfl⟩
theorem pd0 : parseMethodDescriptor "(IILjava/util/function/BiFunction;)I" = some ⟨[.int, .int, (.object "java/util/function/BiFunction")], some .int⟩ := by decide +kernel
theorem d15_0 : decode jdk_42_method_155_code 0 = .ok (.iload_n 0, 1) := by decide +kernel
theorem d15_1 : decode jdk_42_method_155_code 1 = .ok (.iload_n 1, 1) := by decide +kernel
theorem d15_2 : decode jdk_42_method_155_code 2 = .ok (.getstatic 1053, 3) := by decide +kernel
theorem d15_5 : decode jdk_42_method_155_code 5 = .ok (.invokestatic 1059, 3) := by decide +kernel
theorem d15_8 : decode jdk_42_method_155_code 8 = .ok (.pop, 1) := by decide +kernel
theorem d15_9 : decode jdk_42_method_155_code 9 = .ok (.return_, 1) := by decide +kernel
theorem pn1 : plainName "java/lang/String" = true := by first | (simp [plainName, overriddenIn]; done) | decide +kernel
theorem ef_15 (m : MethodId) (x1 : Int32) (x2 : Int32) : entryFrame m #[(.int x1), (.int x2)] 2 = mkF m 0 #[.val (.int x1), .val (.int x2)] [] := by first | (simp [entryFrame, mkF, argsToLocals, Value.category]; done) | rfl
def Q15 (Z : State) (x1 : Int32) (x2 : Int32) (fm : Value) (hfm : fm.isRef = true) (h0 : Heap) (n0 : Nat) (v : Option Value) (h : Heap) (L : List Loc) : Prop := v = none ∧ Fr n0 L ∧ h = h0
set_option maxRecDepth 65536 in
set_option maxHeartbeats 40000000 in
theorem rm15 (l : Launch) (Z : State) (a0 : Array Value) (hw : ∀ d ∈ tables_1, d.before a0 Z = true) (x1 : Int32) (x2 : Int32) (fm : Value) (hfm : fm.isRef = true) (h0 : Heap) (n0 : Nat) (Zs : n0 ≤ h0.size) (Od : Old Z n0 h0) (p1 : ¬ x1 < (0 : Int32)) (p2 : x1 < x2) (Sfm : Sta Z Z.heap "jdk/internal/util/Preconditions" "SIOOBE_FORMATTER" "Ljava/util/function/BiFunction;" fm) :
    Con l Z (⟨"java/lang/String", "checkIndex", "(II)V"⟩ : MethodName) jdk_42_method_155_code 2 none ({ frames := 1, cells := 0, slots := 0, locals := 14 } : Room) #[(.int x1), (.int x2)] h0 (Q15 Z x1 x2 fm hfm h0 n0) := by
  refine Con.intro (plainFor_of_name pn1) (fun m => ef_15 m x1 x2) ?_
  intro p e s m below meth c s₁ hx hby hml0 hZ hown hnm hret hlk X0 e0
  have hml : c.maxLocals = 2 := hml0
  have N0 := Fr.nil n0
  have Kp : Keep h0 h0 [] := Keep.refl h0 _
  show Go _ _ _ _ _ _ _ (s₁.setTop (mkF m 0 #[.val (.int x1), .val (.int x2)] []))
  refine Go.of (fun _ q => XS.iloadN X0.here hx rfl (hb hby d15_0) rfl q) ?_
  refine Go.of (fun _ q => XS.iloadN X0.here hx rfl (hb hby d15_1) rfl q) ?_
  obtain ⟨T1, X1, e1, st1⟩ := getS2 X0 hx hZ hown (host := "") (Or.inl (hw _ (List.mem_of_getElem? (i := 74) rfl))) Via.refl e0 (Sta.ext Od.2 Sfm) (g := (mkF m 2 #[.val (.int x1), .val (.int x2)] [(.int x2), (.int x1)])) rfl (hb hby d15_2)
  refine Go.of st1 ?_
  show Go _ _ _ _ _ _ _ (T1.setTop (mkF m 5 #[.val (.int x1), .val (.int x2)] [fm, (.int x2), (.int x1)]))
  refine Go.static X1 hx hZ (y := (⟨"jdk/internal/util/Preconditions", "checkIndex", "(IILjava/util/function/BiFunction;)I"⟩ : MethodName)) (argsL := [(.int x1), (.int x2), fm]) hown (hw _ (List.mem_of_getElem? (i := 76) rfl)) (hw _ (List.mem_of_getElem? (i := 77) rfl)) (hw _ (List.mem_of_getElem? (i := 75) rfl)) (hw _ (List.mem_of_getElem? (i := 78) rfl)) (by decide) 0 e1 (rm16 l Z a0 hw x1 x2 fm hfm h0 n0 Zs p1 p2) (by decide) (by decide) (by decide) (by decide) (g := (mkF m 5 #[.val (.int x1), .val (.int x2)] [fm, (.int x2), (.int x1)])) rfl (by rw [hml]; rfl) (rest := []) (lenOf pd0 rfl) rfl (by show 2 * 0 + _ ≤ _; exact Nat.le_of_eq rfl) (hb hby d15_5) ?_
  intro T2 v2 L2 X2 q2
  obtain ⟨rfl, Nq2, e2⟩ := q2
  have N2 := Fr.app N0 Nq2
  refine Go.of (fun _ q => XS.pop X2.here hx rfl (hb hby d15_8) rfl rfl q) ?_
  refine Go.retV X2 hx hlk hret (hb hby d15_9) (by decide) (by decide) ?_
  rw [e2]
  exact ⟨rfl, N2, rfl⟩
theorem d13_0 : decode jdk_42_method_154_code 0 = .ok (.getstatic 38, 3) := by decide +kernel
theorem d13_3 : decode jdk_42_method_154_code 3 = .ok (.ifCond .eq 14, 3) := by decide +kernel
theorem d13_6 : decode jdk_42_method_154_code 6 = .ok (.aload_n 0, 1) := by decide +kernel
theorem d13_7 : decode jdk_42_method_154_code 7 = .ok (.getfield 15, 3) := by decide +kernel
theorem d13_10 : decode jdk_42_method_154_code 10 = .ok (.ifCond .ne 7, 3) := by decide +kernel
theorem d13_13 : decode jdk_42_method_154_code 13 = .ok (.iconst 1, 1) := by decide +kernel
theorem d13_14 : decode jdk_42_method_154_code 14 = .ok (.goto 4, 3) := by decide +kernel
theorem d13_18 : decode jdk_42_method_154_code 18 = .ok (.ireturn, 1) := by decide +kernel
theorem ef_13_L (m : MethodId) (a : Addr) : entryFrame m #[(.ref a)] 1 = mkF m 0 #[.val (.ref a)] [] := by first | (simp [entryFrame, mkF, argsToLocals, Value.category]; done) | rfl
def Q13_L (Z : State) (a : Addr) (cs : Int32) (h0 : Heap) (n0 : Nat) (v : Option Value) (h : Heap) (L : List Loc) : Prop := v = some (.int (1 : Int32)) ∧ Fr n0 L ∧ h = h0
set_option maxRecDepth 65536 in
set_option maxHeartbeats 40000000 in
theorem rm13_L (l : Launch) (Z : State) (a0 : Array Value) (hw : ∀ d ∈ tables_1, d.before a0 Z = true) (a : Addr) (cs : Int32) (h0 : Heap) (n0 : Nat) (Zs : n0 ≤ h0.size) (Od : Old Z n0 h0) (F_a_coder : Fld Z h0 a "java/lang/String" "coder" "B" (.int (0 : Int32))) (Scs : Sta Z Z.heap "java/lang/String" "COMPACT_STRINGS" "Z" (.int cs)) (hcs : ¬ cs = (0 : Int32)) :
    Con l Z (⟨"java/lang/String", "isLatin1", "()Z"⟩ : MethodName) jdk_42_method_154_code 1 (some .boolean) ({ frames := 0, cells := 0, slots := 0, locals := 0 } : Room) #[(.ref a)] h0 (Q13_L Z a cs h0 n0) := by
  refine Con.intro (plainFor_of_name pn1) (fun m => ef_13_L m a) ?_
  intro p e s m below meth c s₁ hx hby hml0 hZ hown hnm hret hlk X0 e0
  have hml : c.maxLocals = 1 := hml0
  have N0 := Fr.nil n0
  have Kp : Keep h0 h0 [] := Keep.refl h0 _
  show Go _ _ _ _ _ _ _ (s₁.setTop (mkF m 0 #[.val (.ref a)] []))
  obtain ⟨T1, X1, e1, st1⟩ := getS2 X0 hx hZ hown (host := "") (Or.inl (hw _ (List.mem_of_getElem? (i := 27) rfl))) Via.refl e0 (Sta.ext Od.2 Scs) (g := (mkF m 0 #[.val (.ref a)] [])) rfl (hb hby d13_0)
  refine Go.of st1 ?_
  refine Go.of (fun _ q => XS.ifNo X1.here hx rfl (hb hby d13_3) rfl ((if0 _ _).trans (feq hcs).1) q) ?_
  refine Go.of (fun _ q => XS.aloadN X1.here hx rfl (hb hby d13_6) rfl rfl q) ?_
  show Go _ _ _ _ _ _ _ (T1.setTop (mkF m 7 #[.val (.ref a)] [(.ref a)]))
  obtain ⟨T2, X2, e2, st2⟩ := getF X1 hx hZ hown (host := "") (Or.inl (hw _ (List.mem_of_getElem? (i := 26) rfl))) Via.refl e1 F_a_coder (g := (mkF m 7 #[.val (.ref a)] [(.ref a)])) rfl rfl (hb hby d13_7)
  refine Go.of st2 ?_
  refine Go.of (fun _ q => XS.ifNo X2.here hx rfl (hb hby d13_10) rfl ((if0 _ _).trans (teq rfl).2) q) ?_
  refine Go.of (fun _ q => XS.iconst X2.here hx rfl (hb hby d13_13) q) ?_
  show Go _ _ _ _ _ _ _ (T2.setTop (mkF m 14 #[.val (.ref a)] [(.int (1 : Int32))]))
  refine Go.of (fun _ q => XS.goto X2.here hx rfl (pc0 := 14) (pc' := 18) rfl (hb hby d13_14) (by decide) (by decide) q) ?_
  refine Go.retN X2 hx hlk (t := .boolean) hret (by simp) (hb hby d13_18) rfl (by decide) (by decide) ?_
  rw [e2]
  exact ⟨rfl, N0, rfl⟩
theorem d11_0 : decode jdk_42_method_152_code 0 = .ok (.getstatic 38, 3) := by decide +kernel
theorem d11_3 : decode jdk_42_method_152_code 3 = .ok (.ifCond .eq 10, 3) := by decide +kernel
theorem d11_6 : decode jdk_42_method_152_code 6 = .ok (.aload_n 0, 1) := by decide +kernel
theorem d11_7 : decode jdk_42_method_152_code 7 = .ok (.getfield 15, 3) := by decide +kernel
theorem d11_10 : decode jdk_42_method_152_code 10 = .ok (.goto 4, 3) := by decide +kernel
theorem d11_14 : decode jdk_42_method_152_code 14 = .ok (.ireturn, 1) := by decide +kernel
theorem ef_11_L (m : MethodId) (a : Addr) : entryFrame m #[(.ref a)] 1 = mkF m 0 #[.val (.ref a)] [] := by first | (simp [entryFrame, mkF, argsToLocals, Value.category]; done) | rfl
def Q11_L (Z : State) (a : Addr) (cs : Int32) (h0 : Heap) (n0 : Nat) (v : Option Value) (h : Heap) (L : List Loc) : Prop := v = some (.int (0 : Int32)) ∧ Fr n0 L ∧ h = h0
set_option maxRecDepth 65536 in
set_option maxHeartbeats 40000000 in
theorem rm11_L (l : Launch) (Z : State) (a0 : Array Value) (hw : ∀ d ∈ tables_1, d.before a0 Z = true) (a : Addr) (cs : Int32) (h0 : Heap) (n0 : Nat) (Zs : n0 ≤ h0.size) (Od : Old Z n0 h0) (F_a_coder : Fld Z h0 a "java/lang/String" "coder" "B" (.int (0 : Int32))) (Scs : Sta Z Z.heap "java/lang/String" "COMPACT_STRINGS" "Z" (.int cs)) (hcs : ¬ cs = (0 : Int32)) :
    Con l Z (⟨"java/lang/String", "coder", "()B"⟩ : MethodName) jdk_42_method_152_code 1 (some .byte) ({ frames := 0, cells := 0, slots := 0, locals := 0 } : Room) #[(.ref a)] h0 (Q11_L Z a cs h0 n0) := by
  refine Con.intro (plainFor_of_name pn1) (fun m => ef_11_L m a) ?_
  intro p e s m below meth c s₁ hx hby hml0 hZ hown hnm hret hlk X0 e0
  have hml : c.maxLocals = 1 := hml0
  have N0 := Fr.nil n0
  have Kp : Keep h0 h0 [] := Keep.refl h0 _
  show Go _ _ _ _ _ _ _ (s₁.setTop (mkF m 0 #[.val (.ref a)] []))
  obtain ⟨T1, X1, e1, st1⟩ := getS2 X0 hx hZ hown (host := "") (Or.inl (hw _ (List.mem_of_getElem? (i := 27) rfl))) Via.refl e0 (Sta.ext Od.2 Scs) (g := (mkF m 0 #[.val (.ref a)] [])) rfl (hb hby d11_0)
  refine Go.of st1 ?_
  refine Go.of (fun _ q => XS.ifNo X1.here hx rfl (hb hby d11_3) rfl ((if0 _ _).trans (feq hcs).1) q) ?_
  refine Go.of (fun _ q => XS.aloadN X1.here hx rfl (hb hby d11_6) rfl rfl q) ?_
  show Go _ _ _ _ _ _ _ (T1.setTop (mkF m 7 #[.val (.ref a)] [(.ref a)]))
  obtain ⟨T2, X2, e2, st2⟩ := getF X1 hx hZ hown (host := "") (Or.inl (hw _ (List.mem_of_getElem? (i := 26) rfl))) Via.refl e1 F_a_coder (g := (mkF m 7 #[.val (.ref a)] [(.ref a)])) rfl rfl (hb hby d11_7)
  refine Go.of st2 ?_
  refine Go.of (fun _ q => XS.goto X2.here hx rfl (pc0 := 10) (pc' := 14) rfl (hb hby d11_10) (by decide) (by decide) q) ?_
  refine Go.retN X2 hx hlk (t := .byte) hret (by simp) (hb hby d11_14) rfl (by decide) (by decide) ?_
  rw [e2]
  exact ⟨rfl, N0, rfl⟩
theorem d13_17 : decode jdk_42_method_154_code 17 = .ok (.iconst 0, 1) := by decide +kernel
theorem ef_13_U (m : MethodId) (a : Addr) : entryFrame m #[(.ref a)] 1 = mkF m 0 #[.val (.ref a)] [] := by first | (simp [entryFrame, mkF, argsToLocals, Value.category]; done) | rfl
def Q13_U (Z : State) (a : Addr) (cs : Int32) (h0 : Heap) (n0 : Nat) (v : Option Value) (h : Heap) (L : List Loc) : Prop := v = some (.int (0 : Int32)) ∧ Fr n0 L ∧ h = h0
set_option maxRecDepth 65536 in
set_option maxHeartbeats 40000000 in
theorem rm13_U (l : Launch) (Z : State) (a0 : Array Value) (hw : ∀ d ∈ tables_1, d.before a0 Z = true) (a : Addr) (cs : Int32) (h0 : Heap) (n0 : Nat) (Zs : n0 ≤ h0.size) (Od : Old Z n0 h0) (F_a_coder : Fld Z h0 a "java/lang/String" "coder" "B" (.int (1 : Int32))) (Scs : Sta Z Z.heap "java/lang/String" "COMPACT_STRINGS" "Z" (.int cs)) (hcs : ¬ cs = (0 : Int32)) :
    Con l Z (⟨"java/lang/String", "isLatin1", "()Z"⟩ : MethodName) jdk_42_method_154_code 1 (some .boolean) ({ frames := 0, cells := 0, slots := 0, locals := 0 } : Room) #[(.ref a)] h0 (Q13_U Z a cs h0 n0) := by
  refine Con.intro (plainFor_of_name pn1) (fun m => ef_13_U m a) ?_
  intro p e s m below meth c s₁ hx hby hml0 hZ hown hnm hret hlk X0 e0
  have hml : c.maxLocals = 1 := hml0
  have N0 := Fr.nil n0
  have Kp : Keep h0 h0 [] := Keep.refl h0 _
  show Go _ _ _ _ _ _ _ (s₁.setTop (mkF m 0 #[.val (.ref a)] []))
  obtain ⟨T1, X1, e1, st1⟩ := getS2 X0 hx hZ hown (host := "") (Or.inl (hw _ (List.mem_of_getElem? (i := 27) rfl))) Via.refl e0 (Sta.ext Od.2 Scs) (g := (mkF m 0 #[.val (.ref a)] [])) rfl (hb hby d13_0)
  refine Go.of st1 ?_
  refine Go.of (fun _ q => XS.ifNo X1.here hx rfl (hb hby d13_3) rfl ((if0 _ _).trans (feq hcs).1) q) ?_
  refine Go.of (fun _ q => XS.aloadN X1.here hx rfl (hb hby d13_6) rfl rfl q) ?_
  show Go _ _ _ _ _ _ _ (T1.setTop (mkF m 7 #[.val (.ref a)] [(.ref a)]))
  obtain ⟨T2, X2, e2, st2⟩ := getF X1 hx hZ hown (host := "") (Or.inl (hw _ (List.mem_of_getElem? (i := 26) rfl))) Via.refl e1 F_a_coder (g := (mkF m 7 #[.val (.ref a)] [(.ref a)])) rfl rfl (hb hby d13_7)
  refine Go.of st2 ?_
  refine Go.of (fun _ q => XS.ifYes X2.here hx rfl (pc0 := 10) (pc' := 17) rfl (hb hby d13_10) rfl ((if0 _ _).trans (feq (by decide)).2) (by decide) (by decide) q) ?_
  refine Go.of (fun _ q => XS.iconst X2.here hx rfl (hb hby d13_17) q) ?_
  show Go _ _ _ _ _ _ _ (T2.setTop (mkF m 18 #[.val (.ref a)] [(.int (0 : Int32))]))
  refine Go.retN X2 hx hlk (t := .boolean) hret (by simp) (hb hby d13_18) rfl (by decide) (by decide) ?_
  rw [e2]
  exact ⟨rfl, N0, rfl⟩
theorem ef_11_U (m : MethodId) (a : Addr) : entryFrame m #[(.ref a)] 1 = mkF m 0 #[.val (.ref a)] [] := by first | (simp [entryFrame, mkF, argsToLocals, Value.category]; done) | rfl
def Q11_U (Z : State) (a : Addr) (cs : Int32) (h0 : Heap) (n0 : Nat) (v : Option Value) (h : Heap) (L : List Loc) : Prop := v = some (.int (1 : Int32)) ∧ Fr n0 L ∧ h = h0
set_option maxRecDepth 65536 in
set_option maxHeartbeats 40000000 in
theorem rm11_U (l : Launch) (Z : State) (a0 : Array Value) (hw : ∀ d ∈ tables_1, d.before a0 Z = true) (a : Addr) (cs : Int32) (h0 : Heap) (n0 : Nat) (Zs : n0 ≤ h0.size) (Od : Old Z n0 h0) (F_a_coder : Fld Z h0 a "java/lang/String" "coder" "B" (.int (1 : Int32))) (Scs : Sta Z Z.heap "java/lang/String" "COMPACT_STRINGS" "Z" (.int cs)) (hcs : ¬ cs = (0 : Int32)) :
    Con l Z (⟨"java/lang/String", "coder", "()B"⟩ : MethodName) jdk_42_method_152_code 1 (some .byte) ({ frames := 0, cells := 0, slots := 0, locals := 0 } : Room) #[(.ref a)] h0 (Q11_U Z a cs h0 n0) := by
  refine Con.intro (plainFor_of_name pn1) (fun m => ef_11_U m a) ?_
  intro p e s m below meth c s₁ hx hby hml0 hZ hown hnm hret hlk X0 e0
  have hml : c.maxLocals = 1 := hml0
  have N0 := Fr.nil n0
  have Kp : Keep h0 h0 [] := Keep.refl h0 _
  show Go _ _ _ _ _ _ _ (s₁.setTop (mkF m 0 #[.val (.ref a)] []))
  obtain ⟨T1, X1, e1, st1⟩ := getS2 X0 hx hZ hown (host := "") (Or.inl (hw _ (List.mem_of_getElem? (i := 27) rfl))) Via.refl e0 (Sta.ext Od.2 Scs) (g := (mkF m 0 #[.val (.ref a)] [])) rfl (hb hby d11_0)
  refine Go.of st1 ?_
  refine Go.of (fun _ q => XS.ifNo X1.here hx rfl (hb hby d11_3) rfl ((if0 _ _).trans (feq hcs).1) q) ?_
  refine Go.of (fun _ q => XS.aloadN X1.here hx rfl (hb hby d11_6) rfl rfl q) ?_
  show Go _ _ _ _ _ _ _ (T1.setTop (mkF m 7 #[.val (.ref a)] [(.ref a)]))
  obtain ⟨T2, X2, e2, st2⟩ := getF X1 hx hZ hown (host := "") (Or.inl (hw _ (List.mem_of_getElem? (i := 26) rfl))) Via.refl e1 F_a_coder (g := (mkF m 7 #[.val (.ref a)] [(.ref a)])) rfl rfl (hb hby d11_7)
  refine Go.of st2 ?_
  refine Go.of (fun _ q => XS.goto X2.here hx rfl (pc0 := 10) (pc' := 14) rfl (hb hby d11_10) (by decide) (by decide) q) ?_
  refine Go.retN X2 hx hlk (t := .byte) hret (by simp) (hb hby d11_14) rfl (by decide) (by decide) ?_
  rw [e2]
  exact ⟨rfl, N0, rfl⟩
theorem pd1 : parseMethodDescriptor "(II)V" = some ⟨[.int, .int], none⟩ := by decide +kernel
theorem d14_0 : decode jdk_43_method_2_code 0 = .ok (.iload_n 1, 1) := by decide +kernel
theorem d14_1 : decode jdk_43_method_2_code 1 = .ok (.aload_n 0, 1) := by decide +kernel
theorem d14_2 : decode jdk_43_method_2_code 2 = .ok (.arraylength, 1) := by decide +kernel
theorem d14_3 : decode jdk_43_method_2_code 3 = .ok (.invokestatic 9, 3) := by decide +kernel
theorem d14_6 : decode jdk_43_method_2_code 6 = .ok (.aload_n 0, 1) := by decide +kernel
theorem d14_7 : decode jdk_43_method_2_code 7 = .ok (.iload_n 1, 1) := by decide +kernel
theorem d14_8 : decode jdk_43_method_2_code 8 = .ok (.baload, 1) := by decide +kernel
theorem d14_9 : decode jdk_43_method_2_code 9 = .ok (.sipush 255, 3) := by decide +kernel
theorem d14_12 : decode jdk_43_method_2_code 12 = .ok (.iand, 1) := by decide +kernel
theorem d14_13 : decode jdk_43_method_2_code 13 = .ok (.i2c, 1) := by decide +kernel
theorem d14_14 : decode jdk_43_method_2_code 14 = .ok (.ireturn, 1) := by decide +kernel
theorem pn2 : plainName "java/lang/StringLatin1" = true := by first | (simp [plainName, overriddenIn]; done) | decide +kernel
theorem ef_14 (m : MethodId) (d : Addr) (x1 : Int32) : entryFrame m #[(.ref d), (.int x1)] 2 = mkF m 0 #[.val (.ref d), .val (.int x1)] [] := by first | (simp [entryFrame, mkF, argsToLocals, Value.category]; done) | rfl
def Q14 (Z : State) (d : Addr) (x1 : Int32) (kd : ClassId) (gd : Nat → Int32) (nn : Nat) (k : Nat) (fm : Value) (hfm : fm.isRef = true) (h0 : Heap) (n0 : Nat) (v : Option Value) (h : Heap) (L : List Loc) : Prop := v = some (.int (own_ch (gd k))) ∧ Fr n0 L ∧ h = h0
set_option maxRecDepth 65536 in
set_option maxHeartbeats 40000000 in
theorem rm14 (l : Launch) (Z : State) (a0 : Array Value) (hw : ∀ d ∈ tables_1, d.before a0 Z = true) (d : Addr) (x1 : Int32) (kd : ClassId) (gd : Nat → Int32) (nn : Nat) (k : Nat) (fm : Value) (hfm : fm.isRef = true) (h0 : Heap) (n0 : Nat) (Zs : n0 ≤ h0.size) (Od : Old Z n0 h0) (A_d : AF Z h0 d kd .byte nn (fun i => .int (gd i))) (hxk : x1 = Int32.ofNat k) (hkn : k < nn) (hn : nn ≤ 8) (Sfm : Sta Z Z.heap "jdk/internal/util/Preconditions" "SIOOBE_FORMATTER" "Ljava/util/function/BiFunction;" fm) :
    Con l Z (⟨"java/lang/StringLatin1", "charAt", "([BI)C"⟩ : MethodName) jdk_43_method_2_code 2 (some .char) ({ frames := 2, cells := 0, slots := 0, locals := 27 } : Room) #[(.ref d), (.int x1)] h0 (Q14 Z d x1 kd gd nn k fm hfm h0 n0) := by
  refine Con.intro (plainFor_of_name pn2) (fun m => ef_14 m d x1) ?_
  intro p e s m below meth c s₁ hx hby hml0 hZ hown hnm hret hlk X0 e0
  have hml : c.maxLocals = 2 := hml0
  have N0 := Fr.nil n0
  have Kp : Keep h0 h0 [] := Keep.refl h0 _
  show Go _ _ _ _ _ _ _ (s₁.setTop (mkF m 0 #[.val (.ref d), .val (.int x1)] []))
  refine Go.of (fun _ q => XS.iloadN X0.here hx rfl (hb hby d14_0) rfl q) ?_
  refine Go.of (fun _ q => XS.aloadN X0.here hx rfl (hb hby d14_1) rfl rfl q) ?_
  refine Go.of (fun _ q => AF.length A_d X0 hx hZ e0 rfl (g := (mkF m 2 #[.val (.ref d), .val (.int x1)] [(.ref d), (.int x1)])) rfl rfl (hb hby d14_2) q) ?_
  show Go _ _ _ _ _ _ _ (s₁.setTop (mkF m 3 #[.val (.ref d), .val (.int x1)] [(.int (Int32.ofNat nn)), (.int x1)]))
  refine Go.static X0 hx hZ (y := (⟨"java/lang/String", "checkIndex", "(II)V"⟩ : MethodName)) (argsL := [(.int x1), (.int (Int32.ofNat nn))]) hown (hw _ (List.mem_of_getElem? (i := 71) rfl)) (hw _ (List.mem_of_getElem? (i := 72) rfl)) (hw _ (List.mem_of_getElem? (i := 7) rfl)) (hw _ (List.mem_of_getElem? (i := 73) rfl)) (by decide) 0 e0 (rm15 l Z a0 hw x1 (Int32.ofNat nn) fm hfm h0 n0 Zs Od (own_p1 hxk hkn hn) (own_p2 hxk hkn hn) Sfm) (by decide) (by decide) (by decide) (by decide) (g := (mkF m 3 #[.val (.ref d), .val (.int x1)] [(.int (Int32.ofNat nn)), (.int x1)])) rfl (by rw [hml]; rfl) (rest := []) (lenOf pd1 rfl) rfl (by show 2 * 0 + _ ≤ _; exact Nat.le_of_eq rfl) (hb hby d14_3) ?_
  intro T1 v1 L1 X1 q1
  obtain ⟨rfl, Nq1, e1⟩ := q1
  have N1 := Fr.app N0 Nq1
  refine Go.of (fun _ q => XS.aloadN X1.here hx rfl (hb hby d14_6) rfl rfl q) ?_
  refine Go.of (fun _ q => XS.iloadN X1.here hx rfl (hb hby d14_7) rfl q) ?_
  show Go _ _ _ _ _ _ _ (T1.setTop (mkF m 8 #[.val (.ref d), .val (.int x1)] [(.int x1), (.ref d)]))
  refine Go.of (fun _ q => AF.baload A_d X1 hx hZ e1 (own_ix hxk hkn hn) (v := (.int (gd k))) rfl (g := (mkF m 8 #[.val (.ref d), .val (.int x1)] [(.int x1), (.ref d)])) rfl rfl (hb hby d14_8) q) ?_
  refine Go.of (fun _ q => XS.sipush X1.here hx rfl (hb hby d14_9) q) ?_
  refine Go.of (fun _ q => XS.iand X1.here hx rfl (hb hby d14_12) rfl q) ?_
  show Go _ _ _ _ _ _ _ (T1.setTop (mkF m 13 #[.val (.ref d), .val (.int x1)] [(.int ((gd k) &&& (255 : Int32)))]))
  refine Go.of (fun _ q => XS.i2c X1.here hx rfl (hb hby d14_13) rfl q) ?_
  refine Go.retN X1 hx hlk (t := .char) hret (by simp) (hb hby d14_14) (own_nc _) (by decide) (by decide) ?_
  rw [e1]
  exact ⟨rfl, N1, rfl⟩
theorem d24_0 : decode jdk_52_method_6_code 0 = .ok (.aload_n 0, 1) := by decide +kernel
theorem d24_1 : decode jdk_52_method_6_code 1 = .ok (.arraylength, 1) := by decide +kernel
theorem d24_2 : decode jdk_52_method_6_code 2 = .ok (.iconst 1, 1) := by decide +kernel
theorem d24_3 : decode jdk_52_method_6_code 3 = .ok (.ishr, 1) := by decide +kernel
theorem d24_4 : decode jdk_52_method_6_code 4 = .ok (.ireturn, 1) := by decide +kernel
theorem pn3 : plainName "java/lang/StringUTF16" = true := by first | (simp [plainName, overriddenIn]; done) | decide +kernel
theorem ef_24 (m : MethodId) (d : Addr) : entryFrame m #[(.ref d)] 1 = mkF m 0 #[.val (.ref d)] [] := by first | (simp [entryFrame, mkF, argsToLocals, Value.category]; done) | rfl
def Q24 (Z : State) (d : Addr) (kd : ClassId) (gd : Nat → Int32) (nn : Nat) (h0 : Heap) (n0 : Nat) (v : Option Value) (h : Heap) (L : List Loc) : Prop := v = some (.int (Int32.ofNat (nn / 2))) ∧ Fr n0 L ∧ h = h0
set_option maxRecDepth 65536 in
set_option maxHeartbeats 40000000 in
theorem rm24 (l : Launch) (Z : State) (a0 : Array Value) (hw : ∀ d ∈ tables_1, d.before a0 Z = true) (d : Addr) (kd : ClassId) (gd : Nat → Int32) (nn : Nat) (h0 : Heap) (n0 : Nat) (Zs : n0 ≤ h0.size) (A_d : AF Z h0 d kd .byte nn (fun i => .int (gd i))) (hn : nn ≤ 8) :
    Con l Z (⟨"java/lang/StringUTF16", "length", "([B)I"⟩ : MethodName) jdk_52_method_6_code 1 (some .int) ({ frames := 0, cells := 0, slots := 0, locals := 0 } : Room) #[(.ref d)] h0 (Q24 Z d kd gd nn h0 n0) := by
  refine Con.intro (plainFor_of_name pn3) (fun m => ef_24 m d) ?_
  intro p e s m below meth c s₁ hx hby hml0 hZ hown hnm hret hlk X0 e0
  have hml : c.maxLocals = 1 := hml0
  have N0 := Fr.nil n0
  have Kp : Keep h0 h0 [] := Keep.refl h0 _
  show Go _ _ _ _ _ _ _ (s₁.setTop (mkF m 0 #[.val (.ref d)] []))
  refine Go.of (fun _ q => XS.aloadN X0.here hx rfl (hb hby d24_0) rfl rfl q) ?_
  refine Go.of (fun _ q => AF.length A_d X0 hx hZ e0 rfl (g := (mkF m 1 #[.val (.ref d)] [(.ref d)])) rfl rfl (hb hby d24_1) q) ?_
  refine Go.of (fun _ q => XS.iconst X0.here hx rfl (hb hby d24_2) q) ?_
  show Go _ _ _ _ _ _ _ (s₁.setTop (mkF m 3 #[.val (.ref d)] [(.int (1 : Int32)), (.int (Int32.ofNat nn))]))
  refine Go.of (fun _ q => XS.ishr X0.here hx rfl (hb hby d24_3) rfl q) ?_
  refine Go.retI X0 hx hlk hret (hb hby d24_4) (by decide) (by decide) ?_
  rw [e0]
  exact ⟨(congrArg (fun z => some (Value.int z)) (own_half hn)), N0, rfl⟩
theorem pd2 : parseMethodDescriptor "([B)I" = some ⟨[(.array .byte)], some .int⟩ := by decide +kernel
theorem d23_0 : decode jdk_52_method_91_code 0 = .ok (.iload_n 0, 1) := by decide +kernel
theorem d23_1 : decode jdk_52_method_91_code 1 = .ok (.aload_n 1, 1) := by decide +kernel
theorem d23_2 : decode jdk_52_method_91_code 2 = .ok (.invokestatic 48, 3) := by decide +kernel
theorem d23_5 : decode jdk_52_method_91_code 5 = .ok (.invokestatic 414, 3) := by decide +kernel
theorem d23_8 : decode jdk_52_method_91_code 8 = .ok (.return_, 1) := by decide +kernel
theorem ef_23 (m : MethodId) (x1 : Int32) (d : Addr) : entryFrame m #[(.int x1), (.ref d)] 2 = mkF m 0 #[.val (.int x1), .val (.ref d)] [] := by first | (simp [entryFrame, mkF, argsToLocals, Value.category]; done) | rfl
def Q23 (Z : State) (x1 : Int32) (d : Addr) (kd : ClassId) (gd : Nat → Int32) (nn : Nat) (k : Nat) (fm : Value) (hfm : fm.isRef = true) (h0 : Heap) (n0 : Nat) (v : Option Value) (h : Heap) (L : List Loc) : Prop := v = none ∧ Fr n0 L ∧ h = h0
set_option maxRecDepth 65536 in
set_option maxHeartbeats 40000000 in
theorem rm23 (l : Launch) (Z : State) (a0 : Array Value) (hw : ∀ d ∈ tables_1, d.before a0 Z = true) (x1 : Int32) (d : Addr) (kd : ClassId) (gd : Nat → Int32) (nn : Nat) (k : Nat) (fm : Value) (hfm : fm.isRef = true) (h0 : Heap) (n0 : Nat) (Zs : n0 ≤ h0.size) (Od : Old Z n0 h0) (A_d : AF Z h0 d kd .byte nn (fun i => .int (gd i))) (hxk : x1 = Int32.ofNat k) (hkn : k < nn / 2) (hn : nn ≤ 8) (Sfm : Sta Z Z.heap "jdk/internal/util/Preconditions" "SIOOBE_FORMATTER" "Ljava/util/function/BiFunction;" fm) :
    Con l Z (⟨"java/lang/StringUTF16", "checkIndex", "(I[B)V"⟩ : MethodName) jdk_52_method_91_code 2 none ({ frames := 2, cells := 0, slots := 0, locals := 27 } : Room) #[(.int x1), (.ref d)] h0 (Q23 Z x1 d kd gd nn k fm hfm h0 n0) := by
  refine Con.intro (plainFor_of_name pn3) (fun m => ef_23 m x1 d) ?_
  intro p e s m below meth c s₁ hx hby hml0 hZ hown hnm hret hlk X0 e0
  have hml : c.maxLocals = 2 := hml0
  have N0 := Fr.nil n0
  have Kp : Keep h0 h0 [] := Keep.refl h0 _
  show Go _ _ _ _ _ _ _ (s₁.setTop (mkF m 0 #[.val (.int x1), .val (.ref d)] []))
  refine Go.of (fun _ q => XS.iloadN X0.here hx rfl (hb hby d23_0) rfl q) ?_
  refine Go.of (fun _ q => XS.aloadN X0.here hx rfl (hb hby d23_1) rfl rfl q) ?_
  refine Go.static X0 hx hZ (y := (⟨"java/lang/StringUTF16", "length", "([B)I"⟩ : MethodName)) (argsL := [(.ref d)]) hown (hw _ (List.mem_of_getElem? (i := 106) rfl)) (hw _ (List.mem_of_getElem? (i := 107) rfl)) (hw _ (List.mem_of_getElem? (i := 30) rfl)) (hw _ (List.mem_of_getElem? (i := 108) rfl)) (by decide) 1 e0 (rm24 l Z a0 hw d kd gd nn h0 n0 Zs A_d hn) (by decide) (by decide) (by decide) (by decide) (g := (mkF m 2 #[.val (.int x1), .val (.ref d)] [(.ref d), (.int x1)])) rfl (by rw [hml]; rfl) (rest := [(.int x1)]) (lenOf pd2 rfl) rfl (by show 2 * 0 + _ ≤ _; exact Nat.le_of_eq rfl) (hb hby d23_2) ?_
  intro T1 v1 L1 X1 q1
  obtain ⟨rfl, Nq1, e1⟩ := q1
  have N1 := Fr.app N0 Nq1
  show Go _ _ _ _ _ _ _ (T1.setTop (mkF m 5 #[.val (.int x1), .val (.ref d)] [(.int (Int32.ofNat (nn / 2))), (.int x1)]))
  refine Go.static X1 hx hZ (y := (⟨"java/lang/String", "checkIndex", "(II)V"⟩ : MethodName)) (argsL := [(.int x1), (.int (Int32.ofNat (nn / 2)))]) hown (hw _ (List.mem_of_getElem? (i := 109) rfl)) (hw _ (List.mem_of_getElem? (i := 72) rfl)) (hw _ (List.mem_of_getElem? (i := 7) rfl)) (hw _ (List.mem_of_getElem? (i := 73) rfl)) (by decide) 0 e1 (rm15 l Z a0 hw x1 (Int32.ofNat (nn / 2)) fm hfm h0 n0 Zs Od (own_p1 hxk hkn (own_h8 hn)) (own_p2 hxk hkn (own_h8 hn)) Sfm) (by decide) (by decide) (by decide) (by decide) (g := (mkF m 5 #[.val (.int x1), .val (.ref d)] [(.int (Int32.ofNat (nn / 2))), (.int x1)])) rfl (by rw [hml]; rfl) (rest := []) (lenOf pd1 rfl) rfl (by show 2 * 0 + _ ≤ _; exact Nat.le_of_eq rfl) (hb hby d23_5) ?_
  intro T2 v2 L2 X2 q2
  obtain ⟨rfl, Nq2, e2⟩ := q2
  have N2 := Fr.app N1 Nq2
  refine Go.retV X2 hx hlk hret (hb hby d23_8) (by decide) (by decide) ?_
  rw [e2]
  exact ⟨rfl, N2, rfl⟩
theorem d21_0 : decode jdk_52_method_5_code 0 = .ok (.getstatic 44, 3) := by decide +kernel
theorem d21_3 : decode jdk_52_method_5_code 3 = .ok (.ifCond .ne 25, 3) := by decide +kernel
theorem d21_28 : decode jdk_52_method_5_code 28 = .ok (.iload_n 1, 1) := by decide +kernel
theorem d21_29 : decode jdk_52_method_5_code 29 = .ok (.iconst 1, 1) := by decide +kernel
theorem d21_30 : decode jdk_52_method_5_code 30 = .ok (.ishl, 1) := by decide +kernel
theorem d21_31 : decode jdk_52_method_5_code 31 = .ok (.istore_n 1, 1) := by decide +kernel
theorem d21_32 : decode jdk_52_method_5_code 32 = .ok (.aload_n 0, 1) := by decide +kernel
theorem d21_33 : decode jdk_52_method_5_code 33 = .ok (.iload_n 1, 1) := by decide +kernel
theorem d21_34 : decode jdk_52_method_5_code 34 = .ok (.iinc 1 1, 3) := by decide +kernel
theorem d21_37 : decode jdk_52_method_5_code 37 = .ok (.baload, 1) := by decide +kernel
theorem d21_38 : decode jdk_52_method_5_code 38 = .ok (.sipush 255, 3) := by decide +kernel
theorem d21_41 : decode jdk_52_method_5_code 41 = .ok (.iand, 1) := by decide +kernel
theorem d21_42 : decode jdk_52_method_5_code 42 = .ok (.getstatic 59, 3) := by decide +kernel
theorem d21_45 : decode jdk_52_method_5_code 45 = .ok (.ishl, 1) := by decide +kernel
theorem d21_46 : decode jdk_52_method_5_code 46 = .ok (.aload_n 0, 1) := by decide +kernel
theorem d21_47 : decode jdk_52_method_5_code 47 = .ok (.iload_n 1, 1) := by decide +kernel
theorem d21_48 : decode jdk_52_method_5_code 48 = .ok (.baload, 1) := by decide +kernel
theorem d21_49 : decode jdk_52_method_5_code 49 = .ok (.sipush 255, 3) := by decide +kernel
theorem d21_52 : decode jdk_52_method_5_code 52 = .ok (.iand, 1) := by decide +kernel
theorem d21_53 : decode jdk_52_method_5_code 53 = .ok (.getstatic 63, 3) := by decide +kernel
theorem d21_56 : decode jdk_52_method_5_code 56 = .ok (.ishl, 1) := by decide +kernel
theorem d21_57 : decode jdk_52_method_5_code 57 = .ok (.ior, 1) := by decide +kernel
theorem d21_58 : decode jdk_52_method_5_code 58 = .ok (.i2c, 1) := by decide +kernel
theorem d21_59 : decode jdk_52_method_5_code 59 = .ok (.ireturn, 1) := by decide +kernel
theorem ef_21 (m : MethodId) (d : Addr) (x1 : Int32) : entryFrame m #[(.ref d), (.int x1)] 2 = mkF m 0 #[.val (.ref d), .val (.int x1)] [] := by first | (simp [entryFrame, mkF, argsToLocals, Value.category]; done) | rfl
def Q21 (Z : State) (d : Addr) (x1 : Int32) (kd : ClassId) (gd : Nat → Int32) (nn : Nat) (k : Nat) (h0 : Heap) (n0 : Nat) (v : Option Value) (h : Heap) (L : List Loc) : Prop := v = some (.int (own_gc (gd (2 * k)) (gd (2 * k + 1)))) ∧ Fr n0 L ∧ h = h0
set_option maxRecDepth 65536 in
set_option maxHeartbeats 40000000 in
theorem rm21 (l : Launch) (Z : State) (a0 : Array Value) (hw : ∀ d ∈ tables_1, d.before a0 Z = true) (d : Addr) (x1 : Int32) (kd : ClassId) (gd : Nat → Int32) (nn : Nat) (k : Nat) (h0 : Heap) (n0 : Nat) (Zs : n0 ≤ h0.size) (Od : Old Z n0 h0) (A_d : AF Z h0 d kd .byte nn (fun i => .int (gd i))) (hxk : x1 = Int32.ofNat k) (hkn : k < nn / 2) (hn : nn ≤ 8) (Sad : Sta Z Z.heap "java/lang/StringUTF16" "$assertionsDisabled" "Z" (.int (1 : Int32))) (Shi : Sta Z Z.heap "java/lang/StringUTF16" "HI_BYTE_SHIFT" "I" (.int (0 : Int32))) (Slo : Sta Z Z.heap "java/lang/StringUTF16" "LO_BYTE_SHIFT" "I" (.int (8 : Int32))) :
    Con l Z (⟨"java/lang/StringUTF16", "getChar", "([BI)C"⟩ : MethodName) jdk_52_method_5_code 2 (some .char) ({ frames := 0, cells := 0, slots := 0, locals := 0 } : Room) #[(.ref d), (.int x1)] h0 (Q21 Z d x1 kd gd nn k h0 n0) := by
  refine Con.intro (plainFor_of_name pn3) (fun m => ef_21 m d x1) ?_
  intro p e s m below meth c s₁ hx hby hml0 hZ hown hnm hret hlk X0 e0
  have hml : c.maxLocals = 2 := hml0
  have N0 := Fr.nil n0
  have Kp : Keep h0 h0 [] := Keep.refl h0 _
  show Go _ _ _ _ _ _ _ (s₁.setTop (mkF m 0 #[.val (.ref d), .val (.int x1)] []))
  obtain ⟨T1, X1, e1, st1⟩ := getS2 X0 hx hZ hown (host := "") (Or.inl (hw _ (List.mem_of_getElem? (i := 94) rfl))) Via.refl e0 (Sta.ext Od.2 Sad) (g := (mkF m 0 #[.val (.ref d), .val (.int x1)] [])) rfl (hb hby d21_0)
  refine Go.of st1 ?_
  refine Go.of (fun _ q => XS.ifYes X1.here hx rfl (pc0 := 3) (pc' := 28) rfl (hb hby d21_3) rfl ((if0 _ _).trans (feq (by decide)).2) (by decide) (by decide) q) ?_
  refine Go.of (fun _ q => XS.iloadN X1.here hx rfl (hb hby d21_28) rfl q) ?_
  show Go _ _ _ _ _ _ _ (T1.setTop (mkF m 29 #[.val (.ref d), .val (.int x1)] [(.int x1)]))
  refine Go.of (fun _ q => XS.iconst X1.here hx rfl (hb hby d21_29) q) ?_
  refine Go.of (fun _ q => XS.ishl X1.here hx rfl (hb hby d21_30) rfl q) ?_
  refine Go.of (fun _ q => XS.istoreN X1.here hx rfl (hb hby d21_31) rfl (l' := #[.val (.ref d), .val (.int (x1 <<< ((1 : Int32) &&& 31)))]) rfl q) ?_
  show Go _ _ _ _ _ _ _ (T1.setTop (mkF m 32 #[.val (.ref d), .val (.int (x1 <<< ((1 : Int32) &&& 31)))] []))
  refine Go.of (fun _ q => XS.aloadN X1.here hx rfl (hb hby d21_32) rfl rfl q) ?_
  refine Go.of (fun _ q => XS.iloadN X1.here hx rfl (hb hby d21_33) rfl q) ?_
  refine Go.of (fun _ q => XS.iinc X1.here hx rfl (hb hby d21_34) rfl (l' := #[.val (.ref d), .val (.int ((x1 <<< ((1 : Int32) &&& 31)) + (1 : Int32)))]) rfl q) ?_
  show Go _ _ _ _ _ _ _ (T1.setTop (mkF m 37 #[.val (.ref d), .val (.int ((x1 <<< ((1 : Int32) &&& 31)) + (1 : Int32)))] [(.int (x1 <<< ((1 : Int32) &&& 31))), (.ref d)]))
  refine Go.of (fun _ q => AF.baload A_d X1 hx hZ e1 (own_ix2 hxk hkn hn) (v := (.int (gd (2 * k)))) rfl (g := (mkF m 37 #[.val (.ref d), .val (.int ((x1 <<< ((1 : Int32) &&& 31)) + (1 : Int32)))] [(.int (x1 <<< ((1 : Int32) &&& 31))), (.ref d)])) rfl rfl (hb hby d21_37) q) ?_
  refine Go.of (fun _ q => XS.sipush X1.here hx rfl (hb hby d21_38) q) ?_
  refine Go.of (fun _ q => XS.iand X1.here hx rfl (hb hby d21_41) rfl q) ?_
  show Go _ _ _ _ _ _ _ (T1.setTop (mkF m 42 #[.val (.ref d), .val (.int ((x1 <<< ((1 : Int32) &&& 31)) + (1 : Int32)))] [(.int ((gd (2 * k)) &&& (255 : Int32)))]))
  obtain ⟨T2, X2, e2, st2⟩ := getS2 X1 hx hZ hown (host := "") (Or.inl (hw _ (List.mem_of_getElem? (i := 95) rfl))) Via.refl e1 (Sta.ext Od.2 Shi) (g := (mkF m 42 #[.val (.ref d), .val (.int ((x1 <<< ((1 : Int32) &&& 31)) + (1 : Int32)))] [(.int ((gd (2 * k)) &&& (255 : Int32)))])) rfl (hb hby d21_42)
  refine Go.of st2 ?_
  refine Go.of (fun _ q => XS.ishl X2.here hx rfl (hb hby d21_45) rfl q) ?_
  refine Go.of (fun _ q => XS.aloadN X2.here hx rfl (hb hby d21_46) rfl rfl q) ?_
  show Go _ _ _ _ _ _ _ (T2.setTop (mkF m 47 #[.val (.ref d), .val (.int ((x1 <<< ((1 : Int32) &&& 31)) + (1 : Int32)))] [(.ref d), (.int (((gd (2 * k)) &&& (255 : Int32)) <<< ((0 : Int32) &&& 31)))]))
  refine Go.of (fun _ q => XS.iloadN X2.here hx rfl (hb hby d21_47) rfl q) ?_
  refine Go.of (fun _ q => AF.baload A_d X2 hx hZ e2 (own_ix3 hxk hkn hn) (v := (.int (gd (2 * k + 1)))) rfl (g := (mkF m 48 #[.val (.ref d), .val (.int ((x1 <<< ((1 : Int32) &&& 31)) + (1 : Int32)))] [(.int ((x1 <<< ((1 : Int32) &&& 31)) + (1 : Int32))), (.ref d), (.int (((gd (2 * k)) &&& (255 : Int32)) <<< ((0 : Int32) &&& 31)))])) rfl rfl (hb hby d21_48) q) ?_
  refine Go.of (fun _ q => XS.sipush X2.here hx rfl (hb hby d21_49) q) ?_
  show Go _ _ _ _ _ _ _ (T2.setTop (mkF m 52 #[.val (.ref d), .val (.int ((x1 <<< ((1 : Int32) &&& 31)) + (1 : Int32)))] [(.int (255 : Int32)), (.int (gd (2 * k + 1))), (.int (((gd (2 * k)) &&& (255 : Int32)) <<< ((0 : Int32) &&& 31)))]))
  refine Go.of (fun _ q => XS.iand X2.here hx rfl (hb hby d21_52) rfl q) ?_
  obtain ⟨T3, X3, e3, st3⟩ := getS2 X2 hx hZ hown (host := "") (Or.inl (hw _ (List.mem_of_getElem? (i := 96) rfl))) Via.refl e2 (Sta.ext Od.2 Slo) (g := (mkF m 53 #[.val (.ref d), .val (.int ((x1 <<< ((1 : Int32) &&& 31)) + (1 : Int32)))] [(.int ((gd (2 * k + 1)) &&& (255 : Int32))), (.int (((gd (2 * k)) &&& (255 : Int32)) <<< ((0 : Int32) &&& 31)))])) rfl (hb hby d21_53)
  refine Go.of st3 ?_
  refine Go.of (fun _ q => XS.ishl X3.here hx rfl (hb hby d21_56) rfl q) ?_
  show Go _ _ _ _ _ _ _ (T3.setTop (mkF m 57 #[.val (.ref d), .val (.int ((x1 <<< ((1 : Int32) &&& 31)) + (1 : Int32)))] [(.int (((gd (2 * k + 1)) &&& (255 : Int32)) <<< ((8 : Int32) &&& 31))), (.int (((gd (2 * k)) &&& (255 : Int32)) <<< ((0 : Int32) &&& 31)))]))
  refine Go.of (fun _ q => XS.ior X3.here hx rfl (hb hby d21_57) rfl q) ?_
  refine Go.of (fun _ q => XS.i2c X3.here hx rfl (hb hby d21_58) rfl q) ?_
  refine Go.retN X3 hx hlk (t := .char) hret (by simp) (hb hby d21_59) (own_ngc _ _) (by decide) (by decide) ?_
  rw [e3]
  exact ⟨rfl, N0, rfl⟩
theorem pd3 : parseMethodDescriptor "(I[B)V" = some ⟨[.int, (.array .byte)], none⟩ := by decide +kernel
theorem pd4 : parseMethodDescriptor "([BI)C" = some ⟨[(.array .byte), .int], some .char⟩ := by decide +kernel
theorem d22_0 : decode jdk_52_method_83_code 0 = .ok (.iload_n 1, 1) := by decide +kernel
theorem d22_1 : decode jdk_52_method_83_code 1 = .ok (.aload_n 0, 1) := by decide +kernel
theorem d22_2 : decode jdk_52_method_83_code 2 = .ok (.invokestatic 67, 3) := by decide +kernel
theorem d22_5 : decode jdk_52_method_83_code 5 = .ok (.aload_n 0, 1) := by decide +kernel
theorem d22_6 : decode jdk_52_method_83_code 6 = .ok (.iload_n 1, 1) := by decide +kernel
theorem d22_7 : decode jdk_52_method_83_code 7 = .ok (.invokestatic 71, 3) := by decide +kernel
theorem d22_10 : decode jdk_52_method_83_code 10 = .ok (.ireturn, 1) := by decide +kernel
theorem ef_22 (m : MethodId) (d : Addr) (x1 : Int32) : entryFrame m #[(.ref d), (.int x1)] 2 = mkF m 0 #[.val (.ref d), .val (.int x1)] [] := by first | (simp [entryFrame, mkF, argsToLocals, Value.category]; done) | rfl
def Q22 (Z : State) (d : Addr) (x1 : Int32) (kd : ClassId) (gd : Nat → Int32) (nn : Nat) (k : Nat) (fm : Value) (hfm : fm.isRef = true) (h0 : Heap) (n0 : Nat) (v : Option Value) (h : Heap) (L : List Loc) : Prop := v = some (.int (own_gc (gd (2 * k)) (gd (2 * k + 1)))) ∧ Fr n0 L ∧ h = h0
set_option maxRecDepth 65536 in
set_option maxHeartbeats 40000000 in
theorem rm22 (l : Launch) (Z : State) (a0 : Array Value) (hw : ∀ d ∈ tables_1, d.before a0 Z = true) (d : Addr) (x1 : Int32) (kd : ClassId) (gd : Nat → Int32) (nn : Nat) (k : Nat) (fm : Value) (hfm : fm.isRef = true) (h0 : Heap) (n0 : Nat) (Zs : n0 ≤ h0.size) (Od : Old Z n0 h0) (A_d : AF Z h0 d kd .byte nn (fun i => .int (gd i))) (hxk : x1 = Int32.ofNat k) (hkn : k < nn / 2) (hn : nn ≤ 8) (Sfm : Sta Z Z.heap "jdk/internal/util/Preconditions" "SIOOBE_FORMATTER" "Ljava/util/function/BiFunction;" fm) (Sad : Sta Z Z.heap "java/lang/StringUTF16" "$assertionsDisabled" "Z" (.int (1 : Int32))) (Shi : Sta Z Z.heap "java/lang/StringUTF16" "HI_BYTE_SHIFT" "I" (.int (0 : Int32))) (Slo : Sta Z Z.heap "java/lang/StringUTF16" "LO_BYTE_SHIFT" "I" (.int (8 : Int32))) :
    Con l Z (⟨"java/lang/StringUTF16", "charAt", "([BI)C"⟩ : MethodName) jdk_52_method_83_code 2 (some .char) ({ frames := 3, cells := 0, slots := 0, locals := 40 } : Room) #[(.ref d), (.int x1)] h0 (Q22 Z d x1 kd gd nn k fm hfm h0 n0) := by
  refine Con.intro (plainFor_of_name pn3) (fun m => ef_22 m d x1) ?_
  intro p e s m below meth c s₁ hx hby hml0 hZ hown hnm hret hlk X0 e0
  have hml : c.maxLocals = 2 := hml0
  have N0 := Fr.nil n0
  have Kp : Keep h0 h0 [] := Keep.refl h0 _
  show Go _ _ _ _ _ _ _ (s₁.setTop (mkF m 0 #[.val (.ref d), .val (.int x1)] []))
  refine Go.of (fun _ q => XS.iloadN X0.here hx rfl (hb hby d22_0) rfl q) ?_
  refine Go.of (fun _ q => XS.aloadN X0.here hx rfl (hb hby d22_1) rfl rfl q) ?_
  refine Go.static X0 hx hZ (y := (⟨"java/lang/StringUTF16", "checkIndex", "(I[B)V"⟩ : MethodName)) (argsL := [(.int x1), (.ref d)]) hown (hw _ (List.mem_of_getElem? (i := 103) rfl)) (hw _ (List.mem_of_getElem? (i := 104) rfl)) (hw _ (List.mem_of_getElem? (i := 30) rfl)) (hw _ (List.mem_of_getElem? (i := 105) rfl)) (by decide) 0 e0 (rm23 l Z a0 hw x1 d kd gd nn k fm hfm h0 n0 Zs Od A_d hxk hkn hn Sfm) (by decide) (by decide) (by decide) (by decide) (g := (mkF m 2 #[.val (.ref d), .val (.int x1)] [(.ref d), (.int x1)])) rfl (by rw [hml]; rfl) (rest := []) (lenOf pd3 rfl) rfl (by show 2 * 0 + _ ≤ _; exact Nat.le_of_eq rfl) (hb hby d22_2) ?_
  intro T1 v1 L1 X1 q1
  obtain ⟨rfl, Nq1, e1⟩ := q1
  have N1 := Fr.app N0 Nq1
  show Go _ _ _ _ _ _ _ (T1.setTop (mkF m 5 #[.val (.ref d), .val (.int x1)] []))
  refine Go.of (fun _ q => XS.aloadN X1.here hx rfl (hb hby d22_5) rfl rfl q) ?_
  refine Go.of (fun _ q => XS.iloadN X1.here hx rfl (hb hby d22_6) rfl q) ?_
  refine Go.static X1 hx hZ (y := (⟨"java/lang/StringUTF16", "getChar", "([BI)C"⟩ : MethodName)) (argsL := [(.ref d), (.int x1)]) hown (hw _ (List.mem_of_getElem? (i := 97) rfl)) (hw _ (List.mem_of_getElem? (i := 98) rfl)) (hw _ (List.mem_of_getElem? (i := 30) rfl)) (hw _ (List.mem_of_getElem? (i := 99) rfl)) (by decide) 0 e1 (rm21 l Z a0 hw d x1 kd gd nn k h0 n0 Zs Od A_d hxk hkn hn Sad Shi Slo) (by decide) (by decide) (by decide) (by decide) (g := (mkF m 7 #[.val (.ref d), .val (.int x1)] [(.int x1), (.ref d)])) rfl (by rw [hml]; rfl) (rest := []) (lenOf pd4 rfl) rfl (by show 2 * 0 + _ ≤ _; exact Nat.le_of_eq rfl) (hb hby d22_7) ?_
  intro T2 v2 L2 X2 q2
  obtain ⟨rfl, Nq2, e2⟩ := q2
  have N2 := Fr.app N1 Nq2
  show Go _ _ _ _ _ _ _ (T2.setTop (mkF m 10 #[.val (.ref d), .val (.int x1)] [(.int (own_gc (gd (2 * k)) (gd (2 * k + 1))))]))
  refine Go.retN X2 hx hlk (t := .char) hret (by simp) (hb hby d22_10) (own_ngc _ _) (by decide) (by decide) ?_
  rw [e2]
  exact ⟨rfl, N2, rfl⟩
theorem d20_0 : decode jdk_52_method_4_code 0 = .ok (.getstatic 44, 3) := by decide +kernel
theorem d20_3 : decode jdk_52_method_4_code 3 = .ok (.ifCond .ne 25, 3) := by decide +kernel
theorem d20_28 : decode jdk_52_method_4_code 28 = .ok (.iload_n 1, 1) := by decide +kernel
theorem d20_29 : decode jdk_52_method_4_code 29 = .ok (.iconst 1, 1) := by decide +kernel
theorem d20_30 : decode jdk_52_method_4_code 30 = .ok (.ishl, 1) := by decide +kernel
theorem d20_31 : decode jdk_52_method_4_code 31 = .ok (.istore_n 1, 1) := by decide +kernel
theorem d20_32 : decode jdk_52_method_4_code 32 = .ok (.aload_n 0, 1) := by decide +kernel
theorem d20_33 : decode jdk_52_method_4_code 33 = .ok (.iload_n 1, 1) := by decide +kernel
theorem d20_34 : decode jdk_52_method_4_code 34 = .ok (.iinc 1 1, 3) := by decide +kernel
theorem d20_37 : decode jdk_52_method_4_code 37 = .ok (.iload_n 2, 1) := by decide +kernel
theorem d20_38 : decode jdk_52_method_4_code 38 = .ok (.getstatic 59, 3) := by decide +kernel
theorem d20_41 : decode jdk_52_method_4_code 41 = .ok (.ishr, 1) := by decide +kernel
theorem d20_42 : decode jdk_52_method_4_code 42 = .ok (.i2b, 1) := by decide +kernel
theorem d20_43 : decode jdk_52_method_4_code 43 = .ok (.bastore, 1) := by decide +kernel
theorem d20_44 : decode jdk_52_method_4_code 44 = .ok (.aload_n 0, 1) := by decide +kernel
theorem d20_45 : decode jdk_52_method_4_code 45 = .ok (.iload_n 1, 1) := by decide +kernel
theorem d20_46 : decode jdk_52_method_4_code 46 = .ok (.iload_n 2, 1) := by decide +kernel
theorem d20_47 : decode jdk_52_method_4_code 47 = .ok (.getstatic 63, 3) := by decide +kernel
theorem d20_50 : decode jdk_52_method_4_code 50 = .ok (.ishr, 1) := by decide +kernel
theorem d20_51 : decode jdk_52_method_4_code 51 = .ok (.i2b, 1) := by decide +kernel
theorem d20_52 : decode jdk_52_method_4_code 52 = .ok (.bastore, 1) := by decide +kernel
theorem d20_53 : decode jdk_52_method_4_code 53 = .ok (.return_, 1) := by decide +kernel
theorem ef_20 (m : MethodId) (d : Addr) (x1 : Int32) (x2 : Int32) : entryFrame m #[(.ref d), (.int x1), (.int x2)] 3 = mkF m 0 #[.val (.ref d), .val (.int x1), .val (.int x2)] [] := by first | (simp [entryFrame, mkF, argsToLocals, Value.category]; done) | rfl
def Q20 (Z : State) (d : Addr) (x1 : Int32) (x2 : Int32) (kd : ClassId) (gd : Nat → Int32) (nn : Nat) (k : Nat) (h0 : Heap) (n0 : Nat) (v : Option Value) (h : Heap) (L : List Loc) : Prop := v = none ∧ Fr n0 L ∧ Keep h0 h [d] ∧ AF Z h d kd .byte nn (fun i => .int ((upI (upI gd (2 * k) (own_lo x2)) (2 * k + 1) (own_hi x2)) i))
set_option maxRecDepth 65536 in
set_option maxHeartbeats 40000000 in
theorem rm20 (l : Launch) (Z : State) (a0 : Array Value) (hw : ∀ d ∈ tables_1, d.before a0 Z = true) (d : Addr) (x1 : Int32) (x2 : Int32) (kd : ClassId) (gd : Nat → Int32) (nn : Nat) (k : Nat) (h0 : Heap) (n0 : Nat) (Zs : n0 ≤ h0.size) (Od : Old Z n0 h0) (A_d : AF Z h0 d kd .byte nn (fun i => .int (gd i))) (g_d : n0 ≤ d) (hxk : x1 = Int32.ofNat k) (hkn : k < nn / 2) (hn : nn ≤ 8) (Sad : Sta Z Z.heap "java/lang/StringUTF16" "$assertionsDisabled" "Z" (.int (1 : Int32))) (Shi : Sta Z Z.heap "java/lang/StringUTF16" "HI_BYTE_SHIFT" "I" (.int (0 : Int32))) (Slo : Sta Z Z.heap "java/lang/StringUTF16" "LO_BYTE_SHIFT" "I" (.int (8 : Int32))) :
    Con l Z (⟨"java/lang/StringUTF16", "putChar", "([BII)V"⟩ : MethodName) jdk_52_method_4_code 3 none ({ frames := 0, cells := 0, slots := 0, locals := 0 } : Room) #[(.ref d), (.int x1), (.int x2)] h0 (Q20 Z d x1 x2 kd gd nn k h0 n0) := by
  refine Con.intro (plainFor_of_name pn3) (fun m => ef_20 m d x1 x2) ?_
  intro p e s m below meth c s₁ hx hby hml0 hZ hown hnm hret hlk X0 e0
  have hml : c.maxLocals = 3 := hml0
  have N0 := Fr.nil n0
  have Kp : Keep h0 h0 [d] := Keep.refl h0 _
  show Go _ _ _ _ _ _ _ (s₁.setTop (mkF m 0 #[.val (.ref d), .val (.int x1), .val (.int x2)] []))
  obtain ⟨T1, X1, e1, st1⟩ := getS2 X0 hx hZ hown (host := "") (Or.inl (hw _ (List.mem_of_getElem? (i := 94) rfl))) Via.refl e0 (Sta.ext Od.2 Sad) (g := (mkF m 0 #[.val (.ref d), .val (.int x1), .val (.int x2)] [])) rfl (hb hby d20_0)
  refine Go.of st1 ?_
  refine Go.of (fun _ q => XS.ifYes X1.here hx rfl (pc0 := 3) (pc' := 28) rfl (hb hby d20_3) rfl ((if0 _ _).trans (feq (by decide)).2) (by decide) (by decide) q) ?_
  refine Go.of (fun _ q => XS.iloadN X1.here hx rfl (hb hby d20_28) rfl q) ?_
  show Go _ _ _ _ _ _ _ (T1.setTop (mkF m 29 #[.val (.ref d), .val (.int x1), .val (.int x2)] [(.int x1)]))
  refine Go.of (fun _ q => XS.iconst X1.here hx rfl (hb hby d20_29) q) ?_
  refine Go.of (fun _ q => XS.ishl X1.here hx rfl (hb hby d20_30) rfl q) ?_
  refine Go.of (fun _ q => XS.istoreN X1.here hx rfl (hb hby d20_31) rfl (l' := #[.val (.ref d), .val (.int (x1 <<< ((1 : Int32) &&& 31))), .val (.int x2)]) rfl q) ?_
  show Go _ _ _ _ _ _ _ (T1.setTop (mkF m 32 #[.val (.ref d), .val (.int (x1 <<< ((1 : Int32) &&& 31))), .val (.int x2)] []))
  refine Go.of (fun _ q => XS.aloadN X1.here hx rfl (hb hby d20_32) rfl rfl q) ?_
  refine Go.of (fun _ q => XS.iloadN X1.here hx rfl (hb hby d20_33) rfl q) ?_
  refine Go.of (fun _ q => XS.iinc X1.here hx rfl (hb hby d20_34) rfl (l' := #[.val (.ref d), .val (.int ((x1 <<< ((1 : Int32) &&& 31)) + (1 : Int32))), .val (.int x2)]) rfl q) ?_
  show Go _ _ _ _ _ _ _ (T1.setTop (mkF m 37 #[.val (.ref d), .val (.int ((x1 <<< ((1 : Int32) &&& 31)) + (1 : Int32))), .val (.int x2)] [(.int (x1 <<< ((1 : Int32) &&& 31))), (.ref d)]))
  refine Go.of (fun _ q => XS.iloadN X1.here hx rfl (hb hby d20_37) rfl q) ?_
  obtain ⟨T2, X2, e2, st2⟩ := getS2 X1 hx hZ hown (host := "") (Or.inl (hw _ (List.mem_of_getElem? (i := 95) rfl))) Via.refl e1 (Sta.ext Od.2 Shi) (g := (mkF m 38 #[.val (.ref d), .val (.int ((x1 <<< ((1 : Int32) &&& 31)) + (1 : Int32))), .val (.int x2)] [(.int x2), (.int (x1 <<< ((1 : Int32) &&& 31))), (.ref d)])) rfl (hb hby d20_38)
  refine Go.of st2 ?_
  refine Go.of (fun _ q => XS.ishr X2.here hx rfl (hb hby d20_41) rfl q) ?_
  show Go _ _ _ _ _ _ _ (T2.setTop (mkF m 42 #[.val (.ref d), .val (.int ((x1 <<< ((1 : Int32) &&& 31)) + (1 : Int32))), .val (.int x2)] [(.int (x2 >>> ((0 : Int32) &&& 31))), (.int (x1 <<< ((1 : Int32) &&& 31))), (.ref d)]))
  refine Go.of (fun _ q => XS.i2b X2.here hx rfl (hb hby d20_42) rfl q) ?_
  obtain ⟨T3, h3, X3, e3, W3, A3', st3⟩ := AF.bastore A_d X2 hx hZ e2 (i := (2 * k)) (own_ix2 hxk hkn hn) (g := (mkF m 43 #[.val (.ref d), .val (.int ((x1 <<< ((1 : Int32) &&& 31)) + (1 : Int32))), .val (.int x2)] [(.int ((x2 >>> ((0 : Int32) &&& 31)).toInt8.toInt32)), (.int (x1 <<< ((1 : Int32) &&& 31))), (.ref d)])) rfl rfl (hb hby d20_43)
  refine Go.of st3 ?_
  have Zs := Nat.le_trans Zs (Nat.le_of_eq W3.size.symm)
  have Kp := Kp.wr W3 (Or.inl (List.mem_of_getElem? (i := 0) rfl))
  have Od := Od.wr W3 g_d
  have A_d : AF Z h3 d kd .byte nn (fun i => .int ((upI gd (2 * k) (((x2 >>> ((0 : Int32) &&& 31)).toInt8.toInt32).toInt8.toInt32)) i)) := A3'.toI
  have N3 := Fr.snoc X3 N0 g_d
  refine Go.of (fun _ q => XS.aloadN X3.here hx rfl (hb hby d20_44) rfl rfl q) ?_
  show Go _ _ _ _ _ _ _ (T3.setTop (mkF m 45 #[.val (.ref d), .val (.int ((x1 <<< ((1 : Int32) &&& 31)) + (1 : Int32))), .val (.int x2)] [(.ref d)]))
  refine Go.of (fun _ q => XS.iloadN X3.here hx rfl (hb hby d20_45) rfl q) ?_
  refine Go.of (fun _ q => XS.iloadN X3.here hx rfl (hb hby d20_46) rfl q) ?_
  obtain ⟨T4, X4, e4, st4⟩ := getS2 X3 hx hZ hown (host := "") (Or.inl (hw _ (List.mem_of_getElem? (i := 96) rfl))) Via.refl e3 (Sta.ext Od.2 Slo) (g := (mkF m 47 #[.val (.ref d), .val (.int ((x1 <<< ((1 : Int32) &&& 31)) + (1 : Int32))), .val (.int x2)] [(.int x2), (.int ((x1 <<< ((1 : Int32) &&& 31)) + (1 : Int32))), (.ref d)])) rfl (hb hby d20_47)
  refine Go.of st4 ?_
  show Go _ _ _ _ _ _ _ (T4.setTop (mkF m 50 #[.val (.ref d), .val (.int ((x1 <<< ((1 : Int32) &&& 31)) + (1 : Int32))), .val (.int x2)] [(.int (8 : Int32)), (.int x2), (.int ((x1 <<< ((1 : Int32) &&& 31)) + (1 : Int32))), (.ref d)]))
  refine Go.of (fun _ q => XS.ishr X4.here hx rfl (hb hby d20_50) rfl q) ?_
  refine Go.of (fun _ q => XS.i2b X4.here hx rfl (hb hby d20_51) rfl q) ?_
  obtain ⟨T5, h5, X5, e5, W5, A5', st5⟩ := AF.bastore A_d X4 hx hZ e4 (i := (2 * k + 1)) (own_ix3 hxk hkn hn) (g := (mkF m 52 #[.val (.ref d), .val (.int ((x1 <<< ((1 : Int32) &&& 31)) + (1 : Int32))), .val (.int x2)] [(.int ((x2 >>> ((8 : Int32) &&& 31)).toInt8.toInt32)), (.int ((x1 <<< ((1 : Int32) &&& 31)) + (1 : Int32))), (.ref d)])) rfl rfl (hb hby d20_52)
  refine Go.of st5 ?_
  have Zs := Nat.le_trans Zs (Nat.le_of_eq W5.size.symm)
  have Kp := Kp.wr W5 (Or.inl (List.mem_of_getElem? (i := 0) rfl))
  have Od := Od.wr W5 g_d
  have A_d : AF Z h5 d kd .byte nn (fun i => .int ((upI (upI gd (2 * k) (((x2 >>> ((0 : Int32) &&& 31)).toInt8.toInt32).toInt8.toInt32)) (2 * k + 1) (((x2 >>> ((8 : Int32) &&& 31)).toInt8.toInt32).toInt8.toInt32)) i)) := A5'.toI
  have N5 := Fr.snoc X5 N3 g_d
  show Go _ _ _ _ _ _ _ (T5.setTop (mkF m 53 #[.val (.ref d), .val (.int ((x1 <<< ((1 : Int32) &&& 31)) + (1 : Int32))), .val (.int x2)] []))
  refine Go.retV X5 hx hlk hret (hb hby d20_53) (by decide) (by decide) ?_
  rw [e5]
  exact ⟨rfl, N5, Kp, A_d⟩
theorem pd5 : parseMethodDescriptor "()Z" = some ⟨[], some .boolean⟩ := by decide +kernel
theorem d12_0 : decode jdk_42_method_56_code 0 = .ok (.aload_n 0, 1) := by decide +kernel
theorem d12_1 : decode jdk_42_method_56_code 1 = .ok (.invokevirtual 492, 3) := by decide +kernel
theorem d12_4 : decode jdk_42_method_56_code 4 = .ok (.ifCond .eq 12, 3) := by decide +kernel
theorem d12_7 : decode jdk_42_method_56_code 7 = .ok (.aload_n 0, 1) := by decide +kernel
theorem d12_8 : decode jdk_42_method_56_code 8 = .ok (.getfield 9, 3) := by decide +kernel
theorem d12_11 : decode jdk_42_method_56_code 11 = .ok (.iload_n 1, 1) := by decide +kernel
theorem d12_12 : decode jdk_42_method_56_code 12 = .ok (.invokestatic 495, 3) := by decide +kernel
theorem d12_15 : decode jdk_42_method_56_code 15 = .ok (.ireturn, 1) := by decide +kernel
theorem d12_16 : decode jdk_42_method_56_code 16 = .ok (.aload_n 0, 1) := by decide +kernel
theorem d12_17 : decode jdk_42_method_56_code 17 = .ok (.getfield 9, 3) := by decide +kernel
theorem d12_20 : decode jdk_42_method_56_code 20 = .ok (.iload_n 1, 1) := by decide +kernel
theorem d12_21 : decode jdk_42_method_56_code 21 = .ok (.invokestatic 498, 3) := by decide +kernel
theorem d12_24 : decode jdk_42_method_56_code 24 = .ok (.ireturn, 1) := by decide +kernel
theorem ef_12 (m : MethodId) (a : Addr) (x1 : Int32) : entryFrame m #[(.ref a), (.int x1)] 2 = mkF m 0 #[.val (.ref a), .val (.int x1)] [] := by first | (simp [entryFrame, mkF, argsToLocals, Value.category]; done) | rfl
def Q12 (Z : State) (a : Addr) (x1 : Int32) (n : Nat) (g : Nat → Int32) (k : Nat) (fm : Value) (hfm : fm.isRef = true) (cs : Int32) (h0 : Heap) (n0 : Nat) (v : Option Value) (h : Heap) (L : List Loc) : Prop := v = some (.int (g k)) ∧ Fr n0 L ∧ h = h0
set_option maxRecDepth 65536 in
set_option maxHeartbeats 40000000 in
theorem rm12 (l : Launch) (Z : State) (a0 : Array Value) (hw : ∀ d ∈ tables_1, d.before a0 Z = true) (a : Addr) (x1 : Int32) (n : Nat) (g : Nat → Int32) (k : Nat) (fm : Value) (hfm : fm.isRef = true) (cs : Int32) (h0 : Heap) (n0 : Nat) (Zs : n0 ≤ h0.size) (Od : Old Z n0 h0) (E_a : Exa Z h0 a "java/lang/String") (S_a : own_St Z h0 a n g) (hxk : x1 = Int32.ofNat k) (hkn : k < n) (hn : n ≤ 4) (Sfm : Sta Z Z.heap "jdk/internal/util/Preconditions" "SIOOBE_FORMATTER" "Ljava/util/function/BiFunction;" fm) (Scs : Sta Z Z.heap "java/lang/String" "COMPACT_STRINGS" "Z" (.int cs)) (hcs : ¬ cs = (0 : Int32)) (Sad : Sta Z Z.heap "java/lang/StringUTF16" "$assertionsDisabled" "Z" (.int (1 : Int32))) (Shi : Sta Z Z.heap "java/lang/StringUTF16" "HI_BYTE_SHIFT" "I" (.int (0 : Int32))) (Slo : Sta Z Z.heap "java/lang/StringUTF16" "LO_BYTE_SHIFT" "I" (.int (8 : Int32))) :
    Con l Z (⟨"java/lang/String", "charAt", "(I)C"⟩ : MethodName) jdk_42_method_56_code 2 (some .char) ({ frames := 4, cells := 0, slots := 0, locals := 53 } : Room) #[(.ref a), (.int x1)] h0 (Q12 Z a x1 n g k fm hfm cs h0 n0) := by
  refine Con.intro (plainFor_of_name pn1) (fun m => ef_12 m a x1) ?_
  intro p e s m below meth c s₁ hx hby hml0 hZ hown hnm hret hlk X0 e0
  have hml : c.maxLocals = 2 := hml0
  have N0 := Fr.nil n0
  have Kp : Keep h0 h0 [] := Keep.refl h0 _
  show Go _ _ _ _ _ _ _ (s₁.setTop (mkF m 0 #[.val (.ref a), .val (.int x1)] []))
  obtain ⟨d, kd, gd, F_a_value, ⟨F_a_coder, A_d, hg⟩ | ⟨F_a_coder, A_d, hg⟩⟩ := S_a
  · show Go _ _ _ _ _ _ _ (s₁.setTop (mkF m 0 #[.val (.ref a), .val (.int x1)] []))
    refine Go.of (fun _ q => XS.aloadN X0.here hx rfl (hb hby d12_0) rfl rfl q) ?_
    refine Go.virtual X0 hx hZ (y := (⟨"java/lang/String", "isLatin1", "()Z"⟩ : MethodName)) (z := (⟨"java/lang/String", "isLatin1", "()Z"⟩ : MethodName)) (a := a) (argsL := []) hown (hw _ (List.mem_of_getElem? (i := 62) rfl)) (hw _ (List.mem_of_getElem? (i := 63) rfl)) (notFace_of_selects (args := #[]) (mvT hZ (hw _ (List.mem_of_getElem? (i := 65) rfl)))) (hw _ (List.mem_of_getElem? (i := 65) rfl)) (hw _ (List.mem_of_getElem? (i := 64) rfl)) (hw _ (List.mem_of_getElem? (i := 7) rfl)) (hw _ (List.mem_of_getElem? (i := 66) rfl)) (by decide) 0 e0 E_a (rm13_L l Z a0 hw a cs h0 n0 Zs Od F_a_coder Scs hcs) (by decide) (by decide) (by decide) (by decide) (g := (mkF m 1 #[.val (.ref a), .val (.int x1)] [(.ref a)])) rfl (by rw [hml]; rfl) (rest := []) (lenOf pd5 rfl) rfl (by show 2 * 0 + _ ≤ _; exact Nat.le_of_eq rfl) (hb hby d12_1) ?_
    intro T1 v1 L1 X1 q1
    obtain ⟨rfl, Nq1, e1⟩ := q1
    have N1 := Fr.app N0 Nq1
    refine Go.of (fun _ q => XS.ifNo X1.here hx rfl (hb hby d12_4) rfl ((if0 _ _).trans (feq (by decide)).1) q) ?_
    show Go _ _ _ _ _ _ _ (T1.setTop (mkF m 7 #[.val (.ref a), .val (.int x1)] []))
    refine Go.of (fun _ q => XS.aloadN X1.here hx rfl (hb hby d12_7) rfl rfl q) ?_
    obtain ⟨T2, X2, e2, st2⟩ := getF X1 hx hZ hown (host := "") (Or.inl (hw _ (List.mem_of_getElem? (i := 25) rfl))) Via.refl e1 F_a_value (g := (mkF m 8 #[.val (.ref a), .val (.int x1)] [(.ref a)])) rfl rfl (hb hby d12_8)
    refine Go.of st2 ?_
    refine Go.of (fun _ q => XS.iloadN X2.here hx rfl (hb hby d12_11) rfl q) ?_
    show Go _ _ _ _ _ _ _ (T2.setTop (mkF m 12 #[.val (.ref a), .val (.int x1)] [(.int x1), (.ref d)]))
    refine Go.static X2 hx hZ (y := (⟨"java/lang/StringLatin1", "charAt", "([BI)C"⟩ : MethodName)) (argsL := [(.ref d), (.int x1)]) hown (hw _ (List.mem_of_getElem? (i := 67) rfl)) (hw _ (List.mem_of_getElem? (i := 68) rfl)) (hw _ (List.mem_of_getElem? (i := 69) rfl)) (hw _ (List.mem_of_getElem? (i := 70) rfl)) (by decide) 0 e2 (rm14 l Z a0 hw d x1 kd gd n k fm hfm h0 n0 Zs Od A_d hxk hkn (own_48 hn) Sfm) (by decide) (by decide) (by decide) (by decide) (g := (mkF m 12 #[.val (.ref a), .val (.int x1)] [(.int x1), (.ref d)])) rfl (by rw [hml]; rfl) (rest := []) (lenOf pd4 rfl) rfl (by show 2 * 0 + _ ≤ _; exact Nat.le_of_eq rfl) (hb hby d12_12) ?_
    intro T3 v3 L3 X3 q3
    obtain ⟨rfl, Nq3, e3⟩ := q3
    have N3 := Fr.app N1 Nq3
    refine Go.retN X3 hx hlk (t := .char) hret (by simp) (hb hby d12_15) (own_nc _) (by decide) (by decide) ?_
    rw [e3]
    exact ⟨(congrArg (fun z => some (Value.int z)) (hg k hkn)), N3, rfl⟩
  · refine Go.of (fun _ q => XS.aloadN X0.here hx rfl (hb hby d12_0) rfl rfl q) ?_
    show Go _ _ _ _ _ _ _ (s₁.setTop (mkF m 1 #[.val (.ref a), .val (.int x1)] [(.ref a)]))
    refine Go.virtual X0 hx hZ (y := (⟨"java/lang/String", "isLatin1", "()Z"⟩ : MethodName)) (z := (⟨"java/lang/String", "isLatin1", "()Z"⟩ : MethodName)) (a := a) (argsL := []) hown (hw _ (List.mem_of_getElem? (i := 62) rfl)) (hw _ (List.mem_of_getElem? (i := 63) rfl)) (notFace_of_selects (args := #[]) (mvT hZ (hw _ (List.mem_of_getElem? (i := 65) rfl)))) (hw _ (List.mem_of_getElem? (i := 65) rfl)) (hw _ (List.mem_of_getElem? (i := 64) rfl)) (hw _ (List.mem_of_getElem? (i := 7) rfl)) (hw _ (List.mem_of_getElem? (i := 66) rfl)) (by decide) 0 e0 E_a (rm13_U l Z a0 hw a cs h0 n0 Zs Od F_a_coder Scs hcs) (by decide) (by decide) (by decide) (by decide) (g := (mkF m 1 #[.val (.ref a), .val (.int x1)] [(.ref a)])) rfl (by rw [hml]; rfl) (rest := []) (lenOf pd5 rfl) rfl (by show 2 * 0 + _ ≤ _; exact Nat.le_of_eq rfl) (hb hby d12_1) ?_
    intro T4 v4 L4 X4 q4
    obtain ⟨rfl, Nq4, e4⟩ := q4
    have N4 := Fr.app N0 Nq4
    refine Go.of (fun _ q => XS.ifYes X4.here hx rfl (pc0 := 4) (pc' := 16) rfl (hb hby d12_4) rfl ((if0 _ _).trans (teq rfl).1) (by decide) (by decide) q) ?_
    refine Go.of (fun _ q => XS.aloadN X4.here hx rfl (hb hby d12_16) rfl rfl q) ?_
    show Go _ _ _ _ _ _ _ (T4.setTop (mkF m 17 #[.val (.ref a), .val (.int x1)] [(.ref a)]))
    obtain ⟨T5, X5, e5, st5⟩ := getF X4 hx hZ hown (host := "") (Or.inl (hw _ (List.mem_of_getElem? (i := 25) rfl))) Via.refl e4 F_a_value (g := (mkF m 17 #[.val (.ref a), .val (.int x1)] [(.ref a)])) rfl rfl (hb hby d12_17)
    refine Go.of st5 ?_
    refine Go.of (fun _ q => XS.iloadN X5.here hx rfl (hb hby d12_20) rfl q) ?_
    refine Go.static X5 hx hZ (y := (⟨"java/lang/StringUTF16", "charAt", "([BI)C"⟩ : MethodName)) (argsL := [(.ref d), (.int x1)]) hown (hw _ (List.mem_of_getElem? (i := 100) rfl)) (hw _ (List.mem_of_getElem? (i := 101) rfl)) (hw _ (List.mem_of_getElem? (i := 30) rfl)) (hw _ (List.mem_of_getElem? (i := 102) rfl)) (by decide) 0 e5 (rm22 l Z a0 hw d x1 kd gd (2 * n) k fm hfm h0 n0 Zs Od A_d hxk (own_kk hkn) (own_28 hn) Sfm Sad Shi Slo) (by decide) (by decide) (by decide) (by decide) (g := (mkF m 21 #[.val (.ref a), .val (.int x1)] [(.int x1), (.ref d)])) rfl (by rw [hml]; rfl) (rest := []) (lenOf pd4 rfl) rfl (by show 2 * 0 + _ ≤ _; exact Nat.le_of_eq rfl) (hb hby d12_21) ?_
    intro T6 v6 L6 X6 q6
    obtain ⟨rfl, Nq6, e6⟩ := q6
    have N6 := Fr.app N4 Nq6
    show Go _ _ _ _ _ _ _ (T6.setTop (mkF m 24 #[.val (.ref a), .val (.int x1)] [(.int (own_gc (gd (2 * k)) (gd (2 * k + 1))))]))
    refine Go.retN X6 hx hlk (t := .char) hret (by simp) (hb hby d12_24) (own_ngc _ _) (by decide) (by decide) ?_
    rw [e6]
    exact ⟨(congrArg (fun z => some (Value.int z)) (hg k hkn)), N6, rfl⟩
theorem pd6 : parseMethodDescriptor "()B" = some ⟨[], some .byte⟩ := by decide +kernel
theorem d10_0 : decode jdk_42_method_54_code 0 = .ok (.aload_n 0, 1) := by decide +kernel
theorem d10_1 : decode jdk_42_method_54_code 1 = .ok (.getfield 9, 3) := by decide +kernel
theorem d10_4 : decode jdk_42_method_54_code 4 = .ok (.arraylength, 1) := by decide +kernel
theorem d10_5 : decode jdk_42_method_54_code 5 = .ok (.aload_n 0, 1) := by decide +kernel
theorem d10_6 : decode jdk_42_method_54_code 6 = .ok (.invokevirtual 335, 3) := by decide +kernel
theorem d10_9 : decode jdk_42_method_54_code 9 = .ok (.ishr, 1) := by decide +kernel
theorem d10_10 : decode jdk_42_method_54_code 10 = .ok (.ireturn, 1) := by decide +kernel
theorem ef_10 (m : MethodId) (a : Addr) : entryFrame m #[(.ref a)] 1 = mkF m 0 #[.val (.ref a)] [] := by first | (simp [entryFrame, mkF, argsToLocals, Value.category]; done) | rfl
def Q10 (Z : State) (a : Addr) (n : Nat) (g : Nat → Int32) (cs : Int32) (h0 : Heap) (n0 : Nat) (v : Option Value) (h : Heap) (L : List Loc) : Prop := v = some (.int (Int32.ofNat n)) ∧ Fr n0 L ∧ h = h0
set_option maxRecDepth 65536 in
set_option maxHeartbeats 40000000 in
theorem rm10 (l : Launch) (Z : State) (a0 : Array Value) (hw : ∀ d ∈ tables_1, d.before a0 Z = true) (a : Addr) (n : Nat) (g : Nat → Int32) (cs : Int32) (h0 : Heap) (n0 : Nat) (Zs : n0 ≤ h0.size) (Od : Old Z n0 h0) (E_a : Exa Z h0 a "java/lang/String") (S_a : own_St Z h0 a n g) (hn : n ≤ 4) (Scs : Sta Z Z.heap "java/lang/String" "COMPACT_STRINGS" "Z" (.int cs)) (hcs : ¬ cs = (0 : Int32)) :
    Con l Z (⟨"java/lang/String", "length", "()I"⟩ : MethodName) jdk_42_method_54_code 1 (some .int) ({ frames := 1, cells := 0, slots := 0, locals := 13 } : Room) #[(.ref a)] h0 (Q10 Z a n g cs h0 n0) := by
  refine Con.intro (plainFor_of_name pn1) (fun m => ef_10 m a) ?_
  intro p e s m below meth c s₁ hx hby hml0 hZ hown hnm hret hlk X0 e0
  have hml : c.maxLocals = 1 := hml0
  have N0 := Fr.nil n0
  have Kp : Keep h0 h0 [] := Keep.refl h0 _
  show Go _ _ _ _ _ _ _ (s₁.setTop (mkF m 0 #[.val (.ref a)] []))
  obtain ⟨d, kd, gd, F_a_value, ⟨F_a_coder, A_d, hg⟩ | ⟨F_a_coder, A_d, hg⟩⟩ := S_a
  · show Go _ _ _ _ _ _ _ (s₁.setTop (mkF m 0 #[.val (.ref a)] []))
    refine Go.of (fun _ q => XS.aloadN X0.here hx rfl (hb hby d10_0) rfl rfl q) ?_
    obtain ⟨T1, X1, e1, st1⟩ := getF X0 hx hZ hown (host := "") (Or.inl (hw _ (List.mem_of_getElem? (i := 25) rfl))) Via.refl e0 F_a_value (g := (mkF m 1 #[.val (.ref a)] [(.ref a)])) rfl rfl (hb hby d10_1)
    refine Go.of st1 ?_
    refine Go.of (fun _ q => AF.length A_d X1 hx hZ e1 rfl (g := (mkF m 4 #[.val (.ref a)] [(.ref d)])) rfl rfl (hb hby d10_4) q) ?_
    show Go _ _ _ _ _ _ _ (T1.setTop (mkF m 5 #[.val (.ref a)] [(.int (Int32.ofNat n))]))
    refine Go.of (fun _ q => XS.aloadN X1.here hx rfl (hb hby d10_5) rfl rfl q) ?_
    refine Go.virtual X1 hx hZ (y := (⟨"java/lang/String", "coder", "()B"⟩ : MethodName)) (z := (⟨"java/lang/String", "coder", "()B"⟩ : MethodName)) (a := a) (argsL := []) hown (hw _ (List.mem_of_getElem? (i := 51) rfl)) (hw _ (List.mem_of_getElem? (i := 52) rfl)) (notFace_of_selects (args := #[]) (mvT hZ (hw _ (List.mem_of_getElem? (i := 54) rfl)))) (hw _ (List.mem_of_getElem? (i := 54) rfl)) (hw _ (List.mem_of_getElem? (i := 53) rfl)) (hw _ (List.mem_of_getElem? (i := 7) rfl)) (hw _ (List.mem_of_getElem? (i := 55) rfl)) (by decide) 1 e1 E_a (rm11_L l Z a0 hw a cs h0 n0 Zs Od F_a_coder Scs hcs) (by decide) (by decide) (by decide) (by decide) (g := (mkF m 6 #[.val (.ref a)] [(.ref a), (.int (Int32.ofNat n))])) rfl (by rw [hml]; rfl) (rest := [(.int (Int32.ofNat n))]) (lenOf pd6 rfl) rfl (by show 2 * 0 + _ ≤ _; exact Nat.le_of_eq rfl) (hb hby d10_6) ?_
    intro T2 v2 L2 X2 q2
    obtain ⟨rfl, Nq2, e2⟩ := q2
    have N2 := Fr.app N0 Nq2
    refine Go.of (fun _ q => XS.ishr X2.here hx rfl (hb hby d10_9) rfl q) ?_
    show Go _ _ _ _ _ _ _ (T2.setTop (mkF m 10 #[.val (.ref a)] [(.int ((Int32.ofNat n) >>> ((0 : Int32) &&& 31)))]))
    refine Go.retI X2 hx hlk hret (hb hby d10_10) (by decide) (by decide) ?_
    rw [e2]
    exact ⟨(congrArg (fun z => some (Value.int z)) (own_sh0 hn)), N2, rfl⟩
  · refine Go.of (fun _ q => XS.aloadN X0.here hx rfl (hb hby d10_0) rfl rfl q) ?_
    obtain ⟨T3, X3, e3, st3⟩ := getF X0 hx hZ hown (host := "") (Or.inl (hw _ (List.mem_of_getElem? (i := 25) rfl))) Via.refl e0 F_a_value (g := (mkF m 1 #[.val (.ref a)] [(.ref a)])) rfl rfl (hb hby d10_1)
    refine Go.of st3 ?_
    show Go _ _ _ _ _ _ _ (T3.setTop (mkF m 4 #[.val (.ref a)] [(.ref d)]))
    refine Go.of (fun _ q => AF.length A_d X3 hx hZ e3 rfl (g := (mkF m 4 #[.val (.ref a)] [(.ref d)])) rfl rfl (hb hby d10_4) q) ?_
    refine Go.of (fun _ q => XS.aloadN X3.here hx rfl (hb hby d10_5) rfl rfl q) ?_
    refine Go.virtual X3 hx hZ (y := (⟨"java/lang/String", "coder", "()B"⟩ : MethodName)) (z := (⟨"java/lang/String", "coder", "()B"⟩ : MethodName)) (a := a) (argsL := []) hown (hw _ (List.mem_of_getElem? (i := 51) rfl)) (hw _ (List.mem_of_getElem? (i := 52) rfl)) (notFace_of_selects (args := #[]) (mvT hZ (hw _ (List.mem_of_getElem? (i := 54) rfl)))) (hw _ (List.mem_of_getElem? (i := 54) rfl)) (hw _ (List.mem_of_getElem? (i := 53) rfl)) (hw _ (List.mem_of_getElem? (i := 7) rfl)) (hw _ (List.mem_of_getElem? (i := 55) rfl)) (by decide) 1 e3 E_a (rm11_U l Z a0 hw a cs h0 n0 Zs Od F_a_coder Scs hcs) (by decide) (by decide) (by decide) (by decide) (g := (mkF m 6 #[.val (.ref a)] [(.ref a), (.int (Int32.ofNat (2 * n)))])) rfl (by rw [hml]; rfl) (rest := [(.int (Int32.ofNat (2 * n)))]) (lenOf pd6 rfl) rfl (by show 2 * 0 + _ ≤ _; exact Nat.le_of_eq rfl) (hb hby d10_6) ?_
    intro T4 v4 L4 X4 q4
    obtain ⟨rfl, Nq4, e4⟩ := q4
    have N4 := Fr.app N0 Nq4
    show Go _ _ _ _ _ _ _ (T4.setTop (mkF m 9 #[.val (.ref a)] [(.int (1 : Int32)), (.int (Int32.ofNat (2 * n)))]))
    refine Go.of (fun _ q => XS.ishr X4.here hx rfl (hb hby d10_9) rfl q) ?_
    refine Go.retI X4 hx hlk hret (hb hby d10_10) (by decide) (by decide) ?_
    rw [e4]
    exact ⟨(congrArg (fun z => some (Value.int z)) (own_sh1 hn)), N4, rfl⟩
theorem pd7 : parseMethodDescriptor "()I" = some ⟨[], some .int⟩ := by decide +kernel
theorem d9_0 : decode prog_25_method_22_code 0 = .ok (.ldc2_w 357, 3) := by decide +kernel
theorem d9_3 : decode prog_25_method_22_code 3 = .ok (.lstore_n 1, 1) := by decide +kernel
theorem d9_4 : decode prog_25_method_22_code 4 = .ok (.iconst 0, 1) := by decide +kernel
theorem d9_5 : decode prog_25_method_22_code 5 = .ok (.istore_n 3, 1) := by decide +kernel
theorem d9_6 : decode prog_25_method_22_code 6 = .ok (.iload_n 3, 1) := by decide +kernel
theorem d9_7 : decode prog_25_method_22_code 7 = .ok (.aload_n 0, 1) := by decide +kernel
theorem d9_8 : decode prog_25_method_22_code 8 = .ok (.invokevirtual 359, 3) := by decide +kernel
theorem d9_11 : decode prog_25_method_22_code 11 = .ok (.if_icmp .ge 24, 3) := by decide +kernel
theorem d9_35 : decode prog_25_method_22_code 35 = .ok (.lload_n 1, 1) := by decide +kernel
theorem d9_36 : decode prog_25_method_22_code 36 = .ok (.lreturn, 1) := by decide +kernel
theorem pn4 : plainName "com/example/ddos_fee_ledger/ddosfeeledger/IndexRun" = true := by first | (simp [plainName, overriddenIn]; done) | decide +kernel
theorem ef_9_0 (m : MethodId) (a : Addr) : entryFrame m #[(.ref a)] 4 = mkF m 0 #[.val (.ref a), .unset, .unset, .unset] [] := by first | (simp [entryFrame, mkF, argsToLocals, Value.category]; done) | rfl
def Q9_0 (Z : State) (a : Addr) (g : Nat → Int32) (cs : Int32) (h0 : Heap) (n0 : Nat) (v : Option Value) (h : Heap) (L : List Loc) : Prop := v = some (.long (-3750763034362895579 : Int64)) ∧ Fr n0 L ∧ h = h0
set_option maxRecDepth 65536 in
set_option maxHeartbeats 40000000 in
theorem rm9_0 (l : Launch) (Z : State) (a0 : Array Value) (hw : ∀ d ∈ tables_1, d.before a0 Z = true) (a : Addr) (g : Nat → Int32) (cs : Int32) (h0 : Heap) (n0 : Nat) (Zs : n0 ≤ h0.size) (Od : Old Z n0 h0) (E_a : Exa Z h0 a "java/lang/String") (S_a : own_St Z h0 a 0 g) (Scs : Sta Z Z.heap "java/lang/String" "COMPACT_STRINGS" "Z" (.int cs)) (hcs : ¬ cs = (0 : Int32)) :
    Con l Z (⟨"com/example/ddos_fee_ledger/ddosfeeledger/IndexRun", "hash", "(Ljava/lang/String;)J"⟩ : MethodName) prog_25_method_22_code 4 (some .long) ({ frames := 2, cells := 0, slots := 0, locals := 26 } : Room) #[(.ref a)] h0 (Q9_0 Z a g cs h0 n0) := by
  refine Con.intro (plainFor_of_name pn4) (fun m => ef_9_0 m a) ?_
  intro p e s m below meth c s₁ hx hby hml0 hZ hown hnm hret hlk X0 e0
  have hml : c.maxLocals = 4 := hml0
  have N0 := Fr.nil n0
  have Kp : Keep h0 h0 [] := Keep.refl h0 _
  show Go _ _ _ _ _ _ _ (s₁.setTop (mkF m 0 #[.val (.ref a), .unset, .unset, .unset] []))
  refine Go.of (fun _ q => X0.ldc2Long hx hown (mvT hZ (hw _ (List.mem_of_getElem? (i := 45) rfl))) (g := (mkF m 0 #[.val (.ref a), .unset, .unset, .unset] [])) rfl (hb hby d9_0) _ q) ?_
  refine Go.of (fun _ q => XS.lstoreN X0.here hx rfl (hb hby d9_3) rfl (l' := #[.val (.ref a), .val (.long (-3750763034362895579 : Int64)), .second, .unset]) rfl q) ?_
  refine Go.of (fun _ q => XS.iconst X0.here hx rfl (hb hby d9_4) q) ?_
  show Go _ _ _ _ _ _ _ (s₁.setTop (mkF m 5 #[.val (.ref a), .val (.long (-3750763034362895579 : Int64)), .second, .unset] [(.int (0 : Int32))]))
  refine Go.of (fun _ q => XS.istoreN X0.here hx rfl (hb hby d9_5) rfl (l' := #[.val (.ref a), .val (.long (-3750763034362895579 : Int64)), .second, .val (.int (0 : Int32))]) rfl q) ?_
  refine Go.of (fun _ q => XS.iloadN X0.here hx rfl (hb hby d9_6) rfl q) ?_
  refine Go.of (fun _ q => XS.aloadN X0.here hx rfl (hb hby d9_7) rfl rfl q) ?_
  show Go _ _ _ _ _ _ _ (s₁.setTop (mkF m 8 #[.val (.ref a), .val (.long (-3750763034362895579 : Int64)), .second, .val (.int (0 : Int32))] [(.ref a), (.int (0 : Int32))]))
  refine Go.virtual X0 hx hZ (y := (⟨"java/lang/String", "length", "()I"⟩ : MethodName)) (z := (⟨"java/lang/String", "length", "()I"⟩ : MethodName)) (a := a) (argsL := []) hown (hw _ (List.mem_of_getElem? (i := 46) rfl)) (hw _ (List.mem_of_getElem? (i := 47) rfl)) (notFace_of_selects (args := #[]) (mvT hZ (hw _ (List.mem_of_getElem? (i := 49) rfl)))) (hw _ (List.mem_of_getElem? (i := 49) rfl)) (hw _ (List.mem_of_getElem? (i := 48) rfl)) (hw _ (List.mem_of_getElem? (i := 7) rfl)) (hw _ (List.mem_of_getElem? (i := 50) rfl)) (by decide) 1 e0 E_a (rm10 l Z a0 hw a 0 g cs h0 n0 Zs Od E_a S_a (by decide) Scs hcs) (by decide) (by decide) (by decide) (by decide) (g := (mkF m 8 #[.val (.ref a), .val (.long (-3750763034362895579 : Int64)), .second, .val (.int (0 : Int32))] [(.ref a), (.int (0 : Int32))])) rfl (by rw [hml]; rfl) (rest := [(.int (0 : Int32))]) (lenOf pd7 rfl) rfl (by show 2 * 0 + _ ≤ _; exact Nat.le_of_eq rfl) (hb hby d9_8) ?_
  intro T1 v1 L1 X1 q1
  obtain ⟨rfl, Nq1, e1⟩ := q1
  have N1 := Fr.app N0 Nq1
  refine Go.of (fun _ q => XS.icmpYes X1.here hx rfl (pc0 := 11) (pc' := 35) rfl (hb hby d9_11) rfl (flt (by decide)).2.1 (by decide) (by decide) q) ?_
  refine Go.of (fun _ q => XS.lloadN X1.here hx rfl (hb hby d9_35) rfl q) ?_
  show Go _ _ _ _ _ _ _ (T1.setTop (mkF m 36 #[.val (.ref a), .val (.long (-3750763034362895579 : Int64)), .second, .val (.int (0 : Int32))] [(.long (-3750763034362895579 : Int64))]))
  refine Go.retJ X1 hx hlk hret (hb hby d9_36) (by decide) (by decide) ?_
  rw [e1]
  exact ⟨rfl, N1, rfl⟩
theorem pd8 : parseMethodDescriptor "(I)C" = some ⟨[.int], some .char⟩ := by decide +kernel
theorem d9_14 : decode prog_25_method_22_code 14 = .ok (.lload_n 1, 1) := by decide +kernel
theorem d9_15 : decode prog_25_method_22_code 15 = .ok (.aload_n 0, 1) := by decide +kernel
theorem d9_16 : decode prog_25_method_22_code 16 = .ok (.iload_n 3, 1) := by decide +kernel
theorem d9_17 : decode prog_25_method_22_code 17 = .ok (.invokevirtual 362, 3) := by decide +kernel
theorem d9_20 : decode prog_25_method_22_code 20 = .ok (.i2l, 1) := by decide +kernel
theorem d9_21 : decode prog_25_method_22_code 21 = .ok (.lxor, 1) := by decide +kernel
theorem d9_22 : decode prog_25_method_22_code 22 = .ok (.lstore_n 1, 1) := by decide +kernel
theorem d9_23 : decode prog_25_method_22_code 23 = .ok (.lload_n 1, 1) := by decide +kernel
theorem d9_24 : decode prog_25_method_22_code 24 = .ok (.ldc2_w 366, 3) := by decide +kernel
theorem d9_27 : decode prog_25_method_22_code 27 = .ok (.lmul, 1) := by decide +kernel
theorem d9_28 : decode prog_25_method_22_code 28 = .ok (.lstore_n 1, 1) := by decide +kernel
theorem d9_29 : decode prog_25_method_22_code 29 = .ok (.iinc 3 1, 3) := by decide +kernel
theorem d9_32 : decode prog_25_method_22_code 32 = .ok (.goto (-26), 3) := by decide +kernel
theorem ef_9_1 (m : MethodId) (a : Addr) : entryFrame m #[(.ref a)] 4 = mkF m 0 #[.val (.ref a), .unset, .unset, .unset] [] := by first | (simp [entryFrame, mkF, argsToLocals, Value.category]; done) | rfl
def Q9_1 (Z : State) (a : Addr) (g : Nat → Int32) (fm : Value) (hfm : fm.isRef = true) (cs : Int32) (h0 : Heap) (n0 : Nat) (v : Option Value) (h : Heap) (L : List Loc) : Prop := v = some (.long (own_h [(g 0)])) ∧ Fr n0 L ∧ h = h0
set_option maxRecDepth 65536 in
set_option maxHeartbeats 40000000 in
theorem rm9_1 (l : Launch) (Z : State) (a0 : Array Value) (hw : ∀ d ∈ tables_1, d.before a0 Z = true) (a : Addr) (g : Nat → Int32) (fm : Value) (hfm : fm.isRef = true) (cs : Int32) (h0 : Heap) (n0 : Nat) (Zs : n0 ≤ h0.size) (Od : Old Z n0 h0) (E_a : Exa Z h0 a "java/lang/String") (S_a : own_St Z h0 a 1 g) (Scs : Sta Z Z.heap "java/lang/String" "COMPACT_STRINGS" "Z" (.int cs)) (hcs : ¬ cs = (0 : Int32)) (Sfm : Sta Z Z.heap "jdk/internal/util/Preconditions" "SIOOBE_FORMATTER" "Ljava/util/function/BiFunction;" fm) (Sad : Sta Z Z.heap "java/lang/StringUTF16" "$assertionsDisabled" "Z" (.int (1 : Int32))) (Shi : Sta Z Z.heap "java/lang/StringUTF16" "HI_BYTE_SHIFT" "I" (.int (0 : Int32))) (Slo : Sta Z Z.heap "java/lang/StringUTF16" "LO_BYTE_SHIFT" "I" (.int (8 : Int32))) :
    Con l Z (⟨"com/example/ddos_fee_ledger/ddosfeeledger/IndexRun", "hash", "(Ljava/lang/String;)J"⟩ : MethodName) prog_25_method_22_code 4 (some .long) ({ frames := 5, cells := 0, slots := 0, locals := 68 } : Room) #[(.ref a)] h0 (Q9_1 Z a g fm hfm cs h0 n0) := by
  refine Con.intro (plainFor_of_name pn4) (fun m => ef_9_1 m a) ?_
  intro p e s m below meth c s₁ hx hby hml0 hZ hown hnm hret hlk X0 e0
  have hml : c.maxLocals = 4 := hml0
  have N0 := Fr.nil n0
  have Kp : Keep h0 h0 [] := Keep.refl h0 _
  show Go _ _ _ _ _ _ _ (s₁.setTop (mkF m 0 #[.val (.ref a), .unset, .unset, .unset] []))
  refine Go.of (fun _ q => X0.ldc2Long hx hown (mvT hZ (hw _ (List.mem_of_getElem? (i := 45) rfl))) (g := (mkF m 0 #[.val (.ref a), .unset, .unset, .unset] [])) rfl (hb hby d9_0) _ q) ?_
  refine Go.of (fun _ q => XS.lstoreN X0.here hx rfl (hb hby d9_3) rfl (l' := #[.val (.ref a), .val (.long (-3750763034362895579 : Int64)), .second, .unset]) rfl q) ?_
  refine Go.of (fun _ q => XS.iconst X0.here hx rfl (hb hby d9_4) q) ?_
  show Go _ _ _ _ _ _ _ (s₁.setTop (mkF m 5 #[.val (.ref a), .val (.long (-3750763034362895579 : Int64)), .second, .unset] [(.int (0 : Int32))]))
  refine Go.of (fun _ q => XS.istoreN X0.here hx rfl (hb hby d9_5) rfl (l' := #[.val (.ref a), .val (.long (-3750763034362895579 : Int64)), .second, .val (.int (0 : Int32))]) rfl q) ?_
  refine Go.of (fun _ q => XS.iloadN X0.here hx rfl (hb hby d9_6) rfl q) ?_
  refine Go.of (fun _ q => XS.aloadN X0.here hx rfl (hb hby d9_7) rfl rfl q) ?_
  show Go _ _ _ _ _ _ _ (s₁.setTop (mkF m 8 #[.val (.ref a), .val (.long (-3750763034362895579 : Int64)), .second, .val (.int (0 : Int32))] [(.ref a), (.int (0 : Int32))]))
  refine Go.virtual X0 hx hZ (y := (⟨"java/lang/String", "length", "()I"⟩ : MethodName)) (z := (⟨"java/lang/String", "length", "()I"⟩ : MethodName)) (a := a) (argsL := []) hown (hw _ (List.mem_of_getElem? (i := 46) rfl)) (hw _ (List.mem_of_getElem? (i := 47) rfl)) (notFace_of_selects (args := #[]) (mvT hZ (hw _ (List.mem_of_getElem? (i := 49) rfl)))) (hw _ (List.mem_of_getElem? (i := 49) rfl)) (hw _ (List.mem_of_getElem? (i := 48) rfl)) (hw _ (List.mem_of_getElem? (i := 7) rfl)) (hw _ (List.mem_of_getElem? (i := 50) rfl)) (by decide) 1 e0 E_a (rm10 l Z a0 hw a 1 g cs h0 n0 Zs Od E_a S_a (by decide) Scs hcs) (by decide) (by decide) (by decide) (by decide) (g := (mkF m 8 #[.val (.ref a), .val (.long (-3750763034362895579 : Int64)), .second, .val (.int (0 : Int32))] [(.ref a), (.int (0 : Int32))])) rfl (by rw [hml]; rfl) (rest := [(.int (0 : Int32))]) (lenOf pd7 rfl) rfl (by show 2 * 0 + _ ≤ _; exact Nat.le_of_eq rfl) (hb hby d9_8) ?_
  intro T1 v1 L1 X1 q1
  obtain ⟨rfl, Nq1, e1⟩ := q1
  have N1 := Fr.app N0 Nq1
  refine Go.of (fun _ q => XS.icmpNo X1.here hx rfl (hb hby d9_11) rfl (tlt (by decide)).2.1 q) ?_
  refine Go.of (fun _ q => XS.lloadN X1.here hx rfl (hb hby d9_14) rfl q) ?_
  show Go _ _ _ _ _ _ _ (T1.setTop (mkF m 15 #[.val (.ref a), .val (.long (-3750763034362895579 : Int64)), .second, .val (.int (0 : Int32))] [(.long (-3750763034362895579 : Int64))]))
  refine Go.of (fun _ q => XS.aloadN X1.here hx rfl (hb hby d9_15) rfl rfl q) ?_
  refine Go.of (fun _ q => XS.iloadN X1.here hx rfl (hb hby d9_16) rfl q) ?_
  refine Go.virtual X1 hx hZ (y := (⟨"java/lang/String", "charAt", "(I)C"⟩ : MethodName)) (z := (⟨"java/lang/String", "charAt", "(I)C"⟩ : MethodName)) (a := a) (argsL := [(.int (0 : Int32))]) hown (hw _ (List.mem_of_getElem? (i := 57) rfl)) (hw _ (List.mem_of_getElem? (i := 58) rfl)) (notFace_of_selects (args := #[]) (mvT hZ (hw _ (List.mem_of_getElem? (i := 60) rfl)))) (hw _ (List.mem_of_getElem? (i := 60) rfl)) (hw _ (List.mem_of_getElem? (i := 59) rfl)) (hw _ (List.mem_of_getElem? (i := 7) rfl)) (hw _ (List.mem_of_getElem? (i := 61) rfl)) (by decide) 2 e1 E_a (rm12 l Z a0 hw a (0 : Int32) 1 g 0 fm hfm cs h0 n0 Zs Od E_a S_a rfl (by decide) (by decide) Sfm Scs hcs Sad Shi Slo) (by decide) (by decide) (by decide) (by decide) (g := (mkF m 17 #[.val (.ref a), .val (.long (-3750763034362895579 : Int64)), .second, .val (.int (0 : Int32))] [(.int (0 : Int32)), (.ref a), (.long (-3750763034362895579 : Int64))])) rfl (by rw [hml]; rfl) (rest := [(.long (-3750763034362895579 : Int64))]) (lenOf pd8 rfl) rfl (by show 2 * 0 + _ ≤ _; exact Nat.le_of_eq rfl) (hb hby d9_17) ?_
  intro T2 v2 L2 X2 q2
  obtain ⟨rfl, Nq2, e2⟩ := q2
  have N2 := Fr.app N1 Nq2
  show Go _ _ _ _ _ _ _ (T2.setTop (mkF m 20 #[.val (.ref a), .val (.long (-3750763034362895579 : Int64)), .second, .val (.int (0 : Int32))] [(.int (g 0)), (.long (-3750763034362895579 : Int64))]))
  refine Go.of (fun _ q => XS.i2l X2.here hx rfl (hb hby d9_20) rfl q) ?_
  refine Go.of (fun _ q => XS.lxor X2.here hx rfl (hb hby d9_21) rfl q) ?_
  refine Go.of (fun _ q => XS.lstoreN X2.here hx rfl (hb hby d9_22) rfl (l' := #[.val (.ref a), .val (.long ((-3750763034362895579 : Int64) ^^^ ((g 0).toInt64))), .second, .val (.int (0 : Int32))]) rfl q) ?_
  show Go _ _ _ _ _ _ _ (T2.setTop (mkF m 23 #[.val (.ref a), .val (.long ((-3750763034362895579 : Int64) ^^^ ((g 0).toInt64))), .second, .val (.int (0 : Int32))] []))
  refine Go.of (fun _ q => XS.lloadN X2.here hx rfl (hb hby d9_23) rfl q) ?_
  refine Go.of (fun _ q => X2.ldc2Long hx hown (mvT hZ (hw _ (List.mem_of_getElem? (i := 79) rfl))) (g := (mkF m 24 #[.val (.ref a), .val (.long ((-3750763034362895579 : Int64) ^^^ ((g 0).toInt64))), .second, .val (.int (0 : Int32))] [(.long ((-3750763034362895579 : Int64) ^^^ ((g 0).toInt64)))])) rfl (hb hby d9_24) _ q) ?_
  refine Go.of (fun _ q => XS.lmul X2.here hx rfl (hb hby d9_27) rfl q) ?_
  show Go _ _ _ _ _ _ _ (T2.setTop (mkF m 28 #[.val (.ref a), .val (.long ((-3750763034362895579 : Int64) ^^^ ((g 0).toInt64))), .second, .val (.int (0 : Int32))] [(.long (((-3750763034362895579 : Int64) ^^^ ((g 0).toInt64)) * (1099511628211 : Int64)))]))
  refine Go.of (fun _ q => XS.lstoreN X2.here hx rfl (hb hby d9_28) rfl (l' := #[.val (.ref a), .val (.long (((-3750763034362895579 : Int64) ^^^ ((g 0).toInt64)) * (1099511628211 : Int64))), .second, .val (.int (0 : Int32))]) rfl q) ?_
  refine Go.of (fun _ q => XS.iinc X2.here hx rfl (hb hby d9_29) rfl (l' := #[.val (.ref a), .val (.long (((-3750763034362895579 : Int64) ^^^ ((g 0).toInt64)) * (1099511628211 : Int64))), .second, .val (.int (1 : Int32))]) rfl q) ?_
  refine Go.of (fun _ q => XS.goto X2.here hx rfl (pc0 := 32) (pc' := 6) rfl (hb hby d9_32) (by decide) (by decide) q) ?_
  show Go _ _ _ _ _ _ _ (T2.setTop (mkF m 6 #[.val (.ref a), .val (.long (((-3750763034362895579 : Int64) ^^^ ((g 0).toInt64)) * (1099511628211 : Int64))), .second, .val (.int (1 : Int32))] []))
  refine Go.of (fun _ q => XS.iloadN X2.here hx rfl (hb hby d9_6) rfl q) ?_
  refine Go.of (fun _ q => XS.aloadN X2.here hx rfl (hb hby d9_7) rfl rfl q) ?_
  refine Go.virtual X2 hx hZ (y := (⟨"java/lang/String", "length", "()I"⟩ : MethodName)) (z := (⟨"java/lang/String", "length", "()I"⟩ : MethodName)) (a := a) (argsL := []) hown (hw _ (List.mem_of_getElem? (i := 46) rfl)) (hw _ (List.mem_of_getElem? (i := 47) rfl)) (notFace_of_selects (args := #[]) (mvT hZ (hw _ (List.mem_of_getElem? (i := 49) rfl)))) (hw _ (List.mem_of_getElem? (i := 49) rfl)) (hw _ (List.mem_of_getElem? (i := 48) rfl)) (hw _ (List.mem_of_getElem? (i := 7) rfl)) (hw _ (List.mem_of_getElem? (i := 50) rfl)) (by decide) 1 e2 E_a (rm10 l Z a0 hw a 1 g cs h0 n0 Zs Od E_a S_a (by decide) Scs hcs) (by decide) (by decide) (by decide) (by decide) (g := (mkF m 8 #[.val (.ref a), .val (.long (((-3750763034362895579 : Int64) ^^^ ((g 0).toInt64)) * (1099511628211 : Int64))), .second, .val (.int (1 : Int32))] [(.ref a), (.int (1 : Int32))])) rfl (by rw [hml]; rfl) (rest := [(.int (1 : Int32))]) (lenOf pd7 rfl) rfl (by show 2 * 0 + _ ≤ _; exact Nat.le_of_eq rfl) (hb hby d9_8) ?_
  intro T3 v3 L3 X3 q3
  obtain ⟨rfl, Nq3, e3⟩ := q3
  have N3 := Fr.app N2 Nq3
  show Go _ _ _ _ _ _ _ (T3.setTop (mkF m 11 #[.val (.ref a), .val (.long (((-3750763034362895579 : Int64) ^^^ ((g 0).toInt64)) * (1099511628211 : Int64))), .second, .val (.int (1 : Int32))] [(.int (1 : Int32)), (.int (1 : Int32))]))
  refine Go.of (fun _ q => XS.icmpYes X3.here hx rfl (pc0 := 11) (pc' := 35) rfl (hb hby d9_11) rfl (flt (by decide)).2.1 (by decide) (by decide) q) ?_
  refine Go.of (fun _ q => XS.lloadN X3.here hx rfl (hb hby d9_35) rfl q) ?_
  refine Go.retJ X3 hx hlk hret (hb hby d9_36) (by decide) (by decide) ?_
  rw [e3]
  exact ⟨rfl, N3, rfl⟩
theorem ef_9_2 (m : MethodId) (a : Addr) : entryFrame m #[(.ref a)] 4 = mkF m 0 #[.val (.ref a), .unset, .unset, .unset] [] := by first | (simp [entryFrame, mkF, argsToLocals, Value.category]; done) | rfl
def Q9_2 (Z : State) (a : Addr) (g : Nat → Int32) (fm : Value) (hfm : fm.isRef = true) (cs : Int32) (h0 : Heap) (n0 : Nat) (v : Option Value) (h : Heap) (L : List Loc) : Prop := v = some (.long (own_h [(g 0), (g 1)])) ∧ Fr n0 L ∧ h = h0
set_option maxRecDepth 65536 in
set_option maxHeartbeats 40000000 in
theorem rm9_2 (l : Launch) (Z : State) (a0 : Array Value) (hw : ∀ d ∈ tables_1, d.before a0 Z = true) (a : Addr) (g : Nat → Int32) (fm : Value) (hfm : fm.isRef = true) (cs : Int32) (h0 : Heap) (n0 : Nat) (Zs : n0 ≤ h0.size) (Od : Old Z n0 h0) (E_a : Exa Z h0 a "java/lang/String") (S_a : own_St Z h0 a 2 g) (Scs : Sta Z Z.heap "java/lang/String" "COMPACT_STRINGS" "Z" (.int cs)) (hcs : ¬ cs = (0 : Int32)) (Sfm : Sta Z Z.heap "jdk/internal/util/Preconditions" "SIOOBE_FORMATTER" "Ljava/util/function/BiFunction;" fm) (Sad : Sta Z Z.heap "java/lang/StringUTF16" "$assertionsDisabled" "Z" (.int (1 : Int32))) (Shi : Sta Z Z.heap "java/lang/StringUTF16" "HI_BYTE_SHIFT" "I" (.int (0 : Int32))) (Slo : Sta Z Z.heap "java/lang/StringUTF16" "LO_BYTE_SHIFT" "I" (.int (8 : Int32))) :
    Con l Z (⟨"com/example/ddos_fee_ledger/ddosfeeledger/IndexRun", "hash", "(Ljava/lang/String;)J"⟩ : MethodName) prog_25_method_22_code 4 (some .long) ({ frames := 5, cells := 0, slots := 0, locals := 68 } : Room) #[(.ref a)] h0 (Q9_2 Z a g fm hfm cs h0 n0) := by
  refine Con.intro (plainFor_of_name pn4) (fun m => ef_9_2 m a) ?_
  intro p e s m below meth c s₁ hx hby hml0 hZ hown hnm hret hlk X0 e0
  have hml : c.maxLocals = 4 := hml0
  have N0 := Fr.nil n0
  have Kp : Keep h0 h0 [] := Keep.refl h0 _
  show Go _ _ _ _ _ _ _ (s₁.setTop (mkF m 0 #[.val (.ref a), .unset, .unset, .unset] []))
  refine Go.of (fun _ q => X0.ldc2Long hx hown (mvT hZ (hw _ (List.mem_of_getElem? (i := 45) rfl))) (g := (mkF m 0 #[.val (.ref a), .unset, .unset, .unset] [])) rfl (hb hby d9_0) _ q) ?_
  refine Go.of (fun _ q => XS.lstoreN X0.here hx rfl (hb hby d9_3) rfl (l' := #[.val (.ref a), .val (.long (-3750763034362895579 : Int64)), .second, .unset]) rfl q) ?_
  refine Go.of (fun _ q => XS.iconst X0.here hx rfl (hb hby d9_4) q) ?_
  show Go _ _ _ _ _ _ _ (s₁.setTop (mkF m 5 #[.val (.ref a), .val (.long (-3750763034362895579 : Int64)), .second, .unset] [(.int (0 : Int32))]))
  refine Go.of (fun _ q => XS.istoreN X0.here hx rfl (hb hby d9_5) rfl (l' := #[.val (.ref a), .val (.long (-3750763034362895579 : Int64)), .second, .val (.int (0 : Int32))]) rfl q) ?_
  refine Go.of (fun _ q => XS.iloadN X0.here hx rfl (hb hby d9_6) rfl q) ?_
  refine Go.of (fun _ q => XS.aloadN X0.here hx rfl (hb hby d9_7) rfl rfl q) ?_
  show Go _ _ _ _ _ _ _ (s₁.setTop (mkF m 8 #[.val (.ref a), .val (.long (-3750763034362895579 : Int64)), .second, .val (.int (0 : Int32))] [(.ref a), (.int (0 : Int32))]))
  refine Go.virtual X0 hx hZ (y := (⟨"java/lang/String", "length", "()I"⟩ : MethodName)) (z := (⟨"java/lang/String", "length", "()I"⟩ : MethodName)) (a := a) (argsL := []) hown (hw _ (List.mem_of_getElem? (i := 46) rfl)) (hw _ (List.mem_of_getElem? (i := 47) rfl)) (notFace_of_selects (args := #[]) (mvT hZ (hw _ (List.mem_of_getElem? (i := 49) rfl)))) (hw _ (List.mem_of_getElem? (i := 49) rfl)) (hw _ (List.mem_of_getElem? (i := 48) rfl)) (hw _ (List.mem_of_getElem? (i := 7) rfl)) (hw _ (List.mem_of_getElem? (i := 50) rfl)) (by decide) 1 e0 E_a (rm10 l Z a0 hw a 2 g cs h0 n0 Zs Od E_a S_a (by decide) Scs hcs) (by decide) (by decide) (by decide) (by decide) (g := (mkF m 8 #[.val (.ref a), .val (.long (-3750763034362895579 : Int64)), .second, .val (.int (0 : Int32))] [(.ref a), (.int (0 : Int32))])) rfl (by rw [hml]; rfl) (rest := [(.int (0 : Int32))]) (lenOf pd7 rfl) rfl (by show 2 * 0 + _ ≤ _; exact Nat.le_of_eq rfl) (hb hby d9_8) ?_
  intro T1 v1 L1 X1 q1
  obtain ⟨rfl, Nq1, e1⟩ := q1
  have N1 := Fr.app N0 Nq1
  refine Go.of (fun _ q => XS.icmpNo X1.here hx rfl (hb hby d9_11) rfl (tlt (by decide)).2.1 q) ?_
  refine Go.of (fun _ q => XS.lloadN X1.here hx rfl (hb hby d9_14) rfl q) ?_
  show Go _ _ _ _ _ _ _ (T1.setTop (mkF m 15 #[.val (.ref a), .val (.long (-3750763034362895579 : Int64)), .second, .val (.int (0 : Int32))] [(.long (-3750763034362895579 : Int64))]))
  refine Go.of (fun _ q => XS.aloadN X1.here hx rfl (hb hby d9_15) rfl rfl q) ?_
  refine Go.of (fun _ q => XS.iloadN X1.here hx rfl (hb hby d9_16) rfl q) ?_
  refine Go.virtual X1 hx hZ (y := (⟨"java/lang/String", "charAt", "(I)C"⟩ : MethodName)) (z := (⟨"java/lang/String", "charAt", "(I)C"⟩ : MethodName)) (a := a) (argsL := [(.int (0 : Int32))]) hown (hw _ (List.mem_of_getElem? (i := 57) rfl)) (hw _ (List.mem_of_getElem? (i := 58) rfl)) (notFace_of_selects (args := #[]) (mvT hZ (hw _ (List.mem_of_getElem? (i := 60) rfl)))) (hw _ (List.mem_of_getElem? (i := 60) rfl)) (hw _ (List.mem_of_getElem? (i := 59) rfl)) (hw _ (List.mem_of_getElem? (i := 7) rfl)) (hw _ (List.mem_of_getElem? (i := 61) rfl)) (by decide) 2 e1 E_a (rm12 l Z a0 hw a (0 : Int32) 2 g 0 fm hfm cs h0 n0 Zs Od E_a S_a rfl (by decide) (by decide) Sfm Scs hcs Sad Shi Slo) (by decide) (by decide) (by decide) (by decide) (g := (mkF m 17 #[.val (.ref a), .val (.long (-3750763034362895579 : Int64)), .second, .val (.int (0 : Int32))] [(.int (0 : Int32)), (.ref a), (.long (-3750763034362895579 : Int64))])) rfl (by rw [hml]; rfl) (rest := [(.long (-3750763034362895579 : Int64))]) (lenOf pd8 rfl) rfl (by show 2 * 0 + _ ≤ _; exact Nat.le_of_eq rfl) (hb hby d9_17) ?_
  intro T2 v2 L2 X2 q2
  obtain ⟨rfl, Nq2, e2⟩ := q2
  have N2 := Fr.app N1 Nq2
  show Go _ _ _ _ _ _ _ (T2.setTop (mkF m 20 #[.val (.ref a), .val (.long (-3750763034362895579 : Int64)), .second, .val (.int (0 : Int32))] [(.int (g 0)), (.long (-3750763034362895579 : Int64))]))
  refine Go.of (fun _ q => XS.i2l X2.here hx rfl (hb hby d9_20) rfl q) ?_
  refine Go.of (fun _ q => XS.lxor X2.here hx rfl (hb hby d9_21) rfl q) ?_
  refine Go.of (fun _ q => XS.lstoreN X2.here hx rfl (hb hby d9_22) rfl (l' := #[.val (.ref a), .val (.long ((-3750763034362895579 : Int64) ^^^ ((g 0).toInt64))), .second, .val (.int (0 : Int32))]) rfl q) ?_
  show Go _ _ _ _ _ _ _ (T2.setTop (mkF m 23 #[.val (.ref a), .val (.long ((-3750763034362895579 : Int64) ^^^ ((g 0).toInt64))), .second, .val (.int (0 : Int32))] []))
  refine Go.of (fun _ q => XS.lloadN X2.here hx rfl (hb hby d9_23) rfl q) ?_
  refine Go.of (fun _ q => X2.ldc2Long hx hown (mvT hZ (hw _ (List.mem_of_getElem? (i := 79) rfl))) (g := (mkF m 24 #[.val (.ref a), .val (.long ((-3750763034362895579 : Int64) ^^^ ((g 0).toInt64))), .second, .val (.int (0 : Int32))] [(.long ((-3750763034362895579 : Int64) ^^^ ((g 0).toInt64)))])) rfl (hb hby d9_24) _ q) ?_
  refine Go.of (fun _ q => XS.lmul X2.here hx rfl (hb hby d9_27) rfl q) ?_
  show Go _ _ _ _ _ _ _ (T2.setTop (mkF m 28 #[.val (.ref a), .val (.long ((-3750763034362895579 : Int64) ^^^ ((g 0).toInt64))), .second, .val (.int (0 : Int32))] [(.long (((-3750763034362895579 : Int64) ^^^ ((g 0).toInt64)) * (1099511628211 : Int64)))]))
  refine Go.of (fun _ q => XS.lstoreN X2.here hx rfl (hb hby d9_28) rfl (l' := #[.val (.ref a), .val (.long (((-3750763034362895579 : Int64) ^^^ ((g 0).toInt64)) * (1099511628211 : Int64))), .second, .val (.int (0 : Int32))]) rfl q) ?_
  refine Go.of (fun _ q => XS.iinc X2.here hx rfl (hb hby d9_29) rfl (l' := #[.val (.ref a), .val (.long (((-3750763034362895579 : Int64) ^^^ ((g 0).toInt64)) * (1099511628211 : Int64))), .second, .val (.int (1 : Int32))]) rfl q) ?_
  refine Go.of (fun _ q => XS.goto X2.here hx rfl (pc0 := 32) (pc' := 6) rfl (hb hby d9_32) (by decide) (by decide) q) ?_
  show Go _ _ _ _ _ _ _ (T2.setTop (mkF m 6 #[.val (.ref a), .val (.long (((-3750763034362895579 : Int64) ^^^ ((g 0).toInt64)) * (1099511628211 : Int64))), .second, .val (.int (1 : Int32))] []))
  refine Go.of (fun _ q => XS.iloadN X2.here hx rfl (hb hby d9_6) rfl q) ?_
  refine Go.of (fun _ q => XS.aloadN X2.here hx rfl (hb hby d9_7) rfl rfl q) ?_
  refine Go.virtual X2 hx hZ (y := (⟨"java/lang/String", "length", "()I"⟩ : MethodName)) (z := (⟨"java/lang/String", "length", "()I"⟩ : MethodName)) (a := a) (argsL := []) hown (hw _ (List.mem_of_getElem? (i := 46) rfl)) (hw _ (List.mem_of_getElem? (i := 47) rfl)) (notFace_of_selects (args := #[]) (mvT hZ (hw _ (List.mem_of_getElem? (i := 49) rfl)))) (hw _ (List.mem_of_getElem? (i := 49) rfl)) (hw _ (List.mem_of_getElem? (i := 48) rfl)) (hw _ (List.mem_of_getElem? (i := 7) rfl)) (hw _ (List.mem_of_getElem? (i := 50) rfl)) (by decide) 1 e2 E_a (rm10 l Z a0 hw a 2 g cs h0 n0 Zs Od E_a S_a (by decide) Scs hcs) (by decide) (by decide) (by decide) (by decide) (g := (mkF m 8 #[.val (.ref a), .val (.long (((-3750763034362895579 : Int64) ^^^ ((g 0).toInt64)) * (1099511628211 : Int64))), .second, .val (.int (1 : Int32))] [(.ref a), (.int (1 : Int32))])) rfl (by rw [hml]; rfl) (rest := [(.int (1 : Int32))]) (lenOf pd7 rfl) rfl (by show 2 * 0 + _ ≤ _; exact Nat.le_of_eq rfl) (hb hby d9_8) ?_
  intro T3 v3 L3 X3 q3
  obtain ⟨rfl, Nq3, e3⟩ := q3
  have N3 := Fr.app N2 Nq3
  show Go _ _ _ _ _ _ _ (T3.setTop (mkF m 11 #[.val (.ref a), .val (.long (((-3750763034362895579 : Int64) ^^^ ((g 0).toInt64)) * (1099511628211 : Int64))), .second, .val (.int (1 : Int32))] [(.int (2 : Int32)), (.int (1 : Int32))]))
  refine Go.of (fun _ q => XS.icmpNo X3.here hx rfl (hb hby d9_11) rfl (tlt (by decide)).2.1 q) ?_
  refine Go.of (fun _ q => XS.lloadN X3.here hx rfl (hb hby d9_14) rfl q) ?_
  refine Go.of (fun _ q => XS.aloadN X3.here hx rfl (hb hby d9_15) rfl rfl q) ?_
  show Go _ _ _ _ _ _ _ (T3.setTop (mkF m 16 #[.val (.ref a), .val (.long (((-3750763034362895579 : Int64) ^^^ ((g 0).toInt64)) * (1099511628211 : Int64))), .second, .val (.int (1 : Int32))] [(.ref a), (.long (((-3750763034362895579 : Int64) ^^^ ((g 0).toInt64)) * (1099511628211 : Int64)))]))
  refine Go.of (fun _ q => XS.iloadN X3.here hx rfl (hb hby d9_16) rfl q) ?_
  refine Go.virtual X3 hx hZ (y := (⟨"java/lang/String", "charAt", "(I)C"⟩ : MethodName)) (z := (⟨"java/lang/String", "charAt", "(I)C"⟩ : MethodName)) (a := a) (argsL := [(.int (1 : Int32))]) hown (hw _ (List.mem_of_getElem? (i := 57) rfl)) (hw _ (List.mem_of_getElem? (i := 58) rfl)) (notFace_of_selects (args := #[]) (mvT hZ (hw _ (List.mem_of_getElem? (i := 60) rfl)))) (hw _ (List.mem_of_getElem? (i := 60) rfl)) (hw _ (List.mem_of_getElem? (i := 59) rfl)) (hw _ (List.mem_of_getElem? (i := 7) rfl)) (hw _ (List.mem_of_getElem? (i := 61) rfl)) (by decide) 2 e3 E_a (rm12 l Z a0 hw a (1 : Int32) 2 g 1 fm hfm cs h0 n0 Zs Od E_a S_a rfl (by decide) (by decide) Sfm Scs hcs Sad Shi Slo) (by decide) (by decide) (by decide) (by decide) (g := (mkF m 17 #[.val (.ref a), .val (.long (((-3750763034362895579 : Int64) ^^^ ((g 0).toInt64)) * (1099511628211 : Int64))), .second, .val (.int (1 : Int32))] [(.int (1 : Int32)), (.ref a), (.long (((-3750763034362895579 : Int64) ^^^ ((g 0).toInt64)) * (1099511628211 : Int64)))])) rfl (by rw [hml]; rfl) (rest := [(.long (((-3750763034362895579 : Int64) ^^^ ((g 0).toInt64)) * (1099511628211 : Int64)))]) (lenOf pd8 rfl) rfl (by show 2 * 0 + _ ≤ _; exact Nat.le_of_eq rfl) (hb hby d9_17) ?_
  intro T4 v4 L4 X4 q4
  obtain ⟨rfl, Nq4, e4⟩ := q4
  have N4 := Fr.app N3 Nq4
  refine Go.of (fun _ q => XS.i2l X4.here hx rfl (hb hby d9_20) rfl q) ?_
  show Go _ _ _ _ _ _ _ (T4.setTop (mkF m 21 #[.val (.ref a), .val (.long (((-3750763034362895579 : Int64) ^^^ ((g 0).toInt64)) * (1099511628211 : Int64))), .second, .val (.int (1 : Int32))] [(.long ((g 1).toInt64)), (.long (((-3750763034362895579 : Int64) ^^^ ((g 0).toInt64)) * (1099511628211 : Int64)))]))
  refine Go.of (fun _ q => XS.lxor X4.here hx rfl (hb hby d9_21) rfl q) ?_
  refine Go.of (fun _ q => XS.lstoreN X4.here hx rfl (hb hby d9_22) rfl (l' := #[.val (.ref a), .val (.long ((((-3750763034362895579 : Int64) ^^^ ((g 0).toInt64)) * (1099511628211 : Int64)) ^^^ ((g 1).toInt64))), .second, .val (.int (1 : Int32))]) rfl q) ?_
  refine Go.of (fun _ q => XS.lloadN X4.here hx rfl (hb hby d9_23) rfl q) ?_
  show Go _ _ _ _ _ _ _ (T4.setTop (mkF m 24 #[.val (.ref a), .val (.long ((((-3750763034362895579 : Int64) ^^^ ((g 0).toInt64)) * (1099511628211 : Int64)) ^^^ ((g 1).toInt64))), .second, .val (.int (1 : Int32))] [(.long ((((-3750763034362895579 : Int64) ^^^ ((g 0).toInt64)) * (1099511628211 : Int64)) ^^^ ((g 1).toInt64)))]))
  refine Go.of (fun _ q => X4.ldc2Long hx hown (mvT hZ (hw _ (List.mem_of_getElem? (i := 79) rfl))) (g := (mkF m 24 #[.val (.ref a), .val (.long ((((-3750763034362895579 : Int64) ^^^ ((g 0).toInt64)) * (1099511628211 : Int64)) ^^^ ((g 1).toInt64))), .second, .val (.int (1 : Int32))] [(.long ((((-3750763034362895579 : Int64) ^^^ ((g 0).toInt64)) * (1099511628211 : Int64)) ^^^ ((g 1).toInt64)))])) rfl (hb hby d9_24) _ q) ?_
  refine Go.of (fun _ q => XS.lmul X4.here hx rfl (hb hby d9_27) rfl q) ?_
  refine Go.of (fun _ q => XS.lstoreN X4.here hx rfl (hb hby d9_28) rfl (l' := #[.val (.ref a), .val (.long (((((-3750763034362895579 : Int64) ^^^ ((g 0).toInt64)) * (1099511628211 : Int64)) ^^^ ((g 1).toInt64)) * (1099511628211 : Int64))), .second, .val (.int (1 : Int32))]) rfl q) ?_
  show Go _ _ _ _ _ _ _ (T4.setTop (mkF m 29 #[.val (.ref a), .val (.long (((((-3750763034362895579 : Int64) ^^^ ((g 0).toInt64)) * (1099511628211 : Int64)) ^^^ ((g 1).toInt64)) * (1099511628211 : Int64))), .second, .val (.int (1 : Int32))] []))
  refine Go.of (fun _ q => XS.iinc X4.here hx rfl (hb hby d9_29) rfl (l' := #[.val (.ref a), .val (.long (((((-3750763034362895579 : Int64) ^^^ ((g 0).toInt64)) * (1099511628211 : Int64)) ^^^ ((g 1).toInt64)) * (1099511628211 : Int64))), .second, .val (.int (2 : Int32))]) rfl q) ?_
  refine Go.of (fun _ q => XS.goto X4.here hx rfl (pc0 := 32) (pc' := 6) rfl (hb hby d9_32) (by decide) (by decide) q) ?_
  refine Go.of (fun _ q => XS.iloadN X4.here hx rfl (hb hby d9_6) rfl q) ?_
  show Go _ _ _ _ _ _ _ (T4.setTop (mkF m 7 #[.val (.ref a), .val (.long (((((-3750763034362895579 : Int64) ^^^ ((g 0).toInt64)) * (1099511628211 : Int64)) ^^^ ((g 1).toInt64)) * (1099511628211 : Int64))), .second, .val (.int (2 : Int32))] [(.int (2 : Int32))]))
  refine Go.of (fun _ q => XS.aloadN X4.here hx rfl (hb hby d9_7) rfl rfl q) ?_
  refine Go.virtual X4 hx hZ (y := (⟨"java/lang/String", "length", "()I"⟩ : MethodName)) (z := (⟨"java/lang/String", "length", "()I"⟩ : MethodName)) (a := a) (argsL := []) hown (hw _ (List.mem_of_getElem? (i := 46) rfl)) (hw _ (List.mem_of_getElem? (i := 47) rfl)) (notFace_of_selects (args := #[]) (mvT hZ (hw _ (List.mem_of_getElem? (i := 49) rfl)))) (hw _ (List.mem_of_getElem? (i := 49) rfl)) (hw _ (List.mem_of_getElem? (i := 48) rfl)) (hw _ (List.mem_of_getElem? (i := 7) rfl)) (hw _ (List.mem_of_getElem? (i := 50) rfl)) (by decide) 1 e4 E_a (rm10 l Z a0 hw a 2 g cs h0 n0 Zs Od E_a S_a (by decide) Scs hcs) (by decide) (by decide) (by decide) (by decide) (g := (mkF m 8 #[.val (.ref a), .val (.long (((((-3750763034362895579 : Int64) ^^^ ((g 0).toInt64)) * (1099511628211 : Int64)) ^^^ ((g 1).toInt64)) * (1099511628211 : Int64))), .second, .val (.int (2 : Int32))] [(.ref a), (.int (2 : Int32))])) rfl (by rw [hml]; rfl) (rest := [(.int (2 : Int32))]) (lenOf pd7 rfl) rfl (by show 2 * 0 + _ ≤ _; exact Nat.le_of_eq rfl) (hb hby d9_8) ?_
  intro T5 v5 L5 X5 q5
  obtain ⟨rfl, Nq5, e5⟩ := q5
  have N5 := Fr.app N4 Nq5
  refine Go.of (fun _ q => XS.icmpYes X5.here hx rfl (pc0 := 11) (pc' := 35) rfl (hb hby d9_11) rfl (flt (by decide)).2.1 (by decide) (by decide) q) ?_
  show Go _ _ _ _ _ _ _ (T5.setTop (mkF m 35 #[.val (.ref a), .val (.long (((((-3750763034362895579 : Int64) ^^^ ((g 0).toInt64)) * (1099511628211 : Int64)) ^^^ ((g 1).toInt64)) * (1099511628211 : Int64))), .second, .val (.int (2 : Int32))] []))
  refine Go.of (fun _ q => XS.lloadN X5.here hx rfl (hb hby d9_35) rfl q) ?_
  refine Go.retJ X5 hx hlk hret (hb hby d9_36) (by decide) (by decide) ?_
  rw [e5]
  exact ⟨rfl, N5, rfl⟩
theorem ef_9_3 (m : MethodId) (a : Addr) : entryFrame m #[(.ref a)] 4 = mkF m 0 #[.val (.ref a), .unset, .unset, .unset] [] := by first | (simp [entryFrame, mkF, argsToLocals, Value.category]; done) | rfl
def Q9_3 (Z : State) (a : Addr) (g : Nat → Int32) (fm : Value) (hfm : fm.isRef = true) (cs : Int32) (h0 : Heap) (n0 : Nat) (v : Option Value) (h : Heap) (L : List Loc) : Prop := v = some (.long (own_h [(g 0), (g 1), (g 2)])) ∧ Fr n0 L ∧ h = h0
set_option maxRecDepth 65536 in
set_option maxHeartbeats 40000000 in
theorem rm9_3 (l : Launch) (Z : State) (a0 : Array Value) (hw : ∀ d ∈ tables_1, d.before a0 Z = true) (a : Addr) (g : Nat → Int32) (fm : Value) (hfm : fm.isRef = true) (cs : Int32) (h0 : Heap) (n0 : Nat) (Zs : n0 ≤ h0.size) (Od : Old Z n0 h0) (E_a : Exa Z h0 a "java/lang/String") (S_a : own_St Z h0 a 3 g) (Scs : Sta Z Z.heap "java/lang/String" "COMPACT_STRINGS" "Z" (.int cs)) (hcs : ¬ cs = (0 : Int32)) (Sfm : Sta Z Z.heap "jdk/internal/util/Preconditions" "SIOOBE_FORMATTER" "Ljava/util/function/BiFunction;" fm) (Sad : Sta Z Z.heap "java/lang/StringUTF16" "$assertionsDisabled" "Z" (.int (1 : Int32))) (Shi : Sta Z Z.heap "java/lang/StringUTF16" "HI_BYTE_SHIFT" "I" (.int (0 : Int32))) (Slo : Sta Z Z.heap "java/lang/StringUTF16" "LO_BYTE_SHIFT" "I" (.int (8 : Int32))) :
    Con l Z (⟨"com/example/ddos_fee_ledger/ddosfeeledger/IndexRun", "hash", "(Ljava/lang/String;)J"⟩ : MethodName) prog_25_method_22_code 4 (some .long) ({ frames := 5, cells := 0, slots := 0, locals := 68 } : Room) #[(.ref a)] h0 (Q9_3 Z a g fm hfm cs h0 n0) := by
  refine Con.intro (plainFor_of_name pn4) (fun m => ef_9_3 m a) ?_
  intro p e s m below meth c s₁ hx hby hml0 hZ hown hnm hret hlk X0 e0
  have hml : c.maxLocals = 4 := hml0
  have N0 := Fr.nil n0
  have Kp : Keep h0 h0 [] := Keep.refl h0 _
  show Go _ _ _ _ _ _ _ (s₁.setTop (mkF m 0 #[.val (.ref a), .unset, .unset, .unset] []))
  refine Go.of (fun _ q => X0.ldc2Long hx hown (mvT hZ (hw _ (List.mem_of_getElem? (i := 45) rfl))) (g := (mkF m 0 #[.val (.ref a), .unset, .unset, .unset] [])) rfl (hb hby d9_0) _ q) ?_
  refine Go.of (fun _ q => XS.lstoreN X0.here hx rfl (hb hby d9_3) rfl (l' := #[.val (.ref a), .val (.long (-3750763034362895579 : Int64)), .second, .unset]) rfl q) ?_
  refine Go.of (fun _ q => XS.iconst X0.here hx rfl (hb hby d9_4) q) ?_
  show Go _ _ _ _ _ _ _ (s₁.setTop (mkF m 5 #[.val (.ref a), .val (.long (-3750763034362895579 : Int64)), .second, .unset] [(.int (0 : Int32))]))
  refine Go.of (fun _ q => XS.istoreN X0.here hx rfl (hb hby d9_5) rfl (l' := #[.val (.ref a), .val (.long (-3750763034362895579 : Int64)), .second, .val (.int (0 : Int32))]) rfl q) ?_
  refine Go.of (fun _ q => XS.iloadN X0.here hx rfl (hb hby d9_6) rfl q) ?_
  refine Go.of (fun _ q => XS.aloadN X0.here hx rfl (hb hby d9_7) rfl rfl q) ?_
  show Go _ _ _ _ _ _ _ (s₁.setTop (mkF m 8 #[.val (.ref a), .val (.long (-3750763034362895579 : Int64)), .second, .val (.int (0 : Int32))] [(.ref a), (.int (0 : Int32))]))
  refine Go.virtual X0 hx hZ (y := (⟨"java/lang/String", "length", "()I"⟩ : MethodName)) (z := (⟨"java/lang/String", "length", "()I"⟩ : MethodName)) (a := a) (argsL := []) hown (hw _ (List.mem_of_getElem? (i := 46) rfl)) (hw _ (List.mem_of_getElem? (i := 47) rfl)) (notFace_of_selects (args := #[]) (mvT hZ (hw _ (List.mem_of_getElem? (i := 49) rfl)))) (hw _ (List.mem_of_getElem? (i := 49) rfl)) (hw _ (List.mem_of_getElem? (i := 48) rfl)) (hw _ (List.mem_of_getElem? (i := 7) rfl)) (hw _ (List.mem_of_getElem? (i := 50) rfl)) (by decide) 1 e0 E_a (rm10 l Z a0 hw a 3 g cs h0 n0 Zs Od E_a S_a (by decide) Scs hcs) (by decide) (by decide) (by decide) (by decide) (g := (mkF m 8 #[.val (.ref a), .val (.long (-3750763034362895579 : Int64)), .second, .val (.int (0 : Int32))] [(.ref a), (.int (0 : Int32))])) rfl (by rw [hml]; rfl) (rest := [(.int (0 : Int32))]) (lenOf pd7 rfl) rfl (by show 2 * 0 + _ ≤ _; exact Nat.le_of_eq rfl) (hb hby d9_8) ?_
  intro T1 v1 L1 X1 q1
  obtain ⟨rfl, Nq1, e1⟩ := q1
  have N1 := Fr.app N0 Nq1
  refine Go.of (fun _ q => XS.icmpNo X1.here hx rfl (hb hby d9_11) rfl (tlt (by decide)).2.1 q) ?_
  refine Go.of (fun _ q => XS.lloadN X1.here hx rfl (hb hby d9_14) rfl q) ?_
  show Go _ _ _ _ _ _ _ (T1.setTop (mkF m 15 #[.val (.ref a), .val (.long (-3750763034362895579 : Int64)), .second, .val (.int (0 : Int32))] [(.long (-3750763034362895579 : Int64))]))
  refine Go.of (fun _ q => XS.aloadN X1.here hx rfl (hb hby d9_15) rfl rfl q) ?_
  refine Go.of (fun _ q => XS.iloadN X1.here hx rfl (hb hby d9_16) rfl q) ?_
  refine Go.virtual X1 hx hZ (y := (⟨"java/lang/String", "charAt", "(I)C"⟩ : MethodName)) (z := (⟨"java/lang/String", "charAt", "(I)C"⟩ : MethodName)) (a := a) (argsL := [(.int (0 : Int32))]) hown (hw _ (List.mem_of_getElem? (i := 57) rfl)) (hw _ (List.mem_of_getElem? (i := 58) rfl)) (notFace_of_selects (args := #[]) (mvT hZ (hw _ (List.mem_of_getElem? (i := 60) rfl)))) (hw _ (List.mem_of_getElem? (i := 60) rfl)) (hw _ (List.mem_of_getElem? (i := 59) rfl)) (hw _ (List.mem_of_getElem? (i := 7) rfl)) (hw _ (List.mem_of_getElem? (i := 61) rfl)) (by decide) 2 e1 E_a (rm12 l Z a0 hw a (0 : Int32) 3 g 0 fm hfm cs h0 n0 Zs Od E_a S_a rfl (by decide) (by decide) Sfm Scs hcs Sad Shi Slo) (by decide) (by decide) (by decide) (by decide) (g := (mkF m 17 #[.val (.ref a), .val (.long (-3750763034362895579 : Int64)), .second, .val (.int (0 : Int32))] [(.int (0 : Int32)), (.ref a), (.long (-3750763034362895579 : Int64))])) rfl (by rw [hml]; rfl) (rest := [(.long (-3750763034362895579 : Int64))]) (lenOf pd8 rfl) rfl (by show 2 * 0 + _ ≤ _; exact Nat.le_of_eq rfl) (hb hby d9_17) ?_
  intro T2 v2 L2 X2 q2
  obtain ⟨rfl, Nq2, e2⟩ := q2
  have N2 := Fr.app N1 Nq2
  show Go _ _ _ _ _ _ _ (T2.setTop (mkF m 20 #[.val (.ref a), .val (.long (-3750763034362895579 : Int64)), .second, .val (.int (0 : Int32))] [(.int (g 0)), (.long (-3750763034362895579 : Int64))]))
  refine Go.of (fun _ q => XS.i2l X2.here hx rfl (hb hby d9_20) rfl q) ?_
  refine Go.of (fun _ q => XS.lxor X2.here hx rfl (hb hby d9_21) rfl q) ?_
  refine Go.of (fun _ q => XS.lstoreN X2.here hx rfl (hb hby d9_22) rfl (l' := #[.val (.ref a), .val (.long ((-3750763034362895579 : Int64) ^^^ ((g 0).toInt64))), .second, .val (.int (0 : Int32))]) rfl q) ?_
  show Go _ _ _ _ _ _ _ (T2.setTop (mkF m 23 #[.val (.ref a), .val (.long ((-3750763034362895579 : Int64) ^^^ ((g 0).toInt64))), .second, .val (.int (0 : Int32))] []))
  refine Go.of (fun _ q => XS.lloadN X2.here hx rfl (hb hby d9_23) rfl q) ?_
  refine Go.of (fun _ q => X2.ldc2Long hx hown (mvT hZ (hw _ (List.mem_of_getElem? (i := 79) rfl))) (g := (mkF m 24 #[.val (.ref a), .val (.long ((-3750763034362895579 : Int64) ^^^ ((g 0).toInt64))), .second, .val (.int (0 : Int32))] [(.long ((-3750763034362895579 : Int64) ^^^ ((g 0).toInt64)))])) rfl (hb hby d9_24) _ q) ?_
  refine Go.of (fun _ q => XS.lmul X2.here hx rfl (hb hby d9_27) rfl q) ?_
  show Go _ _ _ _ _ _ _ (T2.setTop (mkF m 28 #[.val (.ref a), .val (.long ((-3750763034362895579 : Int64) ^^^ ((g 0).toInt64))), .second, .val (.int (0 : Int32))] [(.long (((-3750763034362895579 : Int64) ^^^ ((g 0).toInt64)) * (1099511628211 : Int64)))]))
  refine Go.of (fun _ q => XS.lstoreN X2.here hx rfl (hb hby d9_28) rfl (l' := #[.val (.ref a), .val (.long (((-3750763034362895579 : Int64) ^^^ ((g 0).toInt64)) * (1099511628211 : Int64))), .second, .val (.int (0 : Int32))]) rfl q) ?_
  refine Go.of (fun _ q => XS.iinc X2.here hx rfl (hb hby d9_29) rfl (l' := #[.val (.ref a), .val (.long (((-3750763034362895579 : Int64) ^^^ ((g 0).toInt64)) * (1099511628211 : Int64))), .second, .val (.int (1 : Int32))]) rfl q) ?_
  refine Go.of (fun _ q => XS.goto X2.here hx rfl (pc0 := 32) (pc' := 6) rfl (hb hby d9_32) (by decide) (by decide) q) ?_
  show Go _ _ _ _ _ _ _ (T2.setTop (mkF m 6 #[.val (.ref a), .val (.long (((-3750763034362895579 : Int64) ^^^ ((g 0).toInt64)) * (1099511628211 : Int64))), .second, .val (.int (1 : Int32))] []))
  refine Go.of (fun _ q => XS.iloadN X2.here hx rfl (hb hby d9_6) rfl q) ?_
  refine Go.of (fun _ q => XS.aloadN X2.here hx rfl (hb hby d9_7) rfl rfl q) ?_
  refine Go.virtual X2 hx hZ (y := (⟨"java/lang/String", "length", "()I"⟩ : MethodName)) (z := (⟨"java/lang/String", "length", "()I"⟩ : MethodName)) (a := a) (argsL := []) hown (hw _ (List.mem_of_getElem? (i := 46) rfl)) (hw _ (List.mem_of_getElem? (i := 47) rfl)) (notFace_of_selects (args := #[]) (mvT hZ (hw _ (List.mem_of_getElem? (i := 49) rfl)))) (hw _ (List.mem_of_getElem? (i := 49) rfl)) (hw _ (List.mem_of_getElem? (i := 48) rfl)) (hw _ (List.mem_of_getElem? (i := 7) rfl)) (hw _ (List.mem_of_getElem? (i := 50) rfl)) (by decide) 1 e2 E_a (rm10 l Z a0 hw a 3 g cs h0 n0 Zs Od E_a S_a (by decide) Scs hcs) (by decide) (by decide) (by decide) (by decide) (g := (mkF m 8 #[.val (.ref a), .val (.long (((-3750763034362895579 : Int64) ^^^ ((g 0).toInt64)) * (1099511628211 : Int64))), .second, .val (.int (1 : Int32))] [(.ref a), (.int (1 : Int32))])) rfl (by rw [hml]; rfl) (rest := [(.int (1 : Int32))]) (lenOf pd7 rfl) rfl (by show 2 * 0 + _ ≤ _; exact Nat.le_of_eq rfl) (hb hby d9_8) ?_
  intro T3 v3 L3 X3 q3
  obtain ⟨rfl, Nq3, e3⟩ := q3
  have N3 := Fr.app N2 Nq3
  show Go _ _ _ _ _ _ _ (T3.setTop (mkF m 11 #[.val (.ref a), .val (.long (((-3750763034362895579 : Int64) ^^^ ((g 0).toInt64)) * (1099511628211 : Int64))), .second, .val (.int (1 : Int32))] [(.int (3 : Int32)), (.int (1 : Int32))]))
  refine Go.of (fun _ q => XS.icmpNo X3.here hx rfl (hb hby d9_11) rfl (tlt (by decide)).2.1 q) ?_
  refine Go.of (fun _ q => XS.lloadN X3.here hx rfl (hb hby d9_14) rfl q) ?_
  refine Go.of (fun _ q => XS.aloadN X3.here hx rfl (hb hby d9_15) rfl rfl q) ?_
  show Go _ _ _ _ _ _ _ (T3.setTop (mkF m 16 #[.val (.ref a), .val (.long (((-3750763034362895579 : Int64) ^^^ ((g 0).toInt64)) * (1099511628211 : Int64))), .second, .val (.int (1 : Int32))] [(.ref a), (.long (((-3750763034362895579 : Int64) ^^^ ((g 0).toInt64)) * (1099511628211 : Int64)))]))
  refine Go.of (fun _ q => XS.iloadN X3.here hx rfl (hb hby d9_16) rfl q) ?_
  refine Go.virtual X3 hx hZ (y := (⟨"java/lang/String", "charAt", "(I)C"⟩ : MethodName)) (z := (⟨"java/lang/String", "charAt", "(I)C"⟩ : MethodName)) (a := a) (argsL := [(.int (1 : Int32))]) hown (hw _ (List.mem_of_getElem? (i := 57) rfl)) (hw _ (List.mem_of_getElem? (i := 58) rfl)) (notFace_of_selects (args := #[]) (mvT hZ (hw _ (List.mem_of_getElem? (i := 60) rfl)))) (hw _ (List.mem_of_getElem? (i := 60) rfl)) (hw _ (List.mem_of_getElem? (i := 59) rfl)) (hw _ (List.mem_of_getElem? (i := 7) rfl)) (hw _ (List.mem_of_getElem? (i := 61) rfl)) (by decide) 2 e3 E_a (rm12 l Z a0 hw a (1 : Int32) 3 g 1 fm hfm cs h0 n0 Zs Od E_a S_a rfl (by decide) (by decide) Sfm Scs hcs Sad Shi Slo) (by decide) (by decide) (by decide) (by decide) (g := (mkF m 17 #[.val (.ref a), .val (.long (((-3750763034362895579 : Int64) ^^^ ((g 0).toInt64)) * (1099511628211 : Int64))), .second, .val (.int (1 : Int32))] [(.int (1 : Int32)), (.ref a), (.long (((-3750763034362895579 : Int64) ^^^ ((g 0).toInt64)) * (1099511628211 : Int64)))])) rfl (by rw [hml]; rfl) (rest := [(.long (((-3750763034362895579 : Int64) ^^^ ((g 0).toInt64)) * (1099511628211 : Int64)))]) (lenOf pd8 rfl) rfl (by show 2 * 0 + _ ≤ _; exact Nat.le_of_eq rfl) (hb hby d9_17) ?_
  intro T4 v4 L4 X4 q4
  obtain ⟨rfl, Nq4, e4⟩ := q4
  have N4 := Fr.app N3 Nq4
  refine Go.of (fun _ q => XS.i2l X4.here hx rfl (hb hby d9_20) rfl q) ?_
  show Go _ _ _ _ _ _ _ (T4.setTop (mkF m 21 #[.val (.ref a), .val (.long (((-3750763034362895579 : Int64) ^^^ ((g 0).toInt64)) * (1099511628211 : Int64))), .second, .val (.int (1 : Int32))] [(.long ((g 1).toInt64)), (.long (((-3750763034362895579 : Int64) ^^^ ((g 0).toInt64)) * (1099511628211 : Int64)))]))
  refine Go.of (fun _ q => XS.lxor X4.here hx rfl (hb hby d9_21) rfl q) ?_
  refine Go.of (fun _ q => XS.lstoreN X4.here hx rfl (hb hby d9_22) rfl (l' := #[.val (.ref a), .val (.long ((((-3750763034362895579 : Int64) ^^^ ((g 0).toInt64)) * (1099511628211 : Int64)) ^^^ ((g 1).toInt64))), .second, .val (.int (1 : Int32))]) rfl q) ?_
  refine Go.of (fun _ q => XS.lloadN X4.here hx rfl (hb hby d9_23) rfl q) ?_
  show Go _ _ _ _ _ _ _ (T4.setTop (mkF m 24 #[.val (.ref a), .val (.long ((((-3750763034362895579 : Int64) ^^^ ((g 0).toInt64)) * (1099511628211 : Int64)) ^^^ ((g 1).toInt64))), .second, .val (.int (1 : Int32))] [(.long ((((-3750763034362895579 : Int64) ^^^ ((g 0).toInt64)) * (1099511628211 : Int64)) ^^^ ((g 1).toInt64)))]))
  refine Go.of (fun _ q => X4.ldc2Long hx hown (mvT hZ (hw _ (List.mem_of_getElem? (i := 79) rfl))) (g := (mkF m 24 #[.val (.ref a), .val (.long ((((-3750763034362895579 : Int64) ^^^ ((g 0).toInt64)) * (1099511628211 : Int64)) ^^^ ((g 1).toInt64))), .second, .val (.int (1 : Int32))] [(.long ((((-3750763034362895579 : Int64) ^^^ ((g 0).toInt64)) * (1099511628211 : Int64)) ^^^ ((g 1).toInt64)))])) rfl (hb hby d9_24) _ q) ?_
  refine Go.of (fun _ q => XS.lmul X4.here hx rfl (hb hby d9_27) rfl q) ?_
  refine Go.of (fun _ q => XS.lstoreN X4.here hx rfl (hb hby d9_28) rfl (l' := #[.val (.ref a), .val (.long (((((-3750763034362895579 : Int64) ^^^ ((g 0).toInt64)) * (1099511628211 : Int64)) ^^^ ((g 1).toInt64)) * (1099511628211 : Int64))), .second, .val (.int (1 : Int32))]) rfl q) ?_
  show Go _ _ _ _ _ _ _ (T4.setTop (mkF m 29 #[.val (.ref a), .val (.long (((((-3750763034362895579 : Int64) ^^^ ((g 0).toInt64)) * (1099511628211 : Int64)) ^^^ ((g 1).toInt64)) * (1099511628211 : Int64))), .second, .val (.int (1 : Int32))] []))
  refine Go.of (fun _ q => XS.iinc X4.here hx rfl (hb hby d9_29) rfl (l' := #[.val (.ref a), .val (.long (((((-3750763034362895579 : Int64) ^^^ ((g 0).toInt64)) * (1099511628211 : Int64)) ^^^ ((g 1).toInt64)) * (1099511628211 : Int64))), .second, .val (.int (2 : Int32))]) rfl q) ?_
  refine Go.of (fun _ q => XS.goto X4.here hx rfl (pc0 := 32) (pc' := 6) rfl (hb hby d9_32) (by decide) (by decide) q) ?_
  refine Go.of (fun _ q => XS.iloadN X4.here hx rfl (hb hby d9_6) rfl q) ?_
  show Go _ _ _ _ _ _ _ (T4.setTop (mkF m 7 #[.val (.ref a), .val (.long (((((-3750763034362895579 : Int64) ^^^ ((g 0).toInt64)) * (1099511628211 : Int64)) ^^^ ((g 1).toInt64)) * (1099511628211 : Int64))), .second, .val (.int (2 : Int32))] [(.int (2 : Int32))]))
  refine Go.of (fun _ q => XS.aloadN X4.here hx rfl (hb hby d9_7) rfl rfl q) ?_
  refine Go.virtual X4 hx hZ (y := (⟨"java/lang/String", "length", "()I"⟩ : MethodName)) (z := (⟨"java/lang/String", "length", "()I"⟩ : MethodName)) (a := a) (argsL := []) hown (hw _ (List.mem_of_getElem? (i := 46) rfl)) (hw _ (List.mem_of_getElem? (i := 47) rfl)) (notFace_of_selects (args := #[]) (mvT hZ (hw _ (List.mem_of_getElem? (i := 49) rfl)))) (hw _ (List.mem_of_getElem? (i := 49) rfl)) (hw _ (List.mem_of_getElem? (i := 48) rfl)) (hw _ (List.mem_of_getElem? (i := 7) rfl)) (hw _ (List.mem_of_getElem? (i := 50) rfl)) (by decide) 1 e4 E_a (rm10 l Z a0 hw a 3 g cs h0 n0 Zs Od E_a S_a (by decide) Scs hcs) (by decide) (by decide) (by decide) (by decide) (g := (mkF m 8 #[.val (.ref a), .val (.long (((((-3750763034362895579 : Int64) ^^^ ((g 0).toInt64)) * (1099511628211 : Int64)) ^^^ ((g 1).toInt64)) * (1099511628211 : Int64))), .second, .val (.int (2 : Int32))] [(.ref a), (.int (2 : Int32))])) rfl (by rw [hml]; rfl) (rest := [(.int (2 : Int32))]) (lenOf pd7 rfl) rfl (by show 2 * 0 + _ ≤ _; exact Nat.le_of_eq rfl) (hb hby d9_8) ?_
  intro T5 v5 L5 X5 q5
  obtain ⟨rfl, Nq5, e5⟩ := q5
  have N5 := Fr.app N4 Nq5
  refine Go.of (fun _ q => XS.icmpNo X5.here hx rfl (hb hby d9_11) rfl (tlt (by decide)).2.1 q) ?_
  show Go _ _ _ _ _ _ _ (T5.setTop (mkF m 14 #[.val (.ref a), .val (.long (((((-3750763034362895579 : Int64) ^^^ ((g 0).toInt64)) * (1099511628211 : Int64)) ^^^ ((g 1).toInt64)) * (1099511628211 : Int64))), .second, .val (.int (2 : Int32))] []))
  refine Go.of (fun _ q => XS.lloadN X5.here hx rfl (hb hby d9_14) rfl q) ?_
  refine Go.of (fun _ q => XS.aloadN X5.here hx rfl (hb hby d9_15) rfl rfl q) ?_
  refine Go.of (fun _ q => XS.iloadN X5.here hx rfl (hb hby d9_16) rfl q) ?_
  show Go _ _ _ _ _ _ _ (T5.setTop (mkF m 17 #[.val (.ref a), .val (.long (((((-3750763034362895579 : Int64) ^^^ ((g 0).toInt64)) * (1099511628211 : Int64)) ^^^ ((g 1).toInt64)) * (1099511628211 : Int64))), .second, .val (.int (2 : Int32))] [(.int (2 : Int32)), (.ref a), (.long (((((-3750763034362895579 : Int64) ^^^ ((g 0).toInt64)) * (1099511628211 : Int64)) ^^^ ((g 1).toInt64)) * (1099511628211 : Int64)))]))
  refine Go.virtual X5 hx hZ (y := (⟨"java/lang/String", "charAt", "(I)C"⟩ : MethodName)) (z := (⟨"java/lang/String", "charAt", "(I)C"⟩ : MethodName)) (a := a) (argsL := [(.int (2 : Int32))]) hown (hw _ (List.mem_of_getElem? (i := 57) rfl)) (hw _ (List.mem_of_getElem? (i := 58) rfl)) (notFace_of_selects (args := #[]) (mvT hZ (hw _ (List.mem_of_getElem? (i := 60) rfl)))) (hw _ (List.mem_of_getElem? (i := 60) rfl)) (hw _ (List.mem_of_getElem? (i := 59) rfl)) (hw _ (List.mem_of_getElem? (i := 7) rfl)) (hw _ (List.mem_of_getElem? (i := 61) rfl)) (by decide) 2 e5 E_a (rm12 l Z a0 hw a (2 : Int32) 3 g 2 fm hfm cs h0 n0 Zs Od E_a S_a rfl (by decide) (by decide) Sfm Scs hcs Sad Shi Slo) (by decide) (by decide) (by decide) (by decide) (g := (mkF m 17 #[.val (.ref a), .val (.long (((((-3750763034362895579 : Int64) ^^^ ((g 0).toInt64)) * (1099511628211 : Int64)) ^^^ ((g 1).toInt64)) * (1099511628211 : Int64))), .second, .val (.int (2 : Int32))] [(.int (2 : Int32)), (.ref a), (.long (((((-3750763034362895579 : Int64) ^^^ ((g 0).toInt64)) * (1099511628211 : Int64)) ^^^ ((g 1).toInt64)) * (1099511628211 : Int64)))])) rfl (by rw [hml]; rfl) (rest := [(.long (((((-3750763034362895579 : Int64) ^^^ ((g 0).toInt64)) * (1099511628211 : Int64)) ^^^ ((g 1).toInt64)) * (1099511628211 : Int64)))]) (lenOf pd8 rfl) rfl (by show 2 * 0 + _ ≤ _; exact Nat.le_of_eq rfl) (hb hby d9_17) ?_
  intro T6 v6 L6 X6 q6
  obtain ⟨rfl, Nq6, e6⟩ := q6
  have N6 := Fr.app N5 Nq6
  refine Go.of (fun _ q => XS.i2l X6.here hx rfl (hb hby d9_20) rfl q) ?_
  refine Go.of (fun _ q => XS.lxor X6.here hx rfl (hb hby d9_21) rfl q) ?_
  show Go _ _ _ _ _ _ _ (T6.setTop (mkF m 22 #[.val (.ref a), .val (.long (((((-3750763034362895579 : Int64) ^^^ ((g 0).toInt64)) * (1099511628211 : Int64)) ^^^ ((g 1).toInt64)) * (1099511628211 : Int64))), .second, .val (.int (2 : Int32))] [(.long ((((((-3750763034362895579 : Int64) ^^^ ((g 0).toInt64)) * (1099511628211 : Int64)) ^^^ ((g 1).toInt64)) * (1099511628211 : Int64)) ^^^ ((g 2).toInt64)))]))
  refine Go.of (fun _ q => XS.lstoreN X6.here hx rfl (hb hby d9_22) rfl (l' := #[.val (.ref a), .val (.long ((((((-3750763034362895579 : Int64) ^^^ ((g 0).toInt64)) * (1099511628211 : Int64)) ^^^ ((g 1).toInt64)) * (1099511628211 : Int64)) ^^^ ((g 2).toInt64))), .second, .val (.int (2 : Int32))]) rfl q) ?_
  refine Go.of (fun _ q => XS.lloadN X6.here hx rfl (hb hby d9_23) rfl q) ?_
  refine Go.of (fun _ q => X6.ldc2Long hx hown (mvT hZ (hw _ (List.mem_of_getElem? (i := 79) rfl))) (g := (mkF m 24 #[.val (.ref a), .val (.long ((((((-3750763034362895579 : Int64) ^^^ ((g 0).toInt64)) * (1099511628211 : Int64)) ^^^ ((g 1).toInt64)) * (1099511628211 : Int64)) ^^^ ((g 2).toInt64))), .second, .val (.int (2 : Int32))] [(.long ((((((-3750763034362895579 : Int64) ^^^ ((g 0).toInt64)) * (1099511628211 : Int64)) ^^^ ((g 1).toInt64)) * (1099511628211 : Int64)) ^^^ ((g 2).toInt64)))])) rfl (hb hby d9_24) _ q) ?_
  show Go _ _ _ _ _ _ _ (T6.setTop (mkF m 27 #[.val (.ref a), .val (.long ((((((-3750763034362895579 : Int64) ^^^ ((g 0).toInt64)) * (1099511628211 : Int64)) ^^^ ((g 1).toInt64)) * (1099511628211 : Int64)) ^^^ ((g 2).toInt64))), .second, .val (.int (2 : Int32))] [(.long (1099511628211 : Int64)), (.long ((((((-3750763034362895579 : Int64) ^^^ ((g 0).toInt64)) * (1099511628211 : Int64)) ^^^ ((g 1).toInt64)) * (1099511628211 : Int64)) ^^^ ((g 2).toInt64)))]))
  refine Go.of (fun _ q => XS.lmul X6.here hx rfl (hb hby d9_27) rfl q) ?_
  refine Go.of (fun _ q => XS.lstoreN X6.here hx rfl (hb hby d9_28) rfl (l' := #[.val (.ref a), .val (.long (((((((-3750763034362895579 : Int64) ^^^ ((g 0).toInt64)) * (1099511628211 : Int64)) ^^^ ((g 1).toInt64)) * (1099511628211 : Int64)) ^^^ ((g 2).toInt64)) * (1099511628211 : Int64))), .second, .val (.int (2 : Int32))]) rfl q) ?_
  refine Go.of (fun _ q => XS.iinc X6.here hx rfl (hb hby d9_29) rfl (l' := #[.val (.ref a), .val (.long (((((((-3750763034362895579 : Int64) ^^^ ((g 0).toInt64)) * (1099511628211 : Int64)) ^^^ ((g 1).toInt64)) * (1099511628211 : Int64)) ^^^ ((g 2).toInt64)) * (1099511628211 : Int64))), .second, .val (.int (3 : Int32))]) rfl q) ?_
  show Go _ _ _ _ _ _ _ (T6.setTop (mkF m 32 #[.val (.ref a), .val (.long (((((((-3750763034362895579 : Int64) ^^^ ((g 0).toInt64)) * (1099511628211 : Int64)) ^^^ ((g 1).toInt64)) * (1099511628211 : Int64)) ^^^ ((g 2).toInt64)) * (1099511628211 : Int64))), .second, .val (.int (3 : Int32))] []))
  refine Go.of (fun _ q => XS.goto X6.here hx rfl (pc0 := 32) (pc' := 6) rfl (hb hby d9_32) (by decide) (by decide) q) ?_
  refine Go.of (fun _ q => XS.iloadN X6.here hx rfl (hb hby d9_6) rfl q) ?_
  refine Go.of (fun _ q => XS.aloadN X6.here hx rfl (hb hby d9_7) rfl rfl q) ?_
  show Go _ _ _ _ _ _ _ (T6.setTop (mkF m 8 #[.val (.ref a), .val (.long (((((((-3750763034362895579 : Int64) ^^^ ((g 0).toInt64)) * (1099511628211 : Int64)) ^^^ ((g 1).toInt64)) * (1099511628211 : Int64)) ^^^ ((g 2).toInt64)) * (1099511628211 : Int64))), .second, .val (.int (3 : Int32))] [(.ref a), (.int (3 : Int32))]))
  refine Go.virtual X6 hx hZ (y := (⟨"java/lang/String", "length", "()I"⟩ : MethodName)) (z := (⟨"java/lang/String", "length", "()I"⟩ : MethodName)) (a := a) (argsL := []) hown (hw _ (List.mem_of_getElem? (i := 46) rfl)) (hw _ (List.mem_of_getElem? (i := 47) rfl)) (notFace_of_selects (args := #[]) (mvT hZ (hw _ (List.mem_of_getElem? (i := 49) rfl)))) (hw _ (List.mem_of_getElem? (i := 49) rfl)) (hw _ (List.mem_of_getElem? (i := 48) rfl)) (hw _ (List.mem_of_getElem? (i := 7) rfl)) (hw _ (List.mem_of_getElem? (i := 50) rfl)) (by decide) 1 e6 E_a (rm10 l Z a0 hw a 3 g cs h0 n0 Zs Od E_a S_a (by decide) Scs hcs) (by decide) (by decide) (by decide) (by decide) (g := (mkF m 8 #[.val (.ref a), .val (.long (((((((-3750763034362895579 : Int64) ^^^ ((g 0).toInt64)) * (1099511628211 : Int64)) ^^^ ((g 1).toInt64)) * (1099511628211 : Int64)) ^^^ ((g 2).toInt64)) * (1099511628211 : Int64))), .second, .val (.int (3 : Int32))] [(.ref a), (.int (3 : Int32))])) rfl (by rw [hml]; rfl) (rest := [(.int (3 : Int32))]) (lenOf pd7 rfl) rfl (by show 2 * 0 + _ ≤ _; exact Nat.le_of_eq rfl) (hb hby d9_8) ?_
  intro T7 v7 L7 X7 q7
  obtain ⟨rfl, Nq7, e7⟩ := q7
  have N7 := Fr.app N6 Nq7
  refine Go.of (fun _ q => XS.icmpYes X7.here hx rfl (pc0 := 11) (pc' := 35) rfl (hb hby d9_11) rfl (flt (by decide)).2.1 (by decide) (by decide) q) ?_
  refine Go.of (fun _ q => XS.lloadN X7.here hx rfl (hb hby d9_35) rfl q) ?_
  show Go _ _ _ _ _ _ _ (T7.setTop (mkF m 36 #[.val (.ref a), .val (.long (((((((-3750763034362895579 : Int64) ^^^ ((g 0).toInt64)) * (1099511628211 : Int64)) ^^^ ((g 1).toInt64)) * (1099511628211 : Int64)) ^^^ ((g 2).toInt64)) * (1099511628211 : Int64))), .second, .val (.int (3 : Int32))] [(.long (((((((-3750763034362895579 : Int64) ^^^ ((g 0).toInt64)) * (1099511628211 : Int64)) ^^^ ((g 1).toInt64)) * (1099511628211 : Int64)) ^^^ ((g 2).toInt64)) * (1099511628211 : Int64)))]))
  refine Go.retJ X7 hx hlk hret (hb hby d9_36) (by decide) (by decide) ?_
  rw [e7]
  exact ⟨rfl, N7, rfl⟩
theorem ef_9_4 (m : MethodId) (a : Addr) : entryFrame m #[(.ref a)] 4 = mkF m 0 #[.val (.ref a), .unset, .unset, .unset] [] := by first | (simp [entryFrame, mkF, argsToLocals, Value.category]; done) | rfl
def Q9_4 (Z : State) (a : Addr) (g : Nat → Int32) (fm : Value) (hfm : fm.isRef = true) (cs : Int32) (h0 : Heap) (n0 : Nat) (v : Option Value) (h : Heap) (L : List Loc) : Prop := v = some (.long (own_h [(g 0), (g 1), (g 2), (g 3)])) ∧ Fr n0 L ∧ h = h0
set_option maxRecDepth 65536 in
set_option maxHeartbeats 40000000 in
theorem rm9_4 (l : Launch) (Z : State) (a0 : Array Value) (hw : ∀ d ∈ tables_1, d.before a0 Z = true) (a : Addr) (g : Nat → Int32) (fm : Value) (hfm : fm.isRef = true) (cs : Int32) (h0 : Heap) (n0 : Nat) (Zs : n0 ≤ h0.size) (Od : Old Z n0 h0) (E_a : Exa Z h0 a "java/lang/String") (S_a : own_St Z h0 a 4 g) (Scs : Sta Z Z.heap "java/lang/String" "COMPACT_STRINGS" "Z" (.int cs)) (hcs : ¬ cs = (0 : Int32)) (Sfm : Sta Z Z.heap "jdk/internal/util/Preconditions" "SIOOBE_FORMATTER" "Ljava/util/function/BiFunction;" fm) (Sad : Sta Z Z.heap "java/lang/StringUTF16" "$assertionsDisabled" "Z" (.int (1 : Int32))) (Shi : Sta Z Z.heap "java/lang/StringUTF16" "HI_BYTE_SHIFT" "I" (.int (0 : Int32))) (Slo : Sta Z Z.heap "java/lang/StringUTF16" "LO_BYTE_SHIFT" "I" (.int (8 : Int32))) :
    Con l Z (⟨"com/example/ddos_fee_ledger/ddosfeeledger/IndexRun", "hash", "(Ljava/lang/String;)J"⟩ : MethodName) prog_25_method_22_code 4 (some .long) ({ frames := 5, cells := 0, slots := 0, locals := 68 } : Room) #[(.ref a)] h0 (Q9_4 Z a g fm hfm cs h0 n0) := by
  refine Con.intro (plainFor_of_name pn4) (fun m => ef_9_4 m a) ?_
  intro p e s m below meth c s₁ hx hby hml0 hZ hown hnm hret hlk X0 e0
  have hml : c.maxLocals = 4 := hml0
  have N0 := Fr.nil n0
  have Kp : Keep h0 h0 [] := Keep.refl h0 _
  show Go _ _ _ _ _ _ _ (s₁.setTop (mkF m 0 #[.val (.ref a), .unset, .unset, .unset] []))
  refine Go.of (fun _ q => X0.ldc2Long hx hown (mvT hZ (hw _ (List.mem_of_getElem? (i := 45) rfl))) (g := (mkF m 0 #[.val (.ref a), .unset, .unset, .unset] [])) rfl (hb hby d9_0) _ q) ?_
  refine Go.of (fun _ q => XS.lstoreN X0.here hx rfl (hb hby d9_3) rfl (l' := #[.val (.ref a), .val (.long (-3750763034362895579 : Int64)), .second, .unset]) rfl q) ?_
  refine Go.of (fun _ q => XS.iconst X0.here hx rfl (hb hby d9_4) q) ?_
  show Go _ _ _ _ _ _ _ (s₁.setTop (mkF m 5 #[.val (.ref a), .val (.long (-3750763034362895579 : Int64)), .second, .unset] [(.int (0 : Int32))]))
  refine Go.of (fun _ q => XS.istoreN X0.here hx rfl (hb hby d9_5) rfl (l' := #[.val (.ref a), .val (.long (-3750763034362895579 : Int64)), .second, .val (.int (0 : Int32))]) rfl q) ?_
  refine Go.of (fun _ q => XS.iloadN X0.here hx rfl (hb hby d9_6) rfl q) ?_
  refine Go.of (fun _ q => XS.aloadN X0.here hx rfl (hb hby d9_7) rfl rfl q) ?_
  show Go _ _ _ _ _ _ _ (s₁.setTop (mkF m 8 #[.val (.ref a), .val (.long (-3750763034362895579 : Int64)), .second, .val (.int (0 : Int32))] [(.ref a), (.int (0 : Int32))]))
  refine Go.virtual X0 hx hZ (y := (⟨"java/lang/String", "length", "()I"⟩ : MethodName)) (z := (⟨"java/lang/String", "length", "()I"⟩ : MethodName)) (a := a) (argsL := []) hown (hw _ (List.mem_of_getElem? (i := 46) rfl)) (hw _ (List.mem_of_getElem? (i := 47) rfl)) (notFace_of_selects (args := #[]) (mvT hZ (hw _ (List.mem_of_getElem? (i := 49) rfl)))) (hw _ (List.mem_of_getElem? (i := 49) rfl)) (hw _ (List.mem_of_getElem? (i := 48) rfl)) (hw _ (List.mem_of_getElem? (i := 7) rfl)) (hw _ (List.mem_of_getElem? (i := 50) rfl)) (by decide) 1 e0 E_a (rm10 l Z a0 hw a 4 g cs h0 n0 Zs Od E_a S_a (by decide) Scs hcs) (by decide) (by decide) (by decide) (by decide) (g := (mkF m 8 #[.val (.ref a), .val (.long (-3750763034362895579 : Int64)), .second, .val (.int (0 : Int32))] [(.ref a), (.int (0 : Int32))])) rfl (by rw [hml]; rfl) (rest := [(.int (0 : Int32))]) (lenOf pd7 rfl) rfl (by show 2 * 0 + _ ≤ _; exact Nat.le_of_eq rfl) (hb hby d9_8) ?_
  intro T1 v1 L1 X1 q1
  obtain ⟨rfl, Nq1, e1⟩ := q1
  have N1 := Fr.app N0 Nq1
  refine Go.of (fun _ q => XS.icmpNo X1.here hx rfl (hb hby d9_11) rfl (tlt (by decide)).2.1 q) ?_
  refine Go.of (fun _ q => XS.lloadN X1.here hx rfl (hb hby d9_14) rfl q) ?_
  show Go _ _ _ _ _ _ _ (T1.setTop (mkF m 15 #[.val (.ref a), .val (.long (-3750763034362895579 : Int64)), .second, .val (.int (0 : Int32))] [(.long (-3750763034362895579 : Int64))]))
  refine Go.of (fun _ q => XS.aloadN X1.here hx rfl (hb hby d9_15) rfl rfl q) ?_
  refine Go.of (fun _ q => XS.iloadN X1.here hx rfl (hb hby d9_16) rfl q) ?_
  refine Go.virtual X1 hx hZ (y := (⟨"java/lang/String", "charAt", "(I)C"⟩ : MethodName)) (z := (⟨"java/lang/String", "charAt", "(I)C"⟩ : MethodName)) (a := a) (argsL := [(.int (0 : Int32))]) hown (hw _ (List.mem_of_getElem? (i := 57) rfl)) (hw _ (List.mem_of_getElem? (i := 58) rfl)) (notFace_of_selects (args := #[]) (mvT hZ (hw _ (List.mem_of_getElem? (i := 60) rfl)))) (hw _ (List.mem_of_getElem? (i := 60) rfl)) (hw _ (List.mem_of_getElem? (i := 59) rfl)) (hw _ (List.mem_of_getElem? (i := 7) rfl)) (hw _ (List.mem_of_getElem? (i := 61) rfl)) (by decide) 2 e1 E_a (rm12 l Z a0 hw a (0 : Int32) 4 g 0 fm hfm cs h0 n0 Zs Od E_a S_a rfl (by decide) (by decide) Sfm Scs hcs Sad Shi Slo) (by decide) (by decide) (by decide) (by decide) (g := (mkF m 17 #[.val (.ref a), .val (.long (-3750763034362895579 : Int64)), .second, .val (.int (0 : Int32))] [(.int (0 : Int32)), (.ref a), (.long (-3750763034362895579 : Int64))])) rfl (by rw [hml]; rfl) (rest := [(.long (-3750763034362895579 : Int64))]) (lenOf pd8 rfl) rfl (by show 2 * 0 + _ ≤ _; exact Nat.le_of_eq rfl) (hb hby d9_17) ?_
  intro T2 v2 L2 X2 q2
  obtain ⟨rfl, Nq2, e2⟩ := q2
  have N2 := Fr.app N1 Nq2
  show Go _ _ _ _ _ _ _ (T2.setTop (mkF m 20 #[.val (.ref a), .val (.long (-3750763034362895579 : Int64)), .second, .val (.int (0 : Int32))] [(.int (g 0)), (.long (-3750763034362895579 : Int64))]))
  refine Go.of (fun _ q => XS.i2l X2.here hx rfl (hb hby d9_20) rfl q) ?_
  refine Go.of (fun _ q => XS.lxor X2.here hx rfl (hb hby d9_21) rfl q) ?_
  refine Go.of (fun _ q => XS.lstoreN X2.here hx rfl (hb hby d9_22) rfl (l' := #[.val (.ref a), .val (.long ((-3750763034362895579 : Int64) ^^^ ((g 0).toInt64))), .second, .val (.int (0 : Int32))]) rfl q) ?_
  show Go _ _ _ _ _ _ _ (T2.setTop (mkF m 23 #[.val (.ref a), .val (.long ((-3750763034362895579 : Int64) ^^^ ((g 0).toInt64))), .second, .val (.int (0 : Int32))] []))
  refine Go.of (fun _ q => XS.lloadN X2.here hx rfl (hb hby d9_23) rfl q) ?_
  refine Go.of (fun _ q => X2.ldc2Long hx hown (mvT hZ (hw _ (List.mem_of_getElem? (i := 79) rfl))) (g := (mkF m 24 #[.val (.ref a), .val (.long ((-3750763034362895579 : Int64) ^^^ ((g 0).toInt64))), .second, .val (.int (0 : Int32))] [(.long ((-3750763034362895579 : Int64) ^^^ ((g 0).toInt64)))])) rfl (hb hby d9_24) _ q) ?_
  refine Go.of (fun _ q => XS.lmul X2.here hx rfl (hb hby d9_27) rfl q) ?_
  show Go _ _ _ _ _ _ _ (T2.setTop (mkF m 28 #[.val (.ref a), .val (.long ((-3750763034362895579 : Int64) ^^^ ((g 0).toInt64))), .second, .val (.int (0 : Int32))] [(.long (((-3750763034362895579 : Int64) ^^^ ((g 0).toInt64)) * (1099511628211 : Int64)))]))
  refine Go.of (fun _ q => XS.lstoreN X2.here hx rfl (hb hby d9_28) rfl (l' := #[.val (.ref a), .val (.long (((-3750763034362895579 : Int64) ^^^ ((g 0).toInt64)) * (1099511628211 : Int64))), .second, .val (.int (0 : Int32))]) rfl q) ?_
  refine Go.of (fun _ q => XS.iinc X2.here hx rfl (hb hby d9_29) rfl (l' := #[.val (.ref a), .val (.long (((-3750763034362895579 : Int64) ^^^ ((g 0).toInt64)) * (1099511628211 : Int64))), .second, .val (.int (1 : Int32))]) rfl q) ?_
  refine Go.of (fun _ q => XS.goto X2.here hx rfl (pc0 := 32) (pc' := 6) rfl (hb hby d9_32) (by decide) (by decide) q) ?_
  show Go _ _ _ _ _ _ _ (T2.setTop (mkF m 6 #[.val (.ref a), .val (.long (((-3750763034362895579 : Int64) ^^^ ((g 0).toInt64)) * (1099511628211 : Int64))), .second, .val (.int (1 : Int32))] []))
  refine Go.of (fun _ q => XS.iloadN X2.here hx rfl (hb hby d9_6) rfl q) ?_
  refine Go.of (fun _ q => XS.aloadN X2.here hx rfl (hb hby d9_7) rfl rfl q) ?_
  refine Go.virtual X2 hx hZ (y := (⟨"java/lang/String", "length", "()I"⟩ : MethodName)) (z := (⟨"java/lang/String", "length", "()I"⟩ : MethodName)) (a := a) (argsL := []) hown (hw _ (List.mem_of_getElem? (i := 46) rfl)) (hw _ (List.mem_of_getElem? (i := 47) rfl)) (notFace_of_selects (args := #[]) (mvT hZ (hw _ (List.mem_of_getElem? (i := 49) rfl)))) (hw _ (List.mem_of_getElem? (i := 49) rfl)) (hw _ (List.mem_of_getElem? (i := 48) rfl)) (hw _ (List.mem_of_getElem? (i := 7) rfl)) (hw _ (List.mem_of_getElem? (i := 50) rfl)) (by decide) 1 e2 E_a (rm10 l Z a0 hw a 4 g cs h0 n0 Zs Od E_a S_a (by decide) Scs hcs) (by decide) (by decide) (by decide) (by decide) (g := (mkF m 8 #[.val (.ref a), .val (.long (((-3750763034362895579 : Int64) ^^^ ((g 0).toInt64)) * (1099511628211 : Int64))), .second, .val (.int (1 : Int32))] [(.ref a), (.int (1 : Int32))])) rfl (by rw [hml]; rfl) (rest := [(.int (1 : Int32))]) (lenOf pd7 rfl) rfl (by show 2 * 0 + _ ≤ _; exact Nat.le_of_eq rfl) (hb hby d9_8) ?_
  intro T3 v3 L3 X3 q3
  obtain ⟨rfl, Nq3, e3⟩ := q3
  have N3 := Fr.app N2 Nq3
  show Go _ _ _ _ _ _ _ (T3.setTop (mkF m 11 #[.val (.ref a), .val (.long (((-3750763034362895579 : Int64) ^^^ ((g 0).toInt64)) * (1099511628211 : Int64))), .second, .val (.int (1 : Int32))] [(.int (4 : Int32)), (.int (1 : Int32))]))
  refine Go.of (fun _ q => XS.icmpNo X3.here hx rfl (hb hby d9_11) rfl (tlt (by decide)).2.1 q) ?_
  refine Go.of (fun _ q => XS.lloadN X3.here hx rfl (hb hby d9_14) rfl q) ?_
  refine Go.of (fun _ q => XS.aloadN X3.here hx rfl (hb hby d9_15) rfl rfl q) ?_
  show Go _ _ _ _ _ _ _ (T3.setTop (mkF m 16 #[.val (.ref a), .val (.long (((-3750763034362895579 : Int64) ^^^ ((g 0).toInt64)) * (1099511628211 : Int64))), .second, .val (.int (1 : Int32))] [(.ref a), (.long (((-3750763034362895579 : Int64) ^^^ ((g 0).toInt64)) * (1099511628211 : Int64)))]))
  refine Go.of (fun _ q => XS.iloadN X3.here hx rfl (hb hby d9_16) rfl q) ?_
  refine Go.virtual X3 hx hZ (y := (⟨"java/lang/String", "charAt", "(I)C"⟩ : MethodName)) (z := (⟨"java/lang/String", "charAt", "(I)C"⟩ : MethodName)) (a := a) (argsL := [(.int (1 : Int32))]) hown (hw _ (List.mem_of_getElem? (i := 57) rfl)) (hw _ (List.mem_of_getElem? (i := 58) rfl)) (notFace_of_selects (args := #[]) (mvT hZ (hw _ (List.mem_of_getElem? (i := 60) rfl)))) (hw _ (List.mem_of_getElem? (i := 60) rfl)) (hw _ (List.mem_of_getElem? (i := 59) rfl)) (hw _ (List.mem_of_getElem? (i := 7) rfl)) (hw _ (List.mem_of_getElem? (i := 61) rfl)) (by decide) 2 e3 E_a (rm12 l Z a0 hw a (1 : Int32) 4 g 1 fm hfm cs h0 n0 Zs Od E_a S_a rfl (by decide) (by decide) Sfm Scs hcs Sad Shi Slo) (by decide) (by decide) (by decide) (by decide) (g := (mkF m 17 #[.val (.ref a), .val (.long (((-3750763034362895579 : Int64) ^^^ ((g 0).toInt64)) * (1099511628211 : Int64))), .second, .val (.int (1 : Int32))] [(.int (1 : Int32)), (.ref a), (.long (((-3750763034362895579 : Int64) ^^^ ((g 0).toInt64)) * (1099511628211 : Int64)))])) rfl (by rw [hml]; rfl) (rest := [(.long (((-3750763034362895579 : Int64) ^^^ ((g 0).toInt64)) * (1099511628211 : Int64)))]) (lenOf pd8 rfl) rfl (by show 2 * 0 + _ ≤ _; exact Nat.le_of_eq rfl) (hb hby d9_17) ?_
  intro T4 v4 L4 X4 q4
  obtain ⟨rfl, Nq4, e4⟩ := q4
  have N4 := Fr.app N3 Nq4
  refine Go.of (fun _ q => XS.i2l X4.here hx rfl (hb hby d9_20) rfl q) ?_
  show Go _ _ _ _ _ _ _ (T4.setTop (mkF m 21 #[.val (.ref a), .val (.long (((-3750763034362895579 : Int64) ^^^ ((g 0).toInt64)) * (1099511628211 : Int64))), .second, .val (.int (1 : Int32))] [(.long ((g 1).toInt64)), (.long (((-3750763034362895579 : Int64) ^^^ ((g 0).toInt64)) * (1099511628211 : Int64)))]))
  refine Go.of (fun _ q => XS.lxor X4.here hx rfl (hb hby d9_21) rfl q) ?_
  refine Go.of (fun _ q => XS.lstoreN X4.here hx rfl (hb hby d9_22) rfl (l' := #[.val (.ref a), .val (.long ((((-3750763034362895579 : Int64) ^^^ ((g 0).toInt64)) * (1099511628211 : Int64)) ^^^ ((g 1).toInt64))), .second, .val (.int (1 : Int32))]) rfl q) ?_
  refine Go.of (fun _ q => XS.lloadN X4.here hx rfl (hb hby d9_23) rfl q) ?_
  show Go _ _ _ _ _ _ _ (T4.setTop (mkF m 24 #[.val (.ref a), .val (.long ((((-3750763034362895579 : Int64) ^^^ ((g 0).toInt64)) * (1099511628211 : Int64)) ^^^ ((g 1).toInt64))), .second, .val (.int (1 : Int32))] [(.long ((((-3750763034362895579 : Int64) ^^^ ((g 0).toInt64)) * (1099511628211 : Int64)) ^^^ ((g 1).toInt64)))]))
  refine Go.of (fun _ q => X4.ldc2Long hx hown (mvT hZ (hw _ (List.mem_of_getElem? (i := 79) rfl))) (g := (mkF m 24 #[.val (.ref a), .val (.long ((((-3750763034362895579 : Int64) ^^^ ((g 0).toInt64)) * (1099511628211 : Int64)) ^^^ ((g 1).toInt64))), .second, .val (.int (1 : Int32))] [(.long ((((-3750763034362895579 : Int64) ^^^ ((g 0).toInt64)) * (1099511628211 : Int64)) ^^^ ((g 1).toInt64)))])) rfl (hb hby d9_24) _ q) ?_
  refine Go.of (fun _ q => XS.lmul X4.here hx rfl (hb hby d9_27) rfl q) ?_
  refine Go.of (fun _ q => XS.lstoreN X4.here hx rfl (hb hby d9_28) rfl (l' := #[.val (.ref a), .val (.long (((((-3750763034362895579 : Int64) ^^^ ((g 0).toInt64)) * (1099511628211 : Int64)) ^^^ ((g 1).toInt64)) * (1099511628211 : Int64))), .second, .val (.int (1 : Int32))]) rfl q) ?_
  show Go _ _ _ _ _ _ _ (T4.setTop (mkF m 29 #[.val (.ref a), .val (.long (((((-3750763034362895579 : Int64) ^^^ ((g 0).toInt64)) * (1099511628211 : Int64)) ^^^ ((g 1).toInt64)) * (1099511628211 : Int64))), .second, .val (.int (1 : Int32))] []))
  refine Go.of (fun _ q => XS.iinc X4.here hx rfl (hb hby d9_29) rfl (l' := #[.val (.ref a), .val (.long (((((-3750763034362895579 : Int64) ^^^ ((g 0).toInt64)) * (1099511628211 : Int64)) ^^^ ((g 1).toInt64)) * (1099511628211 : Int64))), .second, .val (.int (2 : Int32))]) rfl q) ?_
  refine Go.of (fun _ q => XS.goto X4.here hx rfl (pc0 := 32) (pc' := 6) rfl (hb hby d9_32) (by decide) (by decide) q) ?_
  refine Go.of (fun _ q => XS.iloadN X4.here hx rfl (hb hby d9_6) rfl q) ?_
  show Go _ _ _ _ _ _ _ (T4.setTop (mkF m 7 #[.val (.ref a), .val (.long (((((-3750763034362895579 : Int64) ^^^ ((g 0).toInt64)) * (1099511628211 : Int64)) ^^^ ((g 1).toInt64)) * (1099511628211 : Int64))), .second, .val (.int (2 : Int32))] [(.int (2 : Int32))]))
  refine Go.of (fun _ q => XS.aloadN X4.here hx rfl (hb hby d9_7) rfl rfl q) ?_
  refine Go.virtual X4 hx hZ (y := (⟨"java/lang/String", "length", "()I"⟩ : MethodName)) (z := (⟨"java/lang/String", "length", "()I"⟩ : MethodName)) (a := a) (argsL := []) hown (hw _ (List.mem_of_getElem? (i := 46) rfl)) (hw _ (List.mem_of_getElem? (i := 47) rfl)) (notFace_of_selects (args := #[]) (mvT hZ (hw _ (List.mem_of_getElem? (i := 49) rfl)))) (hw _ (List.mem_of_getElem? (i := 49) rfl)) (hw _ (List.mem_of_getElem? (i := 48) rfl)) (hw _ (List.mem_of_getElem? (i := 7) rfl)) (hw _ (List.mem_of_getElem? (i := 50) rfl)) (by decide) 1 e4 E_a (rm10 l Z a0 hw a 4 g cs h0 n0 Zs Od E_a S_a (by decide) Scs hcs) (by decide) (by decide) (by decide) (by decide) (g := (mkF m 8 #[.val (.ref a), .val (.long (((((-3750763034362895579 : Int64) ^^^ ((g 0).toInt64)) * (1099511628211 : Int64)) ^^^ ((g 1).toInt64)) * (1099511628211 : Int64))), .second, .val (.int (2 : Int32))] [(.ref a), (.int (2 : Int32))])) rfl (by rw [hml]; rfl) (rest := [(.int (2 : Int32))]) (lenOf pd7 rfl) rfl (by show 2 * 0 + _ ≤ _; exact Nat.le_of_eq rfl) (hb hby d9_8) ?_
  intro T5 v5 L5 X5 q5
  obtain ⟨rfl, Nq5, e5⟩ := q5
  have N5 := Fr.app N4 Nq5
  refine Go.of (fun _ q => XS.icmpNo X5.here hx rfl (hb hby d9_11) rfl (tlt (by decide)).2.1 q) ?_
  show Go _ _ _ _ _ _ _ (T5.setTop (mkF m 14 #[.val (.ref a), .val (.long (((((-3750763034362895579 : Int64) ^^^ ((g 0).toInt64)) * (1099511628211 : Int64)) ^^^ ((g 1).toInt64)) * (1099511628211 : Int64))), .second, .val (.int (2 : Int32))] []))
  refine Go.of (fun _ q => XS.lloadN X5.here hx rfl (hb hby d9_14) rfl q) ?_
  refine Go.of (fun _ q => XS.aloadN X5.here hx rfl (hb hby d9_15) rfl rfl q) ?_
  refine Go.of (fun _ q => XS.iloadN X5.here hx rfl (hb hby d9_16) rfl q) ?_
  show Go _ _ _ _ _ _ _ (T5.setTop (mkF m 17 #[.val (.ref a), .val (.long (((((-3750763034362895579 : Int64) ^^^ ((g 0).toInt64)) * (1099511628211 : Int64)) ^^^ ((g 1).toInt64)) * (1099511628211 : Int64))), .second, .val (.int (2 : Int32))] [(.int (2 : Int32)), (.ref a), (.long (((((-3750763034362895579 : Int64) ^^^ ((g 0).toInt64)) * (1099511628211 : Int64)) ^^^ ((g 1).toInt64)) * (1099511628211 : Int64)))]))
  refine Go.virtual X5 hx hZ (y := (⟨"java/lang/String", "charAt", "(I)C"⟩ : MethodName)) (z := (⟨"java/lang/String", "charAt", "(I)C"⟩ : MethodName)) (a := a) (argsL := [(.int (2 : Int32))]) hown (hw _ (List.mem_of_getElem? (i := 57) rfl)) (hw _ (List.mem_of_getElem? (i := 58) rfl)) (notFace_of_selects (args := #[]) (mvT hZ (hw _ (List.mem_of_getElem? (i := 60) rfl)))) (hw _ (List.mem_of_getElem? (i := 60) rfl)) (hw _ (List.mem_of_getElem? (i := 59) rfl)) (hw _ (List.mem_of_getElem? (i := 7) rfl)) (hw _ (List.mem_of_getElem? (i := 61) rfl)) (by decide) 2 e5 E_a (rm12 l Z a0 hw a (2 : Int32) 4 g 2 fm hfm cs h0 n0 Zs Od E_a S_a rfl (by decide) (by decide) Sfm Scs hcs Sad Shi Slo) (by decide) (by decide) (by decide) (by decide) (g := (mkF m 17 #[.val (.ref a), .val (.long (((((-3750763034362895579 : Int64) ^^^ ((g 0).toInt64)) * (1099511628211 : Int64)) ^^^ ((g 1).toInt64)) * (1099511628211 : Int64))), .second, .val (.int (2 : Int32))] [(.int (2 : Int32)), (.ref a), (.long (((((-3750763034362895579 : Int64) ^^^ ((g 0).toInt64)) * (1099511628211 : Int64)) ^^^ ((g 1).toInt64)) * (1099511628211 : Int64)))])) rfl (by rw [hml]; rfl) (rest := [(.long (((((-3750763034362895579 : Int64) ^^^ ((g 0).toInt64)) * (1099511628211 : Int64)) ^^^ ((g 1).toInt64)) * (1099511628211 : Int64)))]) (lenOf pd8 rfl) rfl (by show 2 * 0 + _ ≤ _; exact Nat.le_of_eq rfl) (hb hby d9_17) ?_
  intro T6 v6 L6 X6 q6
  obtain ⟨rfl, Nq6, e6⟩ := q6
  have N6 := Fr.app N5 Nq6
  refine Go.of (fun _ q => XS.i2l X6.here hx rfl (hb hby d9_20) rfl q) ?_
  refine Go.of (fun _ q => XS.lxor X6.here hx rfl (hb hby d9_21) rfl q) ?_
  show Go _ _ _ _ _ _ _ (T6.setTop (mkF m 22 #[.val (.ref a), .val (.long (((((-3750763034362895579 : Int64) ^^^ ((g 0).toInt64)) * (1099511628211 : Int64)) ^^^ ((g 1).toInt64)) * (1099511628211 : Int64))), .second, .val (.int (2 : Int32))] [(.long ((((((-3750763034362895579 : Int64) ^^^ ((g 0).toInt64)) * (1099511628211 : Int64)) ^^^ ((g 1).toInt64)) * (1099511628211 : Int64)) ^^^ ((g 2).toInt64)))]))
  refine Go.of (fun _ q => XS.lstoreN X6.here hx rfl (hb hby d9_22) rfl (l' := #[.val (.ref a), .val (.long ((((((-3750763034362895579 : Int64) ^^^ ((g 0).toInt64)) * (1099511628211 : Int64)) ^^^ ((g 1).toInt64)) * (1099511628211 : Int64)) ^^^ ((g 2).toInt64))), .second, .val (.int (2 : Int32))]) rfl q) ?_
  refine Go.of (fun _ q => XS.lloadN X6.here hx rfl (hb hby d9_23) rfl q) ?_
  refine Go.of (fun _ q => X6.ldc2Long hx hown (mvT hZ (hw _ (List.mem_of_getElem? (i := 79) rfl))) (g := (mkF m 24 #[.val (.ref a), .val (.long ((((((-3750763034362895579 : Int64) ^^^ ((g 0).toInt64)) * (1099511628211 : Int64)) ^^^ ((g 1).toInt64)) * (1099511628211 : Int64)) ^^^ ((g 2).toInt64))), .second, .val (.int (2 : Int32))] [(.long ((((((-3750763034362895579 : Int64) ^^^ ((g 0).toInt64)) * (1099511628211 : Int64)) ^^^ ((g 1).toInt64)) * (1099511628211 : Int64)) ^^^ ((g 2).toInt64)))])) rfl (hb hby d9_24) _ q) ?_
  show Go _ _ _ _ _ _ _ (T6.setTop (mkF m 27 #[.val (.ref a), .val (.long ((((((-3750763034362895579 : Int64) ^^^ ((g 0).toInt64)) * (1099511628211 : Int64)) ^^^ ((g 1).toInt64)) * (1099511628211 : Int64)) ^^^ ((g 2).toInt64))), .second, .val (.int (2 : Int32))] [(.long (1099511628211 : Int64)), (.long ((((((-3750763034362895579 : Int64) ^^^ ((g 0).toInt64)) * (1099511628211 : Int64)) ^^^ ((g 1).toInt64)) * (1099511628211 : Int64)) ^^^ ((g 2).toInt64)))]))
  refine Go.of (fun _ q => XS.lmul X6.here hx rfl (hb hby d9_27) rfl q) ?_
  refine Go.of (fun _ q => XS.lstoreN X6.here hx rfl (hb hby d9_28) rfl (l' := #[.val (.ref a), .val (.long (((((((-3750763034362895579 : Int64) ^^^ ((g 0).toInt64)) * (1099511628211 : Int64)) ^^^ ((g 1).toInt64)) * (1099511628211 : Int64)) ^^^ ((g 2).toInt64)) * (1099511628211 : Int64))), .second, .val (.int (2 : Int32))]) rfl q) ?_
  refine Go.of (fun _ q => XS.iinc X6.here hx rfl (hb hby d9_29) rfl (l' := #[.val (.ref a), .val (.long (((((((-3750763034362895579 : Int64) ^^^ ((g 0).toInt64)) * (1099511628211 : Int64)) ^^^ ((g 1).toInt64)) * (1099511628211 : Int64)) ^^^ ((g 2).toInt64)) * (1099511628211 : Int64))), .second, .val (.int (3 : Int32))]) rfl q) ?_
  show Go _ _ _ _ _ _ _ (T6.setTop (mkF m 32 #[.val (.ref a), .val (.long (((((((-3750763034362895579 : Int64) ^^^ ((g 0).toInt64)) * (1099511628211 : Int64)) ^^^ ((g 1).toInt64)) * (1099511628211 : Int64)) ^^^ ((g 2).toInt64)) * (1099511628211 : Int64))), .second, .val (.int (3 : Int32))] []))
  refine Go.of (fun _ q => XS.goto X6.here hx rfl (pc0 := 32) (pc' := 6) rfl (hb hby d9_32) (by decide) (by decide) q) ?_
  refine Go.of (fun _ q => XS.iloadN X6.here hx rfl (hb hby d9_6) rfl q) ?_
  refine Go.of (fun _ q => XS.aloadN X6.here hx rfl (hb hby d9_7) rfl rfl q) ?_
  show Go _ _ _ _ _ _ _ (T6.setTop (mkF m 8 #[.val (.ref a), .val (.long (((((((-3750763034362895579 : Int64) ^^^ ((g 0).toInt64)) * (1099511628211 : Int64)) ^^^ ((g 1).toInt64)) * (1099511628211 : Int64)) ^^^ ((g 2).toInt64)) * (1099511628211 : Int64))), .second, .val (.int (3 : Int32))] [(.ref a), (.int (3 : Int32))]))
  refine Go.virtual X6 hx hZ (y := (⟨"java/lang/String", "length", "()I"⟩ : MethodName)) (z := (⟨"java/lang/String", "length", "()I"⟩ : MethodName)) (a := a) (argsL := []) hown (hw _ (List.mem_of_getElem? (i := 46) rfl)) (hw _ (List.mem_of_getElem? (i := 47) rfl)) (notFace_of_selects (args := #[]) (mvT hZ (hw _ (List.mem_of_getElem? (i := 49) rfl)))) (hw _ (List.mem_of_getElem? (i := 49) rfl)) (hw _ (List.mem_of_getElem? (i := 48) rfl)) (hw _ (List.mem_of_getElem? (i := 7) rfl)) (hw _ (List.mem_of_getElem? (i := 50) rfl)) (by decide) 1 e6 E_a (rm10 l Z a0 hw a 4 g cs h0 n0 Zs Od E_a S_a (by decide) Scs hcs) (by decide) (by decide) (by decide) (by decide) (g := (mkF m 8 #[.val (.ref a), .val (.long (((((((-3750763034362895579 : Int64) ^^^ ((g 0).toInt64)) * (1099511628211 : Int64)) ^^^ ((g 1).toInt64)) * (1099511628211 : Int64)) ^^^ ((g 2).toInt64)) * (1099511628211 : Int64))), .second, .val (.int (3 : Int32))] [(.ref a), (.int (3 : Int32))])) rfl (by rw [hml]; rfl) (rest := [(.int (3 : Int32))]) (lenOf pd7 rfl) rfl (by show 2 * 0 + _ ≤ _; exact Nat.le_of_eq rfl) (hb hby d9_8) ?_
  intro T7 v7 L7 X7 q7
  obtain ⟨rfl, Nq7, e7⟩ := q7
  have N7 := Fr.app N6 Nq7
  refine Go.of (fun _ q => XS.icmpNo X7.here hx rfl (hb hby d9_11) rfl (tlt (by decide)).2.1 q) ?_
  refine Go.of (fun _ q => XS.lloadN X7.here hx rfl (hb hby d9_14) rfl q) ?_
  show Go _ _ _ _ _ _ _ (T7.setTop (mkF m 15 #[.val (.ref a), .val (.long (((((((-3750763034362895579 : Int64) ^^^ ((g 0).toInt64)) * (1099511628211 : Int64)) ^^^ ((g 1).toInt64)) * (1099511628211 : Int64)) ^^^ ((g 2).toInt64)) * (1099511628211 : Int64))), .second, .val (.int (3 : Int32))] [(.long (((((((-3750763034362895579 : Int64) ^^^ ((g 0).toInt64)) * (1099511628211 : Int64)) ^^^ ((g 1).toInt64)) * (1099511628211 : Int64)) ^^^ ((g 2).toInt64)) * (1099511628211 : Int64)))]))
  refine Go.of (fun _ q => XS.aloadN X7.here hx rfl (hb hby d9_15) rfl rfl q) ?_
  refine Go.of (fun _ q => XS.iloadN X7.here hx rfl (hb hby d9_16) rfl q) ?_
  refine Go.virtual X7 hx hZ (y := (⟨"java/lang/String", "charAt", "(I)C"⟩ : MethodName)) (z := (⟨"java/lang/String", "charAt", "(I)C"⟩ : MethodName)) (a := a) (argsL := [(.int (3 : Int32))]) hown (hw _ (List.mem_of_getElem? (i := 57) rfl)) (hw _ (List.mem_of_getElem? (i := 58) rfl)) (notFace_of_selects (args := #[]) (mvT hZ (hw _ (List.mem_of_getElem? (i := 60) rfl)))) (hw _ (List.mem_of_getElem? (i := 60) rfl)) (hw _ (List.mem_of_getElem? (i := 59) rfl)) (hw _ (List.mem_of_getElem? (i := 7) rfl)) (hw _ (List.mem_of_getElem? (i := 61) rfl)) (by decide) 2 e7 E_a (rm12 l Z a0 hw a (3 : Int32) 4 g 3 fm hfm cs h0 n0 Zs Od E_a S_a rfl (by decide) (by decide) Sfm Scs hcs Sad Shi Slo) (by decide) (by decide) (by decide) (by decide) (g := (mkF m 17 #[.val (.ref a), .val (.long (((((((-3750763034362895579 : Int64) ^^^ ((g 0).toInt64)) * (1099511628211 : Int64)) ^^^ ((g 1).toInt64)) * (1099511628211 : Int64)) ^^^ ((g 2).toInt64)) * (1099511628211 : Int64))), .second, .val (.int (3 : Int32))] [(.int (3 : Int32)), (.ref a), (.long (((((((-3750763034362895579 : Int64) ^^^ ((g 0).toInt64)) * (1099511628211 : Int64)) ^^^ ((g 1).toInt64)) * (1099511628211 : Int64)) ^^^ ((g 2).toInt64)) * (1099511628211 : Int64)))])) rfl (by rw [hml]; rfl) (rest := [(.long (((((((-3750763034362895579 : Int64) ^^^ ((g 0).toInt64)) * (1099511628211 : Int64)) ^^^ ((g 1).toInt64)) * (1099511628211 : Int64)) ^^^ ((g 2).toInt64)) * (1099511628211 : Int64)))]) (lenOf pd8 rfl) rfl (by show 2 * 0 + _ ≤ _; exact Nat.le_of_eq rfl) (hb hby d9_17) ?_
  intro T8 v8 L8 X8 q8
  obtain ⟨rfl, Nq8, e8⟩ := q8
  have N8 := Fr.app N7 Nq8
  show Go _ _ _ _ _ _ _ (T8.setTop (mkF m 20 #[.val (.ref a), .val (.long (((((((-3750763034362895579 : Int64) ^^^ ((g 0).toInt64)) * (1099511628211 : Int64)) ^^^ ((g 1).toInt64)) * (1099511628211 : Int64)) ^^^ ((g 2).toInt64)) * (1099511628211 : Int64))), .second, .val (.int (3 : Int32))] [(.int (g 3)), (.long (((((((-3750763034362895579 : Int64) ^^^ ((g 0).toInt64)) * (1099511628211 : Int64)) ^^^ ((g 1).toInt64)) * (1099511628211 : Int64)) ^^^ ((g 2).toInt64)) * (1099511628211 : Int64)))]))
  refine Go.of (fun _ q => XS.i2l X8.here hx rfl (hb hby d9_20) rfl q) ?_
  refine Go.of (fun _ q => XS.lxor X8.here hx rfl (hb hby d9_21) rfl q) ?_
  refine Go.of (fun _ q => XS.lstoreN X8.here hx rfl (hb hby d9_22) rfl (l' := #[.val (.ref a), .val (.long ((((((((-3750763034362895579 : Int64) ^^^ ((g 0).toInt64)) * (1099511628211 : Int64)) ^^^ ((g 1).toInt64)) * (1099511628211 : Int64)) ^^^ ((g 2).toInt64)) * (1099511628211 : Int64)) ^^^ ((g 3).toInt64))), .second, .val (.int (3 : Int32))]) rfl q) ?_
  show Go _ _ _ _ _ _ _ (T8.setTop (mkF m 23 #[.val (.ref a), .val (.long ((((((((-3750763034362895579 : Int64) ^^^ ((g 0).toInt64)) * (1099511628211 : Int64)) ^^^ ((g 1).toInt64)) * (1099511628211 : Int64)) ^^^ ((g 2).toInt64)) * (1099511628211 : Int64)) ^^^ ((g 3).toInt64))), .second, .val (.int (3 : Int32))] []))
  refine Go.of (fun _ q => XS.lloadN X8.here hx rfl (hb hby d9_23) rfl q) ?_
  refine Go.of (fun _ q => X8.ldc2Long hx hown (mvT hZ (hw _ (List.mem_of_getElem? (i := 79) rfl))) (g := (mkF m 24 #[.val (.ref a), .val (.long ((((((((-3750763034362895579 : Int64) ^^^ ((g 0).toInt64)) * (1099511628211 : Int64)) ^^^ ((g 1).toInt64)) * (1099511628211 : Int64)) ^^^ ((g 2).toInt64)) * (1099511628211 : Int64)) ^^^ ((g 3).toInt64))), .second, .val (.int (3 : Int32))] [(.long ((((((((-3750763034362895579 : Int64) ^^^ ((g 0).toInt64)) * (1099511628211 : Int64)) ^^^ ((g 1).toInt64)) * (1099511628211 : Int64)) ^^^ ((g 2).toInt64)) * (1099511628211 : Int64)) ^^^ ((g 3).toInt64)))])) rfl (hb hby d9_24) _ q) ?_
  refine Go.of (fun _ q => XS.lmul X8.here hx rfl (hb hby d9_27) rfl q) ?_
  show Go _ _ _ _ _ _ _ (T8.setTop (mkF m 28 #[.val (.ref a), .val (.long ((((((((-3750763034362895579 : Int64) ^^^ ((g 0).toInt64)) * (1099511628211 : Int64)) ^^^ ((g 1).toInt64)) * (1099511628211 : Int64)) ^^^ ((g 2).toInt64)) * (1099511628211 : Int64)) ^^^ ((g 3).toInt64))), .second, .val (.int (3 : Int32))] [(.long (((((((((-3750763034362895579 : Int64) ^^^ ((g 0).toInt64)) * (1099511628211 : Int64)) ^^^ ((g 1).toInt64)) * (1099511628211 : Int64)) ^^^ ((g 2).toInt64)) * (1099511628211 : Int64)) ^^^ ((g 3).toInt64)) * (1099511628211 : Int64)))]))
  refine Go.of (fun _ q => XS.lstoreN X8.here hx rfl (hb hby d9_28) rfl (l' := #[.val (.ref a), .val (.long (((((((((-3750763034362895579 : Int64) ^^^ ((g 0).toInt64)) * (1099511628211 : Int64)) ^^^ ((g 1).toInt64)) * (1099511628211 : Int64)) ^^^ ((g 2).toInt64)) * (1099511628211 : Int64)) ^^^ ((g 3).toInt64)) * (1099511628211 : Int64))), .second, .val (.int (3 : Int32))]) rfl q) ?_
  refine Go.of (fun _ q => XS.iinc X8.here hx rfl (hb hby d9_29) rfl (l' := #[.val (.ref a), .val (.long (((((((((-3750763034362895579 : Int64) ^^^ ((g 0).toInt64)) * (1099511628211 : Int64)) ^^^ ((g 1).toInt64)) * (1099511628211 : Int64)) ^^^ ((g 2).toInt64)) * (1099511628211 : Int64)) ^^^ ((g 3).toInt64)) * (1099511628211 : Int64))), .second, .val (.int (4 : Int32))]) rfl q) ?_
  refine Go.of (fun _ q => XS.goto X8.here hx rfl (pc0 := 32) (pc' := 6) rfl (hb hby d9_32) (by decide) (by decide) q) ?_
  show Go _ _ _ _ _ _ _ (T8.setTop (mkF m 6 #[.val (.ref a), .val (.long (((((((((-3750763034362895579 : Int64) ^^^ ((g 0).toInt64)) * (1099511628211 : Int64)) ^^^ ((g 1).toInt64)) * (1099511628211 : Int64)) ^^^ ((g 2).toInt64)) * (1099511628211 : Int64)) ^^^ ((g 3).toInt64)) * (1099511628211 : Int64))), .second, .val (.int (4 : Int32))] []))
  refine Go.of (fun _ q => XS.iloadN X8.here hx rfl (hb hby d9_6) rfl q) ?_
  refine Go.of (fun _ q => XS.aloadN X8.here hx rfl (hb hby d9_7) rfl rfl q) ?_
  refine Go.virtual X8 hx hZ (y := (⟨"java/lang/String", "length", "()I"⟩ : MethodName)) (z := (⟨"java/lang/String", "length", "()I"⟩ : MethodName)) (a := a) (argsL := []) hown (hw _ (List.mem_of_getElem? (i := 46) rfl)) (hw _ (List.mem_of_getElem? (i := 47) rfl)) (notFace_of_selects (args := #[]) (mvT hZ (hw _ (List.mem_of_getElem? (i := 49) rfl)))) (hw _ (List.mem_of_getElem? (i := 49) rfl)) (hw _ (List.mem_of_getElem? (i := 48) rfl)) (hw _ (List.mem_of_getElem? (i := 7) rfl)) (hw _ (List.mem_of_getElem? (i := 50) rfl)) (by decide) 1 e8 E_a (rm10 l Z a0 hw a 4 g cs h0 n0 Zs Od E_a S_a (by decide) Scs hcs) (by decide) (by decide) (by decide) (by decide) (g := (mkF m 8 #[.val (.ref a), .val (.long (((((((((-3750763034362895579 : Int64) ^^^ ((g 0).toInt64)) * (1099511628211 : Int64)) ^^^ ((g 1).toInt64)) * (1099511628211 : Int64)) ^^^ ((g 2).toInt64)) * (1099511628211 : Int64)) ^^^ ((g 3).toInt64)) * (1099511628211 : Int64))), .second, .val (.int (4 : Int32))] [(.ref a), (.int (4 : Int32))])) rfl (by rw [hml]; rfl) (rest := [(.int (4 : Int32))]) (lenOf pd7 rfl) rfl (by show 2 * 0 + _ ≤ _; exact Nat.le_of_eq rfl) (hb hby d9_8) ?_
  intro T9 v9 L9 X9 q9
  obtain ⟨rfl, Nq9, e9⟩ := q9
  have N9 := Fr.app N8 Nq9
  show Go _ _ _ _ _ _ _ (T9.setTop (mkF m 11 #[.val (.ref a), .val (.long (((((((((-3750763034362895579 : Int64) ^^^ ((g 0).toInt64)) * (1099511628211 : Int64)) ^^^ ((g 1).toInt64)) * (1099511628211 : Int64)) ^^^ ((g 2).toInt64)) * (1099511628211 : Int64)) ^^^ ((g 3).toInt64)) * (1099511628211 : Int64))), .second, .val (.int (4 : Int32))] [(.int (4 : Int32)), (.int (4 : Int32))]))
  refine Go.of (fun _ q => XS.icmpYes X9.here hx rfl (pc0 := 11) (pc' := 35) rfl (hb hby d9_11) rfl (flt (by decide)).2.1 (by decide) (by decide) q) ?_
  refine Go.of (fun _ q => XS.lloadN X9.here hx rfl (hb hby d9_35) rfl q) ?_
  refine Go.retJ X9 hx hlk hret (hb hby d9_36) (by decide) (by decide) ?_
  rw [e9]
  exact ⟨rfl, N9, rfl⟩
theorem d8_0 : decode method_3_code 0 = .ok (.iload_n 0, 1) := by decide +kernel
theorem d8_1 : decode method_3_code 1 = .ok (.ifCond .ne 5, 3) := by decide +kernel
theorem d8_4 : decode method_3_code 4 = .ok (.iload_n 1, 1) := by decide +kernel
theorem d8_5 : decode method_3_code 5 = .ok (.ireturn, 1) := by decide +kernel
theorem pn5 : plainName "com/example/ddos_fee_ledger/ddosfeeledger/IndexRunHashPinLaw" = true := by first | (simp [plainName, overriddenIn]; done) | decide +kernel
theorem ef_8_0 (m : MethodId) (x1 : Int32) (x2 : Int32) (x3 : Int32) (x4 : Int32) : entryFrame m #[(.int (0 : Int32)), (.int x1), (.int x2), (.int x3), (.int x4)] 5 = mkF m 0 #[.val (.int (0 : Int32)), .val (.int x1), .val (.int x2), .val (.int x3), .val (.int x4)] [] := by first | (simp [entryFrame, mkF, argsToLocals, Value.category]; done) | rfl
def Q8_0 (Z : State) (x1 : Int32) (x2 : Int32) (x3 : Int32) (x4 : Int32) (h0 : Heap) (n0 : Nat) (v : Option Value) (h : Heap) (L : List Loc) : Prop := v = some (.int x1) ∧ Fr n0 L ∧ h = h0
set_option maxRecDepth 65536 in
set_option maxHeartbeats 40000000 in
theorem rm8_0 (l : Launch) (Z : State) (a0 : Array Value) (hw : ∀ d ∈ tables_1, d.before a0 Z = true) (x1 : Int32) (x2 : Int32) (x3 : Int32) (x4 : Int32) (h0 : Heap) (n0 : Nat) (Zs : n0 ≤ h0.size) (hcx : own_cc x1 = x1) :
    Con l Z (⟨"com/example/ddos_fee_ledger/ddosfeeledger/IndexRunHashPinLaw", "pick", "(ICCCC)C"⟩ : MethodName) method_3_code 5 (some .char) ({ frames := 0, cells := 0, slots := 0, locals := 0 } : Room) #[(.int (0 : Int32)), (.int x1), (.int x2), (.int x3), (.int x4)] h0 (Q8_0 Z x1 x2 x3 x4 h0 n0) := by
  refine Con.intro (plainFor_of_name pn5) (fun m => ef_8_0 m x1 x2 x3 x4) ?_
  intro p e s m below meth c s₁ hx hby hml0 hZ hown hnm hret hlk X0 e0
  have hml : c.maxLocals = 5 := hml0
  have N0 := Fr.nil n0
  have Kp : Keep h0 h0 [] := Keep.refl h0 _
  show Go _ _ _ _ _ _ _ (s₁.setTop (mkF m 0 #[.val (.int (0 : Int32)), .val (.int x1), .val (.int x2), .val (.int x3), .val (.int x4)] []))
  refine Go.of (fun _ q => XS.iloadN X0.here hx rfl (hb hby d8_0) rfl q) ?_
  refine Go.of (fun _ q => XS.ifNo X0.here hx rfl (hb hby d8_1) rfl ((if0 _ _).trans (teq rfl).2) q) ?_
  refine Go.of (fun _ q => XS.iloadN X0.here hx rfl (hb hby d8_4) rfl q) ?_
  show Go _ _ _ _ _ _ _ (s₁.setTop (mkF m 5 #[.val (.int (0 : Int32)), .val (.int x1), .val (.int x2), .val (.int x3), .val (.int x4)] [(.int x1)]))
  refine Go.retN X0 hx hlk (t := .char) hret (by simp) (hb hby d8_5) hcx (by decide) (by decide) ?_
  rw [e0]
  exact ⟨rfl, N0, rfl⟩
theorem d8_6 : decode method_3_code 6 = .ok (.iload_n 0, 1) := by decide +kernel
theorem d8_7 : decode method_3_code 7 = .ok (.iconst 1, 1) := by decide +kernel
theorem d8_8 : decode method_3_code 8 = .ok (.if_icmp .ne 5, 3) := by decide +kernel
theorem d8_11 : decode method_3_code 11 = .ok (.iload_n 2, 1) := by decide +kernel
theorem d8_12 : decode method_3_code 12 = .ok (.ireturn, 1) := by decide +kernel
theorem ef_8_1 (m : MethodId) (x1 : Int32) (x2 : Int32) (x3 : Int32) (x4 : Int32) : entryFrame m #[(.int (1 : Int32)), (.int x1), (.int x2), (.int x3), (.int x4)] 5 = mkF m 0 #[.val (.int (1 : Int32)), .val (.int x1), .val (.int x2), .val (.int x3), .val (.int x4)] [] := by first | (simp [entryFrame, mkF, argsToLocals, Value.category]; done) | rfl
def Q8_1 (Z : State) (x1 : Int32) (x2 : Int32) (x3 : Int32) (x4 : Int32) (h0 : Heap) (n0 : Nat) (v : Option Value) (h : Heap) (L : List Loc) : Prop := v = some (.int x2) ∧ Fr n0 L ∧ h = h0
set_option maxRecDepth 65536 in
set_option maxHeartbeats 40000000 in
theorem rm8_1 (l : Launch) (Z : State) (a0 : Array Value) (hw : ∀ d ∈ tables_1, d.before a0 Z = true) (x1 : Int32) (x2 : Int32) (x3 : Int32) (x4 : Int32) (h0 : Heap) (n0 : Nat) (Zs : n0 ≤ h0.size) (hcx : own_cc x2 = x2) :
    Con l Z (⟨"com/example/ddos_fee_ledger/ddosfeeledger/IndexRunHashPinLaw", "pick", "(ICCCC)C"⟩ : MethodName) method_3_code 5 (some .char) ({ frames := 0, cells := 0, slots := 0, locals := 0 } : Room) #[(.int (1 : Int32)), (.int x1), (.int x2), (.int x3), (.int x4)] h0 (Q8_1 Z x1 x2 x3 x4 h0 n0) := by
  refine Con.intro (plainFor_of_name pn5) (fun m => ef_8_1 m x1 x2 x3 x4) ?_
  intro p e s m below meth c s₁ hx hby hml0 hZ hown hnm hret hlk X0 e0
  have hml : c.maxLocals = 5 := hml0
  have N0 := Fr.nil n0
  have Kp : Keep h0 h0 [] := Keep.refl h0 _
  show Go _ _ _ _ _ _ _ (s₁.setTop (mkF m 0 #[.val (.int (1 : Int32)), .val (.int x1), .val (.int x2), .val (.int x3), .val (.int x4)] []))
  refine Go.of (fun _ q => XS.iloadN X0.here hx rfl (hb hby d8_0) rfl q) ?_
  refine Go.of (fun _ q => XS.ifYes X0.here hx rfl (pc0 := 1) (pc' := 6) rfl (hb hby d8_1) rfl ((if0 _ _).trans (feq (by decide)).2) (by decide) (by decide) q) ?_
  refine Go.of (fun _ q => XS.iloadN X0.here hx rfl (hb hby d8_6) rfl q) ?_
  show Go _ _ _ _ _ _ _ (s₁.setTop (mkF m 7 #[.val (.int (1 : Int32)), .val (.int x1), .val (.int x2), .val (.int x3), .val (.int x4)] [(.int (1 : Int32))]))
  refine Go.of (fun _ q => XS.iconst X0.here hx rfl (hb hby d8_7) q) ?_
  refine Go.of (fun _ q => XS.icmpNo X0.here hx rfl (hb hby d8_8) rfl (teq rfl).2 q) ?_
  refine Go.of (fun _ q => XS.iloadN X0.here hx rfl (hb hby d8_11) rfl q) ?_
  show Go _ _ _ _ _ _ _ (s₁.setTop (mkF m 12 #[.val (.int (1 : Int32)), .val (.int x1), .val (.int x2), .val (.int x3), .val (.int x4)] [(.int x2)]))
  refine Go.retN X0 hx hlk (t := .char) hret (by simp) (hb hby d8_12) hcx (by decide) (by decide) ?_
  rw [e0]
  exact ⟨rfl, N0, rfl⟩
theorem d8_13 : decode method_3_code 13 = .ok (.iload_n 0, 1) := by decide +kernel
theorem d8_14 : decode method_3_code 14 = .ok (.iconst 2, 1) := by decide +kernel
theorem d8_15 : decode method_3_code 15 = .ok (.if_icmp .ne 5, 3) := by decide +kernel
theorem d8_18 : decode method_3_code 18 = .ok (.iload_n 3, 1) := by decide +kernel
theorem d8_19 : decode method_3_code 19 = .ok (.ireturn, 1) := by decide +kernel
theorem ef_8_2 (m : MethodId) (x1 : Int32) (x2 : Int32) (x3 : Int32) (x4 : Int32) : entryFrame m #[(.int (2 : Int32)), (.int x1), (.int x2), (.int x3), (.int x4)] 5 = mkF m 0 #[.val (.int (2 : Int32)), .val (.int x1), .val (.int x2), .val (.int x3), .val (.int x4)] [] := by first | (simp [entryFrame, mkF, argsToLocals, Value.category]; done) | rfl
def Q8_2 (Z : State) (x1 : Int32) (x2 : Int32) (x3 : Int32) (x4 : Int32) (h0 : Heap) (n0 : Nat) (v : Option Value) (h : Heap) (L : List Loc) : Prop := v = some (.int x3) ∧ Fr n0 L ∧ h = h0
set_option maxRecDepth 65536 in
set_option maxHeartbeats 40000000 in
theorem rm8_2 (l : Launch) (Z : State) (a0 : Array Value) (hw : ∀ d ∈ tables_1, d.before a0 Z = true) (x1 : Int32) (x2 : Int32) (x3 : Int32) (x4 : Int32) (h0 : Heap) (n0 : Nat) (Zs : n0 ≤ h0.size) (hcx : own_cc x3 = x3) :
    Con l Z (⟨"com/example/ddos_fee_ledger/ddosfeeledger/IndexRunHashPinLaw", "pick", "(ICCCC)C"⟩ : MethodName) method_3_code 5 (some .char) ({ frames := 0, cells := 0, slots := 0, locals := 0 } : Room) #[(.int (2 : Int32)), (.int x1), (.int x2), (.int x3), (.int x4)] h0 (Q8_2 Z x1 x2 x3 x4 h0 n0) := by
  refine Con.intro (plainFor_of_name pn5) (fun m => ef_8_2 m x1 x2 x3 x4) ?_
  intro p e s m below meth c s₁ hx hby hml0 hZ hown hnm hret hlk X0 e0
  have hml : c.maxLocals = 5 := hml0
  have N0 := Fr.nil n0
  have Kp : Keep h0 h0 [] := Keep.refl h0 _
  show Go _ _ _ _ _ _ _ (s₁.setTop (mkF m 0 #[.val (.int (2 : Int32)), .val (.int x1), .val (.int x2), .val (.int x3), .val (.int x4)] []))
  refine Go.of (fun _ q => XS.iloadN X0.here hx rfl (hb hby d8_0) rfl q) ?_
  refine Go.of (fun _ q => XS.ifYes X0.here hx rfl (pc0 := 1) (pc' := 6) rfl (hb hby d8_1) rfl ((if0 _ _).trans (feq (by decide)).2) (by decide) (by decide) q) ?_
  refine Go.of (fun _ q => XS.iloadN X0.here hx rfl (hb hby d8_6) rfl q) ?_
  show Go _ _ _ _ _ _ _ (s₁.setTop (mkF m 7 #[.val (.int (2 : Int32)), .val (.int x1), .val (.int x2), .val (.int x3), .val (.int x4)] [(.int (2 : Int32))]))
  refine Go.of (fun _ q => XS.iconst X0.here hx rfl (hb hby d8_7) q) ?_
  refine Go.of (fun _ q => XS.icmpYes X0.here hx rfl (pc0 := 8) (pc' := 13) rfl (hb hby d8_8) rfl (feq (by decide)).2 (by decide) (by decide) q) ?_
  refine Go.of (fun _ q => XS.iloadN X0.here hx rfl (hb hby d8_13) rfl q) ?_
  show Go _ _ _ _ _ _ _ (s₁.setTop (mkF m 14 #[.val (.int (2 : Int32)), .val (.int x1), .val (.int x2), .val (.int x3), .val (.int x4)] [(.int (2 : Int32))]))
  refine Go.of (fun _ q => XS.iconst X0.here hx rfl (hb hby d8_14) q) ?_
  refine Go.of (fun _ q => XS.icmpNo X0.here hx rfl (hb hby d8_15) rfl (teq rfl).2 q) ?_
  refine Go.of (fun _ q => XS.iloadN X0.here hx rfl (hb hby d8_18) rfl q) ?_
  show Go _ _ _ _ _ _ _ (s₁.setTop (mkF m 19 #[.val (.int (2 : Int32)), .val (.int x1), .val (.int x2), .val (.int x3), .val (.int x4)] [(.int x3)]))
  refine Go.retN X0 hx hlk (t := .char) hret (by simp) (hb hby d8_19) hcx (by decide) (by decide) ?_
  rw [e0]
  exact ⟨rfl, N0, rfl⟩
theorem d8_20 : decode method_3_code 20 = .ok (.iload 4, 2) := by decide +kernel
theorem d8_22 : decode method_3_code 22 = .ok (.ireturn, 1) := by decide +kernel
theorem ef_8_3 (m : MethodId) (x1 : Int32) (x2 : Int32) (x3 : Int32) (x4 : Int32) : entryFrame m #[(.int (3 : Int32)), (.int x1), (.int x2), (.int x3), (.int x4)] 5 = mkF m 0 #[.val (.int (3 : Int32)), .val (.int x1), .val (.int x2), .val (.int x3), .val (.int x4)] [] := by first | (simp [entryFrame, mkF, argsToLocals, Value.category]; done) | rfl
def Q8_3 (Z : State) (x1 : Int32) (x2 : Int32) (x3 : Int32) (x4 : Int32) (h0 : Heap) (n0 : Nat) (v : Option Value) (h : Heap) (L : List Loc) : Prop := v = some (.int x4) ∧ Fr n0 L ∧ h = h0
set_option maxRecDepth 65536 in
set_option maxHeartbeats 40000000 in
theorem rm8_3 (l : Launch) (Z : State) (a0 : Array Value) (hw : ∀ d ∈ tables_1, d.before a0 Z = true) (x1 : Int32) (x2 : Int32) (x3 : Int32) (x4 : Int32) (h0 : Heap) (n0 : Nat) (Zs : n0 ≤ h0.size) (hcx : own_cc x4 = x4) :
    Con l Z (⟨"com/example/ddos_fee_ledger/ddosfeeledger/IndexRunHashPinLaw", "pick", "(ICCCC)C"⟩ : MethodName) method_3_code 5 (some .char) ({ frames := 0, cells := 0, slots := 0, locals := 0 } : Room) #[(.int (3 : Int32)), (.int x1), (.int x2), (.int x3), (.int x4)] h0 (Q8_3 Z x1 x2 x3 x4 h0 n0) := by
  refine Con.intro (plainFor_of_name pn5) (fun m => ef_8_3 m x1 x2 x3 x4) ?_
  intro p e s m below meth c s₁ hx hby hml0 hZ hown hnm hret hlk X0 e0
  have hml : c.maxLocals = 5 := hml0
  have N0 := Fr.nil n0
  have Kp : Keep h0 h0 [] := Keep.refl h0 _
  show Go _ _ _ _ _ _ _ (s₁.setTop (mkF m 0 #[.val (.int (3 : Int32)), .val (.int x1), .val (.int x2), .val (.int x3), .val (.int x4)] []))
  refine Go.of (fun _ q => XS.iloadN X0.here hx rfl (hb hby d8_0) rfl q) ?_
  refine Go.of (fun _ q => XS.ifYes X0.here hx rfl (pc0 := 1) (pc' := 6) rfl (hb hby d8_1) rfl ((if0 _ _).trans (feq (by decide)).2) (by decide) (by decide) q) ?_
  refine Go.of (fun _ q => XS.iloadN X0.here hx rfl (hb hby d8_6) rfl q) ?_
  show Go _ _ _ _ _ _ _ (s₁.setTop (mkF m 7 #[.val (.int (3 : Int32)), .val (.int x1), .val (.int x2), .val (.int x3), .val (.int x4)] [(.int (3 : Int32))]))
  refine Go.of (fun _ q => XS.iconst X0.here hx rfl (hb hby d8_7) q) ?_
  refine Go.of (fun _ q => XS.icmpYes X0.here hx rfl (pc0 := 8) (pc' := 13) rfl (hb hby d8_8) rfl (feq (by decide)).2 (by decide) (by decide) q) ?_
  refine Go.of (fun _ q => XS.iloadN X0.here hx rfl (hb hby d8_13) rfl q) ?_
  show Go _ _ _ _ _ _ _ (s₁.setTop (mkF m 14 #[.val (.int (3 : Int32)), .val (.int x1), .val (.int x2), .val (.int x3), .val (.int x4)] [(.int (3 : Int32))]))
  refine Go.of (fun _ q => XS.iconst X0.here hx rfl (hb hby d8_14) q) ?_
  refine Go.of (fun _ q => XS.icmpYes X0.here hx rfl (pc0 := 15) (pc' := 20) rfl (hb hby d8_15) rfl (feq (by decide)).2 (by decide) (by decide) q) ?_
  refine Go.of (fun _ q => XS.iload X0.here hx rfl (hb hby d8_20) rfl q) ?_
  show Go _ _ _ _ _ _ _ (s₁.setTop (mkF m 22 #[.val (.int (3 : Int32)), .val (.int x1), .val (.int x2), .val (.int x3), .val (.int x4)] [(.int x4)]))
  refine Go.retN X0 hx hlk (t := .char) hret (by simp) (hb hby d8_22) hcx (by decide) (by decide) ?_
  rw [e0]
  exact ⟨rfl, N0, rfl⟩
theorem d19_0 : decode jdk_52_method_3_code 0 = .ok (.iload_n 0, 1) := by decide +kernel
theorem d19_1 : decode jdk_52_method_3_code 1 = .ok (.ifCond .ge 11, 3) := by decide +kernel
theorem d19_12 : decode jdk_52_method_3_code 12 = .ok (.iload_n 0, 1) := by decide +kernel
theorem d19_13 : decode jdk_52_method_3_code 13 = .ok (.ldc 20, 2) := by decide +kernel
theorem d19_15 : decode jdk_52_method_3_code 15 = .ok (.if_icmp .lt 40, 3) := by decide +kernel
theorem d19_55 : decode jdk_52_method_3_code 55 = .ok (.iload_n 0, 1) := by decide +kernel
theorem d19_56 : decode jdk_52_method_3_code 56 = .ok (.iconst 1, 1) := by decide +kernel
theorem d19_57 : decode jdk_52_method_3_code 57 = .ok (.ishl, 1) := by decide +kernel
theorem d19_58 : decode jdk_52_method_3_code 58 = .ok (.ireturn, 1) := by decide +kernel
theorem ef_19_1 (m : MethodId)  : entryFrame m #[(.int (1 : Int32))] 1 = mkF m 0 #[.val (.int (1 : Int32))] [] := by first | (simp [entryFrame, mkF, argsToLocals, Value.category]; done) | rfl
def Q19_1 (Z : State)  (h0 : Heap) (n0 : Nat) (v : Option Value) (h : Heap) (L : List Loc) : Prop := v = some (.int (2 : Int32)) ∧ Fr n0 L ∧ h = h0
set_option maxRecDepth 65536 in
set_option maxHeartbeats 40000000 in
theorem rm19_1 (l : Launch) (Z : State) (a0 : Array Value) (hw : ∀ d ∈ tables_1, d.before a0 Z = true)  (h0 : Heap) (n0 : Nat) (Zs : n0 ≤ h0.size)  :
    Con l Z (⟨"java/lang/StringUTF16", "newBytesLength", "(I)I"⟩ : MethodName) jdk_52_method_3_code 1 (some .int) ({ frames := 0, cells := 0, slots := 0, locals := 0 } : Room) #[(.int (1 : Int32))] h0 (Q19_1 Z  h0 n0) := by
  refine Con.intro (plainFor_of_name pn3) (fun m => ef_19_1 m ) ?_
  intro p e s m below meth c s₁ hx hby hml0 hZ hown hnm hret hlk X0 e0
  have hml : c.maxLocals = 1 := hml0
  have N0 := Fr.nil n0
  have Kp : Keep h0 h0 [] := Keep.refl h0 _
  show Go _ _ _ _ _ _ _ (s₁.setTop (mkF m 0 #[.val (.int (1 : Int32))] []))
  refine Go.of (fun _ q => XS.iloadN X0.here hx rfl (hb hby d19_0) rfl q) ?_
  refine Go.of (fun _ q => XS.ifYes X0.here hx rfl (pc0 := 1) (pc' := 12) rfl (hb hby d19_1) rfl ((if0 _ _).trans (flt (by decide)).2.1) (by decide) (by decide) q) ?_
  refine Go.of (fun _ q => XS.iloadN X0.here hx rfl (hb hby d19_12) rfl q) ?_
  show Go _ _ _ _ _ _ _ (s₁.setTop (mkF m 13 #[.val (.int (1 : Int32))] [(.int (1 : Int32))]))
  refine Go.of (fun _ q => X0.ldcInt hx hown (mvT hZ (hw _ (List.mem_of_getElem? (i := 90) rfl))) (g := (mkF m 13 #[.val (.int (1 : Int32))] [(.int (1 : Int32))])) rfl (hb hby d19_13) _ q) ?_
  refine Go.of (fun _ q => XS.icmpYes X0.here hx rfl (pc0 := 15) (pc' := 55) rfl (hb hby d19_15) rfl (tlt (by decide)).1 (by decide) (by decide) q) ?_
  refine Go.of (fun _ q => XS.iloadN X0.here hx rfl (hb hby d19_55) rfl q) ?_
  show Go _ _ _ _ _ _ _ (s₁.setTop (mkF m 56 #[.val (.int (1 : Int32))] [(.int (1 : Int32))]))
  refine Go.of (fun _ q => XS.iconst X0.here hx rfl (hb hby d19_56) q) ?_
  refine Go.of (fun _ q => XS.ishl X0.here hx rfl (hb hby d19_57) rfl q) ?_
  refine Go.retI X0 hx hlk hret (hb hby d19_58) (by decide) (by decide) ?_
  rw [e0]
  exact ⟨rfl, N0, rfl⟩
theorem pd9 : parseMethodDescriptor "(I)I" = some ⟨[.int], some .int⟩ := by decide +kernel
theorem d18_0 : decode jdk_52_method_2_code 0 = .ok (.iload_n 0, 1) := by decide +kernel
theorem d18_1 : decode jdk_52_method_2_code 1 = .ok (.invokestatic 11, 3) := by decide +kernel
theorem d18_4 : decode jdk_52_method_2_code 4 = .ok (.newarray .byte, 2) := by decide +kernel
theorem d18_6 : decode jdk_52_method_2_code 6 = .ok (.areturn, 1) := by decide +kernel
theorem ef_18_1 (m : MethodId)  : entryFrame m #[(.int (1 : Int32))] 1 = mkF m 0 #[.val (.int (1 : Int32))] [] := by first | (simp [entryFrame, mkF, argsToLocals, Value.category]; done) | rfl
def Q18_1 (Z : State)  (h0 : Heap) (n0 : Nat) (v : Option Value) (h : Heap) (L : List Loc) : Prop := ∃ d : Addr, ∃ kd : ClassId, v = some (.ref d) ∧ Fr n0 L ∧ Keep h0 h [] ∧ h0.size ≤ d ∧ AF Z h d kd .byte 2 (fun i => .int ((fun _ => (0 : Int32)) i))
set_option maxRecDepth 65536 in
set_option maxHeartbeats 40000000 in
theorem rm18_1 (l : Launch) (Z : State) (a0 : Array Value) (hw : ∀ d ∈ tables_1, d.before a0 Z = true)  (h0 : Heap) (n0 : Nat) (Zs : n0 ≤ h0.size)  :
    Con l Z (⟨"java/lang/StringUTF16", "newBytesFor", "(I)[B"⟩ : MethodName) jdk_52_method_2_code 1 (some (.array .byte)) ({ frames := 1, cells := 1, slots := 2, locals := 12 } : Room) #[(.int (1 : Int32))] h0 (Q18_1 Z  h0 n0) := by
  refine Con.intro (plainFor_of_name pn3) (fun m => ef_18_1 m ) ?_
  intro p e s m below meth c s₁ hx hby hml0 hZ hown hnm hret hlk X0 e0
  have hml : c.maxLocals = 1 := hml0
  have N0 := Fr.nil n0
  have Kp : Keep h0 h0 [] := Keep.refl h0 _
  show Go _ _ _ _ _ _ _ (s₁.setTop (mkF m 0 #[.val (.int (1 : Int32))] []))
  refine Go.of (fun _ q => XS.iloadN X0.here hx rfl (hb hby d18_0) rfl q) ?_
  refine Go.static X0 hx hZ (y := (⟨"java/lang/StringUTF16", "newBytesLength", "(I)I"⟩ : MethodName)) (argsL := [(.int (1 : Int32))]) hown (hw _ (List.mem_of_getElem? (i := 87) rfl)) (hw _ (List.mem_of_getElem? (i := 88) rfl)) (hw _ (List.mem_of_getElem? (i := 30) rfl)) (hw _ (List.mem_of_getElem? (i := 89) rfl)) (by decide) 0 e0 (rm19_1 l Z a0 hw  h0 n0 Zs ) (by decide) (by decide) (by decide) (by decide) (g := (mkF m 1 #[.val (.int (1 : Int32))] [(.int (1 : Int32))])) rfl (by rw [hml]; rfl) (rest := []) (lenOf pd9 rfl) rfl (by show 2 * 0 + _ ≤ _; exact Nat.le_of_eq rfl) (hb hby d18_1) ?_
  intro T1 v1 L1 X1 q1
  obtain ⟨rfl, Nq1, e1⟩ := q1
  have N1 := Fr.app N0 Nq1
  obtain ⟨T2, h2, k2, X2, e2, E2, A2, B2, st2⟩ := newPE X1 hx hZ (hw _ (List.mem_of_getElem? (i := 20) rfl)) e1 (g := (mkF m 4 #[.val (.int (1 : Int32))] [(.int (2 : Int32))])) rfl (hb hby d18_4) rfl (by decide) (cap := 2) (by decide) (by decide) (by decide) (by decide) (ad := "[B") (by decide)
  obtain ⟨d, g2⟩ : ∃ z, z = h0.size := ⟨_, rfl⟩
  rw [← g2] at A2 B2 st2
  refine Go.of st2 ?_
  have g_d : n0 ≤ d := Nat.le_trans Zs (Nat.le_of_eq g2.symm)
  have sz_d : h0.size ≤ d := Nat.le_trans Kp.1 (Nat.le_of_eq g2.symm)
  have Zs := Nat.le_trans Zs E2.1
  have Kp := Kp.ext E2
  have E_d := B2
  have A_d : AF Z h2 d k2 .byte 2 (fun i => .int ((fun _ => (0 : Int32)) i)) := AF.new A2 (by decide) rfl rfl
  show Go _ _ _ _ _ _ _ (T2.setTop (mkF m 6 #[.val (.int (1 : Int32))] [(.ref d)]))
  refine Go.retA X2 hx hlk hret rfl rfl (hb hby d18_6) (by decide) (by decide) ?_
  rw [e2]
  exact ⟨d, k2, rfl, N1, Kp, sz_d, A_d⟩
theorem pd10 : parseMethodDescriptor "(I)[B" = some ⟨[.int], some (.array .byte)⟩ := by decide +kernel
theorem pd11 : parseMethodDescriptor "([BII)V" = some ⟨[(.array .byte), .int, .int], none⟩ := by decide +kernel
theorem d17_0 : decode jdk_52_method_14_code 0 = .ok (.iload_n 2, 1) := by decide +kernel
theorem d17_1 : decode jdk_52_method_14_code 1 = .ok (.invokestatic 107, 3) := by decide +kernel
theorem d17_4 : decode jdk_52_method_14_code 4 = .ok (.astore_n 3, 1) := by decide +kernel
theorem d17_5 : decode jdk_52_method_14_code 5 = .ok (.iconst 0, 1) := by decide +kernel
theorem d17_6 : decode jdk_52_method_14_code 6 = .ok (.istore 4, 2) := by decide +kernel
theorem d17_8 : decode jdk_52_method_14_code 8 = .ok (.iload 4, 2) := by decide +kernel
theorem d17_10 : decode jdk_52_method_14_code 10 = .ok (.iload_n 2, 1) := by decide +kernel
theorem d17_11 : decode jdk_52_method_14_code 11 = .ok (.if_icmp .ge 21, 3) := by decide +kernel
theorem d17_14 : decode jdk_52_method_14_code 14 = .ok (.aload_n 3, 1) := by decide +kernel
theorem d17_15 : decode jdk_52_method_14_code 15 = .ok (.iload 4, 2) := by decide +kernel
theorem d17_17 : decode jdk_52_method_14_code 17 = .ok (.aload_n 0, 1) := by decide +kernel
theorem d17_18 : decode jdk_52_method_14_code 18 = .ok (.iload_n 1, 1) := by decide +kernel
theorem d17_19 : decode jdk_52_method_14_code 19 = .ok (.caload, 1) := by decide +kernel
theorem d17_20 : decode jdk_52_method_14_code 20 = .ok (.invokestatic 111, 3) := by decide +kernel
theorem d17_23 : decode jdk_52_method_14_code 23 = .ok (.iinc 1 1, 3) := by decide +kernel
theorem d17_26 : decode jdk_52_method_14_code 26 = .ok (.iinc 4 1, 3) := by decide +kernel
theorem d17_29 : decode jdk_52_method_14_code 29 = .ok (.goto (-21), 3) := by decide +kernel
theorem d17_32 : decode jdk_52_method_14_code 32 = .ok (.aload_n 3, 1) := by decide +kernel
theorem d17_33 : decode jdk_52_method_14_code 33 = .ok (.areturn, 1) := by decide +kernel
theorem ef_17_1 (m : MethodId) (b : Addr) : entryFrame m #[(.ref b), (.int (0 : Int32)), (.int (1 : Int32))] 5 = mkF m 0 #[.val (.ref b), .val (.int (0 : Int32)), .val (.int (1 : Int32)), .unset, .unset] [] := by first | (simp [entryFrame, mkF, argsToLocals, Value.category]; done) | rfl
def Q17_1 (Z : State) (b : Addr) (kb : ClassId) (gb : Nat → Int32) (h0 : Heap) (n0 : Nat) (v : Option Value) (h : Heap) (L : List Loc) : Prop := ∃ d : Addr, ∃ kd : ClassId, v = some (.ref d) ∧ Fr n0 L ∧ Keep h0 h [] ∧ h0.size ≤ d ∧ AF Z h d kd .byte 2 (fun i => .int ((own_u gb) i))
set_option maxRecDepth 65536 in
set_option maxHeartbeats 40000000 in
theorem rm17_1 (l : Launch) (Z : State) (a0 : Array Value) (hw : ∀ d ∈ tables_1, d.before a0 Z = true) (b : Addr) (kb : ClassId) (gb : Nat → Int32) (h0 : Heap) (n0 : Nat) (Zs : n0 ≤ h0.size) (Od : Old Z n0 h0) (A_b : AF Z h0 b kb .char 1 (fun i => .int (gb i))) (Sad : Sta Z Z.heap "java/lang/StringUTF16" "$assertionsDisabled" "Z" (.int (1 : Int32))) (Shi : Sta Z Z.heap "java/lang/StringUTF16" "HI_BYTE_SHIFT" "I" (.int (0 : Int32))) (Slo : Sta Z Z.heap "java/lang/StringUTF16" "LO_BYTE_SHIFT" "I" (.int (8 : Int32))) :
    Con l Z (⟨"java/lang/StringUTF16", "toBytes", "([CII)[B"⟩ : MethodName) jdk_52_method_14_code 5 (some (.array .byte)) ({ frames := 2, cells := 1, slots := 2, locals := 24 } : Room) #[(.ref b), (.int (0 : Int32)), (.int (1 : Int32))] h0 (Q17_1 Z b kb gb h0 n0) := by
  refine Con.intro (plainFor_of_name pn3) (fun m => ef_17_1 m b) ?_
  intro p e s m below meth c s₁ hx hby hml0 hZ hown hnm hret hlk X0 e0
  have hml : c.maxLocals = 5 := hml0
  have N0 := Fr.nil n0
  have Kp : Keep h0 h0 [] := Keep.refl h0 _
  show Go _ _ _ _ _ _ _ (s₁.setTop (mkF m 0 #[.val (.ref b), .val (.int (0 : Int32)), .val (.int (1 : Int32)), .unset, .unset] []))
  refine Go.of (fun _ q => XS.iloadN X0.here hx rfl (hb hby d17_0) rfl q) ?_
  refine Go.static X0 hx hZ (y := (⟨"java/lang/StringUTF16", "newBytesFor", "(I)[B"⟩ : MethodName)) (argsL := [(.int (1 : Int32))]) hown (hw _ (List.mem_of_getElem? (i := 84) rfl)) (hw _ (List.mem_of_getElem? (i := 85) rfl)) (hw _ (List.mem_of_getElem? (i := 30) rfl)) (hw _ (List.mem_of_getElem? (i := 86) rfl)) (by decide) 0 e0 (rm18_1 l Z a0 hw  h0 n0 Zs ) (by decide) (by decide) (by decide) (by decide) (g := (mkF m 1 #[.val (.ref b), .val (.int (0 : Int32)), .val (.int (1 : Int32)), .unset, .unset] [(.int (1 : Int32))])) rfl (by rw [hml]; rfl) (rest := []) (lenOf pd10 rfl) rfl (by show 2 * 0 + _ ≤ _; exact Nat.le_of_eq rfl) (hb hby d17_1) ?_
  intro T1 v1 L1 X1 q1
  obtain ⟨d, kd0, rfl, Nq1, K1, f1_0, f1_1⟩ := q1
  have N1 := Fr.app N0 Nq1
  have g_d : n0 ≤ d := Nat.le_trans Zs f1_0
  have sz_d : h0.size ≤ d := Nat.le_trans Kp.1 f1_0
  have ne_b_d : b ≠ d := Nat.ne_of_lt (Nat.lt_of_lt_of_le A_b.lt f1_0)
  have Zs := Nat.le_trans Zs K1.1
  have Kp := Kp.trans K1 all0
  have Od := Od.keep K1 all0
  have A_b := A_b.keep K1 nin0
  have A_d := f1_1
  refine Go.of (fun _ q => XS.astoreN X1.here hx rfl (hb hby d17_4) rfl rfl (l' := #[.val (.ref b), .val (.int (0 : Int32)), .val (.int (1 : Int32)), .val (.ref d), .unset]) rfl q) ?_
  show Go _ _ _ _ _ _ _ (T1.setTop (mkF m 5 #[.val (.ref b), .val (.int (0 : Int32)), .val (.int (1 : Int32)), .val (.ref d), .unset] []))
  refine Go.of (fun _ q => XS.iconst X1.here hx rfl (hb hby d17_5) q) ?_
  refine Go.of (fun _ q => XS.istore X1.here hx rfl (hb hby d17_6) rfl (l' := #[.val (.ref b), .val (.int (0 : Int32)), .val (.int (1 : Int32)), .val (.ref d), .val (.int (0 : Int32))]) rfl q) ?_
  refine Go.of (fun _ q => XS.iload X1.here hx rfl (hb hby d17_8) rfl q) ?_
  show Go _ _ _ _ _ _ _ (T1.setTop (mkF m 10 #[.val (.ref b), .val (.int (0 : Int32)), .val (.int (1 : Int32)), .val (.ref d), .val (.int (0 : Int32))] [(.int (0 : Int32))]))
  refine Go.of (fun _ q => XS.iloadN X1.here hx rfl (hb hby d17_10) rfl q) ?_
  refine Go.of (fun _ q => XS.icmpNo X1.here hx rfl (hb hby d17_11) rfl (tlt (by decide)).2.1 q) ?_
  refine Go.of (fun _ q => XS.aloadN X1.here hx rfl (hb hby d17_14) rfl rfl q) ?_
  show Go _ _ _ _ _ _ _ (T1.setTop (mkF m 15 #[.val (.ref b), .val (.int (0 : Int32)), .val (.int (1 : Int32)), .val (.ref d), .val (.int (0 : Int32))] [(.ref d)]))
  refine Go.of (fun _ q => XS.iload X1.here hx rfl (hb hby d17_15) rfl q) ?_
  refine Go.of (fun _ q => XS.aloadN X1.here hx rfl (hb hby d17_17) rfl rfl q) ?_
  refine Go.of (fun _ q => XS.iloadN X1.here hx rfl (hb hby d17_18) rfl q) ?_
  show Go _ _ _ _ _ _ _ (T1.setTop (mkF m 19 #[.val (.ref b), .val (.int (0 : Int32)), .val (.int (1 : Int32)), .val (.ref d), .val (.int (0 : Int32))] [(.int (0 : Int32)), (.ref b), (.int (0 : Int32)), (.ref d)]))
  refine Go.of (fun _ q => AF.caload A_b X1 hx hZ rfl ⟨rfl, by decide, by decide⟩ (v := (.int (gb 0))) rfl (g := (mkF m 19 #[.val (.ref b), .val (.int (0 : Int32)), .val (.int (1 : Int32)), .val (.ref d), .val (.int (0 : Int32))] [(.int (0 : Int32)), (.ref b), (.int (0 : Int32)), (.ref d)])) rfl rfl (hb hby d17_19) q) ?_
  refine Go.static X1 hx hZ (y := (⟨"java/lang/StringUTF16", "putChar", "([BII)V"⟩ : MethodName)) (argsL := [(.ref d), (.int (0 : Int32)), (.int (gb 0))]) hown (hw _ (List.mem_of_getElem? (i := 91) rfl)) (hw _ (List.mem_of_getElem? (i := 92) rfl)) (hw _ (List.mem_of_getElem? (i := 30) rfl)) (hw _ (List.mem_of_getElem? (i := 93) rfl)) (by decide) 0 rfl (rm20 l Z a0 hw d (0 : Int32) (gb 0) kd0 (fun _ => (0 : Int32)) 2 0 T1.heap n0 Zs Od A_d g_d rfl (by decide) (by decide) Sad Shi Slo) (by decide) (by decide) (by decide) (by decide) (g := (mkF m 20 #[.val (.ref b), .val (.int (0 : Int32)), .val (.int (1 : Int32)), .val (.ref d), .val (.int (0 : Int32))] [(.int (gb 0)), (.int (0 : Int32)), (.ref d)])) rfl (by rw [hml]; rfl) (rest := []) (lenOf pd11 rfl) rfl (by show 2 * 0 + _ ≤ _; exact Nat.le_of_eq rfl) (hb hby d17_20) ?_
  intro T2 v2 L2 X2 q2
  obtain ⟨rfl, Nq2, K2, f2_0⟩ := q2
  have N2 := Fr.app N1 Nq2
  have Zs := Nat.le_trans Zs K2.1
  have Kp := Kp.trans K2 (allS (P := fun x => x ∈ [] ∨ h0.size ≤ x) (Or.inr sz_d) all0)
  have Od := Od.keep K2 (allS (P := fun x => n0 ≤ x) g_d all0)
  have A_b := A_b.keep K2 (ninS ne_b_d nin0)
  have A_d := f2_0
  refine Go.of (fun _ q => XS.iinc X2.here hx rfl (hb hby d17_23) rfl (l' := #[.val (.ref b), .val (.int (1 : Int32)), .val (.int (1 : Int32)), .val (.ref d), .val (.int (0 : Int32))]) rfl q) ?_
  show Go _ _ _ _ _ _ _ (T2.setTop (mkF m 26 #[.val (.ref b), .val (.int (1 : Int32)), .val (.int (1 : Int32)), .val (.ref d), .val (.int (0 : Int32))] []))
  refine Go.of (fun _ q => XS.iinc X2.here hx rfl (hb hby d17_26) rfl (l' := #[.val (.ref b), .val (.int (1 : Int32)), .val (.int (1 : Int32)), .val (.ref d), .val (.int (1 : Int32))]) rfl q) ?_
  refine Go.of (fun _ q => XS.goto X2.here hx rfl (pc0 := 29) (pc' := 8) rfl (hb hby d17_29) (by decide) (by decide) q) ?_
  refine Go.of (fun _ q => XS.iload X2.here hx rfl (hb hby d17_8) rfl q) ?_
  show Go _ _ _ _ _ _ _ (T2.setTop (mkF m 10 #[.val (.ref b), .val (.int (1 : Int32)), .val (.int (1 : Int32)), .val (.ref d), .val (.int (1 : Int32))] [(.int (1 : Int32))]))
  refine Go.of (fun _ q => XS.iloadN X2.here hx rfl (hb hby d17_10) rfl q) ?_
  refine Go.of (fun _ q => XS.icmpYes X2.here hx rfl (pc0 := 11) (pc' := 32) rfl (hb hby d17_11) rfl (flt (by decide)).2.1 (by decide) (by decide) q) ?_
  refine Go.of (fun _ q => XS.aloadN X2.here hx rfl (hb hby d17_32) rfl rfl q) ?_
  show Go _ _ _ _ _ _ _ (T2.setTop (mkF m 33 #[.val (.ref b), .val (.int (1 : Int32)), .val (.int (1 : Int32)), .val (.ref d), .val (.int (1 : Int32))] [(.ref d)]))
  refine Go.retA X2 hx hlk hret rfl rfl (hb hby d17_33) (by decide) (by decide) ?_
  exact ⟨d, kd0, rfl, N2, Kp, sz_d, (AF.cast A_d (fun i hi => by rcases (show i = 0 ∨ i = 1 by omega) with rfl | rfl <;> simp [upI, own_u]))⟩
theorem d6_0 : decode jdk_52_method_21_code 0 = .ok (.iconst 0, 1) := by decide +kernel
theorem d6_1 : decode jdk_52_method_21_code 1 = .ok (.istore 5, 2) := by decide +kernel
theorem d6_3 : decode jdk_52_method_21_code 3 = .ok (.iload 5, 2) := by decide +kernel
theorem d6_5 : decode jdk_52_method_21_code 5 = .ok (.iload 4, 2) := by decide +kernel
theorem d6_7 : decode jdk_52_method_21_code 7 = .ok (.if_icmp .ge 37, 3) := by decide +kernel
theorem d6_10 : decode jdk_52_method_21_code 10 = .ok (.aload_n 0, 1) := by decide +kernel
theorem d6_11 : decode jdk_52_method_21_code 11 = .ok (.iload_n 1, 1) := by decide +kernel
theorem d6_12 : decode jdk_52_method_21_code 12 = .ok (.caload, 1) := by decide +kernel
theorem d6_13 : decode jdk_52_method_21_code 13 = .ok (.istore 6, 2) := by decide +kernel
theorem d6_15 : decode jdk_52_method_21_code 15 = .ok (.iload 6, 2) := by decide +kernel
theorem d6_17 : decode jdk_52_method_21_code 17 = .ok (.sipush 255, 3) := by decide +kernel
theorem d6_20 : decode jdk_52_method_21_code 20 = .ok (.if_icmp .le 6, 3) := by decide +kernel
theorem d6_23 : decode jdk_52_method_21_code 23 = .ok (.iload 5, 2) := by decide +kernel
theorem d6_25 : decode jdk_52_method_21_code 25 = .ok (.ireturn, 1) := by decide +kernel
theorem d6_26 : decode jdk_52_method_21_code 26 = .ok (.aload_n 2, 1) := by decide +kernel
theorem d6_27 : decode jdk_52_method_21_code 27 = .ok (.iload_n 3, 1) := by decide +kernel
theorem d6_28 : decode jdk_52_method_21_code 28 = .ok (.iload 6, 2) := by decide +kernel
theorem d6_30 : decode jdk_52_method_21_code 30 = .ok (.i2b, 1) := by decide +kernel
theorem d6_31 : decode jdk_52_method_21_code 31 = .ok (.bastore, 1) := by decide +kernel
theorem d6_32 : decode jdk_52_method_21_code 32 = .ok (.iinc 1 1, 3) := by decide +kernel
theorem d6_35 : decode jdk_52_method_21_code 35 = .ok (.iinc 3 1, 3) := by decide +kernel
theorem d6_38 : decode jdk_52_method_21_code 38 = .ok (.iinc 5 1, 3) := by decide +kernel
theorem d6_41 : decode jdk_52_method_21_code 41 = .ok (.goto (-38), 3) := by decide +kernel
theorem d6_44 : decode jdk_52_method_21_code 44 = .ok (.iload 4, 2) := by decide +kernel
theorem d6_46 : decode jdk_52_method_21_code 46 = .ok (.ireturn, 1) := by decide +kernel
theorem ef_6_1 (m : MethodId) (b : Addr) (d : Addr) : entryFrame m #[(.ref b), (.int (0 : Int32)), (.ref d), (.int (0 : Int32)), (.int (1 : Int32))] 7 = mkF m 0 #[.val (.ref b), .val (.int (0 : Int32)), .val (.ref d), .val (.int (0 : Int32)), .val (.int (1 : Int32)), .unset, .unset] [] := by first | (simp [entryFrame, mkF, argsToLocals, Value.category]; done) | rfl
def Q6_1 (Z : State) (b : Addr) (d : Addr) (kb : ClassId) (gb : Nat → Int32) (kd : ClassId) (gd : Nat → Int32) (h0 : Heap) (n0 : Nat) (v : Option Value) (h : Heap) (L : List Loc) : Prop := ∃ k : Nat, v = some (.int (Int32.ofNat k)) ∧ Fr n0 L ∧ Keep h0 h [d] ∧ (k ≤ 1) ∧ (∀ i, i < k → ¬ (255 : Int32) < gb i) ∧ (k < 1 → (255 : Int32) < gb k) ∧ (k = 1 → AF Z h d kd .byte 1 (fun i => .int ((fun i => own_by (gb i)) i)))
set_option maxRecDepth 65536 in
set_option maxHeartbeats 40000000 in
theorem rm6_1 (l : Launch) (Z : State) (a0 : Array Value) (hw : ∀ d ∈ tables_1, d.before a0 Z = true) (b : Addr) (d : Addr) (kb : ClassId) (gb : Nat → Int32) (kd : ClassId) (gd : Nat → Int32) (h0 : Heap) (n0 : Nat) (Zs : n0 ≤ h0.size) (A_b : AF Z h0 b kb .char 1 (fun i => .int (gb i))) (A_d : AF Z h0 d kd .byte 1 (fun i => .int (gd i))) (ne_b_d : b ≠ d) (g_d : n0 ≤ d) :
    Con l Z (⟨"java/lang/StringUTF16", "compress", "([CI[BII)I"⟩ : MethodName) jdk_52_method_21_code 7 (some .int) ({ frames := 0, cells := 0, slots := 0, locals := 0 } : Room) #[(.ref b), (.int (0 : Int32)), (.ref d), (.int (0 : Int32)), (.int (1 : Int32))] h0 (Q6_1 Z b d kb gb kd gd h0 n0) := by
  refine Con.intro (plainFor_of_name pn3) (fun m => ef_6_1 m b d) ?_
  intro p e s m below meth c s₁ hx hby hml0 hZ hown hnm hret hlk X0 e0
  have hml : c.maxLocals = 7 := hml0
  have N0 := Fr.nil n0
  have Kp : Keep h0 h0 [d] := Keep.refl h0 _
  show Go _ _ _ _ _ _ _ (s₁.setTop (mkF m 0 #[.val (.ref b), .val (.int (0 : Int32)), .val (.ref d), .val (.int (0 : Int32)), .val (.int (1 : Int32)), .unset, .unset] []))
  refine Go.of (fun _ q => XS.iconst X0.here hx rfl (hb hby d6_0) q) ?_
  refine Go.of (fun _ q => XS.istore X0.here hx rfl (hb hby d6_1) rfl (l' := #[.val (.ref b), .val (.int (0 : Int32)), .val (.ref d), .val (.int (0 : Int32)), .val (.int (1 : Int32)), .val (.int (0 : Int32)), .unset]) rfl q) ?_
  refine Go.of (fun _ q => XS.iload X0.here hx rfl (hb hby d6_3) rfl q) ?_
  show Go _ _ _ _ _ _ _ (s₁.setTop (mkF m 5 #[.val (.ref b), .val (.int (0 : Int32)), .val (.ref d), .val (.int (0 : Int32)), .val (.int (1 : Int32)), .val (.int (0 : Int32)), .unset] [(.int (0 : Int32))]))
  refine Go.of (fun _ q => XS.iload X0.here hx rfl (hb hby d6_5) rfl q) ?_
  refine Go.of (fun _ q => XS.icmpNo X0.here hx rfl (hb hby d6_7) rfl (tlt (by decide)).2.1 q) ?_
  refine Go.of (fun _ q => XS.aloadN X0.here hx rfl (hb hby d6_10) rfl rfl q) ?_
  show Go _ _ _ _ _ _ _ (s₁.setTop (mkF m 11 #[.val (.ref b), .val (.int (0 : Int32)), .val (.ref d), .val (.int (0 : Int32)), .val (.int (1 : Int32)), .val (.int (0 : Int32)), .unset] [(.ref b)]))
  refine Go.of (fun _ q => XS.iloadN X0.here hx rfl (hb hby d6_11) rfl q) ?_
  refine Go.of (fun _ q => AF.caload A_b X0 hx hZ e0 ⟨rfl, by decide, by decide⟩ (v := (.int (gb 0))) rfl (g := (mkF m 12 #[.val (.ref b), .val (.int (0 : Int32)), .val (.ref d), .val (.int (0 : Int32)), .val (.int (1 : Int32)), .val (.int (0 : Int32)), .unset] [(.int (0 : Int32)), (.ref b)])) rfl rfl (hb hby d6_12) q) ?_
  refine Go.of (fun _ q => XS.istore X0.here hx rfl (hb hby d6_13) rfl (l' := #[.val (.ref b), .val (.int (0 : Int32)), .val (.ref d), .val (.int (0 : Int32)), .val (.int (1 : Int32)), .val (.int (0 : Int32)), .val (.int (gb 0))]) rfl q) ?_
  show Go _ _ _ _ _ _ _ (s₁.setTop (mkF m 15 #[.val (.ref b), .val (.int (0 : Int32)), .val (.ref d), .val (.int (0 : Int32)), .val (.int (1 : Int32)), .val (.int (0 : Int32)), .val (.int (gb 0))] []))
  refine Go.of (fun _ q => XS.iload X0.here hx rfl (hb hby d6_15) rfl q) ?_
  refine Go.of (fun _ q => XS.sipush X0.here hx rfl (hb hby d6_17) q) ?_
  by_cases c20 : (255 : Int32) < (gb 0)
  · refine Go.of (fun _ q => XS.icmpNo X0.here hx rfl (hb hby d6_20) rfl (tlt c20).2.2.2 q) ?_
    show Go _ _ _ _ _ _ _ (s₁.setTop (mkF m 23 #[.val (.ref b), .val (.int (0 : Int32)), .val (.ref d), .val (.int (0 : Int32)), .val (.int (1 : Int32)), .val (.int (0 : Int32)), .val (.int (gb 0))] []))
    refine Go.of (fun _ q => XS.iload X0.here hx rfl (hb hby d6_23) rfl q) ?_
    refine Go.retI X0 hx hlk hret (hb hby d6_25) (by decide) (by decide) ?_
    rw [e0]
    exact ⟨0, rfl, N0, Kp, (by decide), (fun i hi => absurd hi (Nat.not_lt_zero _)), (fun _ => c20), (fun q => absurd q (by decide))⟩
  · refine Go.of (fun _ q => XS.icmpYes X0.here hx rfl (pc0 := 20) (pc' := 26) rfl (hb hby d6_20) rfl (flt c20).2.2.2 (by decide) (by decide) q) ?_
    refine Go.of (fun _ q => XS.aloadN X0.here hx rfl (hb hby d6_26) rfl rfl q) ?_
    show Go _ _ _ _ _ _ _ (s₁.setTop (mkF m 27 #[.val (.ref b), .val (.int (0 : Int32)), .val (.ref d), .val (.int (0 : Int32)), .val (.int (1 : Int32)), .val (.int (0 : Int32)), .val (.int (gb 0))] [(.ref d)]))
    refine Go.of (fun _ q => XS.iloadN X0.here hx rfl (hb hby d6_27) rfl q) ?_
    refine Go.of (fun _ q => XS.iload X0.here hx rfl (hb hby d6_28) rfl q) ?_
    refine Go.of (fun _ q => XS.i2b X0.here hx rfl (hb hby d6_30) rfl q) ?_
    show Go _ _ _ _ _ _ _ (s₁.setTop (mkF m 31 #[.val (.ref b), .val (.int (0 : Int32)), .val (.ref d), .val (.int (0 : Int32)), .val (.int (1 : Int32)), .val (.int (0 : Int32)), .val (.int (gb 0))] [(.int ((gb 0).toInt8.toInt32)), (.int (0 : Int32)), (.ref d)]))
    obtain ⟨T1, h1, X1, e1, W1, A1', st1⟩ := AF.bastore A_d X0 hx hZ e0 (i := 0) ⟨rfl, by decide, by decide⟩ (g := (mkF m 31 #[.val (.ref b), .val (.int (0 : Int32)), .val (.ref d), .val (.int (0 : Int32)), .val (.int (1 : Int32)), .val (.int (0 : Int32)), .val (.int (gb 0))] [(.int ((gb 0).toInt8.toInt32)), (.int (0 : Int32)), (.ref d)])) rfl rfl (hb hby d6_31)
    refine Go.of st1 ?_
    have Zs := Nat.le_trans Zs (Nat.le_of_eq W1.size.symm)
    have Kp := Kp.wr W1 (Or.inl (List.mem_of_getElem? (i := 0) rfl))
    have A_b := A_b.other W1 ne_b_d
    have A_d : AF Z h1 d kd .byte 1 (fun i => .int ((upI gd 0 (((gb 0).toInt8.toInt32).toInt8.toInt32)) i)) := A1'.toI
    have N1 := Fr.snoc X1 N0 g_d
    refine Go.of (fun _ q => XS.iinc X1.here hx rfl (hb hby d6_32) rfl (l' := #[.val (.ref b), .val (.int (1 : Int32)), .val (.ref d), .val (.int (0 : Int32)), .val (.int (1 : Int32)), .val (.int (0 : Int32)), .val (.int (gb 0))]) rfl q) ?_
    refine Go.of (fun _ q => XS.iinc X1.here hx rfl (hb hby d6_35) rfl (l' := #[.val (.ref b), .val (.int (1 : Int32)), .val (.ref d), .val (.int (1 : Int32)), .val (.int (1 : Int32)), .val (.int (0 : Int32)), .val (.int (gb 0))]) rfl q) ?_
    show Go _ _ _ _ _ _ _ (T1.setTop (mkF m 38 #[.val (.ref b), .val (.int (1 : Int32)), .val (.ref d), .val (.int (1 : Int32)), .val (.int (1 : Int32)), .val (.int (0 : Int32)), .val (.int (gb 0))] []))
    refine Go.of (fun _ q => XS.iinc X1.here hx rfl (hb hby d6_38) rfl (l' := #[.val (.ref b), .val (.int (1 : Int32)), .val (.ref d), .val (.int (1 : Int32)), .val (.int (1 : Int32)), .val (.int (1 : Int32)), .val (.int (gb 0))]) rfl q) ?_
    refine Go.of (fun _ q => XS.goto X1.here hx rfl (pc0 := 41) (pc' := 3) rfl (hb hby d6_41) (by decide) (by decide) q) ?_
    refine Go.of (fun _ q => XS.iload X1.here hx rfl (hb hby d6_3) rfl q) ?_
    show Go _ _ _ _ _ _ _ (T1.setTop (mkF m 5 #[.val (.ref b), .val (.int (1 : Int32)), .val (.ref d), .val (.int (1 : Int32)), .val (.int (1 : Int32)), .val (.int (1 : Int32)), .val (.int (gb 0))] [(.int (1 : Int32))]))
    refine Go.of (fun _ q => XS.iload X1.here hx rfl (hb hby d6_5) rfl q) ?_
    refine Go.of (fun _ q => XS.icmpYes X1.here hx rfl (pc0 := 7) (pc' := 44) rfl (hb hby d6_7) rfl (flt (by decide)).2.1 (by decide) (by decide) q) ?_
    refine Go.of (fun _ q => XS.iload X1.here hx rfl (hb hby d6_44) rfl q) ?_
    show Go _ _ _ _ _ _ _ (T1.setTop (mkF m 46 #[.val (.ref b), .val (.int (1 : Int32)), .val (.ref d), .val (.int (1 : Int32)), .val (.int (1 : Int32)), .val (.int (1 : Int32)), .val (.int (gb 0))] [(.int (1 : Int32))]))
    refine Go.retI X1 hx hlk hret (hb hby d6_46) (by decide) (by decide) ?_
    rw [e1]
    exact ⟨1, rfl, N1, Kp, (by decide), (fun i hi => by rcases (show i = 0 by omega) with rfl <;> assumption), (fun q => absurd q (by decide)), (fun _ => AF.cast A_d (fun i hi => by rcases (show i = 0 by omega) with rfl <;> simp [upI, own_by]))⟩
theorem pd12 : parseMethodDescriptor "([CI[BII)I" = some ⟨[(.array .char), .int, (.array .byte), .int, .int], some .int⟩ := by decide +kernel
theorem pd13 : parseMethodDescriptor "([CII)[B" = some ⟨[(.array .char), .int, .int], some (.array .byte)⟩ := by decide +kernel
theorem d5_0 : decode jdk_52_method_16_code 0 = .ok (.iload_n 2, 1) := by decide +kernel
theorem d5_1 : decode jdk_52_method_16_code 1 = .ok (.newarray .byte, 2) := by decide +kernel
theorem d5_3 : decode jdk_52_method_16_code 3 = .ok (.astore_n 3, 1) := by decide +kernel
theorem d5_4 : decode jdk_52_method_16_code 4 = .ok (.aload_n 0, 1) := by decide +kernel
theorem d5_5 : decode jdk_52_method_16_code 5 = .ok (.iload_n 1, 1) := by decide +kernel
theorem d5_6 : decode jdk_52_method_16_code 6 = .ok (.aload_n 3, 1) := by decide +kernel
theorem d5_7 : decode jdk_52_method_16_code 7 = .ok (.iconst 0, 1) := by decide +kernel
theorem d5_8 : decode jdk_52_method_16_code 8 = .ok (.iload_n 2, 1) := by decide +kernel
theorem d5_9 : decode jdk_52_method_16_code 9 = .ok (.invokestatic 115, 3) := by decide +kernel
theorem d5_12 : decode jdk_52_method_16_code 12 = .ok (.istore 4, 2) := by decide +kernel
theorem d5_14 : decode jdk_52_method_16_code 14 = .ok (.iload 4, 2) := by decide +kernel
theorem d5_16 : decode jdk_52_method_16_code 16 = .ok (.iload_n 2, 1) := by decide +kernel
theorem d5_17 : decode jdk_52_method_16_code 17 = .ok (.if_icmp .eq 40, 3) := by decide +kernel
theorem d5_20 : decode jdk_52_method_16_code 20 = .ok (.aload_n 0, 1) := by decide +kernel
theorem d5_21 : decode jdk_52_method_16_code 21 = .ok (.iload_n 1, 1) := by decide +kernel
theorem d5_22 : decode jdk_52_method_16_code 22 = .ok (.iload_n 2, 1) := by decide +kernel
theorem d5_23 : decode jdk_52_method_16_code 23 = .ok (.invokestatic 119, 3) := by decide +kernel
theorem d5_26 : decode jdk_52_method_16_code 26 = .ok (.astore 5, 2) := by decide +kernel
theorem d5_28 : decode jdk_52_method_16_code 28 = .ok (.aload 5, 2) := by decide +kernel
theorem d5_30 : decode jdk_52_method_16_code 30 = .ok (.iload 4, 2) := by decide +kernel
theorem d5_32 : decode jdk_52_method_16_code 32 = .ok (.invokestatic 71, 3) := by decide +kernel
theorem d5_35 : decode jdk_52_method_16_code 35 = .ok (.sipush 255, 3) := by decide +kernel
theorem d5_38 : decode jdk_52_method_16_code 38 = .ok (.if_icmp .gt 16, 3) := by decide +kernel
theorem d5_54 : decode jdk_52_method_16_code 54 = .ok (.aload 5, 2) := by decide +kernel
theorem d5_56 : decode jdk_52_method_16_code 56 = .ok (.areturn, 1) := by decide +kernel
theorem d5_57 : decode jdk_52_method_16_code 57 = .ok (.aload_n 3, 1) := by decide +kernel
theorem d5_58 : decode jdk_52_method_16_code 58 = .ok (.areturn, 1) := by decide +kernel
theorem ef_5_1 (m : MethodId) (b : Addr) : entryFrame m #[(.ref b), (.int (0 : Int32)), (.int (1 : Int32))] 6 = mkF m 0 #[.val (.ref b), .val (.int (0 : Int32)), .val (.int (1 : Int32)), .unset, .unset, .unset] [] := by first | (simp [entryFrame, mkF, argsToLocals, Value.category]; done) | rfl
def Q5_1 (Z : State) (b : Addr) (kb : ClassId) (gb : Nat → Int32) (h0 : Heap) (n0 : Nat) (v : Option Value) (h : Heap) (L : List Loc) : Prop := ∃ d : Addr, v = some (.ref d) ∧ Fr n0 L ∧ Keep h0 h [] ∧ h0.size ≤ d ∧ (own_B Z h d 1 gb)
set_option maxRecDepth 65536 in
set_option maxHeartbeats 40000000 in
theorem rm5_1 (l : Launch) (Z : State) (a0 : Array Value) (hw : ∀ d ∈ tables_1, d.before a0 Z = true) (b : Addr) (kb : ClassId) (gb : Nat → Int32) (h0 : Heap) (n0 : Nat) (Zs : n0 ≤ h0.size) (Od : Old Z n0 h0) (A_b : AF Z h0 b kb .char 1 (fun i => .int (gb i))) (hcc : ∀ i, i < 1 → own_cc (gb i) = gb i) (Sad : Sta Z Z.heap "java/lang/StringUTF16" "$assertionsDisabled" "Z" (.int (1 : Int32))) (Shi : Sta Z Z.heap "java/lang/StringUTF16" "HI_BYTE_SHIFT" "I" (.int (0 : Int32))) (Slo : Sta Z Z.heap "java/lang/StringUTF16" "LO_BYTE_SHIFT" "I" (.int (8 : Int32))) :
    Con l Z (⟨"java/lang/StringUTF16", "compress", "([CII)[B"⟩ : MethodName) jdk_52_method_16_code 6 (some (.array .byte)) ({ frames := 3, cells := 2, slots := 3, locals := 40 } : Room) #[(.ref b), (.int (0 : Int32)), (.int (1 : Int32))] h0 (Q5_1 Z b kb gb h0 n0) := by
  refine Con.intro (plainFor_of_name pn3) (fun m => ef_5_1 m b) ?_
  intro p e s m below meth c s₁ hx hby hml0 hZ hown hnm hret hlk X0 e0
  have hml : c.maxLocals = 6 := hml0
  have N0 := Fr.nil n0
  have Kp : Keep h0 h0 [] := Keep.refl h0 _
  show Go _ _ _ _ _ _ _ (s₁.setTop (mkF m 0 #[.val (.ref b), .val (.int (0 : Int32)), .val (.int (1 : Int32)), .unset, .unset, .unset] []))
  refine Go.of (fun _ q => XS.iloadN X0.here hx rfl (hb hby d5_0) rfl q) ?_
  obtain ⟨T1, h1, k1, X1, e1, E1, A1, B1, st1⟩ := newPE X0 hx hZ (hw _ (List.mem_of_getElem? (i := 20) rfl)) e0 (g := (mkF m 1 #[.val (.ref b), .val (.int (0 : Int32)), .val (.int (1 : Int32)), .unset, .unset, .unset] [(.int (1 : Int32))])) rfl (hb hby d5_1) rfl (by decide) (cap := 1) (by decide) (by decide) (by decide) (by decide) (ad := "[B") (by decide)
  obtain ⟨d0, g1⟩ : ∃ z, z = h0.size := ⟨_, rfl⟩
  rw [← g1] at A1 B1 st1
  refine Go.of st1 ?_
  have g_d0 : n0 ≤ d0 := Nat.le_trans Zs (Nat.le_of_eq g1.symm)
  have sz_d0 : h0.size ≤ d0 := Nat.le_trans Kp.1 (Nat.le_of_eq g1.symm)
  have ne_b_d0 : b ≠ d0 := Nat.ne_of_lt (Nat.lt_of_lt_of_le A_b.lt (Nat.le_of_eq g1.symm))
  have Zs := Nat.le_trans Zs E1.1
  have Kp := Kp.ext E1
  have Od := Od.ext E1
  have A_b := A_b.ext E1
  have E_d0 := B1
  have A_d0 : AF Z h1 d0 k1 .byte 1 (fun i => .int ((fun _ => (0 : Int32)) i)) := AF.new A1 (by decide) rfl rfl
  refine Go.of (fun _ q => XS.astoreN X1.here hx rfl (hb hby d5_3) rfl rfl (l' := #[.val (.ref b), .val (.int (0 : Int32)), .val (.int (1 : Int32)), .val (.ref d0), .unset, .unset]) rfl q) ?_
  show Go _ _ _ _ _ _ _ (T1.setTop (mkF m 4 #[.val (.ref b), .val (.int (0 : Int32)), .val (.int (1 : Int32)), .val (.ref d0), .unset, .unset] []))
  refine Go.of (fun _ q => XS.aloadN X1.here hx rfl (hb hby d5_4) rfl rfl q) ?_
  refine Go.of (fun _ q => XS.iloadN X1.here hx rfl (hb hby d5_5) rfl q) ?_
  refine Go.of (fun _ q => XS.aloadN X1.here hx rfl (hb hby d5_6) rfl rfl q) ?_
  show Go _ _ _ _ _ _ _ (T1.setTop (mkF m 7 #[.val (.ref b), .val (.int (0 : Int32)), .val (.int (1 : Int32)), .val (.ref d0), .unset, .unset] [(.ref d0), (.int (0 : Int32)), (.ref b)]))
  refine Go.of (fun _ q => XS.iconst X1.here hx rfl (hb hby d5_7) q) ?_
  refine Go.of (fun _ q => XS.iloadN X1.here hx rfl (hb hby d5_8) rfl q) ?_
  refine Go.static X1 hx hZ (y := (⟨"java/lang/StringUTF16", "compress", "([CI[BII)I"⟩ : MethodName)) (argsL := [(.ref b), (.int (0 : Int32)), (.ref d0), (.int (0 : Int32)), (.int (1 : Int32))]) hown (hw _ (List.mem_of_getElem? (i := 32) rfl)) (hw _ (List.mem_of_getElem? (i := 33) rfl)) (hw _ (List.mem_of_getElem? (i := 30) rfl)) (hw _ (List.mem_of_getElem? (i := 34) rfl)) (by decide) 0 e1 (rm6_1 l Z a0 hw b d0 kb gb k1 (fun _ => (0 : Int32)) h1 n0 Zs A_b A_d0 ne_b_d0 g_d0) (by decide) (by decide) (by decide) (by decide) (g := (mkF m 9 #[.val (.ref b), .val (.int (0 : Int32)), .val (.int (1 : Int32)), .val (.ref d0), .unset, .unset] [(.int (1 : Int32)), (.int (0 : Int32)), (.ref d0), (.int (0 : Int32)), (.ref b)])) rfl (by rw [hml]; rfl) (rest := []) (lenOf pd12 rfl) rfl (by show 2 * 0 + _ ≤ _; exact Nat.le_of_eq rfl) (hb hby d5_9) ?_
  intro T2 v2 L2 X2 q2
  obtain ⟨k, rfl, Nq2, K2, f2_0, f2_1, f2_2, f2_3⟩ := q2
  have N2 := Fr.app N0 Nq2
  have Zs := Nat.le_trans Zs K2.1
  have Kp := Kp.trans K2 (allS (P := fun x => x ∈ [] ∨ h0.size ≤ x) (Or.inr sz_d0) all0)
  have Od := Od.keep K2 (allS (P := fun x => n0 ≤ x) g_d0 all0)
  have A_b := A_b.keep K2 (ninS ne_b_d0 nin0)
  have E_d0 := E_d0.keep K2
  have hkn_2 := f2_0
  have hl_2 := f2_1
  have hy_2 := f2_2
  have hA_2 := f2_3
  show Go _ _ _ _ _ _ _ (T2.setTop (mkF m 12 #[.val (.ref b), .val (.int (0 : Int32)), .val (.int (1 : Int32)), .val (.ref d0), .unset, .unset] [(.int (Int32.ofNat k))]))
  refine Go.of (fun _ q => XS.istore X2.here hx rfl (hb hby d5_12) rfl (l' := #[.val (.ref b), .val (.int (0 : Int32)), .val (.int (1 : Int32)), .val (.ref d0), .val (.int (Int32.ofNat k)), .unset]) rfl q) ?_
  refine Go.of (fun _ q => XS.iload X2.here hx rfl (hb hby d5_14) rfl q) ?_
  refine Go.of (fun _ q => XS.iloadN X2.here hx rfl (hb hby d5_16) rfl q) ?_
  show Go _ _ _ _ _ _ _ (T2.setTop (mkF m 17 #[.val (.ref b), .val (.int (0 : Int32)), .val (.int (1 : Int32)), .val (.ref d0), .val (.int (Int32.ofNat k)), .unset] [(.int (1 : Int32)), (.int (Int32.ofNat k))]))
  by_cases c17 : (Int32.ofNat k) = (1 : Int32)
  · refine Go.of (fun _ q => XS.icmpYes X2.here hx rfl (pc0 := 17) (pc' := 57) rfl (hb hby d5_17) rfl (teq c17).1 (by decide) (by decide) q) ?_
    refine Go.of (fun _ q => XS.aloadN X2.here hx rfl (hb hby d5_57) rfl rfl q) ?_
    refine Go.retA X2 hx hlk hret rfl rfl (hb hby d5_58) (by decide) (by decide) ?_
    exact ⟨d0, rfl, N2, Kp, sz_d0, (show own_B Z _ d0 1 gb from ⟨_, Or.inl ⟨hA_2 ((own_kn (by decide) hkn_2).mp c17), (own_kn (by decide) hkn_2).mp c17 ▸ hl_2⟩⟩)⟩
  · refine Go.of (fun _ q => XS.icmpNo X2.here hx rfl (hb hby d5_17) rfl (feq c17).1 q) ?_
    show Go _ _ _ _ _ _ _ (T2.setTop (mkF m 20 #[.val (.ref b), .val (.int (0 : Int32)), .val (.int (1 : Int32)), .val (.ref d0), .val (.int (Int32.ofNat k)), .unset] []))
    refine Go.of (fun _ q => XS.aloadN X2.here hx rfl (hb hby d5_20) rfl rfl q) ?_
    refine Go.of (fun _ q => XS.iloadN X2.here hx rfl (hb hby d5_21) rfl q) ?_
    refine Go.of (fun _ q => XS.iloadN X2.here hx rfl (hb hby d5_22) rfl q) ?_
    show Go _ _ _ _ _ _ _ (T2.setTop (mkF m 23 #[.val (.ref b), .val (.int (0 : Int32)), .val (.int (1 : Int32)), .val (.ref d0), .val (.int (Int32.ofNat k)), .unset] [(.int (1 : Int32)), (.int (0 : Int32)), (.ref b)]))
    refine Go.static X2 hx hZ (y := (⟨"java/lang/StringUTF16", "toBytes", "([CII)[B"⟩ : MethodName)) (argsL := [(.ref b), (.int (0 : Int32)), (.int (1 : Int32))]) hown (hw _ (List.mem_of_getElem? (i := 81) rfl)) (hw _ (List.mem_of_getElem? (i := 82) rfl)) (hw _ (List.mem_of_getElem? (i := 30) rfl)) (hw _ (List.mem_of_getElem? (i := 83) rfl)) (by decide) 0 rfl (rm17_1 l Z a0 hw b kb gb T2.heap n0 Zs Od A_b Sad Shi Slo) (by decide) (by decide) (by decide) (by decide) (g := (mkF m 23 #[.val (.ref b), .val (.int (0 : Int32)), .val (.int (1 : Int32)), .val (.ref d0), .val (.int (Int32.ofNat k)), .unset] [(.int (1 : Int32)), (.int (0 : Int32)), (.ref b)])) rfl (by rw [hml]; rfl) (rest := []) (lenOf pd13 rfl) rfl (by show 2 * 0 + _ ≤ _; exact Nat.le_of_eq rfl) (hb hby d5_23) ?_
    intro T3 v3 L3 X3 q3
    obtain ⟨d1, kd1, rfl, Nq3, K3, f3_0, f3_1⟩ := q3
    have N3 := Fr.app N2 Nq3
    have g_d1 : n0 ≤ d1 := Nat.le_trans Zs f3_0
    have sz_d1 : h0.size ≤ d1 := Nat.le_trans Kp.1 f3_0
    have ne_b_d1 : b ≠ d1 := Nat.ne_of_lt (Nat.lt_of_lt_of_le A_b.lt f3_0)
    have ne_d0_d1 : d0 ≠ d1 := Nat.ne_of_lt (Nat.lt_of_lt_of_le E_d0.lt f3_0)
    have Zs := Nat.le_trans Zs K3.1
    have Kp := Kp.trans K3 all0
    have Od := Od.keep K3 all0
    have A_b := A_b.keep K3 nin0
    have E_d0 := E_d0.keep K3
    have A_d1 := f3_1
    refine Go.of (fun _ q => XS.astore X3.here hx rfl (hb hby d5_26) rfl rfl (l' := #[.val (.ref b), .val (.int (0 : Int32)), .val (.int (1 : Int32)), .val (.ref d0), .val (.int (Int32.ofNat k)), .val (.ref d1)]) rfl q) ?_
    refine Go.of (fun _ q => XS.aload X3.here hx rfl (hb hby d5_28) rfl rfl q) ?_
    show Go _ _ _ _ _ _ _ (T3.setTop (mkF m 30 #[.val (.ref b), .val (.int (0 : Int32)), .val (.int (1 : Int32)), .val (.ref d0), .val (.int (Int32.ofNat k)), .val (.ref d1)] [(.ref d1)]))
    refine Go.of (fun _ q => XS.iload X3.here hx rfl (hb hby d5_30) rfl q) ?_
    refine Go.static X3 hx hZ (y := (⟨"java/lang/StringUTF16", "getChar", "([BI)C"⟩ : MethodName)) (argsL := [(.ref d1), (.int (Int32.ofNat k))]) hown (hw _ (List.mem_of_getElem? (i := 97) rfl)) (hw _ (List.mem_of_getElem? (i := 98) rfl)) (hw _ (List.mem_of_getElem? (i := 30) rfl)) (hw _ (List.mem_of_getElem? (i := 99) rfl)) (by decide) 0 rfl (rm21 l Z a0 hw d1 (Int32.ofNat k) kd1 (own_u gb) 2 k T3.heap n0 Zs Od A_d1 rfl (own_kk (own_lt (n := 1) (by decide) hkn_2 c17)) (by decide) Sad Shi Slo) (by decide) (by decide) (by decide) (by decide) (g := (mkF m 32 #[.val (.ref b), .val (.int (0 : Int32)), .val (.int (1 : Int32)), .val (.ref d0), .val (.int (Int32.ofNat k)), .val (.ref d1)] [(.int (Int32.ofNat k)), (.ref d1)])) rfl (by rw [hml]; rfl) (rest := []) (lenOf pd4 rfl) rfl (by show 2 * 0 + _ ≤ _; exact Nat.le_of_eq rfl) (hb hby d5_32) ?_
    intro T4 v4 L4 X4 q4
    obtain ⟨rfl, Nq4, e4⟩ := q4
    have N4 := Fr.app N3 Nq4
    refine Go.of (fun _ q => XS.sipush X4.here hx rfl (hb hby d5_35) q) ?_
    show Go _ _ _ _ _ _ _ (T4.setTop (mkF m 38 #[.val (.ref b), .val (.int (0 : Int32)), .val (.int (1 : Int32)), .val (.ref d0), .val (.int (Int32.ofNat k)), .val (.ref d1)] [(.int (255 : Int32)), (.int (own_gc ((own_u gb) (2 * k)) ((own_u gb) (2 * k + 1))))]))
    refine Go.of (fun _ q => XS.icmpYes X4.here hx rfl (pc0 := 38) (pc' := 54) rfl (hb hby d5_38) rfl (tlt (own_gt2 (hcc k (own_lt (n := 1) (by decide) hkn_2 c17)) (hy_2 (own_lt (n := 1) (by decide) hkn_2 c17)))).2.2.1 (by decide) (by decide) q) ?_
    refine Go.of (fun _ q => XS.aload X4.here hx rfl (hb hby d5_54) rfl rfl q) ?_
    refine Go.retA X4 hx hlk hret rfl rfl (hb hby d5_56) (by decide) (by decide) ?_
    rw [e4]
    exact ⟨d1, rfl, N4, Kp, sz_d1, ⟨_, Or.inr A_d1⟩⟩
theorem d7_0 : decode jdk_52_method_15_code 0 = .ok (.iload_n 1, 1) := by decide +kernel
theorem d7_1 : decode jdk_52_method_15_code 1 = .ok (.aload_n 0, 1) := by decide +kernel
theorem d7_2 : decode jdk_52_method_15_code 2 = .ok (.arraylength, 1) := by decide +kernel
theorem d7_3 : decode jdk_52_method_15_code 3 = .ok (.isub, 1) := by decide +kernel
theorem d7_4 : decode jdk_52_method_15_code 4 = .ok (.bipush 31, 2) := by decide +kernel
theorem d7_6 : decode jdk_52_method_15_code 6 = .ok (.iushr, 1) := by decide +kernel
theorem d7_7 : decode jdk_52_method_15_code 7 = .ok (.i2b, 1) := by decide +kernel
theorem d7_8 : decode jdk_52_method_15_code 8 = .ok (.ireturn, 1) := by decide +kernel
theorem ef_7_1L (m : MethodId) (d : Addr) : entryFrame m #[(.ref d), (.int (1 : Int32))] 2 = mkF m 0 #[.val (.ref d), .val (.int (1 : Int32))] [] := by first | (simp [entryFrame, mkF, argsToLocals, Value.category]; done) | rfl
def Q7_1L (Z : State) (d : Addr) (kd : ClassId) (gd : Nat → Int32) (h0 : Heap) (n0 : Nat) (v : Option Value) (h : Heap) (L : List Loc) : Prop := v = some (.int (0 : Int32)) ∧ Fr n0 L ∧ h = h0
set_option maxRecDepth 65536 in
set_option maxHeartbeats 40000000 in
theorem rm7_1L (l : Launch) (Z : State) (a0 : Array Value) (hw : ∀ d ∈ tables_1, d.before a0 Z = true) (d : Addr) (kd : ClassId) (gd : Nat → Int32) (h0 : Heap) (n0 : Nat) (Zs : n0 ≤ h0.size) (A_d : AF Z h0 d kd .byte 1 (fun i => .int (gd i))) :
    Con l Z (⟨"java/lang/StringUTF16", "coderFromArrayLen", "([BI)B"⟩ : MethodName) jdk_52_method_15_code 2 (some .byte) ({ frames := 0, cells := 0, slots := 0, locals := 0 } : Room) #[(.ref d), (.int (1 : Int32))] h0 (Q7_1L Z d kd gd h0 n0) := by
  refine Con.intro (plainFor_of_name pn3) (fun m => ef_7_1L m d) ?_
  intro p e s m below meth c s₁ hx hby hml0 hZ hown hnm hret hlk X0 e0
  have hml : c.maxLocals = 2 := hml0
  have N0 := Fr.nil n0
  have Kp : Keep h0 h0 [] := Keep.refl h0 _
  show Go _ _ _ _ _ _ _ (s₁.setTop (mkF m 0 #[.val (.ref d), .val (.int (1 : Int32))] []))
  refine Go.of (fun _ q => XS.iloadN X0.here hx rfl (hb hby d7_0) rfl q) ?_
  refine Go.of (fun _ q => XS.aloadN X0.here hx rfl (hb hby d7_1) rfl rfl q) ?_
  refine Go.of (fun _ q => AF.length A_d X0 hx hZ e0 rfl (g := (mkF m 2 #[.val (.ref d), .val (.int (1 : Int32))] [(.ref d), (.int (1 : Int32))])) rfl rfl (hb hby d7_2) q) ?_
  show Go _ _ _ _ _ _ _ (s₁.setTop (mkF m 3 #[.val (.ref d), .val (.int (1 : Int32))] [(.int (1 : Int32)), (.int (1 : Int32))]))
  refine Go.of (fun _ q => XS.isub X0.here hx rfl (hb hby d7_3) rfl q) ?_
  refine Go.of (fun _ q => XS.bipush X0.here hx rfl (hb hby d7_4) q) ?_
  refine Go.of (fun _ q => XS.iushr X0.here hx rfl (hb hby d7_6) rfl q) ?_
  show Go _ _ _ _ _ _ _ (s₁.setTop (mkF m 7 #[.val (.ref d), .val (.int (1 : Int32))] [(.int (0 : Int32))]))
  refine Go.of (fun _ q => XS.i2b X0.here hx rfl (hb hby d7_7) rfl q) ?_
  refine Go.retN X0 hx hlk (t := .byte) hret (by simp) (hb hby d7_8) rfl (by decide) (by decide) ?_
  rw [e0]
  exact ⟨rfl, N0, rfl⟩
theorem ef_7_1U (m : MethodId) (d : Addr) : entryFrame m #[(.ref d), (.int (1 : Int32))] 2 = mkF m 0 #[.val (.ref d), .val (.int (1 : Int32))] [] := by first | (simp [entryFrame, mkF, argsToLocals, Value.category]; done) | rfl
def Q7_1U (Z : State) (d : Addr) (kd : ClassId) (gd : Nat → Int32) (h0 : Heap) (n0 : Nat) (v : Option Value) (h : Heap) (L : List Loc) : Prop := v = some (.int (1 : Int32)) ∧ Fr n0 L ∧ h = h0
set_option maxRecDepth 65536 in
set_option maxHeartbeats 40000000 in
theorem rm7_1U (l : Launch) (Z : State) (a0 : Array Value) (hw : ∀ d ∈ tables_1, d.before a0 Z = true) (d : Addr) (kd : ClassId) (gd : Nat → Int32) (h0 : Heap) (n0 : Nat) (Zs : n0 ≤ h0.size) (A_d : AF Z h0 d kd .byte 2 (fun i => .int (gd i))) :
    Con l Z (⟨"java/lang/StringUTF16", "coderFromArrayLen", "([BI)B"⟩ : MethodName) jdk_52_method_15_code 2 (some .byte) ({ frames := 0, cells := 0, slots := 0, locals := 0 } : Room) #[(.ref d), (.int (1 : Int32))] h0 (Q7_1U Z d kd gd h0 n0) := by
  refine Con.intro (plainFor_of_name pn3) (fun m => ef_7_1U m d) ?_
  intro p e s m below meth c s₁ hx hby hml0 hZ hown hnm hret hlk X0 e0
  have hml : c.maxLocals = 2 := hml0
  have N0 := Fr.nil n0
  have Kp : Keep h0 h0 [] := Keep.refl h0 _
  show Go _ _ _ _ _ _ _ (s₁.setTop (mkF m 0 #[.val (.ref d), .val (.int (1 : Int32))] []))
  refine Go.of (fun _ q => XS.iloadN X0.here hx rfl (hb hby d7_0) rfl q) ?_
  refine Go.of (fun _ q => XS.aloadN X0.here hx rfl (hb hby d7_1) rfl rfl q) ?_
  refine Go.of (fun _ q => AF.length A_d X0 hx hZ e0 rfl (g := (mkF m 2 #[.val (.ref d), .val (.int (1 : Int32))] [(.ref d), (.int (1 : Int32))])) rfl rfl (hb hby d7_2) q) ?_
  show Go _ _ _ _ _ _ _ (s₁.setTop (mkF m 3 #[.val (.ref d), .val (.int (1 : Int32))] [(.int (2 : Int32)), (.int (1 : Int32))]))
  refine Go.of (fun _ q => XS.isub X0.here hx rfl (hb hby d7_3) rfl q) ?_
  refine Go.of (fun _ q => XS.bipush X0.here hx rfl (hb hby d7_4) q) ?_
  refine Go.of (fun _ q => XS.iushr X0.here hx rfl (hb hby d7_6) rfl q) ?_
  show Go _ _ _ _ _ _ _ (s₁.setTop (mkF m 7 #[.val (.ref d), .val (.int (1 : Int32))] [(.int (1 : Int32))]))
  refine Go.of (fun _ q => XS.i2b X0.here hx rfl (hb hby d7_7) rfl q) ?_
  refine Go.retN X0 hx hlk (t := .byte) hret (by simp) (hb hby d7_8) rfl (by decide) (by decide) ?_
  rw [e0]
  exact ⟨rfl, N0, rfl⟩
theorem pd14 : parseMethodDescriptor "([BI)B" = some ⟨[(.array .byte), .int], some .byte⟩ := by decide +kernel
theorem d3_0 : decode jdk_42_method_149_code 0 = .ok (.aload_n 0, 1) := by decide +kernel
theorem d3_1 : decode jdk_42_method_149_code 1 = .ok (.invokespecial 1, 3) := by decide +kernel
theorem d3_4 : decode jdk_42_method_149_code 4 = .ok (.iload_n 3, 1) := by decide +kernel
theorem d3_5 : decode jdk_42_method_149_code 5 = .ok (.ifCond .ne 22, 3) := by decide +kernel
theorem d3_27 : decode jdk_42_method_149_code 27 = .ok (.getstatic 38, 3) := by decide +kernel
theorem d3_30 : decode jdk_42_method_149_code 30 = .ok (.ifCond .eq 28, 3) := by decide +kernel
theorem d3_33 : decode jdk_42_method_149_code 33 = .ok (.aload_n 1, 1) := by decide +kernel
theorem d3_34 : decode jdk_42_method_149_code 34 = .ok (.iload_n 2, 1) := by decide +kernel
theorem d3_35 : decode jdk_42_method_149_code 35 = .ok (.iload_n 3, 1) := by decide +kernel
theorem d3_36 : decode jdk_42_method_149_code 36 = .ok (.invokestatic 177, 3) := by decide +kernel
theorem d3_39 : decode jdk_42_method_149_code 39 = .ok (.astore 5, 2) := by decide +kernel
theorem d3_41 : decode jdk_42_method_149_code 41 = .ok (.aload_n 0, 1) := by decide +kernel
theorem d3_42 : decode jdk_42_method_149_code 42 = .ok (.aload 5, 2) := by decide +kernel
theorem d3_44 : decode jdk_42_method_149_code 44 = .ok (.iload_n 3, 1) := by decide +kernel
theorem d3_45 : decode jdk_42_method_149_code 45 = .ok (.invokestatic 47, 3) := by decide +kernel
theorem d3_48 : decode jdk_42_method_149_code 48 = .ok (.putfield 15, 3) := by decide +kernel
theorem d3_51 : decode jdk_42_method_149_code 51 = .ok (.aload_n 0, 1) := by decide +kernel
theorem d3_52 : decode jdk_42_method_149_code 52 = .ok (.aload 5, 2) := by decide +kernel
theorem d3_54 : decode jdk_42_method_149_code 54 = .ok (.putfield 9, 3) := by decide +kernel
theorem d3_57 : decode jdk_42_method_149_code 57 = .ok (.return_, 1) := by decide +kernel
theorem ef_3_1 (m : MethodId) (a : Addr) (b : Addr) : entryFrame m #[(.ref a), (.ref b), (.int (0 : Int32)), (.int (1 : Int32)), .null] 6 = mkF m 0 #[.val (.ref a), .val (.ref b), .val (.int (0 : Int32)), .val (.int (1 : Int32)), .val .null, .unset] [] := by first | (simp [entryFrame, mkF, argsToLocals, Value.category]; done) | rfl
def Q3_1 (Z : State) (a : Addr) (b : Addr) (kb : ClassId) (gb : Nat → Int32) (u1 : Value) (u2 : Int32) (cs : Int32) (h0 : Heap) (n0 : Nat) (v : Option Value) (h : Heap) (L : List Loc) : Prop := v = none ∧ Fr n0 L ∧ Keep h0 h [a] ∧ Exa Z h a "java/lang/String" ∧ own_St Z h a 1 gb
set_option maxRecDepth 65536 in
set_option maxHeartbeats 40000000 in
theorem rm3_1 (l : Launch) (Z : State) (a0 : Array Value) (hw : ∀ d ∈ tables_1, d.before a0 Z = true) (a : Addr) (b : Addr) (kb : ClassId) (gb : Nat → Int32) (u1 : Value) (u2 : Int32) (cs : Int32) (h0 : Heap) (n0 : Nat) (Zs : n0 ≤ h0.size) (Od : Old Z n0 h0) (E_a : Exa Z h0 a "java/lang/String") (F_a_value : Fld Z h0 a "java/lang/String" "value" "[B" u1) (F_a_coder : Fld Z h0 a "java/lang/String" "coder" "B" (.int u2)) (g_a : n0 ≤ a) (A_b : AF Z h0 b kb .char 1 (fun i => .int (gb i))) (ne_b_a : b ≠ a) (hcc : ∀ i, i < 1 → own_cc (gb i) = gb i) (Scs : Sta Z Z.heap "java/lang/String" "COMPACT_STRINGS" "Z" (.int cs)) (hcs : ¬ cs = (0 : Int32)) (Sad : Sta Z Z.heap "java/lang/StringUTF16" "$assertionsDisabled" "Z" (.int (1 : Int32))) (Shi : Sta Z Z.heap "java/lang/StringUTF16" "HI_BYTE_SHIFT" "I" (.int (0 : Int32))) (Slo : Sta Z Z.heap "java/lang/StringUTF16" "LO_BYTE_SHIFT" "I" (.int (8 : Int32))) :
    Con l Z (⟨"java/lang/String", "<init>", "([CIILjava/lang/Void;)V"⟩ : MethodName) jdk_42_method_149_code 6 none ({ frames := 4, cells := 2, slots := 3, locals := 57 } : Room) #[(.ref a), (.ref b), (.int (0 : Int32)), (.int (1 : Int32)), .null] h0 (Q3_1 Z a b kb gb u1 u2 cs h0 n0) := by
  refine Con.intro (plainFor_of_name pn1) (fun m => ef_3_1 m a b) ?_
  intro p e s m below meth c s₁ hx hby hml0 hZ hown hnm hret hlk X0 e0
  have hml : c.maxLocals = 6 := hml0
  have N0 := Fr.nil n0
  have Kp : Keep h0 h0 [a] := Keep.refl h0 _
  show Go _ _ _ _ _ _ _ (s₁.setTop (mkF m 0 #[.val (.ref a), .val (.ref b), .val (.int (0 : Int32)), .val (.int (1 : Int32)), .val .null, .unset] []))
  refine Go.of (fun _ q => XS.aloadN X0.here hx rfl (hb hby d3_0) rfl rfl q) ?_
  obtain ⟨T1, X1, e1, st1⟩ := initO X0 hx hZ hown (hw _ (List.mem_of_getElem? (i := 16) rfl)) (hw _ (List.mem_of_getElem? (i := 17) rfl)) (hw _ (List.mem_of_getElem? (i := 18) rfl)) e0 (g := (mkF m 1 #[.val (.ref a), .val (.ref b), .val (.int (0 : Int32)), .val (.int (1 : Int32)), .val .null, .unset] [(.ref a)])) rfl (by rw [hml]; rfl) rfl (hb hby d3_1) (by decide) (W := 0) (by show 2 * 0 + _ ≤ _; exact Nat.le_of_eq rfl) (by decide)
  refine Go.of st1 ?_
  refine Go.of (fun _ q => XS.iloadN X1.here hx rfl (hb hby d3_4) rfl q) ?_
  show Go _ _ _ _ _ _ _ (T1.setTop (mkF m 5 #[.val (.ref a), .val (.ref b), .val (.int (0 : Int32)), .val (.int (1 : Int32)), .val .null, .unset] [(.int (1 : Int32))]))
  refine Go.of (fun _ q => XS.ifYes X1.here hx rfl (pc0 := 5) (pc' := 27) rfl (hb hby d3_5) rfl ((if0 _ _).trans (feq (by decide)).2) (by decide) (by decide) q) ?_
  obtain ⟨T2, X2, e2, st2⟩ := getS2 X1 hx hZ hown (host := "") (Or.inl (hw _ (List.mem_of_getElem? (i := 27) rfl))) Via.refl e1 (Sta.ext Od.2 Scs) (g := (mkF m 27 #[.val (.ref a), .val (.ref b), .val (.int (0 : Int32)), .val (.int (1 : Int32)), .val .null, .unset] [])) rfl (hb hby d3_27)
  refine Go.of st2 ?_
  refine Go.of (fun _ q => XS.ifNo X2.here hx rfl (hb hby d3_30) rfl ((if0 _ _).trans (feq hcs).1) q) ?_
  show Go _ _ _ _ _ _ _ (T2.setTop (mkF m 33 #[.val (.ref a), .val (.ref b), .val (.int (0 : Int32)), .val (.int (1 : Int32)), .val .null, .unset] []))
  refine Go.of (fun _ q => XS.aloadN X2.here hx rfl (hb hby d3_33) rfl rfl q) ?_
  refine Go.of (fun _ q => XS.iloadN X2.here hx rfl (hb hby d3_34) rfl q) ?_
  refine Go.of (fun _ q => XS.iloadN X2.here hx rfl (hb hby d3_35) rfl q) ?_
  show Go _ _ _ _ _ _ _ (T2.setTop (mkF m 36 #[.val (.ref a), .val (.ref b), .val (.int (0 : Int32)), .val (.int (1 : Int32)), .val .null, .unset] [(.int (1 : Int32)), (.int (0 : Int32)), (.ref b)]))
  refine Go.static X2 hx hZ (y := (⟨"java/lang/StringUTF16", "compress", "([CII)[B"⟩ : MethodName)) (argsL := [(.ref b), (.int (0 : Int32)), (.int (1 : Int32))]) hown (hw _ (List.mem_of_getElem? (i := 28) rfl)) (hw _ (List.mem_of_getElem? (i := 29) rfl)) (hw _ (List.mem_of_getElem? (i := 30) rfl)) (hw _ (List.mem_of_getElem? (i := 31) rfl)) (by decide) 0 e2 (rm5_1 l Z a0 hw b kb gb h0 n0 Zs Od A_b hcc Sad Shi Slo) (by decide) (by decide) (by decide) (by decide) (g := (mkF m 36 #[.val (.ref a), .val (.ref b), .val (.int (0 : Int32)), .val (.int (1 : Int32)), .val .null, .unset] [(.int (1 : Int32)), (.int (0 : Int32)), (.ref b)])) rfl (by rw [hml]; rfl) (rest := []) (lenOf pd13 rfl) rfl (by show 2 * 0 + _ ≤ _; exact Nat.le_of_eq rfl) (hb hby d3_36) ?_
  intro T3 v3 L3 X3 q3
  obtain ⟨d, rfl, Nq3, K3, f3_0, f3_1⟩ := q3
  have N3 := Fr.app N0 Nq3
  have g_d : n0 ≤ d := Nat.le_trans Zs f3_0
  have sz_d : h0.size ≤ d := Nat.le_trans Kp.1 f3_0
  have ne_a_d : a ≠ d := Nat.ne_of_lt (Nat.lt_of_lt_of_le E_a.lt f3_0)
  have ne_b_d : b ≠ d := Nat.ne_of_lt (Nat.lt_of_lt_of_le A_b.lt f3_0)
  have Zs := Nat.le_trans Zs K3.1
  have Kp := Kp.trans K3 all0
  have Od := Od.keep K3 all0
  have E_a := E_a.keep K3
  have F_a_value := F_a_value.keep K3 nin0
  have F_a_coder := F_a_coder.keep K3 nin0
  have A_b := A_b.keep K3 nin0
  have hd_3 := f3_1
  show Go _ _ _ _ _ _ _ (T3.setTop (mkF m 39 #[.val (.ref a), .val (.ref b), .val (.int (0 : Int32)), .val (.int (1 : Int32)), .val .null, .unset] [(.ref d)]))
  obtain ⟨kd, ⟨A_d0, hl⟩ | A_d0⟩ := hd_3
  · have A_d : AF Z T3.heap d kd .byte 1 (fun i => .int ((fun i => own_by (gb i)) i)) := A_d0
    have ne_d_a : d ≠ a := Ne.symm ne_a_d
    refine Go.of (fun _ q => XS.astore X3.here hx rfl (hb hby d3_39) rfl rfl (l' := #[.val (.ref a), .val (.ref b), .val (.int (0 : Int32)), .val (.int (1 : Int32)), .val .null, .val (.ref d)]) rfl q) ?_
    refine Go.of (fun _ q => XS.aloadN X3.here hx rfl (hb hby d3_41) rfl rfl q) ?_
    show Go _ _ _ _ _ _ _ (T3.setTop (mkF m 42 #[.val (.ref a), .val (.ref b), .val (.int (0 : Int32)), .val (.int (1 : Int32)), .val .null, .val (.ref d)] [(.ref a)]))
    refine Go.of (fun _ q => XS.aload X3.here hx rfl (hb hby d3_42) rfl rfl q) ?_
    refine Go.of (fun _ q => XS.iloadN X3.here hx rfl (hb hby d3_44) rfl q) ?_
    refine Go.static X3 hx hZ (y := (⟨"java/lang/StringUTF16", "coderFromArrayLen", "([BI)B"⟩ : MethodName)) (argsL := [(.ref d), (.int (1 : Int32))]) hown (hw _ (List.mem_of_getElem? (i := 35) rfl)) (hw _ (List.mem_of_getElem? (i := 36) rfl)) (hw _ (List.mem_of_getElem? (i := 30) rfl)) (hw _ (List.mem_of_getElem? (i := 37) rfl)) (by decide) 1 rfl (rm7_1L l Z a0 hw d kd (fun i => own_by (gb i)) T3.heap n0 Zs A_d) (by decide) (by decide) (by decide) (by decide) (g := (mkF m 45 #[.val (.ref a), .val (.ref b), .val (.int (0 : Int32)), .val (.int (1 : Int32)), .val .null, .val (.ref d)] [(.int (1 : Int32)), (.ref d), (.ref a)])) rfl (by rw [hml]; rfl) (rest := [(.ref a)]) (lenOf pd14 rfl) rfl (by show 2 * 0 + _ ≤ _; exact Nat.le_of_eq rfl) (hb hby d3_45) ?_
    intro T4 v4 L4 X4 q4
    obtain ⟨rfl, Nq4, e4⟩ := q4
    have N4 := Fr.app N3 Nq4
    show Go _ _ _ _ _ _ _ (T4.setTop (mkF m 48 #[.val (.ref a), .val (.ref b), .val (.int (0 : Int32)), .val (.int (1 : Int32)), .val .null, .val (.ref d)] [(.int (0 : Int32)), (.ref a)]))
    obtain ⟨T5, h5, X5, e5, W5, st5⟩ := putFN X4 hx hZ hown (hw _ (List.mem_of_getElem? (i := 26) rfl)) Via.refl e4 F_a_coder E_a (Or.inr ⟨(hw _ (List.mem_of_getElem? (i := 22) rfl)), rfl, hnm⟩) (hw _ (List.mem_of_getElem? (i := 6) rfl)) (ty := .byte) (v' := .int (0 : Int32)) (by decide) rfl rfl (g := (mkF m 48 #[.val (.ref a), .val (.ref b), .val (.int (0 : Int32)), .val (.int (1 : Int32)), .val .null, .val (.ref d)] [(.int (0 : Int32)), (.ref a)])) rfl rfl (hb hby d3_48)
    refine Go.of st5 ?_
    have Zs := Nat.le_trans Zs (Nat.le_of_eq W5.size.symm)
    have Kp := Kp.wr W5 (Or.inl (List.mem_of_getElem? (i := 0) rfl))
    have Od := Od.wr W5 g_a
    have E_a := E_a.wr W5
    have F_a_value := F_a_value.other W5 (Or.inr (slot_ne (Or.inr (hw _ (List.mem_of_getElem? (i := 21) rfl))) (Or.inr (hw _ (List.mem_of_getElem? (i := 22) rfl))) (by decide) (t := (.array .byte)) (t' := .byte) (by decide) (by decide)))
    have F_a_coder := F_a_coder.same W5
    have A_b := A_b.other W5 ne_b_a
    have A_d := A_d.other W5 ne_d_a
    have N5 := Fr.snoc X5 N4 g_a
    refine Go.of (fun _ q => XS.aloadN X5.here hx rfl (hb hby d3_51) rfl rfl q) ?_
    refine Go.of (fun _ q => XS.aload X5.here hx rfl (hb hby d3_52) rfl rfl q) ?_
    show Go _ _ _ _ _ _ _ (T5.setTop (mkF m 54 #[.val (.ref a), .val (.ref b), .val (.int (0 : Int32)), .val (.int (1 : Int32)), .val .null, .val (.ref d)] [(.ref d), (.ref a)]))
    obtain ⟨T6, h6, X6, e6, W6, st6⟩ := putF X5 hx hZ hown (host := "") (Or.inl (hw _ (List.mem_of_getElem? (i := 25) rfl))) Via.refl e5 F_a_value E_a (Or.inr ⟨(hw _ (List.mem_of_getElem? (i := 21) rfl)), rfl, hnm⟩) (hw _ (List.mem_of_getElem? (i := 6) rfl)) (ty := (.array .byte)) (by decide) rfl rfl (g := (mkF m 54 #[.val (.ref a), .val (.ref b), .val (.int (0 : Int32)), .val (.int (1 : Int32)), .val .null, .val (.ref d)] [(.ref d), (.ref a)])) rfl rfl (hb hby d3_54)
    refine Go.of st6 ?_
    have Zs := Nat.le_trans Zs (Nat.le_of_eq W6.size.symm)
    have Kp := Kp.wr W6 (Or.inl (List.mem_of_getElem? (i := 0) rfl))
    have Od := Od.wr W6 g_a
    have E_a := E_a.wr W6
    have F_a_value := F_a_value.same W6
    have F_a_coder := F_a_coder.other W6 (Or.inr (slot_ne (Or.inr (hw _ (List.mem_of_getElem? (i := 22) rfl))) (Or.inr (hw _ (List.mem_of_getElem? (i := 21) rfl))) (by decide) (t := .byte) (t' := (.array .byte)) (by decide) (by decide)))
    have A_b := A_b.other W6 ne_b_a
    have A_d := A_d.other W6 ne_d_a
    have N6 := Fr.snoc X6 N5 g_a
    refine Go.retV X6 hx hlk hret (hb hby d3_57) (by decide) (by decide) ?_
    rw [e6]
    exact ⟨rfl, N6, Kp, E_a, (own_St.mkL F_a_value F_a_coder A_d (own_hL hl hcc))⟩
  · have A_d : AF Z T3.heap d kd .byte 2 (fun i => .int ((own_u gb) i)) := A_d0
    have ne_d_a : d ≠ a := Ne.symm ne_a_d
    refine Go.of (fun _ q => XS.astore X3.here hx rfl (hb hby d3_39) rfl rfl (l' := #[.val (.ref a), .val (.ref b), .val (.int (0 : Int32)), .val (.int (1 : Int32)), .val .null, .val (.ref d)]) rfl q) ?_
    show Go _ _ _ _ _ _ _ (T3.setTop (mkF m 41 #[.val (.ref a), .val (.ref b), .val (.int (0 : Int32)), .val (.int (1 : Int32)), .val .null, .val (.ref d)] []))
    refine Go.of (fun _ q => XS.aloadN X3.here hx rfl (hb hby d3_41) rfl rfl q) ?_
    refine Go.of (fun _ q => XS.aload X3.here hx rfl (hb hby d3_42) rfl rfl q) ?_
    refine Go.of (fun _ q => XS.iloadN X3.here hx rfl (hb hby d3_44) rfl q) ?_
    show Go _ _ _ _ _ _ _ (T3.setTop (mkF m 45 #[.val (.ref a), .val (.ref b), .val (.int (0 : Int32)), .val (.int (1 : Int32)), .val .null, .val (.ref d)] [(.int (1 : Int32)), (.ref d), (.ref a)]))
    refine Go.static X3 hx hZ (y := (⟨"java/lang/StringUTF16", "coderFromArrayLen", "([BI)B"⟩ : MethodName)) (argsL := [(.ref d), (.int (1 : Int32))]) hown (hw _ (List.mem_of_getElem? (i := 35) rfl)) (hw _ (List.mem_of_getElem? (i := 36) rfl)) (hw _ (List.mem_of_getElem? (i := 30) rfl)) (hw _ (List.mem_of_getElem? (i := 37) rfl)) (by decide) 1 rfl (rm7_1U l Z a0 hw d kd (own_u gb) T3.heap n0 Zs A_d) (by decide) (by decide) (by decide) (by decide) (g := (mkF m 45 #[.val (.ref a), .val (.ref b), .val (.int (0 : Int32)), .val (.int (1 : Int32)), .val .null, .val (.ref d)] [(.int (1 : Int32)), (.ref d), (.ref a)])) rfl (by rw [hml]; rfl) (rest := [(.ref a)]) (lenOf pd14 rfl) rfl (by show 2 * 0 + _ ≤ _; exact Nat.le_of_eq rfl) (hb hby d3_45) ?_
    intro T7 v7 L7 X7 q7
    obtain ⟨rfl, Nq7, e7⟩ := q7
    have N7 := Fr.app N3 Nq7
    obtain ⟨T8, h8, X8, e8, W8, st8⟩ := putFN X7 hx hZ hown (hw _ (List.mem_of_getElem? (i := 26) rfl)) Via.refl e7 F_a_coder E_a (Or.inr ⟨(hw _ (List.mem_of_getElem? (i := 22) rfl)), rfl, hnm⟩) (hw _ (List.mem_of_getElem? (i := 6) rfl)) (ty := .byte) (v' := .int (1 : Int32)) (by decide) rfl rfl (g := (mkF m 48 #[.val (.ref a), .val (.ref b), .val (.int (0 : Int32)), .val (.int (1 : Int32)), .val .null, .val (.ref d)] [(.int (1 : Int32)), (.ref a)])) rfl rfl (hb hby d3_48)
    refine Go.of st8 ?_
    have Zs := Nat.le_trans Zs (Nat.le_of_eq W8.size.symm)
    have Kp := Kp.wr W8 (Or.inl (List.mem_of_getElem? (i := 0) rfl))
    have Od := Od.wr W8 g_a
    have E_a := E_a.wr W8
    have F_a_value := F_a_value.other W8 (Or.inr (slot_ne (Or.inr (hw _ (List.mem_of_getElem? (i := 21) rfl))) (Or.inr (hw _ (List.mem_of_getElem? (i := 22) rfl))) (by decide) (t := (.array .byte)) (t' := .byte) (by decide) (by decide)))
    have F_a_coder := F_a_coder.same W8
    have A_b := A_b.other W8 ne_b_a
    have A_d := A_d.other W8 ne_d_a
    have N8 := Fr.snoc X8 N7 g_a
    refine Go.of (fun _ q => XS.aloadN X8.here hx rfl (hb hby d3_51) rfl rfl q) ?_
    show Go _ _ _ _ _ _ _ (T8.setTop (mkF m 52 #[.val (.ref a), .val (.ref b), .val (.int (0 : Int32)), .val (.int (1 : Int32)), .val .null, .val (.ref d)] [(.ref a)]))
    refine Go.of (fun _ q => XS.aload X8.here hx rfl (hb hby d3_52) rfl rfl q) ?_
    obtain ⟨T9, h9, X9, e9, W9, st9⟩ := putF X8 hx hZ hown (host := "") (Or.inl (hw _ (List.mem_of_getElem? (i := 25) rfl))) Via.refl e8 F_a_value E_a (Or.inr ⟨(hw _ (List.mem_of_getElem? (i := 21) rfl)), rfl, hnm⟩) (hw _ (List.mem_of_getElem? (i := 6) rfl)) (ty := (.array .byte)) (by decide) rfl rfl (g := (mkF m 54 #[.val (.ref a), .val (.ref b), .val (.int (0 : Int32)), .val (.int (1 : Int32)), .val .null, .val (.ref d)] [(.ref d), (.ref a)])) rfl rfl (hb hby d3_54)
    refine Go.of st9 ?_
    have Zs := Nat.le_trans Zs (Nat.le_of_eq W9.size.symm)
    have Kp := Kp.wr W9 (Or.inl (List.mem_of_getElem? (i := 0) rfl))
    have Od := Od.wr W9 g_a
    have E_a := E_a.wr W9
    have F_a_value := F_a_value.same W9
    have F_a_coder := F_a_coder.other W9 (Or.inr (slot_ne (Or.inr (hw _ (List.mem_of_getElem? (i := 22) rfl))) (Or.inr (hw _ (List.mem_of_getElem? (i := 21) rfl))) (by decide) (t := .byte) (t' := (.array .byte)) (by decide) (by decide)))
    have A_b := A_b.other W9 ne_b_a
    have A_d := A_d.other W9 ne_d_a
    have N9 := Fr.snoc X9 N8 g_a
    refine Go.retV X9 hx hlk hret (hb hby d3_57) (by decide) (by decide) ?_
    rw [e9]
    exact ⟨rfl, N9, Kp, E_a, (own_St.mkU F_a_value F_a_coder A_d (own_hU hcc))⟩
theorem pd15 : parseMethodDescriptor "([CIILjava/lang/Void;)V" = some ⟨[(.array .char), .int, .int, (.object "java/lang/Void")], none⟩ := by decide +kernel
theorem d2_0 : decode jdk_42_method_3_code 0 = .ok (.aload_n 0, 1) := by decide +kernel
theorem d2_1 : decode jdk_42_method_3_code 1 = .ok (.aload_n 1, 1) := by decide +kernel
theorem d2_2 : decode jdk_42_method_3_code 2 = .ok (.iconst 0, 1) := by decide +kernel
theorem d2_3 : decode jdk_42_method_3_code 3 = .ok (.aload_n 1, 1) := by decide +kernel
theorem d2_4 : decode jdk_42_method_3_code 4 = .ok (.arraylength, 1) := by decide +kernel
theorem d2_5 : decode jdk_42_method_3_code 5 = .ok (.aconst_null, 1) := by decide +kernel
theorem d2_6 : decode jdk_42_method_3_code 6 = .ok (.invokespecial 27, 3) := by decide +kernel
theorem d2_9 : decode jdk_42_method_3_code 9 = .ok (.return_, 1) := by decide +kernel
theorem ef_2_1 (m : MethodId) (a : Addr) (b : Addr) : entryFrame m #[(.ref a), (.ref b)] 2 = mkF m 0 #[.val (.ref a), .val (.ref b)] [] := by first | (simp [entryFrame, mkF, argsToLocals, Value.category]; done) | rfl
def Q2_1 (Z : State) (a : Addr) (b : Addr) (kb : ClassId) (gb : Nat → Int32) (u1 : Value) (u2 : Int32) (cs : Int32) (h0 : Heap) (n0 : Nat) (v : Option Value) (h : Heap) (L : List Loc) : Prop := v = none ∧ Fr n0 L ∧ Keep h0 h [a] ∧ Exa Z h a "java/lang/String" ∧ own_St Z h a 1 gb
set_option maxRecDepth 65536 in
set_option maxHeartbeats 40000000 in
theorem rm2_1 (l : Launch) (Z : State) (a0 : Array Value) (hw : ∀ d ∈ tables_1, d.before a0 Z = true) (a : Addr) (b : Addr) (kb : ClassId) (gb : Nat → Int32) (u1 : Value) (u2 : Int32) (cs : Int32) (h0 : Heap) (n0 : Nat) (Zs : n0 ≤ h0.size) (Od : Old Z n0 h0) (E_a : Exa Z h0 a "java/lang/String") (F_a_value : Fld Z h0 a "java/lang/String" "value" "[B" u1) (F_a_coder : Fld Z h0 a "java/lang/String" "coder" "B" (.int u2)) (g_a : n0 ≤ a) (A_b : AF Z h0 b kb .char 1 (fun i => .int (gb i))) (ne_b_a : b ≠ a) (hcc : ∀ i, i < 1 → own_cc (gb i) = gb i) (Scs : Sta Z Z.heap "java/lang/String" "COMPACT_STRINGS" "Z" (.int cs)) (hcs : ¬ cs = (0 : Int32)) (Sad : Sta Z Z.heap "java/lang/StringUTF16" "$assertionsDisabled" "Z" (.int (1 : Int32))) (Shi : Sta Z Z.heap "java/lang/StringUTF16" "HI_BYTE_SHIFT" "I" (.int (0 : Int32))) (Slo : Sta Z Z.heap "java/lang/StringUTF16" "LO_BYTE_SHIFT" "I" (.int (8 : Int32))) :
    Con l Z (⟨"java/lang/String", "<init>", "([C)V"⟩ : MethodName) jdk_42_method_3_code 2 none ({ frames := 5, cells := 2, slots := 3, locals := 74 } : Room) #[(.ref a), (.ref b)] h0 (Q2_1 Z a b kb gb u1 u2 cs h0 n0) := by
  refine Con.intro (plainFor_of_name pn1) (fun m => ef_2_1 m a b) ?_
  intro p e s m below meth c s₁ hx hby hml0 hZ hown hnm hret hlk X0 e0
  have hml : c.maxLocals = 2 := hml0
  have N0 := Fr.nil n0
  have Kp : Keep h0 h0 [a] := Keep.refl h0 _
  show Go _ _ _ _ _ _ _ (s₁.setTop (mkF m 0 #[.val (.ref a), .val (.ref b)] []))
  refine Go.of (fun _ q => XS.aloadN X0.here hx rfl (hb hby d2_0) rfl rfl q) ?_
  refine Go.of (fun _ q => XS.aloadN X0.here hx rfl (hb hby d2_1) rfl rfl q) ?_
  refine Go.of (fun _ q => XS.iconst X0.here hx rfl (hb hby d2_2) q) ?_
  show Go _ _ _ _ _ _ _ (s₁.setTop (mkF m 3 #[.val (.ref a), .val (.ref b)] [(.int (0 : Int32)), (.ref b), (.ref a)]))
  refine Go.of (fun _ q => XS.aloadN X0.here hx rfl (hb hby d2_3) rfl rfl q) ?_
  refine Go.of (fun _ q => AF.length A_b X0 hx hZ e0 rfl (g := (mkF m 4 #[.val (.ref a), .val (.ref b)] [(.ref b), (.int (0 : Int32)), (.ref b), (.ref a)])) rfl rfl (hb hby d2_4) q) ?_
  refine Go.of (fun _ q => XS.aconstNull X0.here hx rfl (hb hby d2_5) q) ?_
  show Go _ _ _ _ _ _ _ (s₁.setTop (mkF m 6 #[.val (.ref a), .val (.ref b)] [.null, (.int (1 : Int32)), (.int (0 : Int32)), (.ref b), (.ref a)]))
  refine Go.special X0 hx hZ (y := (⟨"java/lang/String", "<init>", "([CIILjava/lang/Void;)V"⟩ : MethodName)) (a := a) (argsL := [(.ref b), (.int (0 : Int32)), (.int (1 : Int32)), .null]) rfl hown (hw _ (List.mem_of_getElem? (i := 12) rfl)) (hw _ (List.mem_of_getElem? (i := 13) rfl)) (hw _ (List.mem_of_getElem? (i := 7) rfl)) (hw _ (List.mem_of_getElem? (i := 15) rfl)) (by decide) 0 e0 (rm3_1 l Z a0 hw a b kb gb u1 u2 cs h0 n0 Zs Od E_a F_a_value F_a_coder g_a A_b ne_b_a hcc Scs hcs Sad Shi Slo) (by decide) (by decide) (by decide) (by decide) (g := (mkF m 6 #[.val (.ref a), .val (.ref b)] [.null, (.int (1 : Int32)), (.int (0 : Int32)), (.ref b), (.ref a)])) rfl (by rw [hml]; rfl) (rest := []) (lenOf pd15 rfl) rfl (by show 2 * 0 + _ ≤ _; exact Nat.le_of_eq rfl) (hb hby d2_6) ?_
  intro T1 v1 L1 X1 q1
  obtain ⟨rfl, Nq1, K1, f1_0, f1_1⟩ := q1
  have N1 := Fr.app N0 Nq1
  have Zs := Nat.le_trans Zs K1.1
  have Kp := Kp.trans K1 (allS (P := fun x => x ∈ [a] ∨ h0.size ≤ x) (Or.inl (List.mem_of_getElem? (i := 0) rfl)) all0)
  have Od := Od.keep K1 (allS (P := fun x => n0 ≤ x) g_a all0)
  have E_a := E_a.keep K1
  have A_b := A_b.keep K1 (ninS ne_b_a nin0)
  have S_a := f1_1
  refine Go.retV X1 hx hlk hret (hb hby d2_9) (by decide) (by decide) ?_
  exact ⟨rfl, N1, Kp, E_a, S_a⟩
theorem ef_19_2 (m : MethodId)  : entryFrame m #[(.int (2 : Int32))] 1 = mkF m 0 #[.val (.int (2 : Int32))] [] := by first | (simp [entryFrame, mkF, argsToLocals, Value.category]; done) | rfl
def Q19_2 (Z : State)  (h0 : Heap) (n0 : Nat) (v : Option Value) (h : Heap) (L : List Loc) : Prop := v = some (.int (4 : Int32)) ∧ Fr n0 L ∧ h = h0
set_option maxRecDepth 65536 in
set_option maxHeartbeats 40000000 in
theorem rm19_2 (l : Launch) (Z : State) (a0 : Array Value) (hw : ∀ d ∈ tables_1, d.before a0 Z = true)  (h0 : Heap) (n0 : Nat) (Zs : n0 ≤ h0.size)  :
    Con l Z (⟨"java/lang/StringUTF16", "newBytesLength", "(I)I"⟩ : MethodName) jdk_52_method_3_code 1 (some .int) ({ frames := 0, cells := 0, slots := 0, locals := 0 } : Room) #[(.int (2 : Int32))] h0 (Q19_2 Z  h0 n0) := by
  refine Con.intro (plainFor_of_name pn3) (fun m => ef_19_2 m ) ?_
  intro p e s m below meth c s₁ hx hby hml0 hZ hown hnm hret hlk X0 e0
  have hml : c.maxLocals = 1 := hml0
  have N0 := Fr.nil n0
  have Kp : Keep h0 h0 [] := Keep.refl h0 _
  show Go _ _ _ _ _ _ _ (s₁.setTop (mkF m 0 #[.val (.int (2 : Int32))] []))
  refine Go.of (fun _ q => XS.iloadN X0.here hx rfl (hb hby d19_0) rfl q) ?_
  refine Go.of (fun _ q => XS.ifYes X0.here hx rfl (pc0 := 1) (pc' := 12) rfl (hb hby d19_1) rfl ((if0 _ _).trans (flt (by decide)).2.1) (by decide) (by decide) q) ?_
  refine Go.of (fun _ q => XS.iloadN X0.here hx rfl (hb hby d19_12) rfl q) ?_
  show Go _ _ _ _ _ _ _ (s₁.setTop (mkF m 13 #[.val (.int (2 : Int32))] [(.int (2 : Int32))]))
  refine Go.of (fun _ q => X0.ldcInt hx hown (mvT hZ (hw _ (List.mem_of_getElem? (i := 90) rfl))) (g := (mkF m 13 #[.val (.int (2 : Int32))] [(.int (2 : Int32))])) rfl (hb hby d19_13) _ q) ?_
  refine Go.of (fun _ q => XS.icmpYes X0.here hx rfl (pc0 := 15) (pc' := 55) rfl (hb hby d19_15) rfl (tlt (by decide)).1 (by decide) (by decide) q) ?_
  refine Go.of (fun _ q => XS.iloadN X0.here hx rfl (hb hby d19_55) rfl q) ?_
  show Go _ _ _ _ _ _ _ (s₁.setTop (mkF m 56 #[.val (.int (2 : Int32))] [(.int (2 : Int32))]))
  refine Go.of (fun _ q => XS.iconst X0.here hx rfl (hb hby d19_56) q) ?_
  refine Go.of (fun _ q => XS.ishl X0.here hx rfl (hb hby d19_57) rfl q) ?_
  refine Go.retI X0 hx hlk hret (hb hby d19_58) (by decide) (by decide) ?_
  rw [e0]
  exact ⟨rfl, N0, rfl⟩
theorem ef_18_2 (m : MethodId)  : entryFrame m #[(.int (2 : Int32))] 1 = mkF m 0 #[.val (.int (2 : Int32))] [] := by first | (simp [entryFrame, mkF, argsToLocals, Value.category]; done) | rfl
def Q18_2 (Z : State)  (h0 : Heap) (n0 : Nat) (v : Option Value) (h : Heap) (L : List Loc) : Prop := ∃ d : Addr, ∃ kd : ClassId, v = some (.ref d) ∧ Fr n0 L ∧ Keep h0 h [] ∧ h0.size ≤ d ∧ AF Z h d kd .byte 4 (fun i => .int ((fun _ => (0 : Int32)) i))
set_option maxRecDepth 65536 in
set_option maxHeartbeats 40000000 in
theorem rm18_2 (l : Launch) (Z : State) (a0 : Array Value) (hw : ∀ d ∈ tables_1, d.before a0 Z = true)  (h0 : Heap) (n0 : Nat) (Zs : n0 ≤ h0.size)  :
    Con l Z (⟨"java/lang/StringUTF16", "newBytesFor", "(I)[B"⟩ : MethodName) jdk_52_method_2_code 1 (some (.array .byte)) ({ frames := 1, cells := 1, slots := 4, locals := 12 } : Room) #[(.int (2 : Int32))] h0 (Q18_2 Z  h0 n0) := by
  refine Con.intro (plainFor_of_name pn3) (fun m => ef_18_2 m ) ?_
  intro p e s m below meth c s₁ hx hby hml0 hZ hown hnm hret hlk X0 e0
  have hml : c.maxLocals = 1 := hml0
  have N0 := Fr.nil n0
  have Kp : Keep h0 h0 [] := Keep.refl h0 _
  show Go _ _ _ _ _ _ _ (s₁.setTop (mkF m 0 #[.val (.int (2 : Int32))] []))
  refine Go.of (fun _ q => XS.iloadN X0.here hx rfl (hb hby d18_0) rfl q) ?_
  refine Go.static X0 hx hZ (y := (⟨"java/lang/StringUTF16", "newBytesLength", "(I)I"⟩ : MethodName)) (argsL := [(.int (2 : Int32))]) hown (hw _ (List.mem_of_getElem? (i := 87) rfl)) (hw _ (List.mem_of_getElem? (i := 88) rfl)) (hw _ (List.mem_of_getElem? (i := 30) rfl)) (hw _ (List.mem_of_getElem? (i := 89) rfl)) (by decide) 0 e0 (rm19_2 l Z a0 hw  h0 n0 Zs ) (by decide) (by decide) (by decide) (by decide) (g := (mkF m 1 #[.val (.int (2 : Int32))] [(.int (2 : Int32))])) rfl (by rw [hml]; rfl) (rest := []) (lenOf pd9 rfl) rfl (by show 2 * 0 + _ ≤ _; exact Nat.le_of_eq rfl) (hb hby d18_1) ?_
  intro T1 v1 L1 X1 q1
  obtain ⟨rfl, Nq1, e1⟩ := q1
  have N1 := Fr.app N0 Nq1
  obtain ⟨T2, h2, k2, X2, e2, E2, A2, B2, st2⟩ := newPE X1 hx hZ (hw _ (List.mem_of_getElem? (i := 20) rfl)) e1 (g := (mkF m 4 #[.val (.int (2 : Int32))] [(.int (4 : Int32))])) rfl (hb hby d18_4) rfl (by decide) (cap := 4) (by decide) (by decide) (by decide) (by decide) (ad := "[B") (by decide)
  obtain ⟨d, g2⟩ : ∃ z, z = h0.size := ⟨_, rfl⟩
  rw [← g2] at A2 B2 st2
  refine Go.of st2 ?_
  have g_d : n0 ≤ d := Nat.le_trans Zs (Nat.le_of_eq g2.symm)
  have sz_d : h0.size ≤ d := Nat.le_trans Kp.1 (Nat.le_of_eq g2.symm)
  have Zs := Nat.le_trans Zs E2.1
  have Kp := Kp.ext E2
  have E_d := B2
  have A_d : AF Z h2 d k2 .byte 4 (fun i => .int ((fun _ => (0 : Int32)) i)) := AF.new A2 (by decide) rfl rfl
  show Go _ _ _ _ _ _ _ (T2.setTop (mkF m 6 #[.val (.int (2 : Int32))] [(.ref d)]))
  refine Go.retA X2 hx hlk hret rfl rfl (hb hby d18_6) (by decide) (by decide) ?_
  rw [e2]
  exact ⟨d, k2, rfl, N1, Kp, sz_d, A_d⟩
theorem ef_17_2 (m : MethodId) (b : Addr) : entryFrame m #[(.ref b), (.int (0 : Int32)), (.int (2 : Int32))] 5 = mkF m 0 #[.val (.ref b), .val (.int (0 : Int32)), .val (.int (2 : Int32)), .unset, .unset] [] := by first | (simp [entryFrame, mkF, argsToLocals, Value.category]; done) | rfl
def Q17_2 (Z : State) (b : Addr) (kb : ClassId) (gb : Nat → Int32) (h0 : Heap) (n0 : Nat) (v : Option Value) (h : Heap) (L : List Loc) : Prop := ∃ d : Addr, ∃ kd : ClassId, v = some (.ref d) ∧ Fr n0 L ∧ Keep h0 h [] ∧ h0.size ≤ d ∧ AF Z h d kd .byte 4 (fun i => .int ((own_u gb) i))
set_option maxRecDepth 65536 in
set_option maxHeartbeats 40000000 in
theorem rm17_2 (l : Launch) (Z : State) (a0 : Array Value) (hw : ∀ d ∈ tables_1, d.before a0 Z = true) (b : Addr) (kb : ClassId) (gb : Nat → Int32) (h0 : Heap) (n0 : Nat) (Zs : n0 ≤ h0.size) (Od : Old Z n0 h0) (A_b : AF Z h0 b kb .char 2 (fun i => .int (gb i))) (Sad : Sta Z Z.heap "java/lang/StringUTF16" "$assertionsDisabled" "Z" (.int (1 : Int32))) (Shi : Sta Z Z.heap "java/lang/StringUTF16" "HI_BYTE_SHIFT" "I" (.int (0 : Int32))) (Slo : Sta Z Z.heap "java/lang/StringUTF16" "LO_BYTE_SHIFT" "I" (.int (8 : Int32))) :
    Con l Z (⟨"java/lang/StringUTF16", "toBytes", "([CII)[B"⟩ : MethodName) jdk_52_method_14_code 5 (some (.array .byte)) ({ frames := 2, cells := 1, slots := 4, locals := 24 } : Room) #[(.ref b), (.int (0 : Int32)), (.int (2 : Int32))] h0 (Q17_2 Z b kb gb h0 n0) := by
  refine Con.intro (plainFor_of_name pn3) (fun m => ef_17_2 m b) ?_
  intro p e s m below meth c s₁ hx hby hml0 hZ hown hnm hret hlk X0 e0
  have hml : c.maxLocals = 5 := hml0
  have N0 := Fr.nil n0
  have Kp : Keep h0 h0 [] := Keep.refl h0 _
  show Go _ _ _ _ _ _ _ (s₁.setTop (mkF m 0 #[.val (.ref b), .val (.int (0 : Int32)), .val (.int (2 : Int32)), .unset, .unset] []))
  refine Go.of (fun _ q => XS.iloadN X0.here hx rfl (hb hby d17_0) rfl q) ?_
  refine Go.static X0 hx hZ (y := (⟨"java/lang/StringUTF16", "newBytesFor", "(I)[B"⟩ : MethodName)) (argsL := [(.int (2 : Int32))]) hown (hw _ (List.mem_of_getElem? (i := 84) rfl)) (hw _ (List.mem_of_getElem? (i := 85) rfl)) (hw _ (List.mem_of_getElem? (i := 30) rfl)) (hw _ (List.mem_of_getElem? (i := 86) rfl)) (by decide) 0 e0 (rm18_2 l Z a0 hw  h0 n0 Zs ) (by decide) (by decide) (by decide) (by decide) (g := (mkF m 1 #[.val (.ref b), .val (.int (0 : Int32)), .val (.int (2 : Int32)), .unset, .unset] [(.int (2 : Int32))])) rfl (by rw [hml]; rfl) (rest := []) (lenOf pd10 rfl) rfl (by show 2 * 0 + _ ≤ _; exact Nat.le_of_eq rfl) (hb hby d17_1) ?_
  intro T1 v1 L1 X1 q1
  obtain ⟨d, kd0, rfl, Nq1, K1, f1_0, f1_1⟩ := q1
  have N1 := Fr.app N0 Nq1
  have g_d : n0 ≤ d := Nat.le_trans Zs f1_0
  have sz_d : h0.size ≤ d := Nat.le_trans Kp.1 f1_0
  have ne_b_d : b ≠ d := Nat.ne_of_lt (Nat.lt_of_lt_of_le A_b.lt f1_0)
  have Zs := Nat.le_trans Zs K1.1
  have Kp := Kp.trans K1 all0
  have Od := Od.keep K1 all0
  have A_b := A_b.keep K1 nin0
  have A_d := f1_1
  refine Go.of (fun _ q => XS.astoreN X1.here hx rfl (hb hby d17_4) rfl rfl (l' := #[.val (.ref b), .val (.int (0 : Int32)), .val (.int (2 : Int32)), .val (.ref d), .unset]) rfl q) ?_
  show Go _ _ _ _ _ _ _ (T1.setTop (mkF m 5 #[.val (.ref b), .val (.int (0 : Int32)), .val (.int (2 : Int32)), .val (.ref d), .unset] []))
  refine Go.of (fun _ q => XS.iconst X1.here hx rfl (hb hby d17_5) q) ?_
  refine Go.of (fun _ q => XS.istore X1.here hx rfl (hb hby d17_6) rfl (l' := #[.val (.ref b), .val (.int (0 : Int32)), .val (.int (2 : Int32)), .val (.ref d), .val (.int (0 : Int32))]) rfl q) ?_
  refine Go.of (fun _ q => XS.iload X1.here hx rfl (hb hby d17_8) rfl q) ?_
  show Go _ _ _ _ _ _ _ (T1.setTop (mkF m 10 #[.val (.ref b), .val (.int (0 : Int32)), .val (.int (2 : Int32)), .val (.ref d), .val (.int (0 : Int32))] [(.int (0 : Int32))]))
  refine Go.of (fun _ q => XS.iloadN X1.here hx rfl (hb hby d17_10) rfl q) ?_
  refine Go.of (fun _ q => XS.icmpNo X1.here hx rfl (hb hby d17_11) rfl (tlt (by decide)).2.1 q) ?_
  refine Go.of (fun _ q => XS.aloadN X1.here hx rfl (hb hby d17_14) rfl rfl q) ?_
  show Go _ _ _ _ _ _ _ (T1.setTop (mkF m 15 #[.val (.ref b), .val (.int (0 : Int32)), .val (.int (2 : Int32)), .val (.ref d), .val (.int (0 : Int32))] [(.ref d)]))
  refine Go.of (fun _ q => XS.iload X1.here hx rfl (hb hby d17_15) rfl q) ?_
  refine Go.of (fun _ q => XS.aloadN X1.here hx rfl (hb hby d17_17) rfl rfl q) ?_
  refine Go.of (fun _ q => XS.iloadN X1.here hx rfl (hb hby d17_18) rfl q) ?_
  show Go _ _ _ _ _ _ _ (T1.setTop (mkF m 19 #[.val (.ref b), .val (.int (0 : Int32)), .val (.int (2 : Int32)), .val (.ref d), .val (.int (0 : Int32))] [(.int (0 : Int32)), (.ref b), (.int (0 : Int32)), (.ref d)]))
  refine Go.of (fun _ q => AF.caload A_b X1 hx hZ rfl ⟨rfl, by decide, by decide⟩ (v := (.int (gb 0))) rfl (g := (mkF m 19 #[.val (.ref b), .val (.int (0 : Int32)), .val (.int (2 : Int32)), .val (.ref d), .val (.int (0 : Int32))] [(.int (0 : Int32)), (.ref b), (.int (0 : Int32)), (.ref d)])) rfl rfl (hb hby d17_19) q) ?_
  refine Go.static X1 hx hZ (y := (⟨"java/lang/StringUTF16", "putChar", "([BII)V"⟩ : MethodName)) (argsL := [(.ref d), (.int (0 : Int32)), (.int (gb 0))]) hown (hw _ (List.mem_of_getElem? (i := 91) rfl)) (hw _ (List.mem_of_getElem? (i := 92) rfl)) (hw _ (List.mem_of_getElem? (i := 30) rfl)) (hw _ (List.mem_of_getElem? (i := 93) rfl)) (by decide) 0 rfl (rm20 l Z a0 hw d (0 : Int32) (gb 0) kd0 (fun _ => (0 : Int32)) 4 0 T1.heap n0 Zs Od A_d g_d rfl (by decide) (by decide) Sad Shi Slo) (by decide) (by decide) (by decide) (by decide) (g := (mkF m 20 #[.val (.ref b), .val (.int (0 : Int32)), .val (.int (2 : Int32)), .val (.ref d), .val (.int (0 : Int32))] [(.int (gb 0)), (.int (0 : Int32)), (.ref d)])) rfl (by rw [hml]; rfl) (rest := []) (lenOf pd11 rfl) rfl (by show 2 * 0 + _ ≤ _; exact Nat.le_of_eq rfl) (hb hby d17_20) ?_
  intro T2 v2 L2 X2 q2
  obtain ⟨rfl, Nq2, K2, f2_0⟩ := q2
  have N2 := Fr.app N1 Nq2
  have Zs := Nat.le_trans Zs K2.1
  have Kp := Kp.trans K2 (allS (P := fun x => x ∈ [] ∨ h0.size ≤ x) (Or.inr sz_d) all0)
  have Od := Od.keep K2 (allS (P := fun x => n0 ≤ x) g_d all0)
  have A_b := A_b.keep K2 (ninS ne_b_d nin0)
  have A_d := f2_0
  refine Go.of (fun _ q => XS.iinc X2.here hx rfl (hb hby d17_23) rfl (l' := #[.val (.ref b), .val (.int (1 : Int32)), .val (.int (2 : Int32)), .val (.ref d), .val (.int (0 : Int32))]) rfl q) ?_
  show Go _ _ _ _ _ _ _ (T2.setTop (mkF m 26 #[.val (.ref b), .val (.int (1 : Int32)), .val (.int (2 : Int32)), .val (.ref d), .val (.int (0 : Int32))] []))
  refine Go.of (fun _ q => XS.iinc X2.here hx rfl (hb hby d17_26) rfl (l' := #[.val (.ref b), .val (.int (1 : Int32)), .val (.int (2 : Int32)), .val (.ref d), .val (.int (1 : Int32))]) rfl q) ?_
  refine Go.of (fun _ q => XS.goto X2.here hx rfl (pc0 := 29) (pc' := 8) rfl (hb hby d17_29) (by decide) (by decide) q) ?_
  refine Go.of (fun _ q => XS.iload X2.here hx rfl (hb hby d17_8) rfl q) ?_
  show Go _ _ _ _ _ _ _ (T2.setTop (mkF m 10 #[.val (.ref b), .val (.int (1 : Int32)), .val (.int (2 : Int32)), .val (.ref d), .val (.int (1 : Int32))] [(.int (1 : Int32))]))
  refine Go.of (fun _ q => XS.iloadN X2.here hx rfl (hb hby d17_10) rfl q) ?_
  refine Go.of (fun _ q => XS.icmpNo X2.here hx rfl (hb hby d17_11) rfl (tlt (by decide)).2.1 q) ?_
  refine Go.of (fun _ q => XS.aloadN X2.here hx rfl (hb hby d17_14) rfl rfl q) ?_
  show Go _ _ _ _ _ _ _ (T2.setTop (mkF m 15 #[.val (.ref b), .val (.int (1 : Int32)), .val (.int (2 : Int32)), .val (.ref d), .val (.int (1 : Int32))] [(.ref d)]))
  refine Go.of (fun _ q => XS.iload X2.here hx rfl (hb hby d17_15) rfl q) ?_
  refine Go.of (fun _ q => XS.aloadN X2.here hx rfl (hb hby d17_17) rfl rfl q) ?_
  refine Go.of (fun _ q => XS.iloadN X2.here hx rfl (hb hby d17_18) rfl q) ?_
  show Go _ _ _ _ _ _ _ (T2.setTop (mkF m 19 #[.val (.ref b), .val (.int (1 : Int32)), .val (.int (2 : Int32)), .val (.ref d), .val (.int (1 : Int32))] [(.int (1 : Int32)), (.ref b), (.int (1 : Int32)), (.ref d)]))
  refine Go.of (fun _ q => AF.caload A_b X2 hx hZ rfl ⟨rfl, by decide, by decide⟩ (v := (.int (gb 1))) rfl (g := (mkF m 19 #[.val (.ref b), .val (.int (1 : Int32)), .val (.int (2 : Int32)), .val (.ref d), .val (.int (1 : Int32))] [(.int (1 : Int32)), (.ref b), (.int (1 : Int32)), (.ref d)])) rfl rfl (hb hby d17_19) q) ?_
  refine Go.static X2 hx hZ (y := (⟨"java/lang/StringUTF16", "putChar", "([BII)V"⟩ : MethodName)) (argsL := [(.ref d), (.int (1 : Int32)), (.int (gb 1))]) hown (hw _ (List.mem_of_getElem? (i := 91) rfl)) (hw _ (List.mem_of_getElem? (i := 92) rfl)) (hw _ (List.mem_of_getElem? (i := 30) rfl)) (hw _ (List.mem_of_getElem? (i := 93) rfl)) (by decide) 0 rfl (rm20 l Z a0 hw d (1 : Int32) (gb 1) kd0 (upI (upI (fun _ => (0 : Int32)) (2 * 0) (own_lo (gb 0))) (2 * 0 + 1) (own_hi (gb 0))) 4 1 T2.heap n0 Zs Od A_d g_d rfl (by decide) (by decide) Sad Shi Slo) (by decide) (by decide) (by decide) (by decide) (g := (mkF m 20 #[.val (.ref b), .val (.int (1 : Int32)), .val (.int (2 : Int32)), .val (.ref d), .val (.int (1 : Int32))] [(.int (gb 1)), (.int (1 : Int32)), (.ref d)])) rfl (by rw [hml]; rfl) (rest := []) (lenOf pd11 rfl) rfl (by show 2 * 0 + _ ≤ _; exact Nat.le_of_eq rfl) (hb hby d17_20) ?_
  intro T3 v3 L3 X3 q3
  obtain ⟨rfl, Nq3, K3, f3_0⟩ := q3
  have N3 := Fr.app N2 Nq3
  have Zs := Nat.le_trans Zs K3.1
  have Kp := Kp.trans K3 (allS (P := fun x => x ∈ [] ∨ h0.size ≤ x) (Or.inr sz_d) all0)
  have Od := Od.keep K3 (allS (P := fun x => n0 ≤ x) g_d all0)
  have A_b := A_b.keep K3 (ninS ne_b_d nin0)
  have A_d := f3_0
  refine Go.of (fun _ q => XS.iinc X3.here hx rfl (hb hby d17_23) rfl (l' := #[.val (.ref b), .val (.int (2 : Int32)), .val (.int (2 : Int32)), .val (.ref d), .val (.int (1 : Int32))]) rfl q) ?_
  show Go _ _ _ _ _ _ _ (T3.setTop (mkF m 26 #[.val (.ref b), .val (.int (2 : Int32)), .val (.int (2 : Int32)), .val (.ref d), .val (.int (1 : Int32))] []))
  refine Go.of (fun _ q => XS.iinc X3.here hx rfl (hb hby d17_26) rfl (l' := #[.val (.ref b), .val (.int (2 : Int32)), .val (.int (2 : Int32)), .val (.ref d), .val (.int (2 : Int32))]) rfl q) ?_
  refine Go.of (fun _ q => XS.goto X3.here hx rfl (pc0 := 29) (pc' := 8) rfl (hb hby d17_29) (by decide) (by decide) q) ?_
  refine Go.of (fun _ q => XS.iload X3.here hx rfl (hb hby d17_8) rfl q) ?_
  show Go _ _ _ _ _ _ _ (T3.setTop (mkF m 10 #[.val (.ref b), .val (.int (2 : Int32)), .val (.int (2 : Int32)), .val (.ref d), .val (.int (2 : Int32))] [(.int (2 : Int32))]))
  refine Go.of (fun _ q => XS.iloadN X3.here hx rfl (hb hby d17_10) rfl q) ?_
  refine Go.of (fun _ q => XS.icmpYes X3.here hx rfl (pc0 := 11) (pc' := 32) rfl (hb hby d17_11) rfl (flt (by decide)).2.1 (by decide) (by decide) q) ?_
  refine Go.of (fun _ q => XS.aloadN X3.here hx rfl (hb hby d17_32) rfl rfl q) ?_
  show Go _ _ _ _ _ _ _ (T3.setTop (mkF m 33 #[.val (.ref b), .val (.int (2 : Int32)), .val (.int (2 : Int32)), .val (.ref d), .val (.int (2 : Int32))] [(.ref d)]))
  refine Go.retA X3 hx hlk hret rfl rfl (hb hby d17_33) (by decide) (by decide) ?_
  exact ⟨d, kd0, rfl, N3, Kp, sz_d, (AF.cast A_d (fun i hi => by rcases (show i = 0 ∨ i = 1 ∨ i = 2 ∨ i = 3 by omega) with rfl | rfl | rfl | rfl <;> simp [upI, own_u]))⟩
theorem ef_6_2 (m : MethodId) (b : Addr) (d : Addr) : entryFrame m #[(.ref b), (.int (0 : Int32)), (.ref d), (.int (0 : Int32)), (.int (2 : Int32))] 7 = mkF m 0 #[.val (.ref b), .val (.int (0 : Int32)), .val (.ref d), .val (.int (0 : Int32)), .val (.int (2 : Int32)), .unset, .unset] [] := by first | (simp [entryFrame, mkF, argsToLocals, Value.category]; done) | rfl
def Q6_2 (Z : State) (b : Addr) (d : Addr) (kb : ClassId) (gb : Nat → Int32) (kd : ClassId) (gd : Nat → Int32) (h0 : Heap) (n0 : Nat) (v : Option Value) (h : Heap) (L : List Loc) : Prop := ∃ k : Nat, v = some (.int (Int32.ofNat k)) ∧ Fr n0 L ∧ Keep h0 h [d] ∧ (k ≤ 2) ∧ (∀ i, i < k → ¬ (255 : Int32) < gb i) ∧ (k < 2 → (255 : Int32) < gb k) ∧ (k = 2 → AF Z h d kd .byte 2 (fun i => .int ((fun i => own_by (gb i)) i)))
set_option maxRecDepth 65536 in
set_option maxHeartbeats 40000000 in
theorem rm6_2 (l : Launch) (Z : State) (a0 : Array Value) (hw : ∀ d ∈ tables_1, d.before a0 Z = true) (b : Addr) (d : Addr) (kb : ClassId) (gb : Nat → Int32) (kd : ClassId) (gd : Nat → Int32) (h0 : Heap) (n0 : Nat) (Zs : n0 ≤ h0.size) (A_b : AF Z h0 b kb .char 2 (fun i => .int (gb i))) (A_d : AF Z h0 d kd .byte 2 (fun i => .int (gd i))) (ne_b_d : b ≠ d) (g_d : n0 ≤ d) :
    Con l Z (⟨"java/lang/StringUTF16", "compress", "([CI[BII)I"⟩ : MethodName) jdk_52_method_21_code 7 (some .int) ({ frames := 0, cells := 0, slots := 0, locals := 0 } : Room) #[(.ref b), (.int (0 : Int32)), (.ref d), (.int (0 : Int32)), (.int (2 : Int32))] h0 (Q6_2 Z b d kb gb kd gd h0 n0) := by
  refine Con.intro (plainFor_of_name pn3) (fun m => ef_6_2 m b d) ?_
  intro p e s m below meth c s₁ hx hby hml0 hZ hown hnm hret hlk X0 e0
  have hml : c.maxLocals = 7 := hml0
  have N0 := Fr.nil n0
  have Kp : Keep h0 h0 [d] := Keep.refl h0 _
  show Go _ _ _ _ _ _ _ (s₁.setTop (mkF m 0 #[.val (.ref b), .val (.int (0 : Int32)), .val (.ref d), .val (.int (0 : Int32)), .val (.int (2 : Int32)), .unset, .unset] []))
  refine Go.of (fun _ q => XS.iconst X0.here hx rfl (hb hby d6_0) q) ?_
  refine Go.of (fun _ q => XS.istore X0.here hx rfl (hb hby d6_1) rfl (l' := #[.val (.ref b), .val (.int (0 : Int32)), .val (.ref d), .val (.int (0 : Int32)), .val (.int (2 : Int32)), .val (.int (0 : Int32)), .unset]) rfl q) ?_
  refine Go.of (fun _ q => XS.iload X0.here hx rfl (hb hby d6_3) rfl q) ?_
  show Go _ _ _ _ _ _ _ (s₁.setTop (mkF m 5 #[.val (.ref b), .val (.int (0 : Int32)), .val (.ref d), .val (.int (0 : Int32)), .val (.int (2 : Int32)), .val (.int (0 : Int32)), .unset] [(.int (0 : Int32))]))
  refine Go.of (fun _ q => XS.iload X0.here hx rfl (hb hby d6_5) rfl q) ?_
  refine Go.of (fun _ q => XS.icmpNo X0.here hx rfl (hb hby d6_7) rfl (tlt (by decide)).2.1 q) ?_
  refine Go.of (fun _ q => XS.aloadN X0.here hx rfl (hb hby d6_10) rfl rfl q) ?_
  show Go _ _ _ _ _ _ _ (s₁.setTop (mkF m 11 #[.val (.ref b), .val (.int (0 : Int32)), .val (.ref d), .val (.int (0 : Int32)), .val (.int (2 : Int32)), .val (.int (0 : Int32)), .unset] [(.ref b)]))
  refine Go.of (fun _ q => XS.iloadN X0.here hx rfl (hb hby d6_11) rfl q) ?_
  refine Go.of (fun _ q => AF.caload A_b X0 hx hZ e0 ⟨rfl, by decide, by decide⟩ (v := (.int (gb 0))) rfl (g := (mkF m 12 #[.val (.ref b), .val (.int (0 : Int32)), .val (.ref d), .val (.int (0 : Int32)), .val (.int (2 : Int32)), .val (.int (0 : Int32)), .unset] [(.int (0 : Int32)), (.ref b)])) rfl rfl (hb hby d6_12) q) ?_
  refine Go.of (fun _ q => XS.istore X0.here hx rfl (hb hby d6_13) rfl (l' := #[.val (.ref b), .val (.int (0 : Int32)), .val (.ref d), .val (.int (0 : Int32)), .val (.int (2 : Int32)), .val (.int (0 : Int32)), .val (.int (gb 0))]) rfl q) ?_
  show Go _ _ _ _ _ _ _ (s₁.setTop (mkF m 15 #[.val (.ref b), .val (.int (0 : Int32)), .val (.ref d), .val (.int (0 : Int32)), .val (.int (2 : Int32)), .val (.int (0 : Int32)), .val (.int (gb 0))] []))
  refine Go.of (fun _ q => XS.iload X0.here hx rfl (hb hby d6_15) rfl q) ?_
  refine Go.of (fun _ q => XS.sipush X0.here hx rfl (hb hby d6_17) q) ?_
  by_cases c20 : (255 : Int32) < (gb 0)
  · refine Go.of (fun _ q => XS.icmpNo X0.here hx rfl (hb hby d6_20) rfl (tlt c20).2.2.2 q) ?_
    show Go _ _ _ _ _ _ _ (s₁.setTop (mkF m 23 #[.val (.ref b), .val (.int (0 : Int32)), .val (.ref d), .val (.int (0 : Int32)), .val (.int (2 : Int32)), .val (.int (0 : Int32)), .val (.int (gb 0))] []))
    refine Go.of (fun _ q => XS.iload X0.here hx rfl (hb hby d6_23) rfl q) ?_
    refine Go.retI X0 hx hlk hret (hb hby d6_25) (by decide) (by decide) ?_
    rw [e0]
    exact ⟨0, rfl, N0, Kp, (by decide), (fun i hi => absurd hi (Nat.not_lt_zero _)), (fun _ => c20), (fun q => absurd q (by decide))⟩
  · refine Go.of (fun _ q => XS.icmpYes X0.here hx rfl (pc0 := 20) (pc' := 26) rfl (hb hby d6_20) rfl (flt c20).2.2.2 (by decide) (by decide) q) ?_
    refine Go.of (fun _ q => XS.aloadN X0.here hx rfl (hb hby d6_26) rfl rfl q) ?_
    show Go _ _ _ _ _ _ _ (s₁.setTop (mkF m 27 #[.val (.ref b), .val (.int (0 : Int32)), .val (.ref d), .val (.int (0 : Int32)), .val (.int (2 : Int32)), .val (.int (0 : Int32)), .val (.int (gb 0))] [(.ref d)]))
    refine Go.of (fun _ q => XS.iloadN X0.here hx rfl (hb hby d6_27) rfl q) ?_
    refine Go.of (fun _ q => XS.iload X0.here hx rfl (hb hby d6_28) rfl q) ?_
    refine Go.of (fun _ q => XS.i2b X0.here hx rfl (hb hby d6_30) rfl q) ?_
    show Go _ _ _ _ _ _ _ (s₁.setTop (mkF m 31 #[.val (.ref b), .val (.int (0 : Int32)), .val (.ref d), .val (.int (0 : Int32)), .val (.int (2 : Int32)), .val (.int (0 : Int32)), .val (.int (gb 0))] [(.int ((gb 0).toInt8.toInt32)), (.int (0 : Int32)), (.ref d)]))
    obtain ⟨T1, h1, X1, e1, W1, A1', st1⟩ := AF.bastore A_d X0 hx hZ e0 (i := 0) ⟨rfl, by decide, by decide⟩ (g := (mkF m 31 #[.val (.ref b), .val (.int (0 : Int32)), .val (.ref d), .val (.int (0 : Int32)), .val (.int (2 : Int32)), .val (.int (0 : Int32)), .val (.int (gb 0))] [(.int ((gb 0).toInt8.toInt32)), (.int (0 : Int32)), (.ref d)])) rfl rfl (hb hby d6_31)
    refine Go.of st1 ?_
    have Zs := Nat.le_trans Zs (Nat.le_of_eq W1.size.symm)
    have Kp := Kp.wr W1 (Or.inl (List.mem_of_getElem? (i := 0) rfl))
    have A_b := A_b.other W1 ne_b_d
    have A_d : AF Z h1 d kd .byte 2 (fun i => .int ((upI gd 0 (((gb 0).toInt8.toInt32).toInt8.toInt32)) i)) := A1'.toI
    have N1 := Fr.snoc X1 N0 g_d
    refine Go.of (fun _ q => XS.iinc X1.here hx rfl (hb hby d6_32) rfl (l' := #[.val (.ref b), .val (.int (1 : Int32)), .val (.ref d), .val (.int (0 : Int32)), .val (.int (2 : Int32)), .val (.int (0 : Int32)), .val (.int (gb 0))]) rfl q) ?_
    refine Go.of (fun _ q => XS.iinc X1.here hx rfl (hb hby d6_35) rfl (l' := #[.val (.ref b), .val (.int (1 : Int32)), .val (.ref d), .val (.int (1 : Int32)), .val (.int (2 : Int32)), .val (.int (0 : Int32)), .val (.int (gb 0))]) rfl q) ?_
    show Go _ _ _ _ _ _ _ (T1.setTop (mkF m 38 #[.val (.ref b), .val (.int (1 : Int32)), .val (.ref d), .val (.int (1 : Int32)), .val (.int (2 : Int32)), .val (.int (0 : Int32)), .val (.int (gb 0))] []))
    refine Go.of (fun _ q => XS.iinc X1.here hx rfl (hb hby d6_38) rfl (l' := #[.val (.ref b), .val (.int (1 : Int32)), .val (.ref d), .val (.int (1 : Int32)), .val (.int (2 : Int32)), .val (.int (1 : Int32)), .val (.int (gb 0))]) rfl q) ?_
    refine Go.of (fun _ q => XS.goto X1.here hx rfl (pc0 := 41) (pc' := 3) rfl (hb hby d6_41) (by decide) (by decide) q) ?_
    refine Go.of (fun _ q => XS.iload X1.here hx rfl (hb hby d6_3) rfl q) ?_
    show Go _ _ _ _ _ _ _ (T1.setTop (mkF m 5 #[.val (.ref b), .val (.int (1 : Int32)), .val (.ref d), .val (.int (1 : Int32)), .val (.int (2 : Int32)), .val (.int (1 : Int32)), .val (.int (gb 0))] [(.int (1 : Int32))]))
    refine Go.of (fun _ q => XS.iload X1.here hx rfl (hb hby d6_5) rfl q) ?_
    refine Go.of (fun _ q => XS.icmpNo X1.here hx rfl (hb hby d6_7) rfl (tlt (by decide)).2.1 q) ?_
    refine Go.of (fun _ q => XS.aloadN X1.here hx rfl (hb hby d6_10) rfl rfl q) ?_
    show Go _ _ _ _ _ _ _ (T1.setTop (mkF m 11 #[.val (.ref b), .val (.int (1 : Int32)), .val (.ref d), .val (.int (1 : Int32)), .val (.int (2 : Int32)), .val (.int (1 : Int32)), .val (.int (gb 0))] [(.ref b)]))
    refine Go.of (fun _ q => XS.iloadN X1.here hx rfl (hb hby d6_11) rfl q) ?_
    refine Go.of (fun _ q => AF.caload A_b X1 hx hZ e1 ⟨rfl, by decide, by decide⟩ (v := (.int (gb 1))) rfl (g := (mkF m 12 #[.val (.ref b), .val (.int (1 : Int32)), .val (.ref d), .val (.int (1 : Int32)), .val (.int (2 : Int32)), .val (.int (1 : Int32)), .val (.int (gb 0))] [(.int (1 : Int32)), (.ref b)])) rfl rfl (hb hby d6_12) q) ?_
    refine Go.of (fun _ q => XS.istore X1.here hx rfl (hb hby d6_13) rfl (l' := #[.val (.ref b), .val (.int (1 : Int32)), .val (.ref d), .val (.int (1 : Int32)), .val (.int (2 : Int32)), .val (.int (1 : Int32)), .val (.int (gb 1))]) rfl q) ?_
    show Go _ _ _ _ _ _ _ (T1.setTop (mkF m 15 #[.val (.ref b), .val (.int (1 : Int32)), .val (.ref d), .val (.int (1 : Int32)), .val (.int (2 : Int32)), .val (.int (1 : Int32)), .val (.int (gb 1))] []))
    refine Go.of (fun _ q => XS.iload X1.here hx rfl (hb hby d6_15) rfl q) ?_
    refine Go.of (fun _ q => XS.sipush X1.here hx rfl (hb hby d6_17) q) ?_
    by_cases c20_1 : (255 : Int32) < (gb 1)
    · refine Go.of (fun _ q => XS.icmpNo X1.here hx rfl (hb hby d6_20) rfl (tlt c20_1).2.2.2 q) ?_
      show Go _ _ _ _ _ _ _ (T1.setTop (mkF m 23 #[.val (.ref b), .val (.int (1 : Int32)), .val (.ref d), .val (.int (1 : Int32)), .val (.int (2 : Int32)), .val (.int (1 : Int32)), .val (.int (gb 1))] []))
      refine Go.of (fun _ q => XS.iload X1.here hx rfl (hb hby d6_23) rfl q) ?_
      refine Go.retI X1 hx hlk hret (hb hby d6_25) (by decide) (by decide) ?_
      rw [e1]
      exact ⟨1, rfl, N1, Kp, (by decide), (fun i hi => by rcases (show i = 0 by omega) with rfl <;> assumption), (fun _ => c20_1), (fun q => absurd q (by decide))⟩
    · refine Go.of (fun _ q => XS.icmpYes X1.here hx rfl (pc0 := 20) (pc' := 26) rfl (hb hby d6_20) rfl (flt c20_1).2.2.2 (by decide) (by decide) q) ?_
      refine Go.of (fun _ q => XS.aloadN X1.here hx rfl (hb hby d6_26) rfl rfl q) ?_
      show Go _ _ _ _ _ _ _ (T1.setTop (mkF m 27 #[.val (.ref b), .val (.int (1 : Int32)), .val (.ref d), .val (.int (1 : Int32)), .val (.int (2 : Int32)), .val (.int (1 : Int32)), .val (.int (gb 1))] [(.ref d)]))
      refine Go.of (fun _ q => XS.iloadN X1.here hx rfl (hb hby d6_27) rfl q) ?_
      refine Go.of (fun _ q => XS.iload X1.here hx rfl (hb hby d6_28) rfl q) ?_
      refine Go.of (fun _ q => XS.i2b X1.here hx rfl (hb hby d6_30) rfl q) ?_
      show Go _ _ _ _ _ _ _ (T1.setTop (mkF m 31 #[.val (.ref b), .val (.int (1 : Int32)), .val (.ref d), .val (.int (1 : Int32)), .val (.int (2 : Int32)), .val (.int (1 : Int32)), .val (.int (gb 1))] [(.int ((gb 1).toInt8.toInt32)), (.int (1 : Int32)), (.ref d)]))
      obtain ⟨T2, h2, X2, e2, W2, A2', st2⟩ := AF.bastore A_d X1 hx hZ e1 (i := 1) ⟨rfl, by decide, by decide⟩ (g := (mkF m 31 #[.val (.ref b), .val (.int (1 : Int32)), .val (.ref d), .val (.int (1 : Int32)), .val (.int (2 : Int32)), .val (.int (1 : Int32)), .val (.int (gb 1))] [(.int ((gb 1).toInt8.toInt32)), (.int (1 : Int32)), (.ref d)])) rfl rfl (hb hby d6_31)
      refine Go.of st2 ?_
      have Zs := Nat.le_trans Zs (Nat.le_of_eq W2.size.symm)
      have Kp := Kp.wr W2 (Or.inl (List.mem_of_getElem? (i := 0) rfl))
      have A_b := A_b.other W2 ne_b_d
      have A_d : AF Z h2 d kd .byte 2 (fun i => .int ((upI (upI gd 0 (((gb 0).toInt8.toInt32).toInt8.toInt32)) 1 (((gb 1).toInt8.toInt32).toInt8.toInt32)) i)) := A2'.toI
      have N2 := Fr.snoc X2 N1 g_d
      refine Go.of (fun _ q => XS.iinc X2.here hx rfl (hb hby d6_32) rfl (l' := #[.val (.ref b), .val (.int (2 : Int32)), .val (.ref d), .val (.int (1 : Int32)), .val (.int (2 : Int32)), .val (.int (1 : Int32)), .val (.int (gb 1))]) rfl q) ?_
      refine Go.of (fun _ q => XS.iinc X2.here hx rfl (hb hby d6_35) rfl (l' := #[.val (.ref b), .val (.int (2 : Int32)), .val (.ref d), .val (.int (2 : Int32)), .val (.int (2 : Int32)), .val (.int (1 : Int32)), .val (.int (gb 1))]) rfl q) ?_
      show Go _ _ _ _ _ _ _ (T2.setTop (mkF m 38 #[.val (.ref b), .val (.int (2 : Int32)), .val (.ref d), .val (.int (2 : Int32)), .val (.int (2 : Int32)), .val (.int (1 : Int32)), .val (.int (gb 1))] []))
      refine Go.of (fun _ q => XS.iinc X2.here hx rfl (hb hby d6_38) rfl (l' := #[.val (.ref b), .val (.int (2 : Int32)), .val (.ref d), .val (.int (2 : Int32)), .val (.int (2 : Int32)), .val (.int (2 : Int32)), .val (.int (gb 1))]) rfl q) ?_
      refine Go.of (fun _ q => XS.goto X2.here hx rfl (pc0 := 41) (pc' := 3) rfl (hb hby d6_41) (by decide) (by decide) q) ?_
      refine Go.of (fun _ q => XS.iload X2.here hx rfl (hb hby d6_3) rfl q) ?_
      show Go _ _ _ _ _ _ _ (T2.setTop (mkF m 5 #[.val (.ref b), .val (.int (2 : Int32)), .val (.ref d), .val (.int (2 : Int32)), .val (.int (2 : Int32)), .val (.int (2 : Int32)), .val (.int (gb 1))] [(.int (2 : Int32))]))
      refine Go.of (fun _ q => XS.iload X2.here hx rfl (hb hby d6_5) rfl q) ?_
      refine Go.of (fun _ q => XS.icmpYes X2.here hx rfl (pc0 := 7) (pc' := 44) rfl (hb hby d6_7) rfl (flt (by decide)).2.1 (by decide) (by decide) q) ?_
      refine Go.of (fun _ q => XS.iload X2.here hx rfl (hb hby d6_44) rfl q) ?_
      show Go _ _ _ _ _ _ _ (T2.setTop (mkF m 46 #[.val (.ref b), .val (.int (2 : Int32)), .val (.ref d), .val (.int (2 : Int32)), .val (.int (2 : Int32)), .val (.int (2 : Int32)), .val (.int (gb 1))] [(.int (2 : Int32))]))
      refine Go.retI X2 hx hlk hret (hb hby d6_46) (by decide) (by decide) ?_
      rw [e2]
      exact ⟨2, rfl, N2, Kp, (by decide), (fun i hi => by rcases (show i = 0 ∨ i = 1 by omega) with rfl | rfl <;> assumption), (fun q => absurd q (by decide)), (fun _ => AF.cast A_d (fun i hi => by rcases (show i = 0 ∨ i = 1 by omega) with rfl | rfl <;> simp [upI, own_by]))⟩
theorem ef_5_2 (m : MethodId) (b : Addr) : entryFrame m #[(.ref b), (.int (0 : Int32)), (.int (2 : Int32))] 6 = mkF m 0 #[.val (.ref b), .val (.int (0 : Int32)), .val (.int (2 : Int32)), .unset, .unset, .unset] [] := by first | (simp [entryFrame, mkF, argsToLocals, Value.category]; done) | rfl
def Q5_2 (Z : State) (b : Addr) (kb : ClassId) (gb : Nat → Int32) (h0 : Heap) (n0 : Nat) (v : Option Value) (h : Heap) (L : List Loc) : Prop := ∃ d : Addr, v = some (.ref d) ∧ Fr n0 L ∧ Keep h0 h [] ∧ h0.size ≤ d ∧ (own_B Z h d 2 gb)
set_option maxRecDepth 65536 in
set_option maxHeartbeats 40000000 in
theorem rm5_2 (l : Launch) (Z : State) (a0 : Array Value) (hw : ∀ d ∈ tables_1, d.before a0 Z = true) (b : Addr) (kb : ClassId) (gb : Nat → Int32) (h0 : Heap) (n0 : Nat) (Zs : n0 ≤ h0.size) (Od : Old Z n0 h0) (A_b : AF Z h0 b kb .char 2 (fun i => .int (gb i))) (hcc : ∀ i, i < 2 → own_cc (gb i) = gb i) (Sad : Sta Z Z.heap "java/lang/StringUTF16" "$assertionsDisabled" "Z" (.int (1 : Int32))) (Shi : Sta Z Z.heap "java/lang/StringUTF16" "HI_BYTE_SHIFT" "I" (.int (0 : Int32))) (Slo : Sta Z Z.heap "java/lang/StringUTF16" "LO_BYTE_SHIFT" "I" (.int (8 : Int32))) :
    Con l Z (⟨"java/lang/StringUTF16", "compress", "([CII)[B"⟩ : MethodName) jdk_52_method_16_code 6 (some (.array .byte)) ({ frames := 3, cells := 2, slots := 6, locals := 40 } : Room) #[(.ref b), (.int (0 : Int32)), (.int (2 : Int32))] h0 (Q5_2 Z b kb gb h0 n0) := by
  refine Con.intro (plainFor_of_name pn3) (fun m => ef_5_2 m b) ?_
  intro p e s m below meth c s₁ hx hby hml0 hZ hown hnm hret hlk X0 e0
  have hml : c.maxLocals = 6 := hml0
  have N0 := Fr.nil n0
  have Kp : Keep h0 h0 [] := Keep.refl h0 _
  show Go _ _ _ _ _ _ _ (s₁.setTop (mkF m 0 #[.val (.ref b), .val (.int (0 : Int32)), .val (.int (2 : Int32)), .unset, .unset, .unset] []))
  refine Go.of (fun _ q => XS.iloadN X0.here hx rfl (hb hby d5_0) rfl q) ?_
  obtain ⟨T1, h1, k1, X1, e1, E1, A1, B1, st1⟩ := newPE X0 hx hZ (hw _ (List.mem_of_getElem? (i := 20) rfl)) e0 (g := (mkF m 1 #[.val (.ref b), .val (.int (0 : Int32)), .val (.int (2 : Int32)), .unset, .unset, .unset] [(.int (2 : Int32))])) rfl (hb hby d5_1) rfl (by decide) (cap := 2) (by decide) (by decide) (by decide) (by decide) (ad := "[B") (by decide)
  obtain ⟨d0, g1⟩ : ∃ z, z = h0.size := ⟨_, rfl⟩
  rw [← g1] at A1 B1 st1
  refine Go.of st1 ?_
  have g_d0 : n0 ≤ d0 := Nat.le_trans Zs (Nat.le_of_eq g1.symm)
  have sz_d0 : h0.size ≤ d0 := Nat.le_trans Kp.1 (Nat.le_of_eq g1.symm)
  have ne_b_d0 : b ≠ d0 := Nat.ne_of_lt (Nat.lt_of_lt_of_le A_b.lt (Nat.le_of_eq g1.symm))
  have Zs := Nat.le_trans Zs E1.1
  have Kp := Kp.ext E1
  have Od := Od.ext E1
  have A_b := A_b.ext E1
  have E_d0 := B1
  have A_d0 : AF Z h1 d0 k1 .byte 2 (fun i => .int ((fun _ => (0 : Int32)) i)) := AF.new A1 (by decide) rfl rfl
  refine Go.of (fun _ q => XS.astoreN X1.here hx rfl (hb hby d5_3) rfl rfl (l' := #[.val (.ref b), .val (.int (0 : Int32)), .val (.int (2 : Int32)), .val (.ref d0), .unset, .unset]) rfl q) ?_
  show Go _ _ _ _ _ _ _ (T1.setTop (mkF m 4 #[.val (.ref b), .val (.int (0 : Int32)), .val (.int (2 : Int32)), .val (.ref d0), .unset, .unset] []))
  refine Go.of (fun _ q => XS.aloadN X1.here hx rfl (hb hby d5_4) rfl rfl q) ?_
  refine Go.of (fun _ q => XS.iloadN X1.here hx rfl (hb hby d5_5) rfl q) ?_
  refine Go.of (fun _ q => XS.aloadN X1.here hx rfl (hb hby d5_6) rfl rfl q) ?_
  show Go _ _ _ _ _ _ _ (T1.setTop (mkF m 7 #[.val (.ref b), .val (.int (0 : Int32)), .val (.int (2 : Int32)), .val (.ref d0), .unset, .unset] [(.ref d0), (.int (0 : Int32)), (.ref b)]))
  refine Go.of (fun _ q => XS.iconst X1.here hx rfl (hb hby d5_7) q) ?_
  refine Go.of (fun _ q => XS.iloadN X1.here hx rfl (hb hby d5_8) rfl q) ?_
  refine Go.static X1 hx hZ (y := (⟨"java/lang/StringUTF16", "compress", "([CI[BII)I"⟩ : MethodName)) (argsL := [(.ref b), (.int (0 : Int32)), (.ref d0), (.int (0 : Int32)), (.int (2 : Int32))]) hown (hw _ (List.mem_of_getElem? (i := 32) rfl)) (hw _ (List.mem_of_getElem? (i := 33) rfl)) (hw _ (List.mem_of_getElem? (i := 30) rfl)) (hw _ (List.mem_of_getElem? (i := 34) rfl)) (by decide) 0 e1 (rm6_2 l Z a0 hw b d0 kb gb k1 (fun _ => (0 : Int32)) h1 n0 Zs A_b A_d0 ne_b_d0 g_d0) (by decide) (by decide) (by decide) (by decide) (g := (mkF m 9 #[.val (.ref b), .val (.int (0 : Int32)), .val (.int (2 : Int32)), .val (.ref d0), .unset, .unset] [(.int (2 : Int32)), (.int (0 : Int32)), (.ref d0), (.int (0 : Int32)), (.ref b)])) rfl (by rw [hml]; rfl) (rest := []) (lenOf pd12 rfl) rfl (by show 2 * 0 + _ ≤ _; exact Nat.le_of_eq rfl) (hb hby d5_9) ?_
  intro T2 v2 L2 X2 q2
  obtain ⟨k, rfl, Nq2, K2, f2_0, f2_1, f2_2, f2_3⟩ := q2
  have N2 := Fr.app N0 Nq2
  have Zs := Nat.le_trans Zs K2.1
  have Kp := Kp.trans K2 (allS (P := fun x => x ∈ [] ∨ h0.size ≤ x) (Or.inr sz_d0) all0)
  have Od := Od.keep K2 (allS (P := fun x => n0 ≤ x) g_d0 all0)
  have A_b := A_b.keep K2 (ninS ne_b_d0 nin0)
  have E_d0 := E_d0.keep K2
  have hkn_2 := f2_0
  have hl_2 := f2_1
  have hy_2 := f2_2
  have hA_2 := f2_3
  show Go _ _ _ _ _ _ _ (T2.setTop (mkF m 12 #[.val (.ref b), .val (.int (0 : Int32)), .val (.int (2 : Int32)), .val (.ref d0), .unset, .unset] [(.int (Int32.ofNat k))]))
  refine Go.of (fun _ q => XS.istore X2.here hx rfl (hb hby d5_12) rfl (l' := #[.val (.ref b), .val (.int (0 : Int32)), .val (.int (2 : Int32)), .val (.ref d0), .val (.int (Int32.ofNat k)), .unset]) rfl q) ?_
  refine Go.of (fun _ q => XS.iload X2.here hx rfl (hb hby d5_14) rfl q) ?_
  refine Go.of (fun _ q => XS.iloadN X2.here hx rfl (hb hby d5_16) rfl q) ?_
  show Go _ _ _ _ _ _ _ (T2.setTop (mkF m 17 #[.val (.ref b), .val (.int (0 : Int32)), .val (.int (2 : Int32)), .val (.ref d0), .val (.int (Int32.ofNat k)), .unset] [(.int (2 : Int32)), (.int (Int32.ofNat k))]))
  by_cases c17 : (Int32.ofNat k) = (2 : Int32)
  · refine Go.of (fun _ q => XS.icmpYes X2.here hx rfl (pc0 := 17) (pc' := 57) rfl (hb hby d5_17) rfl (teq c17).1 (by decide) (by decide) q) ?_
    refine Go.of (fun _ q => XS.aloadN X2.here hx rfl (hb hby d5_57) rfl rfl q) ?_
    refine Go.retA X2 hx hlk hret rfl rfl (hb hby d5_58) (by decide) (by decide) ?_
    exact ⟨d0, rfl, N2, Kp, sz_d0, (show own_B Z _ d0 2 gb from ⟨_, Or.inl ⟨hA_2 ((own_kn (by decide) hkn_2).mp c17), (own_kn (by decide) hkn_2).mp c17 ▸ hl_2⟩⟩)⟩
  · refine Go.of (fun _ q => XS.icmpNo X2.here hx rfl (hb hby d5_17) rfl (feq c17).1 q) ?_
    show Go _ _ _ _ _ _ _ (T2.setTop (mkF m 20 #[.val (.ref b), .val (.int (0 : Int32)), .val (.int (2 : Int32)), .val (.ref d0), .val (.int (Int32.ofNat k)), .unset] []))
    refine Go.of (fun _ q => XS.aloadN X2.here hx rfl (hb hby d5_20) rfl rfl q) ?_
    refine Go.of (fun _ q => XS.iloadN X2.here hx rfl (hb hby d5_21) rfl q) ?_
    refine Go.of (fun _ q => XS.iloadN X2.here hx rfl (hb hby d5_22) rfl q) ?_
    show Go _ _ _ _ _ _ _ (T2.setTop (mkF m 23 #[.val (.ref b), .val (.int (0 : Int32)), .val (.int (2 : Int32)), .val (.ref d0), .val (.int (Int32.ofNat k)), .unset] [(.int (2 : Int32)), (.int (0 : Int32)), (.ref b)]))
    refine Go.static X2 hx hZ (y := (⟨"java/lang/StringUTF16", "toBytes", "([CII)[B"⟩ : MethodName)) (argsL := [(.ref b), (.int (0 : Int32)), (.int (2 : Int32))]) hown (hw _ (List.mem_of_getElem? (i := 81) rfl)) (hw _ (List.mem_of_getElem? (i := 82) rfl)) (hw _ (List.mem_of_getElem? (i := 30) rfl)) (hw _ (List.mem_of_getElem? (i := 83) rfl)) (by decide) 0 rfl (rm17_2 l Z a0 hw b kb gb T2.heap n0 Zs Od A_b Sad Shi Slo) (by decide) (by decide) (by decide) (by decide) (g := (mkF m 23 #[.val (.ref b), .val (.int (0 : Int32)), .val (.int (2 : Int32)), .val (.ref d0), .val (.int (Int32.ofNat k)), .unset] [(.int (2 : Int32)), (.int (0 : Int32)), (.ref b)])) rfl (by rw [hml]; rfl) (rest := []) (lenOf pd13 rfl) rfl (by show 2 * 0 + _ ≤ _; exact Nat.le_of_eq rfl) (hb hby d5_23) ?_
    intro T3 v3 L3 X3 q3
    obtain ⟨d1, kd1, rfl, Nq3, K3, f3_0, f3_1⟩ := q3
    have N3 := Fr.app N2 Nq3
    have g_d1 : n0 ≤ d1 := Nat.le_trans Zs f3_0
    have sz_d1 : h0.size ≤ d1 := Nat.le_trans Kp.1 f3_0
    have ne_b_d1 : b ≠ d1 := Nat.ne_of_lt (Nat.lt_of_lt_of_le A_b.lt f3_0)
    have ne_d0_d1 : d0 ≠ d1 := Nat.ne_of_lt (Nat.lt_of_lt_of_le E_d0.lt f3_0)
    have Zs := Nat.le_trans Zs K3.1
    have Kp := Kp.trans K3 all0
    have Od := Od.keep K3 all0
    have A_b := A_b.keep K3 nin0
    have E_d0 := E_d0.keep K3
    have A_d1 := f3_1
    refine Go.of (fun _ q => XS.astore X3.here hx rfl (hb hby d5_26) rfl rfl (l' := #[.val (.ref b), .val (.int (0 : Int32)), .val (.int (2 : Int32)), .val (.ref d0), .val (.int (Int32.ofNat k)), .val (.ref d1)]) rfl q) ?_
    refine Go.of (fun _ q => XS.aload X3.here hx rfl (hb hby d5_28) rfl rfl q) ?_
    show Go _ _ _ _ _ _ _ (T3.setTop (mkF m 30 #[.val (.ref b), .val (.int (0 : Int32)), .val (.int (2 : Int32)), .val (.ref d0), .val (.int (Int32.ofNat k)), .val (.ref d1)] [(.ref d1)]))
    refine Go.of (fun _ q => XS.iload X3.here hx rfl (hb hby d5_30) rfl q) ?_
    refine Go.static X3 hx hZ (y := (⟨"java/lang/StringUTF16", "getChar", "([BI)C"⟩ : MethodName)) (argsL := [(.ref d1), (.int (Int32.ofNat k))]) hown (hw _ (List.mem_of_getElem? (i := 97) rfl)) (hw _ (List.mem_of_getElem? (i := 98) rfl)) (hw _ (List.mem_of_getElem? (i := 30) rfl)) (hw _ (List.mem_of_getElem? (i := 99) rfl)) (by decide) 0 rfl (rm21 l Z a0 hw d1 (Int32.ofNat k) kd1 (own_u gb) 4 k T3.heap n0 Zs Od A_d1 rfl (own_kk (own_lt (n := 2) (by decide) hkn_2 c17)) (by decide) Sad Shi Slo) (by decide) (by decide) (by decide) (by decide) (g := (mkF m 32 #[.val (.ref b), .val (.int (0 : Int32)), .val (.int (2 : Int32)), .val (.ref d0), .val (.int (Int32.ofNat k)), .val (.ref d1)] [(.int (Int32.ofNat k)), (.ref d1)])) rfl (by rw [hml]; rfl) (rest := []) (lenOf pd4 rfl) rfl (by show 2 * 0 + _ ≤ _; exact Nat.le_of_eq rfl) (hb hby d5_32) ?_
    intro T4 v4 L4 X4 q4
    obtain ⟨rfl, Nq4, e4⟩ := q4
    have N4 := Fr.app N3 Nq4
    refine Go.of (fun _ q => XS.sipush X4.here hx rfl (hb hby d5_35) q) ?_
    show Go _ _ _ _ _ _ _ (T4.setTop (mkF m 38 #[.val (.ref b), .val (.int (0 : Int32)), .val (.int (2 : Int32)), .val (.ref d0), .val (.int (Int32.ofNat k)), .val (.ref d1)] [(.int (255 : Int32)), (.int (own_gc ((own_u gb) (2 * k)) ((own_u gb) (2 * k + 1))))]))
    refine Go.of (fun _ q => XS.icmpYes X4.here hx rfl (pc0 := 38) (pc' := 54) rfl (hb hby d5_38) rfl (tlt (own_gt2 (hcc k (own_lt (n := 2) (by decide) hkn_2 c17)) (hy_2 (own_lt (n := 2) (by decide) hkn_2 c17)))).2.2.1 (by decide) (by decide) q) ?_
    refine Go.of (fun _ q => XS.aload X4.here hx rfl (hb hby d5_54) rfl rfl q) ?_
    refine Go.retA X4 hx hlk hret rfl rfl (hb hby d5_56) (by decide) (by decide) ?_
    rw [e4]
    exact ⟨d1, rfl, N4, Kp, sz_d1, ⟨_, Or.inr A_d1⟩⟩
theorem ef_7_2L (m : MethodId) (d : Addr) : entryFrame m #[(.ref d), (.int (2 : Int32))] 2 = mkF m 0 #[.val (.ref d), .val (.int (2 : Int32))] [] := by first | (simp [entryFrame, mkF, argsToLocals, Value.category]; done) | rfl
def Q7_2L (Z : State) (d : Addr) (kd : ClassId) (gd : Nat → Int32) (h0 : Heap) (n0 : Nat) (v : Option Value) (h : Heap) (L : List Loc) : Prop := v = some (.int (0 : Int32)) ∧ Fr n0 L ∧ h = h0
set_option maxRecDepth 65536 in
set_option maxHeartbeats 40000000 in
theorem rm7_2L (l : Launch) (Z : State) (a0 : Array Value) (hw : ∀ d ∈ tables_1, d.before a0 Z = true) (d : Addr) (kd : ClassId) (gd : Nat → Int32) (h0 : Heap) (n0 : Nat) (Zs : n0 ≤ h0.size) (A_d : AF Z h0 d kd .byte 2 (fun i => .int (gd i))) :
    Con l Z (⟨"java/lang/StringUTF16", "coderFromArrayLen", "([BI)B"⟩ : MethodName) jdk_52_method_15_code 2 (some .byte) ({ frames := 0, cells := 0, slots := 0, locals := 0 } : Room) #[(.ref d), (.int (2 : Int32))] h0 (Q7_2L Z d kd gd h0 n0) := by
  refine Con.intro (plainFor_of_name pn3) (fun m => ef_7_2L m d) ?_
  intro p e s m below meth c s₁ hx hby hml0 hZ hown hnm hret hlk X0 e0
  have hml : c.maxLocals = 2 := hml0
  have N0 := Fr.nil n0
  have Kp : Keep h0 h0 [] := Keep.refl h0 _
  show Go _ _ _ _ _ _ _ (s₁.setTop (mkF m 0 #[.val (.ref d), .val (.int (2 : Int32))] []))
  refine Go.of (fun _ q => XS.iloadN X0.here hx rfl (hb hby d7_0) rfl q) ?_
  refine Go.of (fun _ q => XS.aloadN X0.here hx rfl (hb hby d7_1) rfl rfl q) ?_
  refine Go.of (fun _ q => AF.length A_d X0 hx hZ e0 rfl (g := (mkF m 2 #[.val (.ref d), .val (.int (2 : Int32))] [(.ref d), (.int (2 : Int32))])) rfl rfl (hb hby d7_2) q) ?_
  show Go _ _ _ _ _ _ _ (s₁.setTop (mkF m 3 #[.val (.ref d), .val (.int (2 : Int32))] [(.int (2 : Int32)), (.int (2 : Int32))]))
  refine Go.of (fun _ q => XS.isub X0.here hx rfl (hb hby d7_3) rfl q) ?_
  refine Go.of (fun _ q => XS.bipush X0.here hx rfl (hb hby d7_4) q) ?_
  refine Go.of (fun _ q => XS.iushr X0.here hx rfl (hb hby d7_6) rfl q) ?_
  show Go _ _ _ _ _ _ _ (s₁.setTop (mkF m 7 #[.val (.ref d), .val (.int (2 : Int32))] [(.int (0 : Int32))]))
  refine Go.of (fun _ q => XS.i2b X0.here hx rfl (hb hby d7_7) rfl q) ?_
  refine Go.retN X0 hx hlk (t := .byte) hret (by simp) (hb hby d7_8) rfl (by decide) (by decide) ?_
  rw [e0]
  exact ⟨rfl, N0, rfl⟩
theorem ef_7_2U (m : MethodId) (d : Addr) : entryFrame m #[(.ref d), (.int (2 : Int32))] 2 = mkF m 0 #[.val (.ref d), .val (.int (2 : Int32))] [] := by first | (simp [entryFrame, mkF, argsToLocals, Value.category]; done) | rfl
def Q7_2U (Z : State) (d : Addr) (kd : ClassId) (gd : Nat → Int32) (h0 : Heap) (n0 : Nat) (v : Option Value) (h : Heap) (L : List Loc) : Prop := v = some (.int (1 : Int32)) ∧ Fr n0 L ∧ h = h0
set_option maxRecDepth 65536 in
set_option maxHeartbeats 40000000 in
theorem rm7_2U (l : Launch) (Z : State) (a0 : Array Value) (hw : ∀ d ∈ tables_1, d.before a0 Z = true) (d : Addr) (kd : ClassId) (gd : Nat → Int32) (h0 : Heap) (n0 : Nat) (Zs : n0 ≤ h0.size) (A_d : AF Z h0 d kd .byte 4 (fun i => .int (gd i))) :
    Con l Z (⟨"java/lang/StringUTF16", "coderFromArrayLen", "([BI)B"⟩ : MethodName) jdk_52_method_15_code 2 (some .byte) ({ frames := 0, cells := 0, slots := 0, locals := 0 } : Room) #[(.ref d), (.int (2 : Int32))] h0 (Q7_2U Z d kd gd h0 n0) := by
  refine Con.intro (plainFor_of_name pn3) (fun m => ef_7_2U m d) ?_
  intro p e s m below meth c s₁ hx hby hml0 hZ hown hnm hret hlk X0 e0
  have hml : c.maxLocals = 2 := hml0
  have N0 := Fr.nil n0
  have Kp : Keep h0 h0 [] := Keep.refl h0 _
  show Go _ _ _ _ _ _ _ (s₁.setTop (mkF m 0 #[.val (.ref d), .val (.int (2 : Int32))] []))
  refine Go.of (fun _ q => XS.iloadN X0.here hx rfl (hb hby d7_0) rfl q) ?_
  refine Go.of (fun _ q => XS.aloadN X0.here hx rfl (hb hby d7_1) rfl rfl q) ?_
  refine Go.of (fun _ q => AF.length A_d X0 hx hZ e0 rfl (g := (mkF m 2 #[.val (.ref d), .val (.int (2 : Int32))] [(.ref d), (.int (2 : Int32))])) rfl rfl (hb hby d7_2) q) ?_
  show Go _ _ _ _ _ _ _ (s₁.setTop (mkF m 3 #[.val (.ref d), .val (.int (2 : Int32))] [(.int (4 : Int32)), (.int (2 : Int32))]))
  refine Go.of (fun _ q => XS.isub X0.here hx rfl (hb hby d7_3) rfl q) ?_
  refine Go.of (fun _ q => XS.bipush X0.here hx rfl (hb hby d7_4) q) ?_
  refine Go.of (fun _ q => XS.iushr X0.here hx rfl (hb hby d7_6) rfl q) ?_
  show Go _ _ _ _ _ _ _ (s₁.setTop (mkF m 7 #[.val (.ref d), .val (.int (2 : Int32))] [(.int (1 : Int32))]))
  refine Go.of (fun _ q => XS.i2b X0.here hx rfl (hb hby d7_7) rfl q) ?_
  refine Go.retN X0 hx hlk (t := .byte) hret (by simp) (hb hby d7_8) rfl (by decide) (by decide) ?_
  rw [e0]
  exact ⟨rfl, N0, rfl⟩
theorem ef_3_2 (m : MethodId) (a : Addr) (b : Addr) : entryFrame m #[(.ref a), (.ref b), (.int (0 : Int32)), (.int (2 : Int32)), .null] 6 = mkF m 0 #[.val (.ref a), .val (.ref b), .val (.int (0 : Int32)), .val (.int (2 : Int32)), .val .null, .unset] [] := by first | (simp [entryFrame, mkF, argsToLocals, Value.category]; done) | rfl
def Q3_2 (Z : State) (a : Addr) (b : Addr) (kb : ClassId) (gb : Nat → Int32) (u1 : Value) (u2 : Int32) (cs : Int32) (h0 : Heap) (n0 : Nat) (v : Option Value) (h : Heap) (L : List Loc) : Prop := v = none ∧ Fr n0 L ∧ Keep h0 h [a] ∧ Exa Z h a "java/lang/String" ∧ own_St Z h a 2 gb
set_option maxRecDepth 65536 in
set_option maxHeartbeats 40000000 in
theorem rm3_2 (l : Launch) (Z : State) (a0 : Array Value) (hw : ∀ d ∈ tables_1, d.before a0 Z = true) (a : Addr) (b : Addr) (kb : ClassId) (gb : Nat → Int32) (u1 : Value) (u2 : Int32) (cs : Int32) (h0 : Heap) (n0 : Nat) (Zs : n0 ≤ h0.size) (Od : Old Z n0 h0) (E_a : Exa Z h0 a "java/lang/String") (F_a_value : Fld Z h0 a "java/lang/String" "value" "[B" u1) (F_a_coder : Fld Z h0 a "java/lang/String" "coder" "B" (.int u2)) (g_a : n0 ≤ a) (A_b : AF Z h0 b kb .char 2 (fun i => .int (gb i))) (ne_b_a : b ≠ a) (hcc : ∀ i, i < 2 → own_cc (gb i) = gb i) (Scs : Sta Z Z.heap "java/lang/String" "COMPACT_STRINGS" "Z" (.int cs)) (hcs : ¬ cs = (0 : Int32)) (Sad : Sta Z Z.heap "java/lang/StringUTF16" "$assertionsDisabled" "Z" (.int (1 : Int32))) (Shi : Sta Z Z.heap "java/lang/StringUTF16" "HI_BYTE_SHIFT" "I" (.int (0 : Int32))) (Slo : Sta Z Z.heap "java/lang/StringUTF16" "LO_BYTE_SHIFT" "I" (.int (8 : Int32))) :
    Con l Z (⟨"java/lang/String", "<init>", "([CIILjava/lang/Void;)V"⟩ : MethodName) jdk_42_method_149_code 6 none ({ frames := 4, cells := 2, slots := 6, locals := 57 } : Room) #[(.ref a), (.ref b), (.int (0 : Int32)), (.int (2 : Int32)), .null] h0 (Q3_2 Z a b kb gb u1 u2 cs h0 n0) := by
  refine Con.intro (plainFor_of_name pn1) (fun m => ef_3_2 m a b) ?_
  intro p e s m below meth c s₁ hx hby hml0 hZ hown hnm hret hlk X0 e0
  have hml : c.maxLocals = 6 := hml0
  have N0 := Fr.nil n0
  have Kp : Keep h0 h0 [a] := Keep.refl h0 _
  show Go _ _ _ _ _ _ _ (s₁.setTop (mkF m 0 #[.val (.ref a), .val (.ref b), .val (.int (0 : Int32)), .val (.int (2 : Int32)), .val .null, .unset] []))
  refine Go.of (fun _ q => XS.aloadN X0.here hx rfl (hb hby d3_0) rfl rfl q) ?_
  obtain ⟨T1, X1, e1, st1⟩ := initO X0 hx hZ hown (hw _ (List.mem_of_getElem? (i := 16) rfl)) (hw _ (List.mem_of_getElem? (i := 17) rfl)) (hw _ (List.mem_of_getElem? (i := 18) rfl)) e0 (g := (mkF m 1 #[.val (.ref a), .val (.ref b), .val (.int (0 : Int32)), .val (.int (2 : Int32)), .val .null, .unset] [(.ref a)])) rfl (by rw [hml]; rfl) rfl (hb hby d3_1) (by decide) (W := 0) (by show 2 * 0 + _ ≤ _; exact Nat.le_of_eq rfl) (by decide)
  refine Go.of st1 ?_
  refine Go.of (fun _ q => XS.iloadN X1.here hx rfl (hb hby d3_4) rfl q) ?_
  show Go _ _ _ _ _ _ _ (T1.setTop (mkF m 5 #[.val (.ref a), .val (.ref b), .val (.int (0 : Int32)), .val (.int (2 : Int32)), .val .null, .unset] [(.int (2 : Int32))]))
  refine Go.of (fun _ q => XS.ifYes X1.here hx rfl (pc0 := 5) (pc' := 27) rfl (hb hby d3_5) rfl ((if0 _ _).trans (feq (by decide)).2) (by decide) (by decide) q) ?_
  obtain ⟨T2, X2, e2, st2⟩ := getS2 X1 hx hZ hown (host := "") (Or.inl (hw _ (List.mem_of_getElem? (i := 27) rfl))) Via.refl e1 (Sta.ext Od.2 Scs) (g := (mkF m 27 #[.val (.ref a), .val (.ref b), .val (.int (0 : Int32)), .val (.int (2 : Int32)), .val .null, .unset] [])) rfl (hb hby d3_27)
  refine Go.of st2 ?_
  refine Go.of (fun _ q => XS.ifNo X2.here hx rfl (hb hby d3_30) rfl ((if0 _ _).trans (feq hcs).1) q) ?_
  show Go _ _ _ _ _ _ _ (T2.setTop (mkF m 33 #[.val (.ref a), .val (.ref b), .val (.int (0 : Int32)), .val (.int (2 : Int32)), .val .null, .unset] []))
  refine Go.of (fun _ q => XS.aloadN X2.here hx rfl (hb hby d3_33) rfl rfl q) ?_
  refine Go.of (fun _ q => XS.iloadN X2.here hx rfl (hb hby d3_34) rfl q) ?_
  refine Go.of (fun _ q => XS.iloadN X2.here hx rfl (hb hby d3_35) rfl q) ?_
  show Go _ _ _ _ _ _ _ (T2.setTop (mkF m 36 #[.val (.ref a), .val (.ref b), .val (.int (0 : Int32)), .val (.int (2 : Int32)), .val .null, .unset] [(.int (2 : Int32)), (.int (0 : Int32)), (.ref b)]))
  refine Go.static X2 hx hZ (y := (⟨"java/lang/StringUTF16", "compress", "([CII)[B"⟩ : MethodName)) (argsL := [(.ref b), (.int (0 : Int32)), (.int (2 : Int32))]) hown (hw _ (List.mem_of_getElem? (i := 28) rfl)) (hw _ (List.mem_of_getElem? (i := 29) rfl)) (hw _ (List.mem_of_getElem? (i := 30) rfl)) (hw _ (List.mem_of_getElem? (i := 31) rfl)) (by decide) 0 e2 (rm5_2 l Z a0 hw b kb gb h0 n0 Zs Od A_b hcc Sad Shi Slo) (by decide) (by decide) (by decide) (by decide) (g := (mkF m 36 #[.val (.ref a), .val (.ref b), .val (.int (0 : Int32)), .val (.int (2 : Int32)), .val .null, .unset] [(.int (2 : Int32)), (.int (0 : Int32)), (.ref b)])) rfl (by rw [hml]; rfl) (rest := []) (lenOf pd13 rfl) rfl (by show 2 * 0 + _ ≤ _; exact Nat.le_of_eq rfl) (hb hby d3_36) ?_
  intro T3 v3 L3 X3 q3
  obtain ⟨d, rfl, Nq3, K3, f3_0, f3_1⟩ := q3
  have N3 := Fr.app N0 Nq3
  have g_d : n0 ≤ d := Nat.le_trans Zs f3_0
  have sz_d : h0.size ≤ d := Nat.le_trans Kp.1 f3_0
  have ne_a_d : a ≠ d := Nat.ne_of_lt (Nat.lt_of_lt_of_le E_a.lt f3_0)
  have ne_b_d : b ≠ d := Nat.ne_of_lt (Nat.lt_of_lt_of_le A_b.lt f3_0)
  have Zs := Nat.le_trans Zs K3.1
  have Kp := Kp.trans K3 all0
  have Od := Od.keep K3 all0
  have E_a := E_a.keep K3
  have F_a_value := F_a_value.keep K3 nin0
  have F_a_coder := F_a_coder.keep K3 nin0
  have A_b := A_b.keep K3 nin0
  have hd_3 := f3_1
  show Go _ _ _ _ _ _ _ (T3.setTop (mkF m 39 #[.val (.ref a), .val (.ref b), .val (.int (0 : Int32)), .val (.int (2 : Int32)), .val .null, .unset] [(.ref d)]))
  obtain ⟨kd, ⟨A_d0, hl⟩ | A_d0⟩ := hd_3
  · have A_d : AF Z T3.heap d kd .byte 2 (fun i => .int ((fun i => own_by (gb i)) i)) := A_d0
    have ne_d_a : d ≠ a := Ne.symm ne_a_d
    refine Go.of (fun _ q => XS.astore X3.here hx rfl (hb hby d3_39) rfl rfl (l' := #[.val (.ref a), .val (.ref b), .val (.int (0 : Int32)), .val (.int (2 : Int32)), .val .null, .val (.ref d)]) rfl q) ?_
    refine Go.of (fun _ q => XS.aloadN X3.here hx rfl (hb hby d3_41) rfl rfl q) ?_
    show Go _ _ _ _ _ _ _ (T3.setTop (mkF m 42 #[.val (.ref a), .val (.ref b), .val (.int (0 : Int32)), .val (.int (2 : Int32)), .val .null, .val (.ref d)] [(.ref a)]))
    refine Go.of (fun _ q => XS.aload X3.here hx rfl (hb hby d3_42) rfl rfl q) ?_
    refine Go.of (fun _ q => XS.iloadN X3.here hx rfl (hb hby d3_44) rfl q) ?_
    refine Go.static X3 hx hZ (y := (⟨"java/lang/StringUTF16", "coderFromArrayLen", "([BI)B"⟩ : MethodName)) (argsL := [(.ref d), (.int (2 : Int32))]) hown (hw _ (List.mem_of_getElem? (i := 35) rfl)) (hw _ (List.mem_of_getElem? (i := 36) rfl)) (hw _ (List.mem_of_getElem? (i := 30) rfl)) (hw _ (List.mem_of_getElem? (i := 37) rfl)) (by decide) 1 rfl (rm7_2L l Z a0 hw d kd (fun i => own_by (gb i)) T3.heap n0 Zs A_d) (by decide) (by decide) (by decide) (by decide) (g := (mkF m 45 #[.val (.ref a), .val (.ref b), .val (.int (0 : Int32)), .val (.int (2 : Int32)), .val .null, .val (.ref d)] [(.int (2 : Int32)), (.ref d), (.ref a)])) rfl (by rw [hml]; rfl) (rest := [(.ref a)]) (lenOf pd14 rfl) rfl (by show 2 * 0 + _ ≤ _; exact Nat.le_of_eq rfl) (hb hby d3_45) ?_
    intro T4 v4 L4 X4 q4
    obtain ⟨rfl, Nq4, e4⟩ := q4
    have N4 := Fr.app N3 Nq4
    show Go _ _ _ _ _ _ _ (T4.setTop (mkF m 48 #[.val (.ref a), .val (.ref b), .val (.int (0 : Int32)), .val (.int (2 : Int32)), .val .null, .val (.ref d)] [(.int (0 : Int32)), (.ref a)]))
    obtain ⟨T5, h5, X5, e5, W5, st5⟩ := putFN X4 hx hZ hown (hw _ (List.mem_of_getElem? (i := 26) rfl)) Via.refl e4 F_a_coder E_a (Or.inr ⟨(hw _ (List.mem_of_getElem? (i := 22) rfl)), rfl, hnm⟩) (hw _ (List.mem_of_getElem? (i := 6) rfl)) (ty := .byte) (v' := .int (0 : Int32)) (by decide) rfl rfl (g := (mkF m 48 #[.val (.ref a), .val (.ref b), .val (.int (0 : Int32)), .val (.int (2 : Int32)), .val .null, .val (.ref d)] [(.int (0 : Int32)), (.ref a)])) rfl rfl (hb hby d3_48)
    refine Go.of st5 ?_
    have Zs := Nat.le_trans Zs (Nat.le_of_eq W5.size.symm)
    have Kp := Kp.wr W5 (Or.inl (List.mem_of_getElem? (i := 0) rfl))
    have Od := Od.wr W5 g_a
    have E_a := E_a.wr W5
    have F_a_value := F_a_value.other W5 (Or.inr (slot_ne (Or.inr (hw _ (List.mem_of_getElem? (i := 21) rfl))) (Or.inr (hw _ (List.mem_of_getElem? (i := 22) rfl))) (by decide) (t := (.array .byte)) (t' := .byte) (by decide) (by decide)))
    have F_a_coder := F_a_coder.same W5
    have A_b := A_b.other W5 ne_b_a
    have A_d := A_d.other W5 ne_d_a
    have N5 := Fr.snoc X5 N4 g_a
    refine Go.of (fun _ q => XS.aloadN X5.here hx rfl (hb hby d3_51) rfl rfl q) ?_
    refine Go.of (fun _ q => XS.aload X5.here hx rfl (hb hby d3_52) rfl rfl q) ?_
    show Go _ _ _ _ _ _ _ (T5.setTop (mkF m 54 #[.val (.ref a), .val (.ref b), .val (.int (0 : Int32)), .val (.int (2 : Int32)), .val .null, .val (.ref d)] [(.ref d), (.ref a)]))
    obtain ⟨T6, h6, X6, e6, W6, st6⟩ := putF X5 hx hZ hown (host := "") (Or.inl (hw _ (List.mem_of_getElem? (i := 25) rfl))) Via.refl e5 F_a_value E_a (Or.inr ⟨(hw _ (List.mem_of_getElem? (i := 21) rfl)), rfl, hnm⟩) (hw _ (List.mem_of_getElem? (i := 6) rfl)) (ty := (.array .byte)) (by decide) rfl rfl (g := (mkF m 54 #[.val (.ref a), .val (.ref b), .val (.int (0 : Int32)), .val (.int (2 : Int32)), .val .null, .val (.ref d)] [(.ref d), (.ref a)])) rfl rfl (hb hby d3_54)
    refine Go.of st6 ?_
    have Zs := Nat.le_trans Zs (Nat.le_of_eq W6.size.symm)
    have Kp := Kp.wr W6 (Or.inl (List.mem_of_getElem? (i := 0) rfl))
    have Od := Od.wr W6 g_a
    have E_a := E_a.wr W6
    have F_a_value := F_a_value.same W6
    have F_a_coder := F_a_coder.other W6 (Or.inr (slot_ne (Or.inr (hw _ (List.mem_of_getElem? (i := 22) rfl))) (Or.inr (hw _ (List.mem_of_getElem? (i := 21) rfl))) (by decide) (t := .byte) (t' := (.array .byte)) (by decide) (by decide)))
    have A_b := A_b.other W6 ne_b_a
    have A_d := A_d.other W6 ne_d_a
    have N6 := Fr.snoc X6 N5 g_a
    refine Go.retV X6 hx hlk hret (hb hby d3_57) (by decide) (by decide) ?_
    rw [e6]
    exact ⟨rfl, N6, Kp, E_a, (own_St.mkL F_a_value F_a_coder A_d (own_hL hl hcc))⟩
  · have A_d : AF Z T3.heap d kd .byte 4 (fun i => .int ((own_u gb) i)) := A_d0
    have ne_d_a : d ≠ a := Ne.symm ne_a_d
    refine Go.of (fun _ q => XS.astore X3.here hx rfl (hb hby d3_39) rfl rfl (l' := #[.val (.ref a), .val (.ref b), .val (.int (0 : Int32)), .val (.int (2 : Int32)), .val .null, .val (.ref d)]) rfl q) ?_
    show Go _ _ _ _ _ _ _ (T3.setTop (mkF m 41 #[.val (.ref a), .val (.ref b), .val (.int (0 : Int32)), .val (.int (2 : Int32)), .val .null, .val (.ref d)] []))
    refine Go.of (fun _ q => XS.aloadN X3.here hx rfl (hb hby d3_41) rfl rfl q) ?_
    refine Go.of (fun _ q => XS.aload X3.here hx rfl (hb hby d3_42) rfl rfl q) ?_
    refine Go.of (fun _ q => XS.iloadN X3.here hx rfl (hb hby d3_44) rfl q) ?_
    show Go _ _ _ _ _ _ _ (T3.setTop (mkF m 45 #[.val (.ref a), .val (.ref b), .val (.int (0 : Int32)), .val (.int (2 : Int32)), .val .null, .val (.ref d)] [(.int (2 : Int32)), (.ref d), (.ref a)]))
    refine Go.static X3 hx hZ (y := (⟨"java/lang/StringUTF16", "coderFromArrayLen", "([BI)B"⟩ : MethodName)) (argsL := [(.ref d), (.int (2 : Int32))]) hown (hw _ (List.mem_of_getElem? (i := 35) rfl)) (hw _ (List.mem_of_getElem? (i := 36) rfl)) (hw _ (List.mem_of_getElem? (i := 30) rfl)) (hw _ (List.mem_of_getElem? (i := 37) rfl)) (by decide) 1 rfl (rm7_2U l Z a0 hw d kd (own_u gb) T3.heap n0 Zs A_d) (by decide) (by decide) (by decide) (by decide) (g := (mkF m 45 #[.val (.ref a), .val (.ref b), .val (.int (0 : Int32)), .val (.int (2 : Int32)), .val .null, .val (.ref d)] [(.int (2 : Int32)), (.ref d), (.ref a)])) rfl (by rw [hml]; rfl) (rest := [(.ref a)]) (lenOf pd14 rfl) rfl (by show 2 * 0 + _ ≤ _; exact Nat.le_of_eq rfl) (hb hby d3_45) ?_
    intro T7 v7 L7 X7 q7
    obtain ⟨rfl, Nq7, e7⟩ := q7
    have N7 := Fr.app N3 Nq7
    obtain ⟨T8, h8, X8, e8, W8, st8⟩ := putFN X7 hx hZ hown (hw _ (List.mem_of_getElem? (i := 26) rfl)) Via.refl e7 F_a_coder E_a (Or.inr ⟨(hw _ (List.mem_of_getElem? (i := 22) rfl)), rfl, hnm⟩) (hw _ (List.mem_of_getElem? (i := 6) rfl)) (ty := .byte) (v' := .int (1 : Int32)) (by decide) rfl rfl (g := (mkF m 48 #[.val (.ref a), .val (.ref b), .val (.int (0 : Int32)), .val (.int (2 : Int32)), .val .null, .val (.ref d)] [(.int (1 : Int32)), (.ref a)])) rfl rfl (hb hby d3_48)
    refine Go.of st8 ?_
    have Zs := Nat.le_trans Zs (Nat.le_of_eq W8.size.symm)
    have Kp := Kp.wr W8 (Or.inl (List.mem_of_getElem? (i := 0) rfl))
    have Od := Od.wr W8 g_a
    have E_a := E_a.wr W8
    have F_a_value := F_a_value.other W8 (Or.inr (slot_ne (Or.inr (hw _ (List.mem_of_getElem? (i := 21) rfl))) (Or.inr (hw _ (List.mem_of_getElem? (i := 22) rfl))) (by decide) (t := (.array .byte)) (t' := .byte) (by decide) (by decide)))
    have F_a_coder := F_a_coder.same W8
    have A_b := A_b.other W8 ne_b_a
    have A_d := A_d.other W8 ne_d_a
    have N8 := Fr.snoc X8 N7 g_a
    refine Go.of (fun _ q => XS.aloadN X8.here hx rfl (hb hby d3_51) rfl rfl q) ?_
    show Go _ _ _ _ _ _ _ (T8.setTop (mkF m 52 #[.val (.ref a), .val (.ref b), .val (.int (0 : Int32)), .val (.int (2 : Int32)), .val .null, .val (.ref d)] [(.ref a)]))
    refine Go.of (fun _ q => XS.aload X8.here hx rfl (hb hby d3_52) rfl rfl q) ?_
    obtain ⟨T9, h9, X9, e9, W9, st9⟩ := putF X8 hx hZ hown (host := "") (Or.inl (hw _ (List.mem_of_getElem? (i := 25) rfl))) Via.refl e8 F_a_value E_a (Or.inr ⟨(hw _ (List.mem_of_getElem? (i := 21) rfl)), rfl, hnm⟩) (hw _ (List.mem_of_getElem? (i := 6) rfl)) (ty := (.array .byte)) (by decide) rfl rfl (g := (mkF m 54 #[.val (.ref a), .val (.ref b), .val (.int (0 : Int32)), .val (.int (2 : Int32)), .val .null, .val (.ref d)] [(.ref d), (.ref a)])) rfl rfl (hb hby d3_54)
    refine Go.of st9 ?_
    have Zs := Nat.le_trans Zs (Nat.le_of_eq W9.size.symm)
    have Kp := Kp.wr W9 (Or.inl (List.mem_of_getElem? (i := 0) rfl))
    have Od := Od.wr W9 g_a
    have E_a := E_a.wr W9
    have F_a_value := F_a_value.same W9
    have F_a_coder := F_a_coder.other W9 (Or.inr (slot_ne (Or.inr (hw _ (List.mem_of_getElem? (i := 22) rfl))) (Or.inr (hw _ (List.mem_of_getElem? (i := 21) rfl))) (by decide) (t := .byte) (t' := (.array .byte)) (by decide) (by decide)))
    have A_b := A_b.other W9 ne_b_a
    have A_d := A_d.other W9 ne_d_a
    have N9 := Fr.snoc X9 N8 g_a
    refine Go.retV X9 hx hlk hret (hb hby d3_57) (by decide) (by decide) ?_
    rw [e9]
    exact ⟨rfl, N9, Kp, E_a, (own_St.mkU F_a_value F_a_coder A_d (own_hU hcc))⟩
theorem ef_2_2 (m : MethodId) (a : Addr) (b : Addr) : entryFrame m #[(.ref a), (.ref b)] 2 = mkF m 0 #[.val (.ref a), .val (.ref b)] [] := by first | (simp [entryFrame, mkF, argsToLocals, Value.category]; done) | rfl
def Q2_2 (Z : State) (a : Addr) (b : Addr) (kb : ClassId) (gb : Nat → Int32) (u1 : Value) (u2 : Int32) (cs : Int32) (h0 : Heap) (n0 : Nat) (v : Option Value) (h : Heap) (L : List Loc) : Prop := v = none ∧ Fr n0 L ∧ Keep h0 h [a] ∧ Exa Z h a "java/lang/String" ∧ own_St Z h a 2 gb
set_option maxRecDepth 65536 in
set_option maxHeartbeats 40000000 in
theorem rm2_2 (l : Launch) (Z : State) (a0 : Array Value) (hw : ∀ d ∈ tables_1, d.before a0 Z = true) (a : Addr) (b : Addr) (kb : ClassId) (gb : Nat → Int32) (u1 : Value) (u2 : Int32) (cs : Int32) (h0 : Heap) (n0 : Nat) (Zs : n0 ≤ h0.size) (Od : Old Z n0 h0) (E_a : Exa Z h0 a "java/lang/String") (F_a_value : Fld Z h0 a "java/lang/String" "value" "[B" u1) (F_a_coder : Fld Z h0 a "java/lang/String" "coder" "B" (.int u2)) (g_a : n0 ≤ a) (A_b : AF Z h0 b kb .char 2 (fun i => .int (gb i))) (ne_b_a : b ≠ a) (hcc : ∀ i, i < 2 → own_cc (gb i) = gb i) (Scs : Sta Z Z.heap "java/lang/String" "COMPACT_STRINGS" "Z" (.int cs)) (hcs : ¬ cs = (0 : Int32)) (Sad : Sta Z Z.heap "java/lang/StringUTF16" "$assertionsDisabled" "Z" (.int (1 : Int32))) (Shi : Sta Z Z.heap "java/lang/StringUTF16" "HI_BYTE_SHIFT" "I" (.int (0 : Int32))) (Slo : Sta Z Z.heap "java/lang/StringUTF16" "LO_BYTE_SHIFT" "I" (.int (8 : Int32))) :
    Con l Z (⟨"java/lang/String", "<init>", "([C)V"⟩ : MethodName) jdk_42_method_3_code 2 none ({ frames := 5, cells := 2, slots := 6, locals := 74 } : Room) #[(.ref a), (.ref b)] h0 (Q2_2 Z a b kb gb u1 u2 cs h0 n0) := by
  refine Con.intro (plainFor_of_name pn1) (fun m => ef_2_2 m a b) ?_
  intro p e s m below meth c s₁ hx hby hml0 hZ hown hnm hret hlk X0 e0
  have hml : c.maxLocals = 2 := hml0
  have N0 := Fr.nil n0
  have Kp : Keep h0 h0 [a] := Keep.refl h0 _
  show Go _ _ _ _ _ _ _ (s₁.setTop (mkF m 0 #[.val (.ref a), .val (.ref b)] []))
  refine Go.of (fun _ q => XS.aloadN X0.here hx rfl (hb hby d2_0) rfl rfl q) ?_
  refine Go.of (fun _ q => XS.aloadN X0.here hx rfl (hb hby d2_1) rfl rfl q) ?_
  refine Go.of (fun _ q => XS.iconst X0.here hx rfl (hb hby d2_2) q) ?_
  show Go _ _ _ _ _ _ _ (s₁.setTop (mkF m 3 #[.val (.ref a), .val (.ref b)] [(.int (0 : Int32)), (.ref b), (.ref a)]))
  refine Go.of (fun _ q => XS.aloadN X0.here hx rfl (hb hby d2_3) rfl rfl q) ?_
  refine Go.of (fun _ q => AF.length A_b X0 hx hZ e0 rfl (g := (mkF m 4 #[.val (.ref a), .val (.ref b)] [(.ref b), (.int (0 : Int32)), (.ref b), (.ref a)])) rfl rfl (hb hby d2_4) q) ?_
  refine Go.of (fun _ q => XS.aconstNull X0.here hx rfl (hb hby d2_5) q) ?_
  show Go _ _ _ _ _ _ _ (s₁.setTop (mkF m 6 #[.val (.ref a), .val (.ref b)] [.null, (.int (2 : Int32)), (.int (0 : Int32)), (.ref b), (.ref a)]))
  refine Go.special X0 hx hZ (y := (⟨"java/lang/String", "<init>", "([CIILjava/lang/Void;)V"⟩ : MethodName)) (a := a) (argsL := [(.ref b), (.int (0 : Int32)), (.int (2 : Int32)), .null]) rfl hown (hw _ (List.mem_of_getElem? (i := 12) rfl)) (hw _ (List.mem_of_getElem? (i := 13) rfl)) (hw _ (List.mem_of_getElem? (i := 7) rfl)) (hw _ (List.mem_of_getElem? (i := 15) rfl)) (by decide) 0 e0 (rm3_2 l Z a0 hw a b kb gb u1 u2 cs h0 n0 Zs Od E_a F_a_value F_a_coder g_a A_b ne_b_a hcc Scs hcs Sad Shi Slo) (by decide) (by decide) (by decide) (by decide) (g := (mkF m 6 #[.val (.ref a), .val (.ref b)] [.null, (.int (2 : Int32)), (.int (0 : Int32)), (.ref b), (.ref a)])) rfl (by rw [hml]; rfl) (rest := []) (lenOf pd15 rfl) rfl (by show 2 * 0 + _ ≤ _; exact Nat.le_of_eq rfl) (hb hby d2_6) ?_
  intro T1 v1 L1 X1 q1
  obtain ⟨rfl, Nq1, K1, f1_0, f1_1⟩ := q1
  have N1 := Fr.app N0 Nq1
  have Zs := Nat.le_trans Zs K1.1
  have Kp := Kp.trans K1 (allS (P := fun x => x ∈ [a] ∨ h0.size ≤ x) (Or.inl (List.mem_of_getElem? (i := 0) rfl)) all0)
  have Od := Od.keep K1 (allS (P := fun x => n0 ≤ x) g_a all0)
  have E_a := E_a.keep K1
  have A_b := A_b.keep K1 (ninS ne_b_a nin0)
  have S_a := f1_1
  refine Go.retV X1 hx hlk hret (hb hby d2_9) (by decide) (by decide) ?_
  exact ⟨rfl, N1, Kp, E_a, S_a⟩
theorem ef_19_3 (m : MethodId)  : entryFrame m #[(.int (3 : Int32))] 1 = mkF m 0 #[.val (.int (3 : Int32))] [] := by first | (simp [entryFrame, mkF, argsToLocals, Value.category]; done) | rfl
def Q19_3 (Z : State)  (h0 : Heap) (n0 : Nat) (v : Option Value) (h : Heap) (L : List Loc) : Prop := v = some (.int (6 : Int32)) ∧ Fr n0 L ∧ h = h0
set_option maxRecDepth 65536 in
set_option maxHeartbeats 40000000 in
theorem rm19_3 (l : Launch) (Z : State) (a0 : Array Value) (hw : ∀ d ∈ tables_1, d.before a0 Z = true)  (h0 : Heap) (n0 : Nat) (Zs : n0 ≤ h0.size)  :
    Con l Z (⟨"java/lang/StringUTF16", "newBytesLength", "(I)I"⟩ : MethodName) jdk_52_method_3_code 1 (some .int) ({ frames := 0, cells := 0, slots := 0, locals := 0 } : Room) #[(.int (3 : Int32))] h0 (Q19_3 Z  h0 n0) := by
  refine Con.intro (plainFor_of_name pn3) (fun m => ef_19_3 m ) ?_
  intro p e s m below meth c s₁ hx hby hml0 hZ hown hnm hret hlk X0 e0
  have hml : c.maxLocals = 1 := hml0
  have N0 := Fr.nil n0
  have Kp : Keep h0 h0 [] := Keep.refl h0 _
  show Go _ _ _ _ _ _ _ (s₁.setTop (mkF m 0 #[.val (.int (3 : Int32))] []))
  refine Go.of (fun _ q => XS.iloadN X0.here hx rfl (hb hby d19_0) rfl q) ?_
  refine Go.of (fun _ q => XS.ifYes X0.here hx rfl (pc0 := 1) (pc' := 12) rfl (hb hby d19_1) rfl ((if0 _ _).trans (flt (by decide)).2.1) (by decide) (by decide) q) ?_
  refine Go.of (fun _ q => XS.iloadN X0.here hx rfl (hb hby d19_12) rfl q) ?_
  show Go _ _ _ _ _ _ _ (s₁.setTop (mkF m 13 #[.val (.int (3 : Int32))] [(.int (3 : Int32))]))
  refine Go.of (fun _ q => X0.ldcInt hx hown (mvT hZ (hw _ (List.mem_of_getElem? (i := 90) rfl))) (g := (mkF m 13 #[.val (.int (3 : Int32))] [(.int (3 : Int32))])) rfl (hb hby d19_13) _ q) ?_
  refine Go.of (fun _ q => XS.icmpYes X0.here hx rfl (pc0 := 15) (pc' := 55) rfl (hb hby d19_15) rfl (tlt (by decide)).1 (by decide) (by decide) q) ?_
  refine Go.of (fun _ q => XS.iloadN X0.here hx rfl (hb hby d19_55) rfl q) ?_
  show Go _ _ _ _ _ _ _ (s₁.setTop (mkF m 56 #[.val (.int (3 : Int32))] [(.int (3 : Int32))]))
  refine Go.of (fun _ q => XS.iconst X0.here hx rfl (hb hby d19_56) q) ?_
  refine Go.of (fun _ q => XS.ishl X0.here hx rfl (hb hby d19_57) rfl q) ?_
  refine Go.retI X0 hx hlk hret (hb hby d19_58) (by decide) (by decide) ?_
  rw [e0]
  exact ⟨rfl, N0, rfl⟩
theorem ef_18_3 (m : MethodId)  : entryFrame m #[(.int (3 : Int32))] 1 = mkF m 0 #[.val (.int (3 : Int32))] [] := by first | (simp [entryFrame, mkF, argsToLocals, Value.category]; done) | rfl
def Q18_3 (Z : State)  (h0 : Heap) (n0 : Nat) (v : Option Value) (h : Heap) (L : List Loc) : Prop := ∃ d : Addr, ∃ kd : ClassId, v = some (.ref d) ∧ Fr n0 L ∧ Keep h0 h [] ∧ h0.size ≤ d ∧ AF Z h d kd .byte 6 (fun i => .int ((fun _ => (0 : Int32)) i))
set_option maxRecDepth 65536 in
set_option maxHeartbeats 40000000 in
theorem rm18_3 (l : Launch) (Z : State) (a0 : Array Value) (hw : ∀ d ∈ tables_1, d.before a0 Z = true)  (h0 : Heap) (n0 : Nat) (Zs : n0 ≤ h0.size)  :
    Con l Z (⟨"java/lang/StringUTF16", "newBytesFor", "(I)[B"⟩ : MethodName) jdk_52_method_2_code 1 (some (.array .byte)) ({ frames := 1, cells := 1, slots := 6, locals := 12 } : Room) #[(.int (3 : Int32))] h0 (Q18_3 Z  h0 n0) := by
  refine Con.intro (plainFor_of_name pn3) (fun m => ef_18_3 m ) ?_
  intro p e s m below meth c s₁ hx hby hml0 hZ hown hnm hret hlk X0 e0
  have hml : c.maxLocals = 1 := hml0
  have N0 := Fr.nil n0
  have Kp : Keep h0 h0 [] := Keep.refl h0 _
  show Go _ _ _ _ _ _ _ (s₁.setTop (mkF m 0 #[.val (.int (3 : Int32))] []))
  refine Go.of (fun _ q => XS.iloadN X0.here hx rfl (hb hby d18_0) rfl q) ?_
  refine Go.static X0 hx hZ (y := (⟨"java/lang/StringUTF16", "newBytesLength", "(I)I"⟩ : MethodName)) (argsL := [(.int (3 : Int32))]) hown (hw _ (List.mem_of_getElem? (i := 87) rfl)) (hw _ (List.mem_of_getElem? (i := 88) rfl)) (hw _ (List.mem_of_getElem? (i := 30) rfl)) (hw _ (List.mem_of_getElem? (i := 89) rfl)) (by decide) 0 e0 (rm19_3 l Z a0 hw  h0 n0 Zs ) (by decide) (by decide) (by decide) (by decide) (g := (mkF m 1 #[.val (.int (3 : Int32))] [(.int (3 : Int32))])) rfl (by rw [hml]; rfl) (rest := []) (lenOf pd9 rfl) rfl (by show 2 * 0 + _ ≤ _; exact Nat.le_of_eq rfl) (hb hby d18_1) ?_
  intro T1 v1 L1 X1 q1
  obtain ⟨rfl, Nq1, e1⟩ := q1
  have N1 := Fr.app N0 Nq1
  obtain ⟨T2, h2, k2, X2, e2, E2, A2, B2, st2⟩ := newPE X1 hx hZ (hw _ (List.mem_of_getElem? (i := 20) rfl)) e1 (g := (mkF m 4 #[.val (.int (3 : Int32))] [(.int (6 : Int32))])) rfl (hb hby d18_4) rfl (by decide) (cap := 6) (by decide) (by decide) (by decide) (by decide) (ad := "[B") (by decide)
  obtain ⟨d, g2⟩ : ∃ z, z = h0.size := ⟨_, rfl⟩
  rw [← g2] at A2 B2 st2
  refine Go.of st2 ?_
  have g_d : n0 ≤ d := Nat.le_trans Zs (Nat.le_of_eq g2.symm)
  have sz_d : h0.size ≤ d := Nat.le_trans Kp.1 (Nat.le_of_eq g2.symm)
  have Zs := Nat.le_trans Zs E2.1
  have Kp := Kp.ext E2
  have E_d := B2
  have A_d : AF Z h2 d k2 .byte 6 (fun i => .int ((fun _ => (0 : Int32)) i)) := AF.new A2 (by decide) rfl rfl
  show Go _ _ _ _ _ _ _ (T2.setTop (mkF m 6 #[.val (.int (3 : Int32))] [(.ref d)]))
  refine Go.retA X2 hx hlk hret rfl rfl (hb hby d18_6) (by decide) (by decide) ?_
  rw [e2]
  exact ⟨d, k2, rfl, N1, Kp, sz_d, A_d⟩
theorem ef_17_3 (m : MethodId) (b : Addr) : entryFrame m #[(.ref b), (.int (0 : Int32)), (.int (3 : Int32))] 5 = mkF m 0 #[.val (.ref b), .val (.int (0 : Int32)), .val (.int (3 : Int32)), .unset, .unset] [] := by first | (simp [entryFrame, mkF, argsToLocals, Value.category]; done) | rfl
def Q17_3 (Z : State) (b : Addr) (kb : ClassId) (gb : Nat → Int32) (h0 : Heap) (n0 : Nat) (v : Option Value) (h : Heap) (L : List Loc) : Prop := ∃ d : Addr, ∃ kd : ClassId, v = some (.ref d) ∧ Fr n0 L ∧ Keep h0 h [] ∧ h0.size ≤ d ∧ AF Z h d kd .byte 6 (fun i => .int ((own_u gb) i))
set_option maxRecDepth 65536 in
set_option maxHeartbeats 40000000 in
theorem rm17_3 (l : Launch) (Z : State) (a0 : Array Value) (hw : ∀ d ∈ tables_1, d.before a0 Z = true) (b : Addr) (kb : ClassId) (gb : Nat → Int32) (h0 : Heap) (n0 : Nat) (Zs : n0 ≤ h0.size) (Od : Old Z n0 h0) (A_b : AF Z h0 b kb .char 3 (fun i => .int (gb i))) (Sad : Sta Z Z.heap "java/lang/StringUTF16" "$assertionsDisabled" "Z" (.int (1 : Int32))) (Shi : Sta Z Z.heap "java/lang/StringUTF16" "HI_BYTE_SHIFT" "I" (.int (0 : Int32))) (Slo : Sta Z Z.heap "java/lang/StringUTF16" "LO_BYTE_SHIFT" "I" (.int (8 : Int32))) :
    Con l Z (⟨"java/lang/StringUTF16", "toBytes", "([CII)[B"⟩ : MethodName) jdk_52_method_14_code 5 (some (.array .byte)) ({ frames := 2, cells := 1, slots := 6, locals := 24 } : Room) #[(.ref b), (.int (0 : Int32)), (.int (3 : Int32))] h0 (Q17_3 Z b kb gb h0 n0) := by
  refine Con.intro (plainFor_of_name pn3) (fun m => ef_17_3 m b) ?_
  intro p e s m below meth c s₁ hx hby hml0 hZ hown hnm hret hlk X0 e0
  have hml : c.maxLocals = 5 := hml0
  have N0 := Fr.nil n0
  have Kp : Keep h0 h0 [] := Keep.refl h0 _
  show Go _ _ _ _ _ _ _ (s₁.setTop (mkF m 0 #[.val (.ref b), .val (.int (0 : Int32)), .val (.int (3 : Int32)), .unset, .unset] []))
  refine Go.of (fun _ q => XS.iloadN X0.here hx rfl (hb hby d17_0) rfl q) ?_
  refine Go.static X0 hx hZ (y := (⟨"java/lang/StringUTF16", "newBytesFor", "(I)[B"⟩ : MethodName)) (argsL := [(.int (3 : Int32))]) hown (hw _ (List.mem_of_getElem? (i := 84) rfl)) (hw _ (List.mem_of_getElem? (i := 85) rfl)) (hw _ (List.mem_of_getElem? (i := 30) rfl)) (hw _ (List.mem_of_getElem? (i := 86) rfl)) (by decide) 0 e0 (rm18_3 l Z a0 hw  h0 n0 Zs ) (by decide) (by decide) (by decide) (by decide) (g := (mkF m 1 #[.val (.ref b), .val (.int (0 : Int32)), .val (.int (3 : Int32)), .unset, .unset] [(.int (3 : Int32))])) rfl (by rw [hml]; rfl) (rest := []) (lenOf pd10 rfl) rfl (by show 2 * 0 + _ ≤ _; exact Nat.le_of_eq rfl) (hb hby d17_1) ?_
  intro T1 v1 L1 X1 q1
  obtain ⟨d, kd0, rfl, Nq1, K1, f1_0, f1_1⟩ := q1
  have N1 := Fr.app N0 Nq1
  have g_d : n0 ≤ d := Nat.le_trans Zs f1_0
  have sz_d : h0.size ≤ d := Nat.le_trans Kp.1 f1_0
  have ne_b_d : b ≠ d := Nat.ne_of_lt (Nat.lt_of_lt_of_le A_b.lt f1_0)
  have Zs := Nat.le_trans Zs K1.1
  have Kp := Kp.trans K1 all0
  have Od := Od.keep K1 all0
  have A_b := A_b.keep K1 nin0
  have A_d := f1_1
  refine Go.of (fun _ q => XS.astoreN X1.here hx rfl (hb hby d17_4) rfl rfl (l' := #[.val (.ref b), .val (.int (0 : Int32)), .val (.int (3 : Int32)), .val (.ref d), .unset]) rfl q) ?_
  show Go _ _ _ _ _ _ _ (T1.setTop (mkF m 5 #[.val (.ref b), .val (.int (0 : Int32)), .val (.int (3 : Int32)), .val (.ref d), .unset] []))
  refine Go.of (fun _ q => XS.iconst X1.here hx rfl (hb hby d17_5) q) ?_
  refine Go.of (fun _ q => XS.istore X1.here hx rfl (hb hby d17_6) rfl (l' := #[.val (.ref b), .val (.int (0 : Int32)), .val (.int (3 : Int32)), .val (.ref d), .val (.int (0 : Int32))]) rfl q) ?_
  refine Go.of (fun _ q => XS.iload X1.here hx rfl (hb hby d17_8) rfl q) ?_
  show Go _ _ _ _ _ _ _ (T1.setTop (mkF m 10 #[.val (.ref b), .val (.int (0 : Int32)), .val (.int (3 : Int32)), .val (.ref d), .val (.int (0 : Int32))] [(.int (0 : Int32))]))
  refine Go.of (fun _ q => XS.iloadN X1.here hx rfl (hb hby d17_10) rfl q) ?_
  refine Go.of (fun _ q => XS.icmpNo X1.here hx rfl (hb hby d17_11) rfl (tlt (by decide)).2.1 q) ?_
  refine Go.of (fun _ q => XS.aloadN X1.here hx rfl (hb hby d17_14) rfl rfl q) ?_
  show Go _ _ _ _ _ _ _ (T1.setTop (mkF m 15 #[.val (.ref b), .val (.int (0 : Int32)), .val (.int (3 : Int32)), .val (.ref d), .val (.int (0 : Int32))] [(.ref d)]))
  refine Go.of (fun _ q => XS.iload X1.here hx rfl (hb hby d17_15) rfl q) ?_
  refine Go.of (fun _ q => XS.aloadN X1.here hx rfl (hb hby d17_17) rfl rfl q) ?_
  refine Go.of (fun _ q => XS.iloadN X1.here hx rfl (hb hby d17_18) rfl q) ?_
  show Go _ _ _ _ _ _ _ (T1.setTop (mkF m 19 #[.val (.ref b), .val (.int (0 : Int32)), .val (.int (3 : Int32)), .val (.ref d), .val (.int (0 : Int32))] [(.int (0 : Int32)), (.ref b), (.int (0 : Int32)), (.ref d)]))
  refine Go.of (fun _ q => AF.caload A_b X1 hx hZ rfl ⟨rfl, by decide, by decide⟩ (v := (.int (gb 0))) rfl (g := (mkF m 19 #[.val (.ref b), .val (.int (0 : Int32)), .val (.int (3 : Int32)), .val (.ref d), .val (.int (0 : Int32))] [(.int (0 : Int32)), (.ref b), (.int (0 : Int32)), (.ref d)])) rfl rfl (hb hby d17_19) q) ?_
  refine Go.static X1 hx hZ (y := (⟨"java/lang/StringUTF16", "putChar", "([BII)V"⟩ : MethodName)) (argsL := [(.ref d), (.int (0 : Int32)), (.int (gb 0))]) hown (hw _ (List.mem_of_getElem? (i := 91) rfl)) (hw _ (List.mem_of_getElem? (i := 92) rfl)) (hw _ (List.mem_of_getElem? (i := 30) rfl)) (hw _ (List.mem_of_getElem? (i := 93) rfl)) (by decide) 0 rfl (rm20 l Z a0 hw d (0 : Int32) (gb 0) kd0 (fun _ => (0 : Int32)) 6 0 T1.heap n0 Zs Od A_d g_d rfl (by decide) (by decide) Sad Shi Slo) (by decide) (by decide) (by decide) (by decide) (g := (mkF m 20 #[.val (.ref b), .val (.int (0 : Int32)), .val (.int (3 : Int32)), .val (.ref d), .val (.int (0 : Int32))] [(.int (gb 0)), (.int (0 : Int32)), (.ref d)])) rfl (by rw [hml]; rfl) (rest := []) (lenOf pd11 rfl) rfl (by show 2 * 0 + _ ≤ _; exact Nat.le_of_eq rfl) (hb hby d17_20) ?_
  intro T2 v2 L2 X2 q2
  obtain ⟨rfl, Nq2, K2, f2_0⟩ := q2
  have N2 := Fr.app N1 Nq2
  have Zs := Nat.le_trans Zs K2.1
  have Kp := Kp.trans K2 (allS (P := fun x => x ∈ [] ∨ h0.size ≤ x) (Or.inr sz_d) all0)
  have Od := Od.keep K2 (allS (P := fun x => n0 ≤ x) g_d all0)
  have A_b := A_b.keep K2 (ninS ne_b_d nin0)
  have A_d := f2_0
  refine Go.of (fun _ q => XS.iinc X2.here hx rfl (hb hby d17_23) rfl (l' := #[.val (.ref b), .val (.int (1 : Int32)), .val (.int (3 : Int32)), .val (.ref d), .val (.int (0 : Int32))]) rfl q) ?_
  show Go _ _ _ _ _ _ _ (T2.setTop (mkF m 26 #[.val (.ref b), .val (.int (1 : Int32)), .val (.int (3 : Int32)), .val (.ref d), .val (.int (0 : Int32))] []))
  refine Go.of (fun _ q => XS.iinc X2.here hx rfl (hb hby d17_26) rfl (l' := #[.val (.ref b), .val (.int (1 : Int32)), .val (.int (3 : Int32)), .val (.ref d), .val (.int (1 : Int32))]) rfl q) ?_
  refine Go.of (fun _ q => XS.goto X2.here hx rfl (pc0 := 29) (pc' := 8) rfl (hb hby d17_29) (by decide) (by decide) q) ?_
  refine Go.of (fun _ q => XS.iload X2.here hx rfl (hb hby d17_8) rfl q) ?_
  show Go _ _ _ _ _ _ _ (T2.setTop (mkF m 10 #[.val (.ref b), .val (.int (1 : Int32)), .val (.int (3 : Int32)), .val (.ref d), .val (.int (1 : Int32))] [(.int (1 : Int32))]))
  refine Go.of (fun _ q => XS.iloadN X2.here hx rfl (hb hby d17_10) rfl q) ?_
  refine Go.of (fun _ q => XS.icmpNo X2.here hx rfl (hb hby d17_11) rfl (tlt (by decide)).2.1 q) ?_
  refine Go.of (fun _ q => XS.aloadN X2.here hx rfl (hb hby d17_14) rfl rfl q) ?_
  show Go _ _ _ _ _ _ _ (T2.setTop (mkF m 15 #[.val (.ref b), .val (.int (1 : Int32)), .val (.int (3 : Int32)), .val (.ref d), .val (.int (1 : Int32))] [(.ref d)]))
  refine Go.of (fun _ q => XS.iload X2.here hx rfl (hb hby d17_15) rfl q) ?_
  refine Go.of (fun _ q => XS.aloadN X2.here hx rfl (hb hby d17_17) rfl rfl q) ?_
  refine Go.of (fun _ q => XS.iloadN X2.here hx rfl (hb hby d17_18) rfl q) ?_
  show Go _ _ _ _ _ _ _ (T2.setTop (mkF m 19 #[.val (.ref b), .val (.int (1 : Int32)), .val (.int (3 : Int32)), .val (.ref d), .val (.int (1 : Int32))] [(.int (1 : Int32)), (.ref b), (.int (1 : Int32)), (.ref d)]))
  refine Go.of (fun _ q => AF.caload A_b X2 hx hZ rfl ⟨rfl, by decide, by decide⟩ (v := (.int (gb 1))) rfl (g := (mkF m 19 #[.val (.ref b), .val (.int (1 : Int32)), .val (.int (3 : Int32)), .val (.ref d), .val (.int (1 : Int32))] [(.int (1 : Int32)), (.ref b), (.int (1 : Int32)), (.ref d)])) rfl rfl (hb hby d17_19) q) ?_
  refine Go.static X2 hx hZ (y := (⟨"java/lang/StringUTF16", "putChar", "([BII)V"⟩ : MethodName)) (argsL := [(.ref d), (.int (1 : Int32)), (.int (gb 1))]) hown (hw _ (List.mem_of_getElem? (i := 91) rfl)) (hw _ (List.mem_of_getElem? (i := 92) rfl)) (hw _ (List.mem_of_getElem? (i := 30) rfl)) (hw _ (List.mem_of_getElem? (i := 93) rfl)) (by decide) 0 rfl (rm20 l Z a0 hw d (1 : Int32) (gb 1) kd0 (upI (upI (fun _ => (0 : Int32)) (2 * 0) (own_lo (gb 0))) (2 * 0 + 1) (own_hi (gb 0))) 6 1 T2.heap n0 Zs Od A_d g_d rfl (by decide) (by decide) Sad Shi Slo) (by decide) (by decide) (by decide) (by decide) (g := (mkF m 20 #[.val (.ref b), .val (.int (1 : Int32)), .val (.int (3 : Int32)), .val (.ref d), .val (.int (1 : Int32))] [(.int (gb 1)), (.int (1 : Int32)), (.ref d)])) rfl (by rw [hml]; rfl) (rest := []) (lenOf pd11 rfl) rfl (by show 2 * 0 + _ ≤ _; exact Nat.le_of_eq rfl) (hb hby d17_20) ?_
  intro T3 v3 L3 X3 q3
  obtain ⟨rfl, Nq3, K3, f3_0⟩ := q3
  have N3 := Fr.app N2 Nq3
  have Zs := Nat.le_trans Zs K3.1
  have Kp := Kp.trans K3 (allS (P := fun x => x ∈ [] ∨ h0.size ≤ x) (Or.inr sz_d) all0)
  have Od := Od.keep K3 (allS (P := fun x => n0 ≤ x) g_d all0)
  have A_b := A_b.keep K3 (ninS ne_b_d nin0)
  have A_d := f3_0
  refine Go.of (fun _ q => XS.iinc X3.here hx rfl (hb hby d17_23) rfl (l' := #[.val (.ref b), .val (.int (2 : Int32)), .val (.int (3 : Int32)), .val (.ref d), .val (.int (1 : Int32))]) rfl q) ?_
  show Go _ _ _ _ _ _ _ (T3.setTop (mkF m 26 #[.val (.ref b), .val (.int (2 : Int32)), .val (.int (3 : Int32)), .val (.ref d), .val (.int (1 : Int32))] []))
  refine Go.of (fun _ q => XS.iinc X3.here hx rfl (hb hby d17_26) rfl (l' := #[.val (.ref b), .val (.int (2 : Int32)), .val (.int (3 : Int32)), .val (.ref d), .val (.int (2 : Int32))]) rfl q) ?_
  refine Go.of (fun _ q => XS.goto X3.here hx rfl (pc0 := 29) (pc' := 8) rfl (hb hby d17_29) (by decide) (by decide) q) ?_
  refine Go.of (fun _ q => XS.iload X3.here hx rfl (hb hby d17_8) rfl q) ?_
  show Go _ _ _ _ _ _ _ (T3.setTop (mkF m 10 #[.val (.ref b), .val (.int (2 : Int32)), .val (.int (3 : Int32)), .val (.ref d), .val (.int (2 : Int32))] [(.int (2 : Int32))]))
  refine Go.of (fun _ q => XS.iloadN X3.here hx rfl (hb hby d17_10) rfl q) ?_
  refine Go.of (fun _ q => XS.icmpNo X3.here hx rfl (hb hby d17_11) rfl (tlt (by decide)).2.1 q) ?_
  refine Go.of (fun _ q => XS.aloadN X3.here hx rfl (hb hby d17_14) rfl rfl q) ?_
  show Go _ _ _ _ _ _ _ (T3.setTop (mkF m 15 #[.val (.ref b), .val (.int (2 : Int32)), .val (.int (3 : Int32)), .val (.ref d), .val (.int (2 : Int32))] [(.ref d)]))
  refine Go.of (fun _ q => XS.iload X3.here hx rfl (hb hby d17_15) rfl q) ?_
  refine Go.of (fun _ q => XS.aloadN X3.here hx rfl (hb hby d17_17) rfl rfl q) ?_
  refine Go.of (fun _ q => XS.iloadN X3.here hx rfl (hb hby d17_18) rfl q) ?_
  show Go _ _ _ _ _ _ _ (T3.setTop (mkF m 19 #[.val (.ref b), .val (.int (2 : Int32)), .val (.int (3 : Int32)), .val (.ref d), .val (.int (2 : Int32))] [(.int (2 : Int32)), (.ref b), (.int (2 : Int32)), (.ref d)]))
  refine Go.of (fun _ q => AF.caload A_b X3 hx hZ rfl ⟨rfl, by decide, by decide⟩ (v := (.int (gb 2))) rfl (g := (mkF m 19 #[.val (.ref b), .val (.int (2 : Int32)), .val (.int (3 : Int32)), .val (.ref d), .val (.int (2 : Int32))] [(.int (2 : Int32)), (.ref b), (.int (2 : Int32)), (.ref d)])) rfl rfl (hb hby d17_19) q) ?_
  refine Go.static X3 hx hZ (y := (⟨"java/lang/StringUTF16", "putChar", "([BII)V"⟩ : MethodName)) (argsL := [(.ref d), (.int (2 : Int32)), (.int (gb 2))]) hown (hw _ (List.mem_of_getElem? (i := 91) rfl)) (hw _ (List.mem_of_getElem? (i := 92) rfl)) (hw _ (List.mem_of_getElem? (i := 30) rfl)) (hw _ (List.mem_of_getElem? (i := 93) rfl)) (by decide) 0 rfl (rm20 l Z a0 hw d (2 : Int32) (gb 2) kd0 (upI (upI (upI (upI (fun _ => (0 : Int32)) (2 * 0) (own_lo (gb 0))) (2 * 0 + 1) (own_hi (gb 0))) (2 * 1) (own_lo (gb 1))) (2 * 1 + 1) (own_hi (gb 1))) 6 2 T3.heap n0 Zs Od A_d g_d rfl (by decide) (by decide) Sad Shi Slo) (by decide) (by decide) (by decide) (by decide) (g := (mkF m 20 #[.val (.ref b), .val (.int (2 : Int32)), .val (.int (3 : Int32)), .val (.ref d), .val (.int (2 : Int32))] [(.int (gb 2)), (.int (2 : Int32)), (.ref d)])) rfl (by rw [hml]; rfl) (rest := []) (lenOf pd11 rfl) rfl (by show 2 * 0 + _ ≤ _; exact Nat.le_of_eq rfl) (hb hby d17_20) ?_
  intro T4 v4 L4 X4 q4
  obtain ⟨rfl, Nq4, K4, f4_0⟩ := q4
  have N4 := Fr.app N3 Nq4
  have Zs := Nat.le_trans Zs K4.1
  have Kp := Kp.trans K4 (allS (P := fun x => x ∈ [] ∨ h0.size ≤ x) (Or.inr sz_d) all0)
  have Od := Od.keep K4 (allS (P := fun x => n0 ≤ x) g_d all0)
  have A_b := A_b.keep K4 (ninS ne_b_d nin0)
  have A_d := f4_0
  refine Go.of (fun _ q => XS.iinc X4.here hx rfl (hb hby d17_23) rfl (l' := #[.val (.ref b), .val (.int (3 : Int32)), .val (.int (3 : Int32)), .val (.ref d), .val (.int (2 : Int32))]) rfl q) ?_
  show Go _ _ _ _ _ _ _ (T4.setTop (mkF m 26 #[.val (.ref b), .val (.int (3 : Int32)), .val (.int (3 : Int32)), .val (.ref d), .val (.int (2 : Int32))] []))
  refine Go.of (fun _ q => XS.iinc X4.here hx rfl (hb hby d17_26) rfl (l' := #[.val (.ref b), .val (.int (3 : Int32)), .val (.int (3 : Int32)), .val (.ref d), .val (.int (3 : Int32))]) rfl q) ?_
  refine Go.of (fun _ q => XS.goto X4.here hx rfl (pc0 := 29) (pc' := 8) rfl (hb hby d17_29) (by decide) (by decide) q) ?_
  refine Go.of (fun _ q => XS.iload X4.here hx rfl (hb hby d17_8) rfl q) ?_
  show Go _ _ _ _ _ _ _ (T4.setTop (mkF m 10 #[.val (.ref b), .val (.int (3 : Int32)), .val (.int (3 : Int32)), .val (.ref d), .val (.int (3 : Int32))] [(.int (3 : Int32))]))
  refine Go.of (fun _ q => XS.iloadN X4.here hx rfl (hb hby d17_10) rfl q) ?_
  refine Go.of (fun _ q => XS.icmpYes X4.here hx rfl (pc0 := 11) (pc' := 32) rfl (hb hby d17_11) rfl (flt (by decide)).2.1 (by decide) (by decide) q) ?_
  refine Go.of (fun _ q => XS.aloadN X4.here hx rfl (hb hby d17_32) rfl rfl q) ?_
  show Go _ _ _ _ _ _ _ (T4.setTop (mkF m 33 #[.val (.ref b), .val (.int (3 : Int32)), .val (.int (3 : Int32)), .val (.ref d), .val (.int (3 : Int32))] [(.ref d)]))
  refine Go.retA X4 hx hlk hret rfl rfl (hb hby d17_33) (by decide) (by decide) ?_
  exact ⟨d, kd0, rfl, N4, Kp, sz_d, (AF.cast A_d (fun i hi => by rcases (show i = 0 ∨ i = 1 ∨ i = 2 ∨ i = 3 ∨ i = 4 ∨ i = 5 by omega) with rfl | rfl | rfl | rfl | rfl | rfl <;> simp [upI, own_u]))⟩
theorem ef_6_3 (m : MethodId) (b : Addr) (d : Addr) : entryFrame m #[(.ref b), (.int (0 : Int32)), (.ref d), (.int (0 : Int32)), (.int (3 : Int32))] 7 = mkF m 0 #[.val (.ref b), .val (.int (0 : Int32)), .val (.ref d), .val (.int (0 : Int32)), .val (.int (3 : Int32)), .unset, .unset] [] := by first | (simp [entryFrame, mkF, argsToLocals, Value.category]; done) | rfl
def Q6_3 (Z : State) (b : Addr) (d : Addr) (kb : ClassId) (gb : Nat → Int32) (kd : ClassId) (gd : Nat → Int32) (h0 : Heap) (n0 : Nat) (v : Option Value) (h : Heap) (L : List Loc) : Prop := ∃ k : Nat, v = some (.int (Int32.ofNat k)) ∧ Fr n0 L ∧ Keep h0 h [d] ∧ (k ≤ 3) ∧ (∀ i, i < k → ¬ (255 : Int32) < gb i) ∧ (k < 3 → (255 : Int32) < gb k) ∧ (k = 3 → AF Z h d kd .byte 3 (fun i => .int ((fun i => own_by (gb i)) i)))
set_option maxRecDepth 65536 in
set_option maxHeartbeats 40000000 in
theorem rm6_3 (l : Launch) (Z : State) (a0 : Array Value) (hw : ∀ d ∈ tables_1, d.before a0 Z = true) (b : Addr) (d : Addr) (kb : ClassId) (gb : Nat → Int32) (kd : ClassId) (gd : Nat → Int32) (h0 : Heap) (n0 : Nat) (Zs : n0 ≤ h0.size) (A_b : AF Z h0 b kb .char 3 (fun i => .int (gb i))) (A_d : AF Z h0 d kd .byte 3 (fun i => .int (gd i))) (ne_b_d : b ≠ d) (g_d : n0 ≤ d) :
    Con l Z (⟨"java/lang/StringUTF16", "compress", "([CI[BII)I"⟩ : MethodName) jdk_52_method_21_code 7 (some .int) ({ frames := 0, cells := 0, slots := 0, locals := 0 } : Room) #[(.ref b), (.int (0 : Int32)), (.ref d), (.int (0 : Int32)), (.int (3 : Int32))] h0 (Q6_3 Z b d kb gb kd gd h0 n0) := by
  refine Con.intro (plainFor_of_name pn3) (fun m => ef_6_3 m b d) ?_
  intro p e s m below meth c s₁ hx hby hml0 hZ hown hnm hret hlk X0 e0
  have hml : c.maxLocals = 7 := hml0
  have N0 := Fr.nil n0
  have Kp : Keep h0 h0 [d] := Keep.refl h0 _
  show Go _ _ _ _ _ _ _ (s₁.setTop (mkF m 0 #[.val (.ref b), .val (.int (0 : Int32)), .val (.ref d), .val (.int (0 : Int32)), .val (.int (3 : Int32)), .unset, .unset] []))
  refine Go.of (fun _ q => XS.iconst X0.here hx rfl (hb hby d6_0) q) ?_
  refine Go.of (fun _ q => XS.istore X0.here hx rfl (hb hby d6_1) rfl (l' := #[.val (.ref b), .val (.int (0 : Int32)), .val (.ref d), .val (.int (0 : Int32)), .val (.int (3 : Int32)), .val (.int (0 : Int32)), .unset]) rfl q) ?_
  refine Go.of (fun _ q => XS.iload X0.here hx rfl (hb hby d6_3) rfl q) ?_
  show Go _ _ _ _ _ _ _ (s₁.setTop (mkF m 5 #[.val (.ref b), .val (.int (0 : Int32)), .val (.ref d), .val (.int (0 : Int32)), .val (.int (3 : Int32)), .val (.int (0 : Int32)), .unset] [(.int (0 : Int32))]))
  refine Go.of (fun _ q => XS.iload X0.here hx rfl (hb hby d6_5) rfl q) ?_
  refine Go.of (fun _ q => XS.icmpNo X0.here hx rfl (hb hby d6_7) rfl (tlt (by decide)).2.1 q) ?_
  refine Go.of (fun _ q => XS.aloadN X0.here hx rfl (hb hby d6_10) rfl rfl q) ?_
  show Go _ _ _ _ _ _ _ (s₁.setTop (mkF m 11 #[.val (.ref b), .val (.int (0 : Int32)), .val (.ref d), .val (.int (0 : Int32)), .val (.int (3 : Int32)), .val (.int (0 : Int32)), .unset] [(.ref b)]))
  refine Go.of (fun _ q => XS.iloadN X0.here hx rfl (hb hby d6_11) rfl q) ?_
  refine Go.of (fun _ q => AF.caload A_b X0 hx hZ e0 ⟨rfl, by decide, by decide⟩ (v := (.int (gb 0))) rfl (g := (mkF m 12 #[.val (.ref b), .val (.int (0 : Int32)), .val (.ref d), .val (.int (0 : Int32)), .val (.int (3 : Int32)), .val (.int (0 : Int32)), .unset] [(.int (0 : Int32)), (.ref b)])) rfl rfl (hb hby d6_12) q) ?_
  refine Go.of (fun _ q => XS.istore X0.here hx rfl (hb hby d6_13) rfl (l' := #[.val (.ref b), .val (.int (0 : Int32)), .val (.ref d), .val (.int (0 : Int32)), .val (.int (3 : Int32)), .val (.int (0 : Int32)), .val (.int (gb 0))]) rfl q) ?_
  show Go _ _ _ _ _ _ _ (s₁.setTop (mkF m 15 #[.val (.ref b), .val (.int (0 : Int32)), .val (.ref d), .val (.int (0 : Int32)), .val (.int (3 : Int32)), .val (.int (0 : Int32)), .val (.int (gb 0))] []))
  refine Go.of (fun _ q => XS.iload X0.here hx rfl (hb hby d6_15) rfl q) ?_
  refine Go.of (fun _ q => XS.sipush X0.here hx rfl (hb hby d6_17) q) ?_
  by_cases c20 : (255 : Int32) < (gb 0)
  · refine Go.of (fun _ q => XS.icmpNo X0.here hx rfl (hb hby d6_20) rfl (tlt c20).2.2.2 q) ?_
    show Go _ _ _ _ _ _ _ (s₁.setTop (mkF m 23 #[.val (.ref b), .val (.int (0 : Int32)), .val (.ref d), .val (.int (0 : Int32)), .val (.int (3 : Int32)), .val (.int (0 : Int32)), .val (.int (gb 0))] []))
    refine Go.of (fun _ q => XS.iload X0.here hx rfl (hb hby d6_23) rfl q) ?_
    refine Go.retI X0 hx hlk hret (hb hby d6_25) (by decide) (by decide) ?_
    rw [e0]
    exact ⟨0, rfl, N0, Kp, (by decide), (fun i hi => absurd hi (Nat.not_lt_zero _)), (fun _ => c20), (fun q => absurd q (by decide))⟩
  · refine Go.of (fun _ q => XS.icmpYes X0.here hx rfl (pc0 := 20) (pc' := 26) rfl (hb hby d6_20) rfl (flt c20).2.2.2 (by decide) (by decide) q) ?_
    refine Go.of (fun _ q => XS.aloadN X0.here hx rfl (hb hby d6_26) rfl rfl q) ?_
    show Go _ _ _ _ _ _ _ (s₁.setTop (mkF m 27 #[.val (.ref b), .val (.int (0 : Int32)), .val (.ref d), .val (.int (0 : Int32)), .val (.int (3 : Int32)), .val (.int (0 : Int32)), .val (.int (gb 0))] [(.ref d)]))
    refine Go.of (fun _ q => XS.iloadN X0.here hx rfl (hb hby d6_27) rfl q) ?_
    refine Go.of (fun _ q => XS.iload X0.here hx rfl (hb hby d6_28) rfl q) ?_
    refine Go.of (fun _ q => XS.i2b X0.here hx rfl (hb hby d6_30) rfl q) ?_
    show Go _ _ _ _ _ _ _ (s₁.setTop (mkF m 31 #[.val (.ref b), .val (.int (0 : Int32)), .val (.ref d), .val (.int (0 : Int32)), .val (.int (3 : Int32)), .val (.int (0 : Int32)), .val (.int (gb 0))] [(.int ((gb 0).toInt8.toInt32)), (.int (0 : Int32)), (.ref d)]))
    obtain ⟨T1, h1, X1, e1, W1, A1', st1⟩ := AF.bastore A_d X0 hx hZ e0 (i := 0) ⟨rfl, by decide, by decide⟩ (g := (mkF m 31 #[.val (.ref b), .val (.int (0 : Int32)), .val (.ref d), .val (.int (0 : Int32)), .val (.int (3 : Int32)), .val (.int (0 : Int32)), .val (.int (gb 0))] [(.int ((gb 0).toInt8.toInt32)), (.int (0 : Int32)), (.ref d)])) rfl rfl (hb hby d6_31)
    refine Go.of st1 ?_
    have Zs := Nat.le_trans Zs (Nat.le_of_eq W1.size.symm)
    have Kp := Kp.wr W1 (Or.inl (List.mem_of_getElem? (i := 0) rfl))
    have A_b := A_b.other W1 ne_b_d
    have A_d : AF Z h1 d kd .byte 3 (fun i => .int ((upI gd 0 (((gb 0).toInt8.toInt32).toInt8.toInt32)) i)) := A1'.toI
    have N1 := Fr.snoc X1 N0 g_d
    refine Go.of (fun _ q => XS.iinc X1.here hx rfl (hb hby d6_32) rfl (l' := #[.val (.ref b), .val (.int (1 : Int32)), .val (.ref d), .val (.int (0 : Int32)), .val (.int (3 : Int32)), .val (.int (0 : Int32)), .val (.int (gb 0))]) rfl q) ?_
    refine Go.of (fun _ q => XS.iinc X1.here hx rfl (hb hby d6_35) rfl (l' := #[.val (.ref b), .val (.int (1 : Int32)), .val (.ref d), .val (.int (1 : Int32)), .val (.int (3 : Int32)), .val (.int (0 : Int32)), .val (.int (gb 0))]) rfl q) ?_
    show Go _ _ _ _ _ _ _ (T1.setTop (mkF m 38 #[.val (.ref b), .val (.int (1 : Int32)), .val (.ref d), .val (.int (1 : Int32)), .val (.int (3 : Int32)), .val (.int (0 : Int32)), .val (.int (gb 0))] []))
    refine Go.of (fun _ q => XS.iinc X1.here hx rfl (hb hby d6_38) rfl (l' := #[.val (.ref b), .val (.int (1 : Int32)), .val (.ref d), .val (.int (1 : Int32)), .val (.int (3 : Int32)), .val (.int (1 : Int32)), .val (.int (gb 0))]) rfl q) ?_
    refine Go.of (fun _ q => XS.goto X1.here hx rfl (pc0 := 41) (pc' := 3) rfl (hb hby d6_41) (by decide) (by decide) q) ?_
    refine Go.of (fun _ q => XS.iload X1.here hx rfl (hb hby d6_3) rfl q) ?_
    show Go _ _ _ _ _ _ _ (T1.setTop (mkF m 5 #[.val (.ref b), .val (.int (1 : Int32)), .val (.ref d), .val (.int (1 : Int32)), .val (.int (3 : Int32)), .val (.int (1 : Int32)), .val (.int (gb 0))] [(.int (1 : Int32))]))
    refine Go.of (fun _ q => XS.iload X1.here hx rfl (hb hby d6_5) rfl q) ?_
    refine Go.of (fun _ q => XS.icmpNo X1.here hx rfl (hb hby d6_7) rfl (tlt (by decide)).2.1 q) ?_
    refine Go.of (fun _ q => XS.aloadN X1.here hx rfl (hb hby d6_10) rfl rfl q) ?_
    show Go _ _ _ _ _ _ _ (T1.setTop (mkF m 11 #[.val (.ref b), .val (.int (1 : Int32)), .val (.ref d), .val (.int (1 : Int32)), .val (.int (3 : Int32)), .val (.int (1 : Int32)), .val (.int (gb 0))] [(.ref b)]))
    refine Go.of (fun _ q => XS.iloadN X1.here hx rfl (hb hby d6_11) rfl q) ?_
    refine Go.of (fun _ q => AF.caload A_b X1 hx hZ e1 ⟨rfl, by decide, by decide⟩ (v := (.int (gb 1))) rfl (g := (mkF m 12 #[.val (.ref b), .val (.int (1 : Int32)), .val (.ref d), .val (.int (1 : Int32)), .val (.int (3 : Int32)), .val (.int (1 : Int32)), .val (.int (gb 0))] [(.int (1 : Int32)), (.ref b)])) rfl rfl (hb hby d6_12) q) ?_
    refine Go.of (fun _ q => XS.istore X1.here hx rfl (hb hby d6_13) rfl (l' := #[.val (.ref b), .val (.int (1 : Int32)), .val (.ref d), .val (.int (1 : Int32)), .val (.int (3 : Int32)), .val (.int (1 : Int32)), .val (.int (gb 1))]) rfl q) ?_
    show Go _ _ _ _ _ _ _ (T1.setTop (mkF m 15 #[.val (.ref b), .val (.int (1 : Int32)), .val (.ref d), .val (.int (1 : Int32)), .val (.int (3 : Int32)), .val (.int (1 : Int32)), .val (.int (gb 1))] []))
    refine Go.of (fun _ q => XS.iload X1.here hx rfl (hb hby d6_15) rfl q) ?_
    refine Go.of (fun _ q => XS.sipush X1.here hx rfl (hb hby d6_17) q) ?_
    by_cases c20_1 : (255 : Int32) < (gb 1)
    · refine Go.of (fun _ q => XS.icmpNo X1.here hx rfl (hb hby d6_20) rfl (tlt c20_1).2.2.2 q) ?_
      show Go _ _ _ _ _ _ _ (T1.setTop (mkF m 23 #[.val (.ref b), .val (.int (1 : Int32)), .val (.ref d), .val (.int (1 : Int32)), .val (.int (3 : Int32)), .val (.int (1 : Int32)), .val (.int (gb 1))] []))
      refine Go.of (fun _ q => XS.iload X1.here hx rfl (hb hby d6_23) rfl q) ?_
      refine Go.retI X1 hx hlk hret (hb hby d6_25) (by decide) (by decide) ?_
      rw [e1]
      exact ⟨1, rfl, N1, Kp, (by decide), (fun i hi => by rcases (show i = 0 by omega) with rfl <;> assumption), (fun _ => c20_1), (fun q => absurd q (by decide))⟩
    · refine Go.of (fun _ q => XS.icmpYes X1.here hx rfl (pc0 := 20) (pc' := 26) rfl (hb hby d6_20) rfl (flt c20_1).2.2.2 (by decide) (by decide) q) ?_
      refine Go.of (fun _ q => XS.aloadN X1.here hx rfl (hb hby d6_26) rfl rfl q) ?_
      show Go _ _ _ _ _ _ _ (T1.setTop (mkF m 27 #[.val (.ref b), .val (.int (1 : Int32)), .val (.ref d), .val (.int (1 : Int32)), .val (.int (3 : Int32)), .val (.int (1 : Int32)), .val (.int (gb 1))] [(.ref d)]))
      refine Go.of (fun _ q => XS.iloadN X1.here hx rfl (hb hby d6_27) rfl q) ?_
      refine Go.of (fun _ q => XS.iload X1.here hx rfl (hb hby d6_28) rfl q) ?_
      refine Go.of (fun _ q => XS.i2b X1.here hx rfl (hb hby d6_30) rfl q) ?_
      show Go _ _ _ _ _ _ _ (T1.setTop (mkF m 31 #[.val (.ref b), .val (.int (1 : Int32)), .val (.ref d), .val (.int (1 : Int32)), .val (.int (3 : Int32)), .val (.int (1 : Int32)), .val (.int (gb 1))] [(.int ((gb 1).toInt8.toInt32)), (.int (1 : Int32)), (.ref d)]))
      obtain ⟨T2, h2, X2, e2, W2, A2', st2⟩ := AF.bastore A_d X1 hx hZ e1 (i := 1) ⟨rfl, by decide, by decide⟩ (g := (mkF m 31 #[.val (.ref b), .val (.int (1 : Int32)), .val (.ref d), .val (.int (1 : Int32)), .val (.int (3 : Int32)), .val (.int (1 : Int32)), .val (.int (gb 1))] [(.int ((gb 1).toInt8.toInt32)), (.int (1 : Int32)), (.ref d)])) rfl rfl (hb hby d6_31)
      refine Go.of st2 ?_
      have Zs := Nat.le_trans Zs (Nat.le_of_eq W2.size.symm)
      have Kp := Kp.wr W2 (Or.inl (List.mem_of_getElem? (i := 0) rfl))
      have A_b := A_b.other W2 ne_b_d
      have A_d : AF Z h2 d kd .byte 3 (fun i => .int ((upI (upI gd 0 (((gb 0).toInt8.toInt32).toInt8.toInt32)) 1 (((gb 1).toInt8.toInt32).toInt8.toInt32)) i)) := A2'.toI
      have N2 := Fr.snoc X2 N1 g_d
      refine Go.of (fun _ q => XS.iinc X2.here hx rfl (hb hby d6_32) rfl (l' := #[.val (.ref b), .val (.int (2 : Int32)), .val (.ref d), .val (.int (1 : Int32)), .val (.int (3 : Int32)), .val (.int (1 : Int32)), .val (.int (gb 1))]) rfl q) ?_
      refine Go.of (fun _ q => XS.iinc X2.here hx rfl (hb hby d6_35) rfl (l' := #[.val (.ref b), .val (.int (2 : Int32)), .val (.ref d), .val (.int (2 : Int32)), .val (.int (3 : Int32)), .val (.int (1 : Int32)), .val (.int (gb 1))]) rfl q) ?_
      show Go _ _ _ _ _ _ _ (T2.setTop (mkF m 38 #[.val (.ref b), .val (.int (2 : Int32)), .val (.ref d), .val (.int (2 : Int32)), .val (.int (3 : Int32)), .val (.int (1 : Int32)), .val (.int (gb 1))] []))
      refine Go.of (fun _ q => XS.iinc X2.here hx rfl (hb hby d6_38) rfl (l' := #[.val (.ref b), .val (.int (2 : Int32)), .val (.ref d), .val (.int (2 : Int32)), .val (.int (3 : Int32)), .val (.int (2 : Int32)), .val (.int (gb 1))]) rfl q) ?_
      refine Go.of (fun _ q => XS.goto X2.here hx rfl (pc0 := 41) (pc' := 3) rfl (hb hby d6_41) (by decide) (by decide) q) ?_
      refine Go.of (fun _ q => XS.iload X2.here hx rfl (hb hby d6_3) rfl q) ?_
      show Go _ _ _ _ _ _ _ (T2.setTop (mkF m 5 #[.val (.ref b), .val (.int (2 : Int32)), .val (.ref d), .val (.int (2 : Int32)), .val (.int (3 : Int32)), .val (.int (2 : Int32)), .val (.int (gb 1))] [(.int (2 : Int32))]))
      refine Go.of (fun _ q => XS.iload X2.here hx rfl (hb hby d6_5) rfl q) ?_
      refine Go.of (fun _ q => XS.icmpNo X2.here hx rfl (hb hby d6_7) rfl (tlt (by decide)).2.1 q) ?_
      refine Go.of (fun _ q => XS.aloadN X2.here hx rfl (hb hby d6_10) rfl rfl q) ?_
      show Go _ _ _ _ _ _ _ (T2.setTop (mkF m 11 #[.val (.ref b), .val (.int (2 : Int32)), .val (.ref d), .val (.int (2 : Int32)), .val (.int (3 : Int32)), .val (.int (2 : Int32)), .val (.int (gb 1))] [(.ref b)]))
      refine Go.of (fun _ q => XS.iloadN X2.here hx rfl (hb hby d6_11) rfl q) ?_
      refine Go.of (fun _ q => AF.caload A_b X2 hx hZ e2 ⟨rfl, by decide, by decide⟩ (v := (.int (gb 2))) rfl (g := (mkF m 12 #[.val (.ref b), .val (.int (2 : Int32)), .val (.ref d), .val (.int (2 : Int32)), .val (.int (3 : Int32)), .val (.int (2 : Int32)), .val (.int (gb 1))] [(.int (2 : Int32)), (.ref b)])) rfl rfl (hb hby d6_12) q) ?_
      refine Go.of (fun _ q => XS.istore X2.here hx rfl (hb hby d6_13) rfl (l' := #[.val (.ref b), .val (.int (2 : Int32)), .val (.ref d), .val (.int (2 : Int32)), .val (.int (3 : Int32)), .val (.int (2 : Int32)), .val (.int (gb 2))]) rfl q) ?_
      show Go _ _ _ _ _ _ _ (T2.setTop (mkF m 15 #[.val (.ref b), .val (.int (2 : Int32)), .val (.ref d), .val (.int (2 : Int32)), .val (.int (3 : Int32)), .val (.int (2 : Int32)), .val (.int (gb 2))] []))
      refine Go.of (fun _ q => XS.iload X2.here hx rfl (hb hby d6_15) rfl q) ?_
      refine Go.of (fun _ q => XS.sipush X2.here hx rfl (hb hby d6_17) q) ?_
      by_cases c20_2 : (255 : Int32) < (gb 2)
      · refine Go.of (fun _ q => XS.icmpNo X2.here hx rfl (hb hby d6_20) rfl (tlt c20_2).2.2.2 q) ?_
        show Go _ _ _ _ _ _ _ (T2.setTop (mkF m 23 #[.val (.ref b), .val (.int (2 : Int32)), .val (.ref d), .val (.int (2 : Int32)), .val (.int (3 : Int32)), .val (.int (2 : Int32)), .val (.int (gb 2))] []))
        refine Go.of (fun _ q => XS.iload X2.here hx rfl (hb hby d6_23) rfl q) ?_
        refine Go.retI X2 hx hlk hret (hb hby d6_25) (by decide) (by decide) ?_
        rw [e2]
        exact ⟨2, rfl, N2, Kp, (by decide), (fun i hi => by rcases (show i = 0 ∨ i = 1 by omega) with rfl | rfl <;> assumption), (fun _ => c20_2), (fun q => absurd q (by decide))⟩
      · refine Go.of (fun _ q => XS.icmpYes X2.here hx rfl (pc0 := 20) (pc' := 26) rfl (hb hby d6_20) rfl (flt c20_2).2.2.2 (by decide) (by decide) q) ?_
        refine Go.of (fun _ q => XS.aloadN X2.here hx rfl (hb hby d6_26) rfl rfl q) ?_
        show Go _ _ _ _ _ _ _ (T2.setTop (mkF m 27 #[.val (.ref b), .val (.int (2 : Int32)), .val (.ref d), .val (.int (2 : Int32)), .val (.int (3 : Int32)), .val (.int (2 : Int32)), .val (.int (gb 2))] [(.ref d)]))
        refine Go.of (fun _ q => XS.iloadN X2.here hx rfl (hb hby d6_27) rfl q) ?_
        refine Go.of (fun _ q => XS.iload X2.here hx rfl (hb hby d6_28) rfl q) ?_
        refine Go.of (fun _ q => XS.i2b X2.here hx rfl (hb hby d6_30) rfl q) ?_
        show Go _ _ _ _ _ _ _ (T2.setTop (mkF m 31 #[.val (.ref b), .val (.int (2 : Int32)), .val (.ref d), .val (.int (2 : Int32)), .val (.int (3 : Int32)), .val (.int (2 : Int32)), .val (.int (gb 2))] [(.int ((gb 2).toInt8.toInt32)), (.int (2 : Int32)), (.ref d)]))
        obtain ⟨T3, h3, X3, e3, W3, A3', st3⟩ := AF.bastore A_d X2 hx hZ e2 (i := 2) ⟨rfl, by decide, by decide⟩ (g := (mkF m 31 #[.val (.ref b), .val (.int (2 : Int32)), .val (.ref d), .val (.int (2 : Int32)), .val (.int (3 : Int32)), .val (.int (2 : Int32)), .val (.int (gb 2))] [(.int ((gb 2).toInt8.toInt32)), (.int (2 : Int32)), (.ref d)])) rfl rfl (hb hby d6_31)
        refine Go.of st3 ?_
        have Zs := Nat.le_trans Zs (Nat.le_of_eq W3.size.symm)
        have Kp := Kp.wr W3 (Or.inl (List.mem_of_getElem? (i := 0) rfl))
        have A_b := A_b.other W3 ne_b_d
        have A_d : AF Z h3 d kd .byte 3 (fun i => .int ((upI (upI (upI gd 0 (((gb 0).toInt8.toInt32).toInt8.toInt32)) 1 (((gb 1).toInt8.toInt32).toInt8.toInt32)) 2 (((gb 2).toInt8.toInt32).toInt8.toInt32)) i)) := A3'.toI
        have N3 := Fr.snoc X3 N2 g_d
        refine Go.of (fun _ q => XS.iinc X3.here hx rfl (hb hby d6_32) rfl (l' := #[.val (.ref b), .val (.int (3 : Int32)), .val (.ref d), .val (.int (2 : Int32)), .val (.int (3 : Int32)), .val (.int (2 : Int32)), .val (.int (gb 2))]) rfl q) ?_
        refine Go.of (fun _ q => XS.iinc X3.here hx rfl (hb hby d6_35) rfl (l' := #[.val (.ref b), .val (.int (3 : Int32)), .val (.ref d), .val (.int (3 : Int32)), .val (.int (3 : Int32)), .val (.int (2 : Int32)), .val (.int (gb 2))]) rfl q) ?_
        show Go _ _ _ _ _ _ _ (T3.setTop (mkF m 38 #[.val (.ref b), .val (.int (3 : Int32)), .val (.ref d), .val (.int (3 : Int32)), .val (.int (3 : Int32)), .val (.int (2 : Int32)), .val (.int (gb 2))] []))
        refine Go.of (fun _ q => XS.iinc X3.here hx rfl (hb hby d6_38) rfl (l' := #[.val (.ref b), .val (.int (3 : Int32)), .val (.ref d), .val (.int (3 : Int32)), .val (.int (3 : Int32)), .val (.int (3 : Int32)), .val (.int (gb 2))]) rfl q) ?_
        refine Go.of (fun _ q => XS.goto X3.here hx rfl (pc0 := 41) (pc' := 3) rfl (hb hby d6_41) (by decide) (by decide) q) ?_
        refine Go.of (fun _ q => XS.iload X3.here hx rfl (hb hby d6_3) rfl q) ?_
        show Go _ _ _ _ _ _ _ (T3.setTop (mkF m 5 #[.val (.ref b), .val (.int (3 : Int32)), .val (.ref d), .val (.int (3 : Int32)), .val (.int (3 : Int32)), .val (.int (3 : Int32)), .val (.int (gb 2))] [(.int (3 : Int32))]))
        refine Go.of (fun _ q => XS.iload X3.here hx rfl (hb hby d6_5) rfl q) ?_
        refine Go.of (fun _ q => XS.icmpYes X3.here hx rfl (pc0 := 7) (pc' := 44) rfl (hb hby d6_7) rfl (flt (by decide)).2.1 (by decide) (by decide) q) ?_
        refine Go.of (fun _ q => XS.iload X3.here hx rfl (hb hby d6_44) rfl q) ?_
        show Go _ _ _ _ _ _ _ (T3.setTop (mkF m 46 #[.val (.ref b), .val (.int (3 : Int32)), .val (.ref d), .val (.int (3 : Int32)), .val (.int (3 : Int32)), .val (.int (3 : Int32)), .val (.int (gb 2))] [(.int (3 : Int32))]))
        refine Go.retI X3 hx hlk hret (hb hby d6_46) (by decide) (by decide) ?_
        rw [e3]
        exact ⟨3, rfl, N3, Kp, (by decide), (fun i hi => by rcases (show i = 0 ∨ i = 1 ∨ i = 2 by omega) with rfl | rfl | rfl <;> assumption), (fun q => absurd q (by decide)), (fun _ => AF.cast A_d (fun i hi => by rcases (show i = 0 ∨ i = 1 ∨ i = 2 by omega) with rfl | rfl | rfl <;> simp [upI, own_by]))⟩
theorem ef_5_3 (m : MethodId) (b : Addr) : entryFrame m #[(.ref b), (.int (0 : Int32)), (.int (3 : Int32))] 6 = mkF m 0 #[.val (.ref b), .val (.int (0 : Int32)), .val (.int (3 : Int32)), .unset, .unset, .unset] [] := by first | (simp [entryFrame, mkF, argsToLocals, Value.category]; done) | rfl
def Q5_3 (Z : State) (b : Addr) (kb : ClassId) (gb : Nat → Int32) (h0 : Heap) (n0 : Nat) (v : Option Value) (h : Heap) (L : List Loc) : Prop := ∃ d : Addr, v = some (.ref d) ∧ Fr n0 L ∧ Keep h0 h [] ∧ h0.size ≤ d ∧ (own_B Z h d 3 gb)
set_option maxRecDepth 65536 in
set_option maxHeartbeats 40000000 in
theorem rm5_3 (l : Launch) (Z : State) (a0 : Array Value) (hw : ∀ d ∈ tables_1, d.before a0 Z = true) (b : Addr) (kb : ClassId) (gb : Nat → Int32) (h0 : Heap) (n0 : Nat) (Zs : n0 ≤ h0.size) (Od : Old Z n0 h0) (A_b : AF Z h0 b kb .char 3 (fun i => .int (gb i))) (hcc : ∀ i, i < 3 → own_cc (gb i) = gb i) (Sad : Sta Z Z.heap "java/lang/StringUTF16" "$assertionsDisabled" "Z" (.int (1 : Int32))) (Shi : Sta Z Z.heap "java/lang/StringUTF16" "HI_BYTE_SHIFT" "I" (.int (0 : Int32))) (Slo : Sta Z Z.heap "java/lang/StringUTF16" "LO_BYTE_SHIFT" "I" (.int (8 : Int32))) :
    Con l Z (⟨"java/lang/StringUTF16", "compress", "([CII)[B"⟩ : MethodName) jdk_52_method_16_code 6 (some (.array .byte)) ({ frames := 3, cells := 2, slots := 9, locals := 40 } : Room) #[(.ref b), (.int (0 : Int32)), (.int (3 : Int32))] h0 (Q5_3 Z b kb gb h0 n0) := by
  refine Con.intro (plainFor_of_name pn3) (fun m => ef_5_3 m b) ?_
  intro p e s m below meth c s₁ hx hby hml0 hZ hown hnm hret hlk X0 e0
  have hml : c.maxLocals = 6 := hml0
  have N0 := Fr.nil n0
  have Kp : Keep h0 h0 [] := Keep.refl h0 _
  show Go _ _ _ _ _ _ _ (s₁.setTop (mkF m 0 #[.val (.ref b), .val (.int (0 : Int32)), .val (.int (3 : Int32)), .unset, .unset, .unset] []))
  refine Go.of (fun _ q => XS.iloadN X0.here hx rfl (hb hby d5_0) rfl q) ?_
  obtain ⟨T1, h1, k1, X1, e1, E1, A1, B1, st1⟩ := newPE X0 hx hZ (hw _ (List.mem_of_getElem? (i := 20) rfl)) e0 (g := (mkF m 1 #[.val (.ref b), .val (.int (0 : Int32)), .val (.int (3 : Int32)), .unset, .unset, .unset] [(.int (3 : Int32))])) rfl (hb hby d5_1) rfl (by decide) (cap := 3) (by decide) (by decide) (by decide) (by decide) (ad := "[B") (by decide)
  obtain ⟨d0, g1⟩ : ∃ z, z = h0.size := ⟨_, rfl⟩
  rw [← g1] at A1 B1 st1
  refine Go.of st1 ?_
  have g_d0 : n0 ≤ d0 := Nat.le_trans Zs (Nat.le_of_eq g1.symm)
  have sz_d0 : h0.size ≤ d0 := Nat.le_trans Kp.1 (Nat.le_of_eq g1.symm)
  have ne_b_d0 : b ≠ d0 := Nat.ne_of_lt (Nat.lt_of_lt_of_le A_b.lt (Nat.le_of_eq g1.symm))
  have Zs := Nat.le_trans Zs E1.1
  have Kp := Kp.ext E1
  have Od := Od.ext E1
  have A_b := A_b.ext E1
  have E_d0 := B1
  have A_d0 : AF Z h1 d0 k1 .byte 3 (fun i => .int ((fun _ => (0 : Int32)) i)) := AF.new A1 (by decide) rfl rfl
  refine Go.of (fun _ q => XS.astoreN X1.here hx rfl (hb hby d5_3) rfl rfl (l' := #[.val (.ref b), .val (.int (0 : Int32)), .val (.int (3 : Int32)), .val (.ref d0), .unset, .unset]) rfl q) ?_
  show Go _ _ _ _ _ _ _ (T1.setTop (mkF m 4 #[.val (.ref b), .val (.int (0 : Int32)), .val (.int (3 : Int32)), .val (.ref d0), .unset, .unset] []))
  refine Go.of (fun _ q => XS.aloadN X1.here hx rfl (hb hby d5_4) rfl rfl q) ?_
  refine Go.of (fun _ q => XS.iloadN X1.here hx rfl (hb hby d5_5) rfl q) ?_
  refine Go.of (fun _ q => XS.aloadN X1.here hx rfl (hb hby d5_6) rfl rfl q) ?_
  show Go _ _ _ _ _ _ _ (T1.setTop (mkF m 7 #[.val (.ref b), .val (.int (0 : Int32)), .val (.int (3 : Int32)), .val (.ref d0), .unset, .unset] [(.ref d0), (.int (0 : Int32)), (.ref b)]))
  refine Go.of (fun _ q => XS.iconst X1.here hx rfl (hb hby d5_7) q) ?_
  refine Go.of (fun _ q => XS.iloadN X1.here hx rfl (hb hby d5_8) rfl q) ?_
  refine Go.static X1 hx hZ (y := (⟨"java/lang/StringUTF16", "compress", "([CI[BII)I"⟩ : MethodName)) (argsL := [(.ref b), (.int (0 : Int32)), (.ref d0), (.int (0 : Int32)), (.int (3 : Int32))]) hown (hw _ (List.mem_of_getElem? (i := 32) rfl)) (hw _ (List.mem_of_getElem? (i := 33) rfl)) (hw _ (List.mem_of_getElem? (i := 30) rfl)) (hw _ (List.mem_of_getElem? (i := 34) rfl)) (by decide) 0 e1 (rm6_3 l Z a0 hw b d0 kb gb k1 (fun _ => (0 : Int32)) h1 n0 Zs A_b A_d0 ne_b_d0 g_d0) (by decide) (by decide) (by decide) (by decide) (g := (mkF m 9 #[.val (.ref b), .val (.int (0 : Int32)), .val (.int (3 : Int32)), .val (.ref d0), .unset, .unset] [(.int (3 : Int32)), (.int (0 : Int32)), (.ref d0), (.int (0 : Int32)), (.ref b)])) rfl (by rw [hml]; rfl) (rest := []) (lenOf pd12 rfl) rfl (by show 2 * 0 + _ ≤ _; exact Nat.le_of_eq rfl) (hb hby d5_9) ?_
  intro T2 v2 L2 X2 q2
  obtain ⟨k, rfl, Nq2, K2, f2_0, f2_1, f2_2, f2_3⟩ := q2
  have N2 := Fr.app N0 Nq2
  have Zs := Nat.le_trans Zs K2.1
  have Kp := Kp.trans K2 (allS (P := fun x => x ∈ [] ∨ h0.size ≤ x) (Or.inr sz_d0) all0)
  have Od := Od.keep K2 (allS (P := fun x => n0 ≤ x) g_d0 all0)
  have A_b := A_b.keep K2 (ninS ne_b_d0 nin0)
  have E_d0 := E_d0.keep K2
  have hkn_2 := f2_0
  have hl_2 := f2_1
  have hy_2 := f2_2
  have hA_2 := f2_3
  show Go _ _ _ _ _ _ _ (T2.setTop (mkF m 12 #[.val (.ref b), .val (.int (0 : Int32)), .val (.int (3 : Int32)), .val (.ref d0), .unset, .unset] [(.int (Int32.ofNat k))]))
  refine Go.of (fun _ q => XS.istore X2.here hx rfl (hb hby d5_12) rfl (l' := #[.val (.ref b), .val (.int (0 : Int32)), .val (.int (3 : Int32)), .val (.ref d0), .val (.int (Int32.ofNat k)), .unset]) rfl q) ?_
  refine Go.of (fun _ q => XS.iload X2.here hx rfl (hb hby d5_14) rfl q) ?_
  refine Go.of (fun _ q => XS.iloadN X2.here hx rfl (hb hby d5_16) rfl q) ?_
  show Go _ _ _ _ _ _ _ (T2.setTop (mkF m 17 #[.val (.ref b), .val (.int (0 : Int32)), .val (.int (3 : Int32)), .val (.ref d0), .val (.int (Int32.ofNat k)), .unset] [(.int (3 : Int32)), (.int (Int32.ofNat k))]))
  by_cases c17 : (Int32.ofNat k) = (3 : Int32)
  · refine Go.of (fun _ q => XS.icmpYes X2.here hx rfl (pc0 := 17) (pc' := 57) rfl (hb hby d5_17) rfl (teq c17).1 (by decide) (by decide) q) ?_
    refine Go.of (fun _ q => XS.aloadN X2.here hx rfl (hb hby d5_57) rfl rfl q) ?_
    refine Go.retA X2 hx hlk hret rfl rfl (hb hby d5_58) (by decide) (by decide) ?_
    exact ⟨d0, rfl, N2, Kp, sz_d0, (show own_B Z _ d0 3 gb from ⟨_, Or.inl ⟨hA_2 ((own_kn (by decide) hkn_2).mp c17), (own_kn (by decide) hkn_2).mp c17 ▸ hl_2⟩⟩)⟩
  · refine Go.of (fun _ q => XS.icmpNo X2.here hx rfl (hb hby d5_17) rfl (feq c17).1 q) ?_
    show Go _ _ _ _ _ _ _ (T2.setTop (mkF m 20 #[.val (.ref b), .val (.int (0 : Int32)), .val (.int (3 : Int32)), .val (.ref d0), .val (.int (Int32.ofNat k)), .unset] []))
    refine Go.of (fun _ q => XS.aloadN X2.here hx rfl (hb hby d5_20) rfl rfl q) ?_
    refine Go.of (fun _ q => XS.iloadN X2.here hx rfl (hb hby d5_21) rfl q) ?_
    refine Go.of (fun _ q => XS.iloadN X2.here hx rfl (hb hby d5_22) rfl q) ?_
    show Go _ _ _ _ _ _ _ (T2.setTop (mkF m 23 #[.val (.ref b), .val (.int (0 : Int32)), .val (.int (3 : Int32)), .val (.ref d0), .val (.int (Int32.ofNat k)), .unset] [(.int (3 : Int32)), (.int (0 : Int32)), (.ref b)]))
    refine Go.static X2 hx hZ (y := (⟨"java/lang/StringUTF16", "toBytes", "([CII)[B"⟩ : MethodName)) (argsL := [(.ref b), (.int (0 : Int32)), (.int (3 : Int32))]) hown (hw _ (List.mem_of_getElem? (i := 81) rfl)) (hw _ (List.mem_of_getElem? (i := 82) rfl)) (hw _ (List.mem_of_getElem? (i := 30) rfl)) (hw _ (List.mem_of_getElem? (i := 83) rfl)) (by decide) 0 rfl (rm17_3 l Z a0 hw b kb gb T2.heap n0 Zs Od A_b Sad Shi Slo) (by decide) (by decide) (by decide) (by decide) (g := (mkF m 23 #[.val (.ref b), .val (.int (0 : Int32)), .val (.int (3 : Int32)), .val (.ref d0), .val (.int (Int32.ofNat k)), .unset] [(.int (3 : Int32)), (.int (0 : Int32)), (.ref b)])) rfl (by rw [hml]; rfl) (rest := []) (lenOf pd13 rfl) rfl (by show 2 * 0 + _ ≤ _; exact Nat.le_of_eq rfl) (hb hby d5_23) ?_
    intro T3 v3 L3 X3 q3
    obtain ⟨d1, kd1, rfl, Nq3, K3, f3_0, f3_1⟩ := q3
    have N3 := Fr.app N2 Nq3
    have g_d1 : n0 ≤ d1 := Nat.le_trans Zs f3_0
    have sz_d1 : h0.size ≤ d1 := Nat.le_trans Kp.1 f3_0
    have ne_b_d1 : b ≠ d1 := Nat.ne_of_lt (Nat.lt_of_lt_of_le A_b.lt f3_0)
    have ne_d0_d1 : d0 ≠ d1 := Nat.ne_of_lt (Nat.lt_of_lt_of_le E_d0.lt f3_0)
    have Zs := Nat.le_trans Zs K3.1
    have Kp := Kp.trans K3 all0
    have Od := Od.keep K3 all0
    have A_b := A_b.keep K3 nin0
    have E_d0 := E_d0.keep K3
    have A_d1 := f3_1
    refine Go.of (fun _ q => XS.astore X3.here hx rfl (hb hby d5_26) rfl rfl (l' := #[.val (.ref b), .val (.int (0 : Int32)), .val (.int (3 : Int32)), .val (.ref d0), .val (.int (Int32.ofNat k)), .val (.ref d1)]) rfl q) ?_
    refine Go.of (fun _ q => XS.aload X3.here hx rfl (hb hby d5_28) rfl rfl q) ?_
    show Go _ _ _ _ _ _ _ (T3.setTop (mkF m 30 #[.val (.ref b), .val (.int (0 : Int32)), .val (.int (3 : Int32)), .val (.ref d0), .val (.int (Int32.ofNat k)), .val (.ref d1)] [(.ref d1)]))
    refine Go.of (fun _ q => XS.iload X3.here hx rfl (hb hby d5_30) rfl q) ?_
    refine Go.static X3 hx hZ (y := (⟨"java/lang/StringUTF16", "getChar", "([BI)C"⟩ : MethodName)) (argsL := [(.ref d1), (.int (Int32.ofNat k))]) hown (hw _ (List.mem_of_getElem? (i := 97) rfl)) (hw _ (List.mem_of_getElem? (i := 98) rfl)) (hw _ (List.mem_of_getElem? (i := 30) rfl)) (hw _ (List.mem_of_getElem? (i := 99) rfl)) (by decide) 0 rfl (rm21 l Z a0 hw d1 (Int32.ofNat k) kd1 (own_u gb) 6 k T3.heap n0 Zs Od A_d1 rfl (own_kk (own_lt (n := 3) (by decide) hkn_2 c17)) (by decide) Sad Shi Slo) (by decide) (by decide) (by decide) (by decide) (g := (mkF m 32 #[.val (.ref b), .val (.int (0 : Int32)), .val (.int (3 : Int32)), .val (.ref d0), .val (.int (Int32.ofNat k)), .val (.ref d1)] [(.int (Int32.ofNat k)), (.ref d1)])) rfl (by rw [hml]; rfl) (rest := []) (lenOf pd4 rfl) rfl (by show 2 * 0 + _ ≤ _; exact Nat.le_of_eq rfl) (hb hby d5_32) ?_
    intro T4 v4 L4 X4 q4
    obtain ⟨rfl, Nq4, e4⟩ := q4
    have N4 := Fr.app N3 Nq4
    refine Go.of (fun _ q => XS.sipush X4.here hx rfl (hb hby d5_35) q) ?_
    show Go _ _ _ _ _ _ _ (T4.setTop (mkF m 38 #[.val (.ref b), .val (.int (0 : Int32)), .val (.int (3 : Int32)), .val (.ref d0), .val (.int (Int32.ofNat k)), .val (.ref d1)] [(.int (255 : Int32)), (.int (own_gc ((own_u gb) (2 * k)) ((own_u gb) (2 * k + 1))))]))
    refine Go.of (fun _ q => XS.icmpYes X4.here hx rfl (pc0 := 38) (pc' := 54) rfl (hb hby d5_38) rfl (tlt (own_gt2 (hcc k (own_lt (n := 3) (by decide) hkn_2 c17)) (hy_2 (own_lt (n := 3) (by decide) hkn_2 c17)))).2.2.1 (by decide) (by decide) q) ?_
    refine Go.of (fun _ q => XS.aload X4.here hx rfl (hb hby d5_54) rfl rfl q) ?_
    refine Go.retA X4 hx hlk hret rfl rfl (hb hby d5_56) (by decide) (by decide) ?_
    rw [e4]
    exact ⟨d1, rfl, N4, Kp, sz_d1, ⟨_, Or.inr A_d1⟩⟩
theorem ef_7_3L (m : MethodId) (d : Addr) : entryFrame m #[(.ref d), (.int (3 : Int32))] 2 = mkF m 0 #[.val (.ref d), .val (.int (3 : Int32))] [] := by first | (simp [entryFrame, mkF, argsToLocals, Value.category]; done) | rfl
def Q7_3L (Z : State) (d : Addr) (kd : ClassId) (gd : Nat → Int32) (h0 : Heap) (n0 : Nat) (v : Option Value) (h : Heap) (L : List Loc) : Prop := v = some (.int (0 : Int32)) ∧ Fr n0 L ∧ h = h0
set_option maxRecDepth 65536 in
set_option maxHeartbeats 40000000 in
theorem rm7_3L (l : Launch) (Z : State) (a0 : Array Value) (hw : ∀ d ∈ tables_1, d.before a0 Z = true) (d : Addr) (kd : ClassId) (gd : Nat → Int32) (h0 : Heap) (n0 : Nat) (Zs : n0 ≤ h0.size) (A_d : AF Z h0 d kd .byte 3 (fun i => .int (gd i))) :
    Con l Z (⟨"java/lang/StringUTF16", "coderFromArrayLen", "([BI)B"⟩ : MethodName) jdk_52_method_15_code 2 (some .byte) ({ frames := 0, cells := 0, slots := 0, locals := 0 } : Room) #[(.ref d), (.int (3 : Int32))] h0 (Q7_3L Z d kd gd h0 n0) := by
  refine Con.intro (plainFor_of_name pn3) (fun m => ef_7_3L m d) ?_
  intro p e s m below meth c s₁ hx hby hml0 hZ hown hnm hret hlk X0 e0
  have hml : c.maxLocals = 2 := hml0
  have N0 := Fr.nil n0
  have Kp : Keep h0 h0 [] := Keep.refl h0 _
  show Go _ _ _ _ _ _ _ (s₁.setTop (mkF m 0 #[.val (.ref d), .val (.int (3 : Int32))] []))
  refine Go.of (fun _ q => XS.iloadN X0.here hx rfl (hb hby d7_0) rfl q) ?_
  refine Go.of (fun _ q => XS.aloadN X0.here hx rfl (hb hby d7_1) rfl rfl q) ?_
  refine Go.of (fun _ q => AF.length A_d X0 hx hZ e0 rfl (g := (mkF m 2 #[.val (.ref d), .val (.int (3 : Int32))] [(.ref d), (.int (3 : Int32))])) rfl rfl (hb hby d7_2) q) ?_
  show Go _ _ _ _ _ _ _ (s₁.setTop (mkF m 3 #[.val (.ref d), .val (.int (3 : Int32))] [(.int (3 : Int32)), (.int (3 : Int32))]))
  refine Go.of (fun _ q => XS.isub X0.here hx rfl (hb hby d7_3) rfl q) ?_
  refine Go.of (fun _ q => XS.bipush X0.here hx rfl (hb hby d7_4) q) ?_
  refine Go.of (fun _ q => XS.iushr X0.here hx rfl (hb hby d7_6) rfl q) ?_
  show Go _ _ _ _ _ _ _ (s₁.setTop (mkF m 7 #[.val (.ref d), .val (.int (3 : Int32))] [(.int (0 : Int32))]))
  refine Go.of (fun _ q => XS.i2b X0.here hx rfl (hb hby d7_7) rfl q) ?_
  refine Go.retN X0 hx hlk (t := .byte) hret (by simp) (hb hby d7_8) rfl (by decide) (by decide) ?_
  rw [e0]
  exact ⟨rfl, N0, rfl⟩
theorem ef_7_3U (m : MethodId) (d : Addr) : entryFrame m #[(.ref d), (.int (3 : Int32))] 2 = mkF m 0 #[.val (.ref d), .val (.int (3 : Int32))] [] := by first | (simp [entryFrame, mkF, argsToLocals, Value.category]; done) | rfl
def Q7_3U (Z : State) (d : Addr) (kd : ClassId) (gd : Nat → Int32) (h0 : Heap) (n0 : Nat) (v : Option Value) (h : Heap) (L : List Loc) : Prop := v = some (.int (1 : Int32)) ∧ Fr n0 L ∧ h = h0
set_option maxRecDepth 65536 in
set_option maxHeartbeats 40000000 in
theorem rm7_3U (l : Launch) (Z : State) (a0 : Array Value) (hw : ∀ d ∈ tables_1, d.before a0 Z = true) (d : Addr) (kd : ClassId) (gd : Nat → Int32) (h0 : Heap) (n0 : Nat) (Zs : n0 ≤ h0.size) (A_d : AF Z h0 d kd .byte 6 (fun i => .int (gd i))) :
    Con l Z (⟨"java/lang/StringUTF16", "coderFromArrayLen", "([BI)B"⟩ : MethodName) jdk_52_method_15_code 2 (some .byte) ({ frames := 0, cells := 0, slots := 0, locals := 0 } : Room) #[(.ref d), (.int (3 : Int32))] h0 (Q7_3U Z d kd gd h0 n0) := by
  refine Con.intro (plainFor_of_name pn3) (fun m => ef_7_3U m d) ?_
  intro p e s m below meth c s₁ hx hby hml0 hZ hown hnm hret hlk X0 e0
  have hml : c.maxLocals = 2 := hml0
  have N0 := Fr.nil n0
  have Kp : Keep h0 h0 [] := Keep.refl h0 _
  show Go _ _ _ _ _ _ _ (s₁.setTop (mkF m 0 #[.val (.ref d), .val (.int (3 : Int32))] []))
  refine Go.of (fun _ q => XS.iloadN X0.here hx rfl (hb hby d7_0) rfl q) ?_
  refine Go.of (fun _ q => XS.aloadN X0.here hx rfl (hb hby d7_1) rfl rfl q) ?_
  refine Go.of (fun _ q => AF.length A_d X0 hx hZ e0 rfl (g := (mkF m 2 #[.val (.ref d), .val (.int (3 : Int32))] [(.ref d), (.int (3 : Int32))])) rfl rfl (hb hby d7_2) q) ?_
  show Go _ _ _ _ _ _ _ (s₁.setTop (mkF m 3 #[.val (.ref d), .val (.int (3 : Int32))] [(.int (6 : Int32)), (.int (3 : Int32))]))
  refine Go.of (fun _ q => XS.isub X0.here hx rfl (hb hby d7_3) rfl q) ?_
  refine Go.of (fun _ q => XS.bipush X0.here hx rfl (hb hby d7_4) q) ?_
  refine Go.of (fun _ q => XS.iushr X0.here hx rfl (hb hby d7_6) rfl q) ?_
  show Go _ _ _ _ _ _ _ (s₁.setTop (mkF m 7 #[.val (.ref d), .val (.int (3 : Int32))] [(.int (1 : Int32))]))
  refine Go.of (fun _ q => XS.i2b X0.here hx rfl (hb hby d7_7) rfl q) ?_
  refine Go.retN X0 hx hlk (t := .byte) hret (by simp) (hb hby d7_8) rfl (by decide) (by decide) ?_
  rw [e0]
  exact ⟨rfl, N0, rfl⟩
theorem ef_3_3 (m : MethodId) (a : Addr) (b : Addr) : entryFrame m #[(.ref a), (.ref b), (.int (0 : Int32)), (.int (3 : Int32)), .null] 6 = mkF m 0 #[.val (.ref a), .val (.ref b), .val (.int (0 : Int32)), .val (.int (3 : Int32)), .val .null, .unset] [] := by first | (simp [entryFrame, mkF, argsToLocals, Value.category]; done) | rfl
def Q3_3 (Z : State) (a : Addr) (b : Addr) (kb : ClassId) (gb : Nat → Int32) (u1 : Value) (u2 : Int32) (cs : Int32) (h0 : Heap) (n0 : Nat) (v : Option Value) (h : Heap) (L : List Loc) : Prop := v = none ∧ Fr n0 L ∧ Keep h0 h [a] ∧ Exa Z h a "java/lang/String" ∧ own_St Z h a 3 gb
set_option maxRecDepth 65536 in
set_option maxHeartbeats 40000000 in
theorem rm3_3 (l : Launch) (Z : State) (a0 : Array Value) (hw : ∀ d ∈ tables_1, d.before a0 Z = true) (a : Addr) (b : Addr) (kb : ClassId) (gb : Nat → Int32) (u1 : Value) (u2 : Int32) (cs : Int32) (h0 : Heap) (n0 : Nat) (Zs : n0 ≤ h0.size) (Od : Old Z n0 h0) (E_a : Exa Z h0 a "java/lang/String") (F_a_value : Fld Z h0 a "java/lang/String" "value" "[B" u1) (F_a_coder : Fld Z h0 a "java/lang/String" "coder" "B" (.int u2)) (g_a : n0 ≤ a) (A_b : AF Z h0 b kb .char 3 (fun i => .int (gb i))) (ne_b_a : b ≠ a) (hcc : ∀ i, i < 3 → own_cc (gb i) = gb i) (Scs : Sta Z Z.heap "java/lang/String" "COMPACT_STRINGS" "Z" (.int cs)) (hcs : ¬ cs = (0 : Int32)) (Sad : Sta Z Z.heap "java/lang/StringUTF16" "$assertionsDisabled" "Z" (.int (1 : Int32))) (Shi : Sta Z Z.heap "java/lang/StringUTF16" "HI_BYTE_SHIFT" "I" (.int (0 : Int32))) (Slo : Sta Z Z.heap "java/lang/StringUTF16" "LO_BYTE_SHIFT" "I" (.int (8 : Int32))) :
    Con l Z (⟨"java/lang/String", "<init>", "([CIILjava/lang/Void;)V"⟩ : MethodName) jdk_42_method_149_code 6 none ({ frames := 4, cells := 2, slots := 9, locals := 57 } : Room) #[(.ref a), (.ref b), (.int (0 : Int32)), (.int (3 : Int32)), .null] h0 (Q3_3 Z a b kb gb u1 u2 cs h0 n0) := by
  refine Con.intro (plainFor_of_name pn1) (fun m => ef_3_3 m a b) ?_
  intro p e s m below meth c s₁ hx hby hml0 hZ hown hnm hret hlk X0 e0
  have hml : c.maxLocals = 6 := hml0
  have N0 := Fr.nil n0
  have Kp : Keep h0 h0 [a] := Keep.refl h0 _
  show Go _ _ _ _ _ _ _ (s₁.setTop (mkF m 0 #[.val (.ref a), .val (.ref b), .val (.int (0 : Int32)), .val (.int (3 : Int32)), .val .null, .unset] []))
  refine Go.of (fun _ q => XS.aloadN X0.here hx rfl (hb hby d3_0) rfl rfl q) ?_
  obtain ⟨T1, X1, e1, st1⟩ := initO X0 hx hZ hown (hw _ (List.mem_of_getElem? (i := 16) rfl)) (hw _ (List.mem_of_getElem? (i := 17) rfl)) (hw _ (List.mem_of_getElem? (i := 18) rfl)) e0 (g := (mkF m 1 #[.val (.ref a), .val (.ref b), .val (.int (0 : Int32)), .val (.int (3 : Int32)), .val .null, .unset] [(.ref a)])) rfl (by rw [hml]; rfl) rfl (hb hby d3_1) (by decide) (W := 0) (by show 2 * 0 + _ ≤ _; exact Nat.le_of_eq rfl) (by decide)
  refine Go.of st1 ?_
  refine Go.of (fun _ q => XS.iloadN X1.here hx rfl (hb hby d3_4) rfl q) ?_
  show Go _ _ _ _ _ _ _ (T1.setTop (mkF m 5 #[.val (.ref a), .val (.ref b), .val (.int (0 : Int32)), .val (.int (3 : Int32)), .val .null, .unset] [(.int (3 : Int32))]))
  refine Go.of (fun _ q => XS.ifYes X1.here hx rfl (pc0 := 5) (pc' := 27) rfl (hb hby d3_5) rfl ((if0 _ _).trans (feq (by decide)).2) (by decide) (by decide) q) ?_
  obtain ⟨T2, X2, e2, st2⟩ := getS2 X1 hx hZ hown (host := "") (Or.inl (hw _ (List.mem_of_getElem? (i := 27) rfl))) Via.refl e1 (Sta.ext Od.2 Scs) (g := (mkF m 27 #[.val (.ref a), .val (.ref b), .val (.int (0 : Int32)), .val (.int (3 : Int32)), .val .null, .unset] [])) rfl (hb hby d3_27)
  refine Go.of st2 ?_
  refine Go.of (fun _ q => XS.ifNo X2.here hx rfl (hb hby d3_30) rfl ((if0 _ _).trans (feq hcs).1) q) ?_
  show Go _ _ _ _ _ _ _ (T2.setTop (mkF m 33 #[.val (.ref a), .val (.ref b), .val (.int (0 : Int32)), .val (.int (3 : Int32)), .val .null, .unset] []))
  refine Go.of (fun _ q => XS.aloadN X2.here hx rfl (hb hby d3_33) rfl rfl q) ?_
  refine Go.of (fun _ q => XS.iloadN X2.here hx rfl (hb hby d3_34) rfl q) ?_
  refine Go.of (fun _ q => XS.iloadN X2.here hx rfl (hb hby d3_35) rfl q) ?_
  show Go _ _ _ _ _ _ _ (T2.setTop (mkF m 36 #[.val (.ref a), .val (.ref b), .val (.int (0 : Int32)), .val (.int (3 : Int32)), .val .null, .unset] [(.int (3 : Int32)), (.int (0 : Int32)), (.ref b)]))
  refine Go.static X2 hx hZ (y := (⟨"java/lang/StringUTF16", "compress", "([CII)[B"⟩ : MethodName)) (argsL := [(.ref b), (.int (0 : Int32)), (.int (3 : Int32))]) hown (hw _ (List.mem_of_getElem? (i := 28) rfl)) (hw _ (List.mem_of_getElem? (i := 29) rfl)) (hw _ (List.mem_of_getElem? (i := 30) rfl)) (hw _ (List.mem_of_getElem? (i := 31) rfl)) (by decide) 0 e2 (rm5_3 l Z a0 hw b kb gb h0 n0 Zs Od A_b hcc Sad Shi Slo) (by decide) (by decide) (by decide) (by decide) (g := (mkF m 36 #[.val (.ref a), .val (.ref b), .val (.int (0 : Int32)), .val (.int (3 : Int32)), .val .null, .unset] [(.int (3 : Int32)), (.int (0 : Int32)), (.ref b)])) rfl (by rw [hml]; rfl) (rest := []) (lenOf pd13 rfl) rfl (by show 2 * 0 + _ ≤ _; exact Nat.le_of_eq rfl) (hb hby d3_36) ?_
  intro T3 v3 L3 X3 q3
  obtain ⟨d, rfl, Nq3, K3, f3_0, f3_1⟩ := q3
  have N3 := Fr.app N0 Nq3
  have g_d : n0 ≤ d := Nat.le_trans Zs f3_0
  have sz_d : h0.size ≤ d := Nat.le_trans Kp.1 f3_0
  have ne_a_d : a ≠ d := Nat.ne_of_lt (Nat.lt_of_lt_of_le E_a.lt f3_0)
  have ne_b_d : b ≠ d := Nat.ne_of_lt (Nat.lt_of_lt_of_le A_b.lt f3_0)
  have Zs := Nat.le_trans Zs K3.1
  have Kp := Kp.trans K3 all0
  have Od := Od.keep K3 all0
  have E_a := E_a.keep K3
  have F_a_value := F_a_value.keep K3 nin0
  have F_a_coder := F_a_coder.keep K3 nin0
  have A_b := A_b.keep K3 nin0
  have hd_3 := f3_1
  show Go _ _ _ _ _ _ _ (T3.setTop (mkF m 39 #[.val (.ref a), .val (.ref b), .val (.int (0 : Int32)), .val (.int (3 : Int32)), .val .null, .unset] [(.ref d)]))
  obtain ⟨kd, ⟨A_d0, hl⟩ | A_d0⟩ := hd_3
  · have A_d : AF Z T3.heap d kd .byte 3 (fun i => .int ((fun i => own_by (gb i)) i)) := A_d0
    have ne_d_a : d ≠ a := Ne.symm ne_a_d
    refine Go.of (fun _ q => XS.astore X3.here hx rfl (hb hby d3_39) rfl rfl (l' := #[.val (.ref a), .val (.ref b), .val (.int (0 : Int32)), .val (.int (3 : Int32)), .val .null, .val (.ref d)]) rfl q) ?_
    refine Go.of (fun _ q => XS.aloadN X3.here hx rfl (hb hby d3_41) rfl rfl q) ?_
    show Go _ _ _ _ _ _ _ (T3.setTop (mkF m 42 #[.val (.ref a), .val (.ref b), .val (.int (0 : Int32)), .val (.int (3 : Int32)), .val .null, .val (.ref d)] [(.ref a)]))
    refine Go.of (fun _ q => XS.aload X3.here hx rfl (hb hby d3_42) rfl rfl q) ?_
    refine Go.of (fun _ q => XS.iloadN X3.here hx rfl (hb hby d3_44) rfl q) ?_
    refine Go.static X3 hx hZ (y := (⟨"java/lang/StringUTF16", "coderFromArrayLen", "([BI)B"⟩ : MethodName)) (argsL := [(.ref d), (.int (3 : Int32))]) hown (hw _ (List.mem_of_getElem? (i := 35) rfl)) (hw _ (List.mem_of_getElem? (i := 36) rfl)) (hw _ (List.mem_of_getElem? (i := 30) rfl)) (hw _ (List.mem_of_getElem? (i := 37) rfl)) (by decide) 1 rfl (rm7_3L l Z a0 hw d kd (fun i => own_by (gb i)) T3.heap n0 Zs A_d) (by decide) (by decide) (by decide) (by decide) (g := (mkF m 45 #[.val (.ref a), .val (.ref b), .val (.int (0 : Int32)), .val (.int (3 : Int32)), .val .null, .val (.ref d)] [(.int (3 : Int32)), (.ref d), (.ref a)])) rfl (by rw [hml]; rfl) (rest := [(.ref a)]) (lenOf pd14 rfl) rfl (by show 2 * 0 + _ ≤ _; exact Nat.le_of_eq rfl) (hb hby d3_45) ?_
    intro T4 v4 L4 X4 q4
    obtain ⟨rfl, Nq4, e4⟩ := q4
    have N4 := Fr.app N3 Nq4
    show Go _ _ _ _ _ _ _ (T4.setTop (mkF m 48 #[.val (.ref a), .val (.ref b), .val (.int (0 : Int32)), .val (.int (3 : Int32)), .val .null, .val (.ref d)] [(.int (0 : Int32)), (.ref a)]))
    obtain ⟨T5, h5, X5, e5, W5, st5⟩ := putFN X4 hx hZ hown (hw _ (List.mem_of_getElem? (i := 26) rfl)) Via.refl e4 F_a_coder E_a (Or.inr ⟨(hw _ (List.mem_of_getElem? (i := 22) rfl)), rfl, hnm⟩) (hw _ (List.mem_of_getElem? (i := 6) rfl)) (ty := .byte) (v' := .int (0 : Int32)) (by decide) rfl rfl (g := (mkF m 48 #[.val (.ref a), .val (.ref b), .val (.int (0 : Int32)), .val (.int (3 : Int32)), .val .null, .val (.ref d)] [(.int (0 : Int32)), (.ref a)])) rfl rfl (hb hby d3_48)
    refine Go.of st5 ?_
    have Zs := Nat.le_trans Zs (Nat.le_of_eq W5.size.symm)
    have Kp := Kp.wr W5 (Or.inl (List.mem_of_getElem? (i := 0) rfl))
    have Od := Od.wr W5 g_a
    have E_a := E_a.wr W5
    have F_a_value := F_a_value.other W5 (Or.inr (slot_ne (Or.inr (hw _ (List.mem_of_getElem? (i := 21) rfl))) (Or.inr (hw _ (List.mem_of_getElem? (i := 22) rfl))) (by decide) (t := (.array .byte)) (t' := .byte) (by decide) (by decide)))
    have F_a_coder := F_a_coder.same W5
    have A_b := A_b.other W5 ne_b_a
    have A_d := A_d.other W5 ne_d_a
    have N5 := Fr.snoc X5 N4 g_a
    refine Go.of (fun _ q => XS.aloadN X5.here hx rfl (hb hby d3_51) rfl rfl q) ?_
    refine Go.of (fun _ q => XS.aload X5.here hx rfl (hb hby d3_52) rfl rfl q) ?_
    show Go _ _ _ _ _ _ _ (T5.setTop (mkF m 54 #[.val (.ref a), .val (.ref b), .val (.int (0 : Int32)), .val (.int (3 : Int32)), .val .null, .val (.ref d)] [(.ref d), (.ref a)]))
    obtain ⟨T6, h6, X6, e6, W6, st6⟩ := putF X5 hx hZ hown (host := "") (Or.inl (hw _ (List.mem_of_getElem? (i := 25) rfl))) Via.refl e5 F_a_value E_a (Or.inr ⟨(hw _ (List.mem_of_getElem? (i := 21) rfl)), rfl, hnm⟩) (hw _ (List.mem_of_getElem? (i := 6) rfl)) (ty := (.array .byte)) (by decide) rfl rfl (g := (mkF m 54 #[.val (.ref a), .val (.ref b), .val (.int (0 : Int32)), .val (.int (3 : Int32)), .val .null, .val (.ref d)] [(.ref d), (.ref a)])) rfl rfl (hb hby d3_54)
    refine Go.of st6 ?_
    have Zs := Nat.le_trans Zs (Nat.le_of_eq W6.size.symm)
    have Kp := Kp.wr W6 (Or.inl (List.mem_of_getElem? (i := 0) rfl))
    have Od := Od.wr W6 g_a
    have E_a := E_a.wr W6
    have F_a_value := F_a_value.same W6
    have F_a_coder := F_a_coder.other W6 (Or.inr (slot_ne (Or.inr (hw _ (List.mem_of_getElem? (i := 22) rfl))) (Or.inr (hw _ (List.mem_of_getElem? (i := 21) rfl))) (by decide) (t := .byte) (t' := (.array .byte)) (by decide) (by decide)))
    have A_b := A_b.other W6 ne_b_a
    have A_d := A_d.other W6 ne_d_a
    have N6 := Fr.snoc X6 N5 g_a
    refine Go.retV X6 hx hlk hret (hb hby d3_57) (by decide) (by decide) ?_
    rw [e6]
    exact ⟨rfl, N6, Kp, E_a, (own_St.mkL F_a_value F_a_coder A_d (own_hL hl hcc))⟩
  · have A_d : AF Z T3.heap d kd .byte 6 (fun i => .int ((own_u gb) i)) := A_d0
    have ne_d_a : d ≠ a := Ne.symm ne_a_d
    refine Go.of (fun _ q => XS.astore X3.here hx rfl (hb hby d3_39) rfl rfl (l' := #[.val (.ref a), .val (.ref b), .val (.int (0 : Int32)), .val (.int (3 : Int32)), .val .null, .val (.ref d)]) rfl q) ?_
    show Go _ _ _ _ _ _ _ (T3.setTop (mkF m 41 #[.val (.ref a), .val (.ref b), .val (.int (0 : Int32)), .val (.int (3 : Int32)), .val .null, .val (.ref d)] []))
    refine Go.of (fun _ q => XS.aloadN X3.here hx rfl (hb hby d3_41) rfl rfl q) ?_
    refine Go.of (fun _ q => XS.aload X3.here hx rfl (hb hby d3_42) rfl rfl q) ?_
    refine Go.of (fun _ q => XS.iloadN X3.here hx rfl (hb hby d3_44) rfl q) ?_
    show Go _ _ _ _ _ _ _ (T3.setTop (mkF m 45 #[.val (.ref a), .val (.ref b), .val (.int (0 : Int32)), .val (.int (3 : Int32)), .val .null, .val (.ref d)] [(.int (3 : Int32)), (.ref d), (.ref a)]))
    refine Go.static X3 hx hZ (y := (⟨"java/lang/StringUTF16", "coderFromArrayLen", "([BI)B"⟩ : MethodName)) (argsL := [(.ref d), (.int (3 : Int32))]) hown (hw _ (List.mem_of_getElem? (i := 35) rfl)) (hw _ (List.mem_of_getElem? (i := 36) rfl)) (hw _ (List.mem_of_getElem? (i := 30) rfl)) (hw _ (List.mem_of_getElem? (i := 37) rfl)) (by decide) 1 rfl (rm7_3U l Z a0 hw d kd (own_u gb) T3.heap n0 Zs A_d) (by decide) (by decide) (by decide) (by decide) (g := (mkF m 45 #[.val (.ref a), .val (.ref b), .val (.int (0 : Int32)), .val (.int (3 : Int32)), .val .null, .val (.ref d)] [(.int (3 : Int32)), (.ref d), (.ref a)])) rfl (by rw [hml]; rfl) (rest := [(.ref a)]) (lenOf pd14 rfl) rfl (by show 2 * 0 + _ ≤ _; exact Nat.le_of_eq rfl) (hb hby d3_45) ?_
    intro T7 v7 L7 X7 q7
    obtain ⟨rfl, Nq7, e7⟩ := q7
    have N7 := Fr.app N3 Nq7
    obtain ⟨T8, h8, X8, e8, W8, st8⟩ := putFN X7 hx hZ hown (hw _ (List.mem_of_getElem? (i := 26) rfl)) Via.refl e7 F_a_coder E_a (Or.inr ⟨(hw _ (List.mem_of_getElem? (i := 22) rfl)), rfl, hnm⟩) (hw _ (List.mem_of_getElem? (i := 6) rfl)) (ty := .byte) (v' := .int (1 : Int32)) (by decide) rfl rfl (g := (mkF m 48 #[.val (.ref a), .val (.ref b), .val (.int (0 : Int32)), .val (.int (3 : Int32)), .val .null, .val (.ref d)] [(.int (1 : Int32)), (.ref a)])) rfl rfl (hb hby d3_48)
    refine Go.of st8 ?_
    have Zs := Nat.le_trans Zs (Nat.le_of_eq W8.size.symm)
    have Kp := Kp.wr W8 (Or.inl (List.mem_of_getElem? (i := 0) rfl))
    have Od := Od.wr W8 g_a
    have E_a := E_a.wr W8
    have F_a_value := F_a_value.other W8 (Or.inr (slot_ne (Or.inr (hw _ (List.mem_of_getElem? (i := 21) rfl))) (Or.inr (hw _ (List.mem_of_getElem? (i := 22) rfl))) (by decide) (t := (.array .byte)) (t' := .byte) (by decide) (by decide)))
    have F_a_coder := F_a_coder.same W8
    have A_b := A_b.other W8 ne_b_a
    have A_d := A_d.other W8 ne_d_a
    have N8 := Fr.snoc X8 N7 g_a
    refine Go.of (fun _ q => XS.aloadN X8.here hx rfl (hb hby d3_51) rfl rfl q) ?_
    show Go _ _ _ _ _ _ _ (T8.setTop (mkF m 52 #[.val (.ref a), .val (.ref b), .val (.int (0 : Int32)), .val (.int (3 : Int32)), .val .null, .val (.ref d)] [(.ref a)]))
    refine Go.of (fun _ q => XS.aload X8.here hx rfl (hb hby d3_52) rfl rfl q) ?_
    obtain ⟨T9, h9, X9, e9, W9, st9⟩ := putF X8 hx hZ hown (host := "") (Or.inl (hw _ (List.mem_of_getElem? (i := 25) rfl))) Via.refl e8 F_a_value E_a (Or.inr ⟨(hw _ (List.mem_of_getElem? (i := 21) rfl)), rfl, hnm⟩) (hw _ (List.mem_of_getElem? (i := 6) rfl)) (ty := (.array .byte)) (by decide) rfl rfl (g := (mkF m 54 #[.val (.ref a), .val (.ref b), .val (.int (0 : Int32)), .val (.int (3 : Int32)), .val .null, .val (.ref d)] [(.ref d), (.ref a)])) rfl rfl (hb hby d3_54)
    refine Go.of st9 ?_
    have Zs := Nat.le_trans Zs (Nat.le_of_eq W9.size.symm)
    have Kp := Kp.wr W9 (Or.inl (List.mem_of_getElem? (i := 0) rfl))
    have Od := Od.wr W9 g_a
    have E_a := E_a.wr W9
    have F_a_value := F_a_value.same W9
    have F_a_coder := F_a_coder.other W9 (Or.inr (slot_ne (Or.inr (hw _ (List.mem_of_getElem? (i := 22) rfl))) (Or.inr (hw _ (List.mem_of_getElem? (i := 21) rfl))) (by decide) (t := .byte) (t' := (.array .byte)) (by decide) (by decide)))
    have A_b := A_b.other W9 ne_b_a
    have A_d := A_d.other W9 ne_d_a
    have N9 := Fr.snoc X9 N8 g_a
    refine Go.retV X9 hx hlk hret (hb hby d3_57) (by decide) (by decide) ?_
    rw [e9]
    exact ⟨rfl, N9, Kp, E_a, (own_St.mkU F_a_value F_a_coder A_d (own_hU hcc))⟩
theorem ef_2_3 (m : MethodId) (a : Addr) (b : Addr) : entryFrame m #[(.ref a), (.ref b)] 2 = mkF m 0 #[.val (.ref a), .val (.ref b)] [] := by first | (simp [entryFrame, mkF, argsToLocals, Value.category]; done) | rfl
def Q2_3 (Z : State) (a : Addr) (b : Addr) (kb : ClassId) (gb : Nat → Int32) (u1 : Value) (u2 : Int32) (cs : Int32) (h0 : Heap) (n0 : Nat) (v : Option Value) (h : Heap) (L : List Loc) : Prop := v = none ∧ Fr n0 L ∧ Keep h0 h [a] ∧ Exa Z h a "java/lang/String" ∧ own_St Z h a 3 gb
set_option maxRecDepth 65536 in
set_option maxHeartbeats 40000000 in
theorem rm2_3 (l : Launch) (Z : State) (a0 : Array Value) (hw : ∀ d ∈ tables_1, d.before a0 Z = true) (a : Addr) (b : Addr) (kb : ClassId) (gb : Nat → Int32) (u1 : Value) (u2 : Int32) (cs : Int32) (h0 : Heap) (n0 : Nat) (Zs : n0 ≤ h0.size) (Od : Old Z n0 h0) (E_a : Exa Z h0 a "java/lang/String") (F_a_value : Fld Z h0 a "java/lang/String" "value" "[B" u1) (F_a_coder : Fld Z h0 a "java/lang/String" "coder" "B" (.int u2)) (g_a : n0 ≤ a) (A_b : AF Z h0 b kb .char 3 (fun i => .int (gb i))) (ne_b_a : b ≠ a) (hcc : ∀ i, i < 3 → own_cc (gb i) = gb i) (Scs : Sta Z Z.heap "java/lang/String" "COMPACT_STRINGS" "Z" (.int cs)) (hcs : ¬ cs = (0 : Int32)) (Sad : Sta Z Z.heap "java/lang/StringUTF16" "$assertionsDisabled" "Z" (.int (1 : Int32))) (Shi : Sta Z Z.heap "java/lang/StringUTF16" "HI_BYTE_SHIFT" "I" (.int (0 : Int32))) (Slo : Sta Z Z.heap "java/lang/StringUTF16" "LO_BYTE_SHIFT" "I" (.int (8 : Int32))) :
    Con l Z (⟨"java/lang/String", "<init>", "([C)V"⟩ : MethodName) jdk_42_method_3_code 2 none ({ frames := 5, cells := 2, slots := 9, locals := 74 } : Room) #[(.ref a), (.ref b)] h0 (Q2_3 Z a b kb gb u1 u2 cs h0 n0) := by
  refine Con.intro (plainFor_of_name pn1) (fun m => ef_2_3 m a b) ?_
  intro p e s m below meth c s₁ hx hby hml0 hZ hown hnm hret hlk X0 e0
  have hml : c.maxLocals = 2 := hml0
  have N0 := Fr.nil n0
  have Kp : Keep h0 h0 [a] := Keep.refl h0 _
  show Go _ _ _ _ _ _ _ (s₁.setTop (mkF m 0 #[.val (.ref a), .val (.ref b)] []))
  refine Go.of (fun _ q => XS.aloadN X0.here hx rfl (hb hby d2_0) rfl rfl q) ?_
  refine Go.of (fun _ q => XS.aloadN X0.here hx rfl (hb hby d2_1) rfl rfl q) ?_
  refine Go.of (fun _ q => XS.iconst X0.here hx rfl (hb hby d2_2) q) ?_
  show Go _ _ _ _ _ _ _ (s₁.setTop (mkF m 3 #[.val (.ref a), .val (.ref b)] [(.int (0 : Int32)), (.ref b), (.ref a)]))
  refine Go.of (fun _ q => XS.aloadN X0.here hx rfl (hb hby d2_3) rfl rfl q) ?_
  refine Go.of (fun _ q => AF.length A_b X0 hx hZ e0 rfl (g := (mkF m 4 #[.val (.ref a), .val (.ref b)] [(.ref b), (.int (0 : Int32)), (.ref b), (.ref a)])) rfl rfl (hb hby d2_4) q) ?_
  refine Go.of (fun _ q => XS.aconstNull X0.here hx rfl (hb hby d2_5) q) ?_
  show Go _ _ _ _ _ _ _ (s₁.setTop (mkF m 6 #[.val (.ref a), .val (.ref b)] [.null, (.int (3 : Int32)), (.int (0 : Int32)), (.ref b), (.ref a)]))
  refine Go.special X0 hx hZ (y := (⟨"java/lang/String", "<init>", "([CIILjava/lang/Void;)V"⟩ : MethodName)) (a := a) (argsL := [(.ref b), (.int (0 : Int32)), (.int (3 : Int32)), .null]) rfl hown (hw _ (List.mem_of_getElem? (i := 12) rfl)) (hw _ (List.mem_of_getElem? (i := 13) rfl)) (hw _ (List.mem_of_getElem? (i := 7) rfl)) (hw _ (List.mem_of_getElem? (i := 15) rfl)) (by decide) 0 e0 (rm3_3 l Z a0 hw a b kb gb u1 u2 cs h0 n0 Zs Od E_a F_a_value F_a_coder g_a A_b ne_b_a hcc Scs hcs Sad Shi Slo) (by decide) (by decide) (by decide) (by decide) (g := (mkF m 6 #[.val (.ref a), .val (.ref b)] [.null, (.int (3 : Int32)), (.int (0 : Int32)), (.ref b), (.ref a)])) rfl (by rw [hml]; rfl) (rest := []) (lenOf pd15 rfl) rfl (by show 2 * 0 + _ ≤ _; exact Nat.le_of_eq rfl) (hb hby d2_6) ?_
  intro T1 v1 L1 X1 q1
  obtain ⟨rfl, Nq1, K1, f1_0, f1_1⟩ := q1
  have N1 := Fr.app N0 Nq1
  have Zs := Nat.le_trans Zs K1.1
  have Kp := Kp.trans K1 (allS (P := fun x => x ∈ [a] ∨ h0.size ≤ x) (Or.inl (List.mem_of_getElem? (i := 0) rfl)) all0)
  have Od := Od.keep K1 (allS (P := fun x => n0 ≤ x) g_a all0)
  have E_a := E_a.keep K1
  have A_b := A_b.keep K1 (ninS ne_b_a nin0)
  have S_a := f1_1
  refine Go.retV X1 hx hlk hret (hb hby d2_9) (by decide) (by decide) ?_
  exact ⟨rfl, N1, Kp, E_a, S_a⟩
theorem ef_19_4 (m : MethodId)  : entryFrame m #[(.int (4 : Int32))] 1 = mkF m 0 #[.val (.int (4 : Int32))] [] := by first | (simp [entryFrame, mkF, argsToLocals, Value.category]; done) | rfl
def Q19_4 (Z : State)  (h0 : Heap) (n0 : Nat) (v : Option Value) (h : Heap) (L : List Loc) : Prop := v = some (.int (8 : Int32)) ∧ Fr n0 L ∧ h = h0
set_option maxRecDepth 65536 in
set_option maxHeartbeats 40000000 in
theorem rm19_4 (l : Launch) (Z : State) (a0 : Array Value) (hw : ∀ d ∈ tables_1, d.before a0 Z = true)  (h0 : Heap) (n0 : Nat) (Zs : n0 ≤ h0.size)  :
    Con l Z (⟨"java/lang/StringUTF16", "newBytesLength", "(I)I"⟩ : MethodName) jdk_52_method_3_code 1 (some .int) ({ frames := 0, cells := 0, slots := 0, locals := 0 } : Room) #[(.int (4 : Int32))] h0 (Q19_4 Z  h0 n0) := by
  refine Con.intro (plainFor_of_name pn3) (fun m => ef_19_4 m ) ?_
  intro p e s m below meth c s₁ hx hby hml0 hZ hown hnm hret hlk X0 e0
  have hml : c.maxLocals = 1 := hml0
  have N0 := Fr.nil n0
  have Kp : Keep h0 h0 [] := Keep.refl h0 _
  show Go _ _ _ _ _ _ _ (s₁.setTop (mkF m 0 #[.val (.int (4 : Int32))] []))
  refine Go.of (fun _ q => XS.iloadN X0.here hx rfl (hb hby d19_0) rfl q) ?_
  refine Go.of (fun _ q => XS.ifYes X0.here hx rfl (pc0 := 1) (pc' := 12) rfl (hb hby d19_1) rfl ((if0 _ _).trans (flt (by decide)).2.1) (by decide) (by decide) q) ?_
  refine Go.of (fun _ q => XS.iloadN X0.here hx rfl (hb hby d19_12) rfl q) ?_
  show Go _ _ _ _ _ _ _ (s₁.setTop (mkF m 13 #[.val (.int (4 : Int32))] [(.int (4 : Int32))]))
  refine Go.of (fun _ q => X0.ldcInt hx hown (mvT hZ (hw _ (List.mem_of_getElem? (i := 90) rfl))) (g := (mkF m 13 #[.val (.int (4 : Int32))] [(.int (4 : Int32))])) rfl (hb hby d19_13) _ q) ?_
  refine Go.of (fun _ q => XS.icmpYes X0.here hx rfl (pc0 := 15) (pc' := 55) rfl (hb hby d19_15) rfl (tlt (by decide)).1 (by decide) (by decide) q) ?_
  refine Go.of (fun _ q => XS.iloadN X0.here hx rfl (hb hby d19_55) rfl q) ?_
  show Go _ _ _ _ _ _ _ (s₁.setTop (mkF m 56 #[.val (.int (4 : Int32))] [(.int (4 : Int32))]))
  refine Go.of (fun _ q => XS.iconst X0.here hx rfl (hb hby d19_56) q) ?_
  refine Go.of (fun _ q => XS.ishl X0.here hx rfl (hb hby d19_57) rfl q) ?_
  refine Go.retI X0 hx hlk hret (hb hby d19_58) (by decide) (by decide) ?_
  rw [e0]
  exact ⟨rfl, N0, rfl⟩
theorem ef_18_4 (m : MethodId)  : entryFrame m #[(.int (4 : Int32))] 1 = mkF m 0 #[.val (.int (4 : Int32))] [] := by first | (simp [entryFrame, mkF, argsToLocals, Value.category]; done) | rfl
def Q18_4 (Z : State)  (h0 : Heap) (n0 : Nat) (v : Option Value) (h : Heap) (L : List Loc) : Prop := ∃ d : Addr, ∃ kd : ClassId, v = some (.ref d) ∧ Fr n0 L ∧ Keep h0 h [] ∧ h0.size ≤ d ∧ AF Z h d kd .byte 8 (fun i => .int ((fun _ => (0 : Int32)) i))
set_option maxRecDepth 65536 in
set_option maxHeartbeats 40000000 in
theorem rm18_4 (l : Launch) (Z : State) (a0 : Array Value) (hw : ∀ d ∈ tables_1, d.before a0 Z = true)  (h0 : Heap) (n0 : Nat) (Zs : n0 ≤ h0.size)  :
    Con l Z (⟨"java/lang/StringUTF16", "newBytesFor", "(I)[B"⟩ : MethodName) jdk_52_method_2_code 1 (some (.array .byte)) ({ frames := 1, cells := 1, slots := 8, locals := 12 } : Room) #[(.int (4 : Int32))] h0 (Q18_4 Z  h0 n0) := by
  refine Con.intro (plainFor_of_name pn3) (fun m => ef_18_4 m ) ?_
  intro p e s m below meth c s₁ hx hby hml0 hZ hown hnm hret hlk X0 e0
  have hml : c.maxLocals = 1 := hml0
  have N0 := Fr.nil n0
  have Kp : Keep h0 h0 [] := Keep.refl h0 _
  show Go _ _ _ _ _ _ _ (s₁.setTop (mkF m 0 #[.val (.int (4 : Int32))] []))
  refine Go.of (fun _ q => XS.iloadN X0.here hx rfl (hb hby d18_0) rfl q) ?_
  refine Go.static X0 hx hZ (y := (⟨"java/lang/StringUTF16", "newBytesLength", "(I)I"⟩ : MethodName)) (argsL := [(.int (4 : Int32))]) hown (hw _ (List.mem_of_getElem? (i := 87) rfl)) (hw _ (List.mem_of_getElem? (i := 88) rfl)) (hw _ (List.mem_of_getElem? (i := 30) rfl)) (hw _ (List.mem_of_getElem? (i := 89) rfl)) (by decide) 0 e0 (rm19_4 l Z a0 hw  h0 n0 Zs ) (by decide) (by decide) (by decide) (by decide) (g := (mkF m 1 #[.val (.int (4 : Int32))] [(.int (4 : Int32))])) rfl (by rw [hml]; rfl) (rest := []) (lenOf pd9 rfl) rfl (by show 2 * 0 + _ ≤ _; exact Nat.le_of_eq rfl) (hb hby d18_1) ?_
  intro T1 v1 L1 X1 q1
  obtain ⟨rfl, Nq1, e1⟩ := q1
  have N1 := Fr.app N0 Nq1
  obtain ⟨T2, h2, k2, X2, e2, E2, A2, B2, st2⟩ := newPE X1 hx hZ (hw _ (List.mem_of_getElem? (i := 20) rfl)) e1 (g := (mkF m 4 #[.val (.int (4 : Int32))] [(.int (8 : Int32))])) rfl (hb hby d18_4) rfl (by decide) (cap := 8) (by decide) (by decide) (by decide) (by decide) (ad := "[B") (by decide)
  obtain ⟨d, g2⟩ : ∃ z, z = h0.size := ⟨_, rfl⟩
  rw [← g2] at A2 B2 st2
  refine Go.of st2 ?_
  have g_d : n0 ≤ d := Nat.le_trans Zs (Nat.le_of_eq g2.symm)
  have sz_d : h0.size ≤ d := Nat.le_trans Kp.1 (Nat.le_of_eq g2.symm)
  have Zs := Nat.le_trans Zs E2.1
  have Kp := Kp.ext E2
  have E_d := B2
  have A_d : AF Z h2 d k2 .byte 8 (fun i => .int ((fun _ => (0 : Int32)) i)) := AF.new A2 (by decide) rfl rfl
  show Go _ _ _ _ _ _ _ (T2.setTop (mkF m 6 #[.val (.int (4 : Int32))] [(.ref d)]))
  refine Go.retA X2 hx hlk hret rfl rfl (hb hby d18_6) (by decide) (by decide) ?_
  rw [e2]
  exact ⟨d, k2, rfl, N1, Kp, sz_d, A_d⟩
theorem ef_17_4 (m : MethodId) (b : Addr) : entryFrame m #[(.ref b), (.int (0 : Int32)), (.int (4 : Int32))] 5 = mkF m 0 #[.val (.ref b), .val (.int (0 : Int32)), .val (.int (4 : Int32)), .unset, .unset] [] := by first | (simp [entryFrame, mkF, argsToLocals, Value.category]; done) | rfl
def Q17_4 (Z : State) (b : Addr) (kb : ClassId) (gb : Nat → Int32) (h0 : Heap) (n0 : Nat) (v : Option Value) (h : Heap) (L : List Loc) : Prop := ∃ d : Addr, ∃ kd : ClassId, v = some (.ref d) ∧ Fr n0 L ∧ Keep h0 h [] ∧ h0.size ≤ d ∧ AF Z h d kd .byte 8 (fun i => .int ((own_u gb) i))
set_option maxRecDepth 65536 in
set_option maxHeartbeats 40000000 in
theorem rm17_4 (l : Launch) (Z : State) (a0 : Array Value) (hw : ∀ d ∈ tables_1, d.before a0 Z = true) (b : Addr) (kb : ClassId) (gb : Nat → Int32) (h0 : Heap) (n0 : Nat) (Zs : n0 ≤ h0.size) (Od : Old Z n0 h0) (A_b : AF Z h0 b kb .char 4 (fun i => .int (gb i))) (Sad : Sta Z Z.heap "java/lang/StringUTF16" "$assertionsDisabled" "Z" (.int (1 : Int32))) (Shi : Sta Z Z.heap "java/lang/StringUTF16" "HI_BYTE_SHIFT" "I" (.int (0 : Int32))) (Slo : Sta Z Z.heap "java/lang/StringUTF16" "LO_BYTE_SHIFT" "I" (.int (8 : Int32))) :
    Con l Z (⟨"java/lang/StringUTF16", "toBytes", "([CII)[B"⟩ : MethodName) jdk_52_method_14_code 5 (some (.array .byte)) ({ frames := 2, cells := 1, slots := 8, locals := 24 } : Room) #[(.ref b), (.int (0 : Int32)), (.int (4 : Int32))] h0 (Q17_4 Z b kb gb h0 n0) := by
  refine Con.intro (plainFor_of_name pn3) (fun m => ef_17_4 m b) ?_
  intro p e s m below meth c s₁ hx hby hml0 hZ hown hnm hret hlk X0 e0
  have hml : c.maxLocals = 5 := hml0
  have N0 := Fr.nil n0
  have Kp : Keep h0 h0 [] := Keep.refl h0 _
  show Go _ _ _ _ _ _ _ (s₁.setTop (mkF m 0 #[.val (.ref b), .val (.int (0 : Int32)), .val (.int (4 : Int32)), .unset, .unset] []))
  refine Go.of (fun _ q => XS.iloadN X0.here hx rfl (hb hby d17_0) rfl q) ?_
  refine Go.static X0 hx hZ (y := (⟨"java/lang/StringUTF16", "newBytesFor", "(I)[B"⟩ : MethodName)) (argsL := [(.int (4 : Int32))]) hown (hw _ (List.mem_of_getElem? (i := 84) rfl)) (hw _ (List.mem_of_getElem? (i := 85) rfl)) (hw _ (List.mem_of_getElem? (i := 30) rfl)) (hw _ (List.mem_of_getElem? (i := 86) rfl)) (by decide) 0 e0 (rm18_4 l Z a0 hw  h0 n0 Zs ) (by decide) (by decide) (by decide) (by decide) (g := (mkF m 1 #[.val (.ref b), .val (.int (0 : Int32)), .val (.int (4 : Int32)), .unset, .unset] [(.int (4 : Int32))])) rfl (by rw [hml]; rfl) (rest := []) (lenOf pd10 rfl) rfl (by show 2 * 0 + _ ≤ _; exact Nat.le_of_eq rfl) (hb hby d17_1) ?_
  intro T1 v1 L1 X1 q1
  obtain ⟨d, kd0, rfl, Nq1, K1, f1_0, f1_1⟩ := q1
  have N1 := Fr.app N0 Nq1
  have g_d : n0 ≤ d := Nat.le_trans Zs f1_0
  have sz_d : h0.size ≤ d := Nat.le_trans Kp.1 f1_0
  have ne_b_d : b ≠ d := Nat.ne_of_lt (Nat.lt_of_lt_of_le A_b.lt f1_0)
  have Zs := Nat.le_trans Zs K1.1
  have Kp := Kp.trans K1 all0
  have Od := Od.keep K1 all0
  have A_b := A_b.keep K1 nin0
  have A_d := f1_1
  refine Go.of (fun _ q => XS.astoreN X1.here hx rfl (hb hby d17_4) rfl rfl (l' := #[.val (.ref b), .val (.int (0 : Int32)), .val (.int (4 : Int32)), .val (.ref d), .unset]) rfl q) ?_
  show Go _ _ _ _ _ _ _ (T1.setTop (mkF m 5 #[.val (.ref b), .val (.int (0 : Int32)), .val (.int (4 : Int32)), .val (.ref d), .unset] []))
  refine Go.of (fun _ q => XS.iconst X1.here hx rfl (hb hby d17_5) q) ?_
  refine Go.of (fun _ q => XS.istore X1.here hx rfl (hb hby d17_6) rfl (l' := #[.val (.ref b), .val (.int (0 : Int32)), .val (.int (4 : Int32)), .val (.ref d), .val (.int (0 : Int32))]) rfl q) ?_
  refine Go.of (fun _ q => XS.iload X1.here hx rfl (hb hby d17_8) rfl q) ?_
  show Go _ _ _ _ _ _ _ (T1.setTop (mkF m 10 #[.val (.ref b), .val (.int (0 : Int32)), .val (.int (4 : Int32)), .val (.ref d), .val (.int (0 : Int32))] [(.int (0 : Int32))]))
  refine Go.of (fun _ q => XS.iloadN X1.here hx rfl (hb hby d17_10) rfl q) ?_
  refine Go.of (fun _ q => XS.icmpNo X1.here hx rfl (hb hby d17_11) rfl (tlt (by decide)).2.1 q) ?_
  refine Go.of (fun _ q => XS.aloadN X1.here hx rfl (hb hby d17_14) rfl rfl q) ?_
  show Go _ _ _ _ _ _ _ (T1.setTop (mkF m 15 #[.val (.ref b), .val (.int (0 : Int32)), .val (.int (4 : Int32)), .val (.ref d), .val (.int (0 : Int32))] [(.ref d)]))
  refine Go.of (fun _ q => XS.iload X1.here hx rfl (hb hby d17_15) rfl q) ?_
  refine Go.of (fun _ q => XS.aloadN X1.here hx rfl (hb hby d17_17) rfl rfl q) ?_
  refine Go.of (fun _ q => XS.iloadN X1.here hx rfl (hb hby d17_18) rfl q) ?_
  show Go _ _ _ _ _ _ _ (T1.setTop (mkF m 19 #[.val (.ref b), .val (.int (0 : Int32)), .val (.int (4 : Int32)), .val (.ref d), .val (.int (0 : Int32))] [(.int (0 : Int32)), (.ref b), (.int (0 : Int32)), (.ref d)]))
  refine Go.of (fun _ q => AF.caload A_b X1 hx hZ rfl ⟨rfl, by decide, by decide⟩ (v := (.int (gb 0))) rfl (g := (mkF m 19 #[.val (.ref b), .val (.int (0 : Int32)), .val (.int (4 : Int32)), .val (.ref d), .val (.int (0 : Int32))] [(.int (0 : Int32)), (.ref b), (.int (0 : Int32)), (.ref d)])) rfl rfl (hb hby d17_19) q) ?_
  refine Go.static X1 hx hZ (y := (⟨"java/lang/StringUTF16", "putChar", "([BII)V"⟩ : MethodName)) (argsL := [(.ref d), (.int (0 : Int32)), (.int (gb 0))]) hown (hw _ (List.mem_of_getElem? (i := 91) rfl)) (hw _ (List.mem_of_getElem? (i := 92) rfl)) (hw _ (List.mem_of_getElem? (i := 30) rfl)) (hw _ (List.mem_of_getElem? (i := 93) rfl)) (by decide) 0 rfl (rm20 l Z a0 hw d (0 : Int32) (gb 0) kd0 (fun _ => (0 : Int32)) 8 0 T1.heap n0 Zs Od A_d g_d rfl (by decide) (by decide) Sad Shi Slo) (by decide) (by decide) (by decide) (by decide) (g := (mkF m 20 #[.val (.ref b), .val (.int (0 : Int32)), .val (.int (4 : Int32)), .val (.ref d), .val (.int (0 : Int32))] [(.int (gb 0)), (.int (0 : Int32)), (.ref d)])) rfl (by rw [hml]; rfl) (rest := []) (lenOf pd11 rfl) rfl (by show 2 * 0 + _ ≤ _; exact Nat.le_of_eq rfl) (hb hby d17_20) ?_
  intro T2 v2 L2 X2 q2
  obtain ⟨rfl, Nq2, K2, f2_0⟩ := q2
  have N2 := Fr.app N1 Nq2
  have Zs := Nat.le_trans Zs K2.1
  have Kp := Kp.trans K2 (allS (P := fun x => x ∈ [] ∨ h0.size ≤ x) (Or.inr sz_d) all0)
  have Od := Od.keep K2 (allS (P := fun x => n0 ≤ x) g_d all0)
  have A_b := A_b.keep K2 (ninS ne_b_d nin0)
  have A_d := f2_0
  refine Go.of (fun _ q => XS.iinc X2.here hx rfl (hb hby d17_23) rfl (l' := #[.val (.ref b), .val (.int (1 : Int32)), .val (.int (4 : Int32)), .val (.ref d), .val (.int (0 : Int32))]) rfl q) ?_
  show Go _ _ _ _ _ _ _ (T2.setTop (mkF m 26 #[.val (.ref b), .val (.int (1 : Int32)), .val (.int (4 : Int32)), .val (.ref d), .val (.int (0 : Int32))] []))
  refine Go.of (fun _ q => XS.iinc X2.here hx rfl (hb hby d17_26) rfl (l' := #[.val (.ref b), .val (.int (1 : Int32)), .val (.int (4 : Int32)), .val (.ref d), .val (.int (1 : Int32))]) rfl q) ?_
  refine Go.of (fun _ q => XS.goto X2.here hx rfl (pc0 := 29) (pc' := 8) rfl (hb hby d17_29) (by decide) (by decide) q) ?_
  refine Go.of (fun _ q => XS.iload X2.here hx rfl (hb hby d17_8) rfl q) ?_
  show Go _ _ _ _ _ _ _ (T2.setTop (mkF m 10 #[.val (.ref b), .val (.int (1 : Int32)), .val (.int (4 : Int32)), .val (.ref d), .val (.int (1 : Int32))] [(.int (1 : Int32))]))
  refine Go.of (fun _ q => XS.iloadN X2.here hx rfl (hb hby d17_10) rfl q) ?_
  refine Go.of (fun _ q => XS.icmpNo X2.here hx rfl (hb hby d17_11) rfl (tlt (by decide)).2.1 q) ?_
  refine Go.of (fun _ q => XS.aloadN X2.here hx rfl (hb hby d17_14) rfl rfl q) ?_
  show Go _ _ _ _ _ _ _ (T2.setTop (mkF m 15 #[.val (.ref b), .val (.int (1 : Int32)), .val (.int (4 : Int32)), .val (.ref d), .val (.int (1 : Int32))] [(.ref d)]))
  refine Go.of (fun _ q => XS.iload X2.here hx rfl (hb hby d17_15) rfl q) ?_
  refine Go.of (fun _ q => XS.aloadN X2.here hx rfl (hb hby d17_17) rfl rfl q) ?_
  refine Go.of (fun _ q => XS.iloadN X2.here hx rfl (hb hby d17_18) rfl q) ?_
  show Go _ _ _ _ _ _ _ (T2.setTop (mkF m 19 #[.val (.ref b), .val (.int (1 : Int32)), .val (.int (4 : Int32)), .val (.ref d), .val (.int (1 : Int32))] [(.int (1 : Int32)), (.ref b), (.int (1 : Int32)), (.ref d)]))
  refine Go.of (fun _ q => AF.caload A_b X2 hx hZ rfl ⟨rfl, by decide, by decide⟩ (v := (.int (gb 1))) rfl (g := (mkF m 19 #[.val (.ref b), .val (.int (1 : Int32)), .val (.int (4 : Int32)), .val (.ref d), .val (.int (1 : Int32))] [(.int (1 : Int32)), (.ref b), (.int (1 : Int32)), (.ref d)])) rfl rfl (hb hby d17_19) q) ?_
  refine Go.static X2 hx hZ (y := (⟨"java/lang/StringUTF16", "putChar", "([BII)V"⟩ : MethodName)) (argsL := [(.ref d), (.int (1 : Int32)), (.int (gb 1))]) hown (hw _ (List.mem_of_getElem? (i := 91) rfl)) (hw _ (List.mem_of_getElem? (i := 92) rfl)) (hw _ (List.mem_of_getElem? (i := 30) rfl)) (hw _ (List.mem_of_getElem? (i := 93) rfl)) (by decide) 0 rfl (rm20 l Z a0 hw d (1 : Int32) (gb 1) kd0 (upI (upI (fun _ => (0 : Int32)) (2 * 0) (own_lo (gb 0))) (2 * 0 + 1) (own_hi (gb 0))) 8 1 T2.heap n0 Zs Od A_d g_d rfl (by decide) (by decide) Sad Shi Slo) (by decide) (by decide) (by decide) (by decide) (g := (mkF m 20 #[.val (.ref b), .val (.int (1 : Int32)), .val (.int (4 : Int32)), .val (.ref d), .val (.int (1 : Int32))] [(.int (gb 1)), (.int (1 : Int32)), (.ref d)])) rfl (by rw [hml]; rfl) (rest := []) (lenOf pd11 rfl) rfl (by show 2 * 0 + _ ≤ _; exact Nat.le_of_eq rfl) (hb hby d17_20) ?_
  intro T3 v3 L3 X3 q3
  obtain ⟨rfl, Nq3, K3, f3_0⟩ := q3
  have N3 := Fr.app N2 Nq3
  have Zs := Nat.le_trans Zs K3.1
  have Kp := Kp.trans K3 (allS (P := fun x => x ∈ [] ∨ h0.size ≤ x) (Or.inr sz_d) all0)
  have Od := Od.keep K3 (allS (P := fun x => n0 ≤ x) g_d all0)
  have A_b := A_b.keep K3 (ninS ne_b_d nin0)
  have A_d := f3_0
  refine Go.of (fun _ q => XS.iinc X3.here hx rfl (hb hby d17_23) rfl (l' := #[.val (.ref b), .val (.int (2 : Int32)), .val (.int (4 : Int32)), .val (.ref d), .val (.int (1 : Int32))]) rfl q) ?_
  show Go _ _ _ _ _ _ _ (T3.setTop (mkF m 26 #[.val (.ref b), .val (.int (2 : Int32)), .val (.int (4 : Int32)), .val (.ref d), .val (.int (1 : Int32))] []))
  refine Go.of (fun _ q => XS.iinc X3.here hx rfl (hb hby d17_26) rfl (l' := #[.val (.ref b), .val (.int (2 : Int32)), .val (.int (4 : Int32)), .val (.ref d), .val (.int (2 : Int32))]) rfl q) ?_
  refine Go.of (fun _ q => XS.goto X3.here hx rfl (pc0 := 29) (pc' := 8) rfl (hb hby d17_29) (by decide) (by decide) q) ?_
  refine Go.of (fun _ q => XS.iload X3.here hx rfl (hb hby d17_8) rfl q) ?_
  show Go _ _ _ _ _ _ _ (T3.setTop (mkF m 10 #[.val (.ref b), .val (.int (2 : Int32)), .val (.int (4 : Int32)), .val (.ref d), .val (.int (2 : Int32))] [(.int (2 : Int32))]))
  refine Go.of (fun _ q => XS.iloadN X3.here hx rfl (hb hby d17_10) rfl q) ?_
  refine Go.of (fun _ q => XS.icmpNo X3.here hx rfl (hb hby d17_11) rfl (tlt (by decide)).2.1 q) ?_
  refine Go.of (fun _ q => XS.aloadN X3.here hx rfl (hb hby d17_14) rfl rfl q) ?_
  show Go _ _ _ _ _ _ _ (T3.setTop (mkF m 15 #[.val (.ref b), .val (.int (2 : Int32)), .val (.int (4 : Int32)), .val (.ref d), .val (.int (2 : Int32))] [(.ref d)]))
  refine Go.of (fun _ q => XS.iload X3.here hx rfl (hb hby d17_15) rfl q) ?_
  refine Go.of (fun _ q => XS.aloadN X3.here hx rfl (hb hby d17_17) rfl rfl q) ?_
  refine Go.of (fun _ q => XS.iloadN X3.here hx rfl (hb hby d17_18) rfl q) ?_
  show Go _ _ _ _ _ _ _ (T3.setTop (mkF m 19 #[.val (.ref b), .val (.int (2 : Int32)), .val (.int (4 : Int32)), .val (.ref d), .val (.int (2 : Int32))] [(.int (2 : Int32)), (.ref b), (.int (2 : Int32)), (.ref d)]))
  refine Go.of (fun _ q => AF.caload A_b X3 hx hZ rfl ⟨rfl, by decide, by decide⟩ (v := (.int (gb 2))) rfl (g := (mkF m 19 #[.val (.ref b), .val (.int (2 : Int32)), .val (.int (4 : Int32)), .val (.ref d), .val (.int (2 : Int32))] [(.int (2 : Int32)), (.ref b), (.int (2 : Int32)), (.ref d)])) rfl rfl (hb hby d17_19) q) ?_
  refine Go.static X3 hx hZ (y := (⟨"java/lang/StringUTF16", "putChar", "([BII)V"⟩ : MethodName)) (argsL := [(.ref d), (.int (2 : Int32)), (.int (gb 2))]) hown (hw _ (List.mem_of_getElem? (i := 91) rfl)) (hw _ (List.mem_of_getElem? (i := 92) rfl)) (hw _ (List.mem_of_getElem? (i := 30) rfl)) (hw _ (List.mem_of_getElem? (i := 93) rfl)) (by decide) 0 rfl (rm20 l Z a0 hw d (2 : Int32) (gb 2) kd0 (upI (upI (upI (upI (fun _ => (0 : Int32)) (2 * 0) (own_lo (gb 0))) (2 * 0 + 1) (own_hi (gb 0))) (2 * 1) (own_lo (gb 1))) (2 * 1 + 1) (own_hi (gb 1))) 8 2 T3.heap n0 Zs Od A_d g_d rfl (by decide) (by decide) Sad Shi Slo) (by decide) (by decide) (by decide) (by decide) (g := (mkF m 20 #[.val (.ref b), .val (.int (2 : Int32)), .val (.int (4 : Int32)), .val (.ref d), .val (.int (2 : Int32))] [(.int (gb 2)), (.int (2 : Int32)), (.ref d)])) rfl (by rw [hml]; rfl) (rest := []) (lenOf pd11 rfl) rfl (by show 2 * 0 + _ ≤ _; exact Nat.le_of_eq rfl) (hb hby d17_20) ?_
  intro T4 v4 L4 X4 q4
  obtain ⟨rfl, Nq4, K4, f4_0⟩ := q4
  have N4 := Fr.app N3 Nq4
  have Zs := Nat.le_trans Zs K4.1
  have Kp := Kp.trans K4 (allS (P := fun x => x ∈ [] ∨ h0.size ≤ x) (Or.inr sz_d) all0)
  have Od := Od.keep K4 (allS (P := fun x => n0 ≤ x) g_d all0)
  have A_b := A_b.keep K4 (ninS ne_b_d nin0)
  have A_d := f4_0
  refine Go.of (fun _ q => XS.iinc X4.here hx rfl (hb hby d17_23) rfl (l' := #[.val (.ref b), .val (.int (3 : Int32)), .val (.int (4 : Int32)), .val (.ref d), .val (.int (2 : Int32))]) rfl q) ?_
  show Go _ _ _ _ _ _ _ (T4.setTop (mkF m 26 #[.val (.ref b), .val (.int (3 : Int32)), .val (.int (4 : Int32)), .val (.ref d), .val (.int (2 : Int32))] []))
  refine Go.of (fun _ q => XS.iinc X4.here hx rfl (hb hby d17_26) rfl (l' := #[.val (.ref b), .val (.int (3 : Int32)), .val (.int (4 : Int32)), .val (.ref d), .val (.int (3 : Int32))]) rfl q) ?_
  refine Go.of (fun _ q => XS.goto X4.here hx rfl (pc0 := 29) (pc' := 8) rfl (hb hby d17_29) (by decide) (by decide) q) ?_
  refine Go.of (fun _ q => XS.iload X4.here hx rfl (hb hby d17_8) rfl q) ?_
  show Go _ _ _ _ _ _ _ (T4.setTop (mkF m 10 #[.val (.ref b), .val (.int (3 : Int32)), .val (.int (4 : Int32)), .val (.ref d), .val (.int (3 : Int32))] [(.int (3 : Int32))]))
  refine Go.of (fun _ q => XS.iloadN X4.here hx rfl (hb hby d17_10) rfl q) ?_
  refine Go.of (fun _ q => XS.icmpNo X4.here hx rfl (hb hby d17_11) rfl (tlt (by decide)).2.1 q) ?_
  refine Go.of (fun _ q => XS.aloadN X4.here hx rfl (hb hby d17_14) rfl rfl q) ?_
  show Go _ _ _ _ _ _ _ (T4.setTop (mkF m 15 #[.val (.ref b), .val (.int (3 : Int32)), .val (.int (4 : Int32)), .val (.ref d), .val (.int (3 : Int32))] [(.ref d)]))
  refine Go.of (fun _ q => XS.iload X4.here hx rfl (hb hby d17_15) rfl q) ?_
  refine Go.of (fun _ q => XS.aloadN X4.here hx rfl (hb hby d17_17) rfl rfl q) ?_
  refine Go.of (fun _ q => XS.iloadN X4.here hx rfl (hb hby d17_18) rfl q) ?_
  show Go _ _ _ _ _ _ _ (T4.setTop (mkF m 19 #[.val (.ref b), .val (.int (3 : Int32)), .val (.int (4 : Int32)), .val (.ref d), .val (.int (3 : Int32))] [(.int (3 : Int32)), (.ref b), (.int (3 : Int32)), (.ref d)]))
  refine Go.of (fun _ q => AF.caload A_b X4 hx hZ rfl ⟨rfl, by decide, by decide⟩ (v := (.int (gb 3))) rfl (g := (mkF m 19 #[.val (.ref b), .val (.int (3 : Int32)), .val (.int (4 : Int32)), .val (.ref d), .val (.int (3 : Int32))] [(.int (3 : Int32)), (.ref b), (.int (3 : Int32)), (.ref d)])) rfl rfl (hb hby d17_19) q) ?_
  refine Go.static X4 hx hZ (y := (⟨"java/lang/StringUTF16", "putChar", "([BII)V"⟩ : MethodName)) (argsL := [(.ref d), (.int (3 : Int32)), (.int (gb 3))]) hown (hw _ (List.mem_of_getElem? (i := 91) rfl)) (hw _ (List.mem_of_getElem? (i := 92) rfl)) (hw _ (List.mem_of_getElem? (i := 30) rfl)) (hw _ (List.mem_of_getElem? (i := 93) rfl)) (by decide) 0 rfl (rm20 l Z a0 hw d (3 : Int32) (gb 3) kd0 (upI (upI (upI (upI (upI (upI (fun _ => (0 : Int32)) (2 * 0) (own_lo (gb 0))) (2 * 0 + 1) (own_hi (gb 0))) (2 * 1) (own_lo (gb 1))) (2 * 1 + 1) (own_hi (gb 1))) (2 * 2) (own_lo (gb 2))) (2 * 2 + 1) (own_hi (gb 2))) 8 3 T4.heap n0 Zs Od A_d g_d rfl (by decide) (by decide) Sad Shi Slo) (by decide) (by decide) (by decide) (by decide) (g := (mkF m 20 #[.val (.ref b), .val (.int (3 : Int32)), .val (.int (4 : Int32)), .val (.ref d), .val (.int (3 : Int32))] [(.int (gb 3)), (.int (3 : Int32)), (.ref d)])) rfl (by rw [hml]; rfl) (rest := []) (lenOf pd11 rfl) rfl (by show 2 * 0 + _ ≤ _; exact Nat.le_of_eq rfl) (hb hby d17_20) ?_
  intro T5 v5 L5 X5 q5
  obtain ⟨rfl, Nq5, K5, f5_0⟩ := q5
  have N5 := Fr.app N4 Nq5
  have Zs := Nat.le_trans Zs K5.1
  have Kp := Kp.trans K5 (allS (P := fun x => x ∈ [] ∨ h0.size ≤ x) (Or.inr sz_d) all0)
  have Od := Od.keep K5 (allS (P := fun x => n0 ≤ x) g_d all0)
  have A_b := A_b.keep K5 (ninS ne_b_d nin0)
  have A_d := f5_0
  refine Go.of (fun _ q => XS.iinc X5.here hx rfl (hb hby d17_23) rfl (l' := #[.val (.ref b), .val (.int (4 : Int32)), .val (.int (4 : Int32)), .val (.ref d), .val (.int (3 : Int32))]) rfl q) ?_
  show Go _ _ _ _ _ _ _ (T5.setTop (mkF m 26 #[.val (.ref b), .val (.int (4 : Int32)), .val (.int (4 : Int32)), .val (.ref d), .val (.int (3 : Int32))] []))
  refine Go.of (fun _ q => XS.iinc X5.here hx rfl (hb hby d17_26) rfl (l' := #[.val (.ref b), .val (.int (4 : Int32)), .val (.int (4 : Int32)), .val (.ref d), .val (.int (4 : Int32))]) rfl q) ?_
  refine Go.of (fun _ q => XS.goto X5.here hx rfl (pc0 := 29) (pc' := 8) rfl (hb hby d17_29) (by decide) (by decide) q) ?_
  refine Go.of (fun _ q => XS.iload X5.here hx rfl (hb hby d17_8) rfl q) ?_
  show Go _ _ _ _ _ _ _ (T5.setTop (mkF m 10 #[.val (.ref b), .val (.int (4 : Int32)), .val (.int (4 : Int32)), .val (.ref d), .val (.int (4 : Int32))] [(.int (4 : Int32))]))
  refine Go.of (fun _ q => XS.iloadN X5.here hx rfl (hb hby d17_10) rfl q) ?_
  refine Go.of (fun _ q => XS.icmpYes X5.here hx rfl (pc0 := 11) (pc' := 32) rfl (hb hby d17_11) rfl (flt (by decide)).2.1 (by decide) (by decide) q) ?_
  refine Go.of (fun _ q => XS.aloadN X5.here hx rfl (hb hby d17_32) rfl rfl q) ?_
  show Go _ _ _ _ _ _ _ (T5.setTop (mkF m 33 #[.val (.ref b), .val (.int (4 : Int32)), .val (.int (4 : Int32)), .val (.ref d), .val (.int (4 : Int32))] [(.ref d)]))
  refine Go.retA X5 hx hlk hret rfl rfl (hb hby d17_33) (by decide) (by decide) ?_
  exact ⟨d, kd0, rfl, N5, Kp, sz_d, (AF.cast A_d (fun i hi => by rcases (show i = 0 ∨ i = 1 ∨ i = 2 ∨ i = 3 ∨ i = 4 ∨ i = 5 ∨ i = 6 ∨ i = 7 by omega) with rfl | rfl | rfl | rfl | rfl | rfl | rfl | rfl <;> simp [upI, own_u]))⟩
theorem ef_6_4 (m : MethodId) (b : Addr) (d : Addr) : entryFrame m #[(.ref b), (.int (0 : Int32)), (.ref d), (.int (0 : Int32)), (.int (4 : Int32))] 7 = mkF m 0 #[.val (.ref b), .val (.int (0 : Int32)), .val (.ref d), .val (.int (0 : Int32)), .val (.int (4 : Int32)), .unset, .unset] [] := by first | (simp [entryFrame, mkF, argsToLocals, Value.category]; done) | rfl
def Q6_4 (Z : State) (b : Addr) (d : Addr) (kb : ClassId) (gb : Nat → Int32) (kd : ClassId) (gd : Nat → Int32) (h0 : Heap) (n0 : Nat) (v : Option Value) (h : Heap) (L : List Loc) : Prop := ∃ k : Nat, v = some (.int (Int32.ofNat k)) ∧ Fr n0 L ∧ Keep h0 h [d] ∧ (k ≤ 4) ∧ (∀ i, i < k → ¬ (255 : Int32) < gb i) ∧ (k < 4 → (255 : Int32) < gb k) ∧ (k = 4 → AF Z h d kd .byte 4 (fun i => .int ((fun i => own_by (gb i)) i)))
set_option maxRecDepth 65536 in
set_option maxHeartbeats 40000000 in
theorem rm6_4 (l : Launch) (Z : State) (a0 : Array Value) (hw : ∀ d ∈ tables_1, d.before a0 Z = true) (b : Addr) (d : Addr) (kb : ClassId) (gb : Nat → Int32) (kd : ClassId) (gd : Nat → Int32) (h0 : Heap) (n0 : Nat) (Zs : n0 ≤ h0.size) (A_b : AF Z h0 b kb .char 4 (fun i => .int (gb i))) (A_d : AF Z h0 d kd .byte 4 (fun i => .int (gd i))) (ne_b_d : b ≠ d) (g_d : n0 ≤ d) :
    Con l Z (⟨"java/lang/StringUTF16", "compress", "([CI[BII)I"⟩ : MethodName) jdk_52_method_21_code 7 (some .int) ({ frames := 0, cells := 0, slots := 0, locals := 0 } : Room) #[(.ref b), (.int (0 : Int32)), (.ref d), (.int (0 : Int32)), (.int (4 : Int32))] h0 (Q6_4 Z b d kb gb kd gd h0 n0) := by
  refine Con.intro (plainFor_of_name pn3) (fun m => ef_6_4 m b d) ?_
  intro p e s m below meth c s₁ hx hby hml0 hZ hown hnm hret hlk X0 e0
  have hml : c.maxLocals = 7 := hml0
  have N0 := Fr.nil n0
  have Kp : Keep h0 h0 [d] := Keep.refl h0 _
  show Go _ _ _ _ _ _ _ (s₁.setTop (mkF m 0 #[.val (.ref b), .val (.int (0 : Int32)), .val (.ref d), .val (.int (0 : Int32)), .val (.int (4 : Int32)), .unset, .unset] []))
  refine Go.of (fun _ q => XS.iconst X0.here hx rfl (hb hby d6_0) q) ?_
  refine Go.of (fun _ q => XS.istore X0.here hx rfl (hb hby d6_1) rfl (l' := #[.val (.ref b), .val (.int (0 : Int32)), .val (.ref d), .val (.int (0 : Int32)), .val (.int (4 : Int32)), .val (.int (0 : Int32)), .unset]) rfl q) ?_
  refine Go.of (fun _ q => XS.iload X0.here hx rfl (hb hby d6_3) rfl q) ?_
  show Go _ _ _ _ _ _ _ (s₁.setTop (mkF m 5 #[.val (.ref b), .val (.int (0 : Int32)), .val (.ref d), .val (.int (0 : Int32)), .val (.int (4 : Int32)), .val (.int (0 : Int32)), .unset] [(.int (0 : Int32))]))
  refine Go.of (fun _ q => XS.iload X0.here hx rfl (hb hby d6_5) rfl q) ?_
  refine Go.of (fun _ q => XS.icmpNo X0.here hx rfl (hb hby d6_7) rfl (tlt (by decide)).2.1 q) ?_
  refine Go.of (fun _ q => XS.aloadN X0.here hx rfl (hb hby d6_10) rfl rfl q) ?_
  show Go _ _ _ _ _ _ _ (s₁.setTop (mkF m 11 #[.val (.ref b), .val (.int (0 : Int32)), .val (.ref d), .val (.int (0 : Int32)), .val (.int (4 : Int32)), .val (.int (0 : Int32)), .unset] [(.ref b)]))
  refine Go.of (fun _ q => XS.iloadN X0.here hx rfl (hb hby d6_11) rfl q) ?_
  refine Go.of (fun _ q => AF.caload A_b X0 hx hZ e0 ⟨rfl, by decide, by decide⟩ (v := (.int (gb 0))) rfl (g := (mkF m 12 #[.val (.ref b), .val (.int (0 : Int32)), .val (.ref d), .val (.int (0 : Int32)), .val (.int (4 : Int32)), .val (.int (0 : Int32)), .unset] [(.int (0 : Int32)), (.ref b)])) rfl rfl (hb hby d6_12) q) ?_
  refine Go.of (fun _ q => XS.istore X0.here hx rfl (hb hby d6_13) rfl (l' := #[.val (.ref b), .val (.int (0 : Int32)), .val (.ref d), .val (.int (0 : Int32)), .val (.int (4 : Int32)), .val (.int (0 : Int32)), .val (.int (gb 0))]) rfl q) ?_
  show Go _ _ _ _ _ _ _ (s₁.setTop (mkF m 15 #[.val (.ref b), .val (.int (0 : Int32)), .val (.ref d), .val (.int (0 : Int32)), .val (.int (4 : Int32)), .val (.int (0 : Int32)), .val (.int (gb 0))] []))
  refine Go.of (fun _ q => XS.iload X0.here hx rfl (hb hby d6_15) rfl q) ?_
  refine Go.of (fun _ q => XS.sipush X0.here hx rfl (hb hby d6_17) q) ?_
  by_cases c20 : (255 : Int32) < (gb 0)
  · refine Go.of (fun _ q => XS.icmpNo X0.here hx rfl (hb hby d6_20) rfl (tlt c20).2.2.2 q) ?_
    show Go _ _ _ _ _ _ _ (s₁.setTop (mkF m 23 #[.val (.ref b), .val (.int (0 : Int32)), .val (.ref d), .val (.int (0 : Int32)), .val (.int (4 : Int32)), .val (.int (0 : Int32)), .val (.int (gb 0))] []))
    refine Go.of (fun _ q => XS.iload X0.here hx rfl (hb hby d6_23) rfl q) ?_
    refine Go.retI X0 hx hlk hret (hb hby d6_25) (by decide) (by decide) ?_
    rw [e0]
    exact ⟨0, rfl, N0, Kp, (by decide), (fun i hi => absurd hi (Nat.not_lt_zero _)), (fun _ => c20), (fun q => absurd q (by decide))⟩
  · refine Go.of (fun _ q => XS.icmpYes X0.here hx rfl (pc0 := 20) (pc' := 26) rfl (hb hby d6_20) rfl (flt c20).2.2.2 (by decide) (by decide) q) ?_
    refine Go.of (fun _ q => XS.aloadN X0.here hx rfl (hb hby d6_26) rfl rfl q) ?_
    show Go _ _ _ _ _ _ _ (s₁.setTop (mkF m 27 #[.val (.ref b), .val (.int (0 : Int32)), .val (.ref d), .val (.int (0 : Int32)), .val (.int (4 : Int32)), .val (.int (0 : Int32)), .val (.int (gb 0))] [(.ref d)]))
    refine Go.of (fun _ q => XS.iloadN X0.here hx rfl (hb hby d6_27) rfl q) ?_
    refine Go.of (fun _ q => XS.iload X0.here hx rfl (hb hby d6_28) rfl q) ?_
    refine Go.of (fun _ q => XS.i2b X0.here hx rfl (hb hby d6_30) rfl q) ?_
    show Go _ _ _ _ _ _ _ (s₁.setTop (mkF m 31 #[.val (.ref b), .val (.int (0 : Int32)), .val (.ref d), .val (.int (0 : Int32)), .val (.int (4 : Int32)), .val (.int (0 : Int32)), .val (.int (gb 0))] [(.int ((gb 0).toInt8.toInt32)), (.int (0 : Int32)), (.ref d)]))
    obtain ⟨T1, h1, X1, e1, W1, A1', st1⟩ := AF.bastore A_d X0 hx hZ e0 (i := 0) ⟨rfl, by decide, by decide⟩ (g := (mkF m 31 #[.val (.ref b), .val (.int (0 : Int32)), .val (.ref d), .val (.int (0 : Int32)), .val (.int (4 : Int32)), .val (.int (0 : Int32)), .val (.int (gb 0))] [(.int ((gb 0).toInt8.toInt32)), (.int (0 : Int32)), (.ref d)])) rfl rfl (hb hby d6_31)
    refine Go.of st1 ?_
    have Zs := Nat.le_trans Zs (Nat.le_of_eq W1.size.symm)
    have Kp := Kp.wr W1 (Or.inl (List.mem_of_getElem? (i := 0) rfl))
    have A_b := A_b.other W1 ne_b_d
    have A_d : AF Z h1 d kd .byte 4 (fun i => .int ((upI gd 0 (((gb 0).toInt8.toInt32).toInt8.toInt32)) i)) := A1'.toI
    have N1 := Fr.snoc X1 N0 g_d
    refine Go.of (fun _ q => XS.iinc X1.here hx rfl (hb hby d6_32) rfl (l' := #[.val (.ref b), .val (.int (1 : Int32)), .val (.ref d), .val (.int (0 : Int32)), .val (.int (4 : Int32)), .val (.int (0 : Int32)), .val (.int (gb 0))]) rfl q) ?_
    refine Go.of (fun _ q => XS.iinc X1.here hx rfl (hb hby d6_35) rfl (l' := #[.val (.ref b), .val (.int (1 : Int32)), .val (.ref d), .val (.int (1 : Int32)), .val (.int (4 : Int32)), .val (.int (0 : Int32)), .val (.int (gb 0))]) rfl q) ?_
    show Go _ _ _ _ _ _ _ (T1.setTop (mkF m 38 #[.val (.ref b), .val (.int (1 : Int32)), .val (.ref d), .val (.int (1 : Int32)), .val (.int (4 : Int32)), .val (.int (0 : Int32)), .val (.int (gb 0))] []))
    refine Go.of (fun _ q => XS.iinc X1.here hx rfl (hb hby d6_38) rfl (l' := #[.val (.ref b), .val (.int (1 : Int32)), .val (.ref d), .val (.int (1 : Int32)), .val (.int (4 : Int32)), .val (.int (1 : Int32)), .val (.int (gb 0))]) rfl q) ?_
    refine Go.of (fun _ q => XS.goto X1.here hx rfl (pc0 := 41) (pc' := 3) rfl (hb hby d6_41) (by decide) (by decide) q) ?_
    refine Go.of (fun _ q => XS.iload X1.here hx rfl (hb hby d6_3) rfl q) ?_
    show Go _ _ _ _ _ _ _ (T1.setTop (mkF m 5 #[.val (.ref b), .val (.int (1 : Int32)), .val (.ref d), .val (.int (1 : Int32)), .val (.int (4 : Int32)), .val (.int (1 : Int32)), .val (.int (gb 0))] [(.int (1 : Int32))]))
    refine Go.of (fun _ q => XS.iload X1.here hx rfl (hb hby d6_5) rfl q) ?_
    refine Go.of (fun _ q => XS.icmpNo X1.here hx rfl (hb hby d6_7) rfl (tlt (by decide)).2.1 q) ?_
    refine Go.of (fun _ q => XS.aloadN X1.here hx rfl (hb hby d6_10) rfl rfl q) ?_
    show Go _ _ _ _ _ _ _ (T1.setTop (mkF m 11 #[.val (.ref b), .val (.int (1 : Int32)), .val (.ref d), .val (.int (1 : Int32)), .val (.int (4 : Int32)), .val (.int (1 : Int32)), .val (.int (gb 0))] [(.ref b)]))
    refine Go.of (fun _ q => XS.iloadN X1.here hx rfl (hb hby d6_11) rfl q) ?_
    refine Go.of (fun _ q => AF.caload A_b X1 hx hZ e1 ⟨rfl, by decide, by decide⟩ (v := (.int (gb 1))) rfl (g := (mkF m 12 #[.val (.ref b), .val (.int (1 : Int32)), .val (.ref d), .val (.int (1 : Int32)), .val (.int (4 : Int32)), .val (.int (1 : Int32)), .val (.int (gb 0))] [(.int (1 : Int32)), (.ref b)])) rfl rfl (hb hby d6_12) q) ?_
    refine Go.of (fun _ q => XS.istore X1.here hx rfl (hb hby d6_13) rfl (l' := #[.val (.ref b), .val (.int (1 : Int32)), .val (.ref d), .val (.int (1 : Int32)), .val (.int (4 : Int32)), .val (.int (1 : Int32)), .val (.int (gb 1))]) rfl q) ?_
    show Go _ _ _ _ _ _ _ (T1.setTop (mkF m 15 #[.val (.ref b), .val (.int (1 : Int32)), .val (.ref d), .val (.int (1 : Int32)), .val (.int (4 : Int32)), .val (.int (1 : Int32)), .val (.int (gb 1))] []))
    refine Go.of (fun _ q => XS.iload X1.here hx rfl (hb hby d6_15) rfl q) ?_
    refine Go.of (fun _ q => XS.sipush X1.here hx rfl (hb hby d6_17) q) ?_
    by_cases c20_1 : (255 : Int32) < (gb 1)
    · refine Go.of (fun _ q => XS.icmpNo X1.here hx rfl (hb hby d6_20) rfl (tlt c20_1).2.2.2 q) ?_
      show Go _ _ _ _ _ _ _ (T1.setTop (mkF m 23 #[.val (.ref b), .val (.int (1 : Int32)), .val (.ref d), .val (.int (1 : Int32)), .val (.int (4 : Int32)), .val (.int (1 : Int32)), .val (.int (gb 1))] []))
      refine Go.of (fun _ q => XS.iload X1.here hx rfl (hb hby d6_23) rfl q) ?_
      refine Go.retI X1 hx hlk hret (hb hby d6_25) (by decide) (by decide) ?_
      rw [e1]
      exact ⟨1, rfl, N1, Kp, (by decide), (fun i hi => by rcases (show i = 0 by omega) with rfl <;> assumption), (fun _ => c20_1), (fun q => absurd q (by decide))⟩
    · refine Go.of (fun _ q => XS.icmpYes X1.here hx rfl (pc0 := 20) (pc' := 26) rfl (hb hby d6_20) rfl (flt c20_1).2.2.2 (by decide) (by decide) q) ?_
      refine Go.of (fun _ q => XS.aloadN X1.here hx rfl (hb hby d6_26) rfl rfl q) ?_
      show Go _ _ _ _ _ _ _ (T1.setTop (mkF m 27 #[.val (.ref b), .val (.int (1 : Int32)), .val (.ref d), .val (.int (1 : Int32)), .val (.int (4 : Int32)), .val (.int (1 : Int32)), .val (.int (gb 1))] [(.ref d)]))
      refine Go.of (fun _ q => XS.iloadN X1.here hx rfl (hb hby d6_27) rfl q) ?_
      refine Go.of (fun _ q => XS.iload X1.here hx rfl (hb hby d6_28) rfl q) ?_
      refine Go.of (fun _ q => XS.i2b X1.here hx rfl (hb hby d6_30) rfl q) ?_
      show Go _ _ _ _ _ _ _ (T1.setTop (mkF m 31 #[.val (.ref b), .val (.int (1 : Int32)), .val (.ref d), .val (.int (1 : Int32)), .val (.int (4 : Int32)), .val (.int (1 : Int32)), .val (.int (gb 1))] [(.int ((gb 1).toInt8.toInt32)), (.int (1 : Int32)), (.ref d)]))
      obtain ⟨T2, h2, X2, e2, W2, A2', st2⟩ := AF.bastore A_d X1 hx hZ e1 (i := 1) ⟨rfl, by decide, by decide⟩ (g := (mkF m 31 #[.val (.ref b), .val (.int (1 : Int32)), .val (.ref d), .val (.int (1 : Int32)), .val (.int (4 : Int32)), .val (.int (1 : Int32)), .val (.int (gb 1))] [(.int ((gb 1).toInt8.toInt32)), (.int (1 : Int32)), (.ref d)])) rfl rfl (hb hby d6_31)
      refine Go.of st2 ?_
      have Zs := Nat.le_trans Zs (Nat.le_of_eq W2.size.symm)
      have Kp := Kp.wr W2 (Or.inl (List.mem_of_getElem? (i := 0) rfl))
      have A_b := A_b.other W2 ne_b_d
      have A_d : AF Z h2 d kd .byte 4 (fun i => .int ((upI (upI gd 0 (((gb 0).toInt8.toInt32).toInt8.toInt32)) 1 (((gb 1).toInt8.toInt32).toInt8.toInt32)) i)) := A2'.toI
      have N2 := Fr.snoc X2 N1 g_d
      refine Go.of (fun _ q => XS.iinc X2.here hx rfl (hb hby d6_32) rfl (l' := #[.val (.ref b), .val (.int (2 : Int32)), .val (.ref d), .val (.int (1 : Int32)), .val (.int (4 : Int32)), .val (.int (1 : Int32)), .val (.int (gb 1))]) rfl q) ?_
      refine Go.of (fun _ q => XS.iinc X2.here hx rfl (hb hby d6_35) rfl (l' := #[.val (.ref b), .val (.int (2 : Int32)), .val (.ref d), .val (.int (2 : Int32)), .val (.int (4 : Int32)), .val (.int (1 : Int32)), .val (.int (gb 1))]) rfl q) ?_
      show Go _ _ _ _ _ _ _ (T2.setTop (mkF m 38 #[.val (.ref b), .val (.int (2 : Int32)), .val (.ref d), .val (.int (2 : Int32)), .val (.int (4 : Int32)), .val (.int (1 : Int32)), .val (.int (gb 1))] []))
      refine Go.of (fun _ q => XS.iinc X2.here hx rfl (hb hby d6_38) rfl (l' := #[.val (.ref b), .val (.int (2 : Int32)), .val (.ref d), .val (.int (2 : Int32)), .val (.int (4 : Int32)), .val (.int (2 : Int32)), .val (.int (gb 1))]) rfl q) ?_
      refine Go.of (fun _ q => XS.goto X2.here hx rfl (pc0 := 41) (pc' := 3) rfl (hb hby d6_41) (by decide) (by decide) q) ?_
      refine Go.of (fun _ q => XS.iload X2.here hx rfl (hb hby d6_3) rfl q) ?_
      show Go _ _ _ _ _ _ _ (T2.setTop (mkF m 5 #[.val (.ref b), .val (.int (2 : Int32)), .val (.ref d), .val (.int (2 : Int32)), .val (.int (4 : Int32)), .val (.int (2 : Int32)), .val (.int (gb 1))] [(.int (2 : Int32))]))
      refine Go.of (fun _ q => XS.iload X2.here hx rfl (hb hby d6_5) rfl q) ?_
      refine Go.of (fun _ q => XS.icmpNo X2.here hx rfl (hb hby d6_7) rfl (tlt (by decide)).2.1 q) ?_
      refine Go.of (fun _ q => XS.aloadN X2.here hx rfl (hb hby d6_10) rfl rfl q) ?_
      show Go _ _ _ _ _ _ _ (T2.setTop (mkF m 11 #[.val (.ref b), .val (.int (2 : Int32)), .val (.ref d), .val (.int (2 : Int32)), .val (.int (4 : Int32)), .val (.int (2 : Int32)), .val (.int (gb 1))] [(.ref b)]))
      refine Go.of (fun _ q => XS.iloadN X2.here hx rfl (hb hby d6_11) rfl q) ?_
      refine Go.of (fun _ q => AF.caload A_b X2 hx hZ e2 ⟨rfl, by decide, by decide⟩ (v := (.int (gb 2))) rfl (g := (mkF m 12 #[.val (.ref b), .val (.int (2 : Int32)), .val (.ref d), .val (.int (2 : Int32)), .val (.int (4 : Int32)), .val (.int (2 : Int32)), .val (.int (gb 1))] [(.int (2 : Int32)), (.ref b)])) rfl rfl (hb hby d6_12) q) ?_
      refine Go.of (fun _ q => XS.istore X2.here hx rfl (hb hby d6_13) rfl (l' := #[.val (.ref b), .val (.int (2 : Int32)), .val (.ref d), .val (.int (2 : Int32)), .val (.int (4 : Int32)), .val (.int (2 : Int32)), .val (.int (gb 2))]) rfl q) ?_
      show Go _ _ _ _ _ _ _ (T2.setTop (mkF m 15 #[.val (.ref b), .val (.int (2 : Int32)), .val (.ref d), .val (.int (2 : Int32)), .val (.int (4 : Int32)), .val (.int (2 : Int32)), .val (.int (gb 2))] []))
      refine Go.of (fun _ q => XS.iload X2.here hx rfl (hb hby d6_15) rfl q) ?_
      refine Go.of (fun _ q => XS.sipush X2.here hx rfl (hb hby d6_17) q) ?_
      by_cases c20_2 : (255 : Int32) < (gb 2)
      · refine Go.of (fun _ q => XS.icmpNo X2.here hx rfl (hb hby d6_20) rfl (tlt c20_2).2.2.2 q) ?_
        show Go _ _ _ _ _ _ _ (T2.setTop (mkF m 23 #[.val (.ref b), .val (.int (2 : Int32)), .val (.ref d), .val (.int (2 : Int32)), .val (.int (4 : Int32)), .val (.int (2 : Int32)), .val (.int (gb 2))] []))
        refine Go.of (fun _ q => XS.iload X2.here hx rfl (hb hby d6_23) rfl q) ?_
        refine Go.retI X2 hx hlk hret (hb hby d6_25) (by decide) (by decide) ?_
        rw [e2]
        exact ⟨2, rfl, N2, Kp, (by decide), (fun i hi => by rcases (show i = 0 ∨ i = 1 by omega) with rfl | rfl <;> assumption), (fun _ => c20_2), (fun q => absurd q (by decide))⟩
      · refine Go.of (fun _ q => XS.icmpYes X2.here hx rfl (pc0 := 20) (pc' := 26) rfl (hb hby d6_20) rfl (flt c20_2).2.2.2 (by decide) (by decide) q) ?_
        refine Go.of (fun _ q => XS.aloadN X2.here hx rfl (hb hby d6_26) rfl rfl q) ?_
        show Go _ _ _ _ _ _ _ (T2.setTop (mkF m 27 #[.val (.ref b), .val (.int (2 : Int32)), .val (.ref d), .val (.int (2 : Int32)), .val (.int (4 : Int32)), .val (.int (2 : Int32)), .val (.int (gb 2))] [(.ref d)]))
        refine Go.of (fun _ q => XS.iloadN X2.here hx rfl (hb hby d6_27) rfl q) ?_
        refine Go.of (fun _ q => XS.iload X2.here hx rfl (hb hby d6_28) rfl q) ?_
        refine Go.of (fun _ q => XS.i2b X2.here hx rfl (hb hby d6_30) rfl q) ?_
        show Go _ _ _ _ _ _ _ (T2.setTop (mkF m 31 #[.val (.ref b), .val (.int (2 : Int32)), .val (.ref d), .val (.int (2 : Int32)), .val (.int (4 : Int32)), .val (.int (2 : Int32)), .val (.int (gb 2))] [(.int ((gb 2).toInt8.toInt32)), (.int (2 : Int32)), (.ref d)]))
        obtain ⟨T3, h3, X3, e3, W3, A3', st3⟩ := AF.bastore A_d X2 hx hZ e2 (i := 2) ⟨rfl, by decide, by decide⟩ (g := (mkF m 31 #[.val (.ref b), .val (.int (2 : Int32)), .val (.ref d), .val (.int (2 : Int32)), .val (.int (4 : Int32)), .val (.int (2 : Int32)), .val (.int (gb 2))] [(.int ((gb 2).toInt8.toInt32)), (.int (2 : Int32)), (.ref d)])) rfl rfl (hb hby d6_31)
        refine Go.of st3 ?_
        have Zs := Nat.le_trans Zs (Nat.le_of_eq W3.size.symm)
        have Kp := Kp.wr W3 (Or.inl (List.mem_of_getElem? (i := 0) rfl))
        have A_b := A_b.other W3 ne_b_d
        have A_d : AF Z h3 d kd .byte 4 (fun i => .int ((upI (upI (upI gd 0 (((gb 0).toInt8.toInt32).toInt8.toInt32)) 1 (((gb 1).toInt8.toInt32).toInt8.toInt32)) 2 (((gb 2).toInt8.toInt32).toInt8.toInt32)) i)) := A3'.toI
        have N3 := Fr.snoc X3 N2 g_d
        refine Go.of (fun _ q => XS.iinc X3.here hx rfl (hb hby d6_32) rfl (l' := #[.val (.ref b), .val (.int (3 : Int32)), .val (.ref d), .val (.int (2 : Int32)), .val (.int (4 : Int32)), .val (.int (2 : Int32)), .val (.int (gb 2))]) rfl q) ?_
        refine Go.of (fun _ q => XS.iinc X3.here hx rfl (hb hby d6_35) rfl (l' := #[.val (.ref b), .val (.int (3 : Int32)), .val (.ref d), .val (.int (3 : Int32)), .val (.int (4 : Int32)), .val (.int (2 : Int32)), .val (.int (gb 2))]) rfl q) ?_
        show Go _ _ _ _ _ _ _ (T3.setTop (mkF m 38 #[.val (.ref b), .val (.int (3 : Int32)), .val (.ref d), .val (.int (3 : Int32)), .val (.int (4 : Int32)), .val (.int (2 : Int32)), .val (.int (gb 2))] []))
        refine Go.of (fun _ q => XS.iinc X3.here hx rfl (hb hby d6_38) rfl (l' := #[.val (.ref b), .val (.int (3 : Int32)), .val (.ref d), .val (.int (3 : Int32)), .val (.int (4 : Int32)), .val (.int (3 : Int32)), .val (.int (gb 2))]) rfl q) ?_
        refine Go.of (fun _ q => XS.goto X3.here hx rfl (pc0 := 41) (pc' := 3) rfl (hb hby d6_41) (by decide) (by decide) q) ?_
        refine Go.of (fun _ q => XS.iload X3.here hx rfl (hb hby d6_3) rfl q) ?_
        show Go _ _ _ _ _ _ _ (T3.setTop (mkF m 5 #[.val (.ref b), .val (.int (3 : Int32)), .val (.ref d), .val (.int (3 : Int32)), .val (.int (4 : Int32)), .val (.int (3 : Int32)), .val (.int (gb 2))] [(.int (3 : Int32))]))
        refine Go.of (fun _ q => XS.iload X3.here hx rfl (hb hby d6_5) rfl q) ?_
        refine Go.of (fun _ q => XS.icmpNo X3.here hx rfl (hb hby d6_7) rfl (tlt (by decide)).2.1 q) ?_
        refine Go.of (fun _ q => XS.aloadN X3.here hx rfl (hb hby d6_10) rfl rfl q) ?_
        show Go _ _ _ _ _ _ _ (T3.setTop (mkF m 11 #[.val (.ref b), .val (.int (3 : Int32)), .val (.ref d), .val (.int (3 : Int32)), .val (.int (4 : Int32)), .val (.int (3 : Int32)), .val (.int (gb 2))] [(.ref b)]))
        refine Go.of (fun _ q => XS.iloadN X3.here hx rfl (hb hby d6_11) rfl q) ?_
        refine Go.of (fun _ q => AF.caload A_b X3 hx hZ e3 ⟨rfl, by decide, by decide⟩ (v := (.int (gb 3))) rfl (g := (mkF m 12 #[.val (.ref b), .val (.int (3 : Int32)), .val (.ref d), .val (.int (3 : Int32)), .val (.int (4 : Int32)), .val (.int (3 : Int32)), .val (.int (gb 2))] [(.int (3 : Int32)), (.ref b)])) rfl rfl (hb hby d6_12) q) ?_
        refine Go.of (fun _ q => XS.istore X3.here hx rfl (hb hby d6_13) rfl (l' := #[.val (.ref b), .val (.int (3 : Int32)), .val (.ref d), .val (.int (3 : Int32)), .val (.int (4 : Int32)), .val (.int (3 : Int32)), .val (.int (gb 3))]) rfl q) ?_
        show Go _ _ _ _ _ _ _ (T3.setTop (mkF m 15 #[.val (.ref b), .val (.int (3 : Int32)), .val (.ref d), .val (.int (3 : Int32)), .val (.int (4 : Int32)), .val (.int (3 : Int32)), .val (.int (gb 3))] []))
        refine Go.of (fun _ q => XS.iload X3.here hx rfl (hb hby d6_15) rfl q) ?_
        refine Go.of (fun _ q => XS.sipush X3.here hx rfl (hb hby d6_17) q) ?_
        by_cases c20_3 : (255 : Int32) < (gb 3)
        · refine Go.of (fun _ q => XS.icmpNo X3.here hx rfl (hb hby d6_20) rfl (tlt c20_3).2.2.2 q) ?_
          show Go _ _ _ _ _ _ _ (T3.setTop (mkF m 23 #[.val (.ref b), .val (.int (3 : Int32)), .val (.ref d), .val (.int (3 : Int32)), .val (.int (4 : Int32)), .val (.int (3 : Int32)), .val (.int (gb 3))] []))
          refine Go.of (fun _ q => XS.iload X3.here hx rfl (hb hby d6_23) rfl q) ?_
          refine Go.retI X3 hx hlk hret (hb hby d6_25) (by decide) (by decide) ?_
          rw [e3]
          exact ⟨3, rfl, N3, Kp, (by decide), (fun i hi => by rcases (show i = 0 ∨ i = 1 ∨ i = 2 by omega) with rfl | rfl | rfl <;> assumption), (fun _ => c20_3), (fun q => absurd q (by decide))⟩
        · refine Go.of (fun _ q => XS.icmpYes X3.here hx rfl (pc0 := 20) (pc' := 26) rfl (hb hby d6_20) rfl (flt c20_3).2.2.2 (by decide) (by decide) q) ?_
          refine Go.of (fun _ q => XS.aloadN X3.here hx rfl (hb hby d6_26) rfl rfl q) ?_
          show Go _ _ _ _ _ _ _ (T3.setTop (mkF m 27 #[.val (.ref b), .val (.int (3 : Int32)), .val (.ref d), .val (.int (3 : Int32)), .val (.int (4 : Int32)), .val (.int (3 : Int32)), .val (.int (gb 3))] [(.ref d)]))
          refine Go.of (fun _ q => XS.iloadN X3.here hx rfl (hb hby d6_27) rfl q) ?_
          refine Go.of (fun _ q => XS.iload X3.here hx rfl (hb hby d6_28) rfl q) ?_
          refine Go.of (fun _ q => XS.i2b X3.here hx rfl (hb hby d6_30) rfl q) ?_
          show Go _ _ _ _ _ _ _ (T3.setTop (mkF m 31 #[.val (.ref b), .val (.int (3 : Int32)), .val (.ref d), .val (.int (3 : Int32)), .val (.int (4 : Int32)), .val (.int (3 : Int32)), .val (.int (gb 3))] [(.int ((gb 3).toInt8.toInt32)), (.int (3 : Int32)), (.ref d)]))
          obtain ⟨T4, h4, X4, e4, W4, A4', st4⟩ := AF.bastore A_d X3 hx hZ e3 (i := 3) ⟨rfl, by decide, by decide⟩ (g := (mkF m 31 #[.val (.ref b), .val (.int (3 : Int32)), .val (.ref d), .val (.int (3 : Int32)), .val (.int (4 : Int32)), .val (.int (3 : Int32)), .val (.int (gb 3))] [(.int ((gb 3).toInt8.toInt32)), (.int (3 : Int32)), (.ref d)])) rfl rfl (hb hby d6_31)
          refine Go.of st4 ?_
          have Zs := Nat.le_trans Zs (Nat.le_of_eq W4.size.symm)
          have Kp := Kp.wr W4 (Or.inl (List.mem_of_getElem? (i := 0) rfl))
          have A_b := A_b.other W4 ne_b_d
          have A_d : AF Z h4 d kd .byte 4 (fun i => .int ((upI (upI (upI (upI gd 0 (((gb 0).toInt8.toInt32).toInt8.toInt32)) 1 (((gb 1).toInt8.toInt32).toInt8.toInt32)) 2 (((gb 2).toInt8.toInt32).toInt8.toInt32)) 3 (((gb 3).toInt8.toInt32).toInt8.toInt32)) i)) := A4'.toI
          have N4 := Fr.snoc X4 N3 g_d
          refine Go.of (fun _ q => XS.iinc X4.here hx rfl (hb hby d6_32) rfl (l' := #[.val (.ref b), .val (.int (4 : Int32)), .val (.ref d), .val (.int (3 : Int32)), .val (.int (4 : Int32)), .val (.int (3 : Int32)), .val (.int (gb 3))]) rfl q) ?_
          refine Go.of (fun _ q => XS.iinc X4.here hx rfl (hb hby d6_35) rfl (l' := #[.val (.ref b), .val (.int (4 : Int32)), .val (.ref d), .val (.int (4 : Int32)), .val (.int (4 : Int32)), .val (.int (3 : Int32)), .val (.int (gb 3))]) rfl q) ?_
          show Go _ _ _ _ _ _ _ (T4.setTop (mkF m 38 #[.val (.ref b), .val (.int (4 : Int32)), .val (.ref d), .val (.int (4 : Int32)), .val (.int (4 : Int32)), .val (.int (3 : Int32)), .val (.int (gb 3))] []))
          refine Go.of (fun _ q => XS.iinc X4.here hx rfl (hb hby d6_38) rfl (l' := #[.val (.ref b), .val (.int (4 : Int32)), .val (.ref d), .val (.int (4 : Int32)), .val (.int (4 : Int32)), .val (.int (4 : Int32)), .val (.int (gb 3))]) rfl q) ?_
          refine Go.of (fun _ q => XS.goto X4.here hx rfl (pc0 := 41) (pc' := 3) rfl (hb hby d6_41) (by decide) (by decide) q) ?_
          refine Go.of (fun _ q => XS.iload X4.here hx rfl (hb hby d6_3) rfl q) ?_
          show Go _ _ _ _ _ _ _ (T4.setTop (mkF m 5 #[.val (.ref b), .val (.int (4 : Int32)), .val (.ref d), .val (.int (4 : Int32)), .val (.int (4 : Int32)), .val (.int (4 : Int32)), .val (.int (gb 3))] [(.int (4 : Int32))]))
          refine Go.of (fun _ q => XS.iload X4.here hx rfl (hb hby d6_5) rfl q) ?_
          refine Go.of (fun _ q => XS.icmpYes X4.here hx rfl (pc0 := 7) (pc' := 44) rfl (hb hby d6_7) rfl (flt (by decide)).2.1 (by decide) (by decide) q) ?_
          refine Go.of (fun _ q => XS.iload X4.here hx rfl (hb hby d6_44) rfl q) ?_
          show Go _ _ _ _ _ _ _ (T4.setTop (mkF m 46 #[.val (.ref b), .val (.int (4 : Int32)), .val (.ref d), .val (.int (4 : Int32)), .val (.int (4 : Int32)), .val (.int (4 : Int32)), .val (.int (gb 3))] [(.int (4 : Int32))]))
          refine Go.retI X4 hx hlk hret (hb hby d6_46) (by decide) (by decide) ?_
          rw [e4]
          exact ⟨4, rfl, N4, Kp, (by decide), (fun i hi => by rcases (show i = 0 ∨ i = 1 ∨ i = 2 ∨ i = 3 by omega) with rfl | rfl | rfl | rfl <;> assumption), (fun q => absurd q (by decide)), (fun _ => AF.cast A_d (fun i hi => by rcases (show i = 0 ∨ i = 1 ∨ i = 2 ∨ i = 3 by omega) with rfl | rfl | rfl | rfl <;> simp [upI, own_by]))⟩
theorem ef_5_4 (m : MethodId) (b : Addr) : entryFrame m #[(.ref b), (.int (0 : Int32)), (.int (4 : Int32))] 6 = mkF m 0 #[.val (.ref b), .val (.int (0 : Int32)), .val (.int (4 : Int32)), .unset, .unset, .unset] [] := by first | (simp [entryFrame, mkF, argsToLocals, Value.category]; done) | rfl
def Q5_4 (Z : State) (b : Addr) (kb : ClassId) (gb : Nat → Int32) (h0 : Heap) (n0 : Nat) (v : Option Value) (h : Heap) (L : List Loc) : Prop := ∃ d : Addr, v = some (.ref d) ∧ Fr n0 L ∧ Keep h0 h [] ∧ h0.size ≤ d ∧ (own_B Z h d 4 gb)
set_option maxRecDepth 65536 in
set_option maxHeartbeats 40000000 in
theorem rm5_4 (l : Launch) (Z : State) (a0 : Array Value) (hw : ∀ d ∈ tables_1, d.before a0 Z = true) (b : Addr) (kb : ClassId) (gb : Nat → Int32) (h0 : Heap) (n0 : Nat) (Zs : n0 ≤ h0.size) (Od : Old Z n0 h0) (A_b : AF Z h0 b kb .char 4 (fun i => .int (gb i))) (hcc : ∀ i, i < 4 → own_cc (gb i) = gb i) (Sad : Sta Z Z.heap "java/lang/StringUTF16" "$assertionsDisabled" "Z" (.int (1 : Int32))) (Shi : Sta Z Z.heap "java/lang/StringUTF16" "HI_BYTE_SHIFT" "I" (.int (0 : Int32))) (Slo : Sta Z Z.heap "java/lang/StringUTF16" "LO_BYTE_SHIFT" "I" (.int (8 : Int32))) :
    Con l Z (⟨"java/lang/StringUTF16", "compress", "([CII)[B"⟩ : MethodName) jdk_52_method_16_code 6 (some (.array .byte)) ({ frames := 3, cells := 2, slots := 12, locals := 40 } : Room) #[(.ref b), (.int (0 : Int32)), (.int (4 : Int32))] h0 (Q5_4 Z b kb gb h0 n0) := by
  refine Con.intro (plainFor_of_name pn3) (fun m => ef_5_4 m b) ?_
  intro p e s m below meth c s₁ hx hby hml0 hZ hown hnm hret hlk X0 e0
  have hml : c.maxLocals = 6 := hml0
  have N0 := Fr.nil n0
  have Kp : Keep h0 h0 [] := Keep.refl h0 _
  show Go _ _ _ _ _ _ _ (s₁.setTop (mkF m 0 #[.val (.ref b), .val (.int (0 : Int32)), .val (.int (4 : Int32)), .unset, .unset, .unset] []))
  refine Go.of (fun _ q => XS.iloadN X0.here hx rfl (hb hby d5_0) rfl q) ?_
  obtain ⟨T1, h1, k1, X1, e1, E1, A1, B1, st1⟩ := newPE X0 hx hZ (hw _ (List.mem_of_getElem? (i := 20) rfl)) e0 (g := (mkF m 1 #[.val (.ref b), .val (.int (0 : Int32)), .val (.int (4 : Int32)), .unset, .unset, .unset] [(.int (4 : Int32))])) rfl (hb hby d5_1) rfl (by decide) (cap := 4) (by decide) (by decide) (by decide) (by decide) (ad := "[B") (by decide)
  obtain ⟨d0, g1⟩ : ∃ z, z = h0.size := ⟨_, rfl⟩
  rw [← g1] at A1 B1 st1
  refine Go.of st1 ?_
  have g_d0 : n0 ≤ d0 := Nat.le_trans Zs (Nat.le_of_eq g1.symm)
  have sz_d0 : h0.size ≤ d0 := Nat.le_trans Kp.1 (Nat.le_of_eq g1.symm)
  have ne_b_d0 : b ≠ d0 := Nat.ne_of_lt (Nat.lt_of_lt_of_le A_b.lt (Nat.le_of_eq g1.symm))
  have Zs := Nat.le_trans Zs E1.1
  have Kp := Kp.ext E1
  have Od := Od.ext E1
  have A_b := A_b.ext E1
  have E_d0 := B1
  have A_d0 : AF Z h1 d0 k1 .byte 4 (fun i => .int ((fun _ => (0 : Int32)) i)) := AF.new A1 (by decide) rfl rfl
  refine Go.of (fun _ q => XS.astoreN X1.here hx rfl (hb hby d5_3) rfl rfl (l' := #[.val (.ref b), .val (.int (0 : Int32)), .val (.int (4 : Int32)), .val (.ref d0), .unset, .unset]) rfl q) ?_
  show Go _ _ _ _ _ _ _ (T1.setTop (mkF m 4 #[.val (.ref b), .val (.int (0 : Int32)), .val (.int (4 : Int32)), .val (.ref d0), .unset, .unset] []))
  refine Go.of (fun _ q => XS.aloadN X1.here hx rfl (hb hby d5_4) rfl rfl q) ?_
  refine Go.of (fun _ q => XS.iloadN X1.here hx rfl (hb hby d5_5) rfl q) ?_
  refine Go.of (fun _ q => XS.aloadN X1.here hx rfl (hb hby d5_6) rfl rfl q) ?_
  show Go _ _ _ _ _ _ _ (T1.setTop (mkF m 7 #[.val (.ref b), .val (.int (0 : Int32)), .val (.int (4 : Int32)), .val (.ref d0), .unset, .unset] [(.ref d0), (.int (0 : Int32)), (.ref b)]))
  refine Go.of (fun _ q => XS.iconst X1.here hx rfl (hb hby d5_7) q) ?_
  refine Go.of (fun _ q => XS.iloadN X1.here hx rfl (hb hby d5_8) rfl q) ?_
  refine Go.static X1 hx hZ (y := (⟨"java/lang/StringUTF16", "compress", "([CI[BII)I"⟩ : MethodName)) (argsL := [(.ref b), (.int (0 : Int32)), (.ref d0), (.int (0 : Int32)), (.int (4 : Int32))]) hown (hw _ (List.mem_of_getElem? (i := 32) rfl)) (hw _ (List.mem_of_getElem? (i := 33) rfl)) (hw _ (List.mem_of_getElem? (i := 30) rfl)) (hw _ (List.mem_of_getElem? (i := 34) rfl)) (by decide) 0 e1 (rm6_4 l Z a0 hw b d0 kb gb k1 (fun _ => (0 : Int32)) h1 n0 Zs A_b A_d0 ne_b_d0 g_d0) (by decide) (by decide) (by decide) (by decide) (g := (mkF m 9 #[.val (.ref b), .val (.int (0 : Int32)), .val (.int (4 : Int32)), .val (.ref d0), .unset, .unset] [(.int (4 : Int32)), (.int (0 : Int32)), (.ref d0), (.int (0 : Int32)), (.ref b)])) rfl (by rw [hml]; rfl) (rest := []) (lenOf pd12 rfl) rfl (by show 2 * 0 + _ ≤ _; exact Nat.le_of_eq rfl) (hb hby d5_9) ?_
  intro T2 v2 L2 X2 q2
  obtain ⟨k, rfl, Nq2, K2, f2_0, f2_1, f2_2, f2_3⟩ := q2
  have N2 := Fr.app N0 Nq2
  have Zs := Nat.le_trans Zs K2.1
  have Kp := Kp.trans K2 (allS (P := fun x => x ∈ [] ∨ h0.size ≤ x) (Or.inr sz_d0) all0)
  have Od := Od.keep K2 (allS (P := fun x => n0 ≤ x) g_d0 all0)
  have A_b := A_b.keep K2 (ninS ne_b_d0 nin0)
  have E_d0 := E_d0.keep K2
  have hkn_2 := f2_0
  have hl_2 := f2_1
  have hy_2 := f2_2
  have hA_2 := f2_3
  show Go _ _ _ _ _ _ _ (T2.setTop (mkF m 12 #[.val (.ref b), .val (.int (0 : Int32)), .val (.int (4 : Int32)), .val (.ref d0), .unset, .unset] [(.int (Int32.ofNat k))]))
  refine Go.of (fun _ q => XS.istore X2.here hx rfl (hb hby d5_12) rfl (l' := #[.val (.ref b), .val (.int (0 : Int32)), .val (.int (4 : Int32)), .val (.ref d0), .val (.int (Int32.ofNat k)), .unset]) rfl q) ?_
  refine Go.of (fun _ q => XS.iload X2.here hx rfl (hb hby d5_14) rfl q) ?_
  refine Go.of (fun _ q => XS.iloadN X2.here hx rfl (hb hby d5_16) rfl q) ?_
  show Go _ _ _ _ _ _ _ (T2.setTop (mkF m 17 #[.val (.ref b), .val (.int (0 : Int32)), .val (.int (4 : Int32)), .val (.ref d0), .val (.int (Int32.ofNat k)), .unset] [(.int (4 : Int32)), (.int (Int32.ofNat k))]))
  by_cases c17 : (Int32.ofNat k) = (4 : Int32)
  · refine Go.of (fun _ q => XS.icmpYes X2.here hx rfl (pc0 := 17) (pc' := 57) rfl (hb hby d5_17) rfl (teq c17).1 (by decide) (by decide) q) ?_
    refine Go.of (fun _ q => XS.aloadN X2.here hx rfl (hb hby d5_57) rfl rfl q) ?_
    refine Go.retA X2 hx hlk hret rfl rfl (hb hby d5_58) (by decide) (by decide) ?_
    exact ⟨d0, rfl, N2, Kp, sz_d0, (show own_B Z _ d0 4 gb from ⟨_, Or.inl ⟨hA_2 ((own_kn (by decide) hkn_2).mp c17), (own_kn (by decide) hkn_2).mp c17 ▸ hl_2⟩⟩)⟩
  · refine Go.of (fun _ q => XS.icmpNo X2.here hx rfl (hb hby d5_17) rfl (feq c17).1 q) ?_
    show Go _ _ _ _ _ _ _ (T2.setTop (mkF m 20 #[.val (.ref b), .val (.int (0 : Int32)), .val (.int (4 : Int32)), .val (.ref d0), .val (.int (Int32.ofNat k)), .unset] []))
    refine Go.of (fun _ q => XS.aloadN X2.here hx rfl (hb hby d5_20) rfl rfl q) ?_
    refine Go.of (fun _ q => XS.iloadN X2.here hx rfl (hb hby d5_21) rfl q) ?_
    refine Go.of (fun _ q => XS.iloadN X2.here hx rfl (hb hby d5_22) rfl q) ?_
    show Go _ _ _ _ _ _ _ (T2.setTop (mkF m 23 #[.val (.ref b), .val (.int (0 : Int32)), .val (.int (4 : Int32)), .val (.ref d0), .val (.int (Int32.ofNat k)), .unset] [(.int (4 : Int32)), (.int (0 : Int32)), (.ref b)]))
    refine Go.static X2 hx hZ (y := (⟨"java/lang/StringUTF16", "toBytes", "([CII)[B"⟩ : MethodName)) (argsL := [(.ref b), (.int (0 : Int32)), (.int (4 : Int32))]) hown (hw _ (List.mem_of_getElem? (i := 81) rfl)) (hw _ (List.mem_of_getElem? (i := 82) rfl)) (hw _ (List.mem_of_getElem? (i := 30) rfl)) (hw _ (List.mem_of_getElem? (i := 83) rfl)) (by decide) 0 rfl (rm17_4 l Z a0 hw b kb gb T2.heap n0 Zs Od A_b Sad Shi Slo) (by decide) (by decide) (by decide) (by decide) (g := (mkF m 23 #[.val (.ref b), .val (.int (0 : Int32)), .val (.int (4 : Int32)), .val (.ref d0), .val (.int (Int32.ofNat k)), .unset] [(.int (4 : Int32)), (.int (0 : Int32)), (.ref b)])) rfl (by rw [hml]; rfl) (rest := []) (lenOf pd13 rfl) rfl (by show 2 * 0 + _ ≤ _; exact Nat.le_of_eq rfl) (hb hby d5_23) ?_
    intro T3 v3 L3 X3 q3
    obtain ⟨d1, kd1, rfl, Nq3, K3, f3_0, f3_1⟩ := q3
    have N3 := Fr.app N2 Nq3
    have g_d1 : n0 ≤ d1 := Nat.le_trans Zs f3_0
    have sz_d1 : h0.size ≤ d1 := Nat.le_trans Kp.1 f3_0
    have ne_b_d1 : b ≠ d1 := Nat.ne_of_lt (Nat.lt_of_lt_of_le A_b.lt f3_0)
    have ne_d0_d1 : d0 ≠ d1 := Nat.ne_of_lt (Nat.lt_of_lt_of_le E_d0.lt f3_0)
    have Zs := Nat.le_trans Zs K3.1
    have Kp := Kp.trans K3 all0
    have Od := Od.keep K3 all0
    have A_b := A_b.keep K3 nin0
    have E_d0 := E_d0.keep K3
    have A_d1 := f3_1
    refine Go.of (fun _ q => XS.astore X3.here hx rfl (hb hby d5_26) rfl rfl (l' := #[.val (.ref b), .val (.int (0 : Int32)), .val (.int (4 : Int32)), .val (.ref d0), .val (.int (Int32.ofNat k)), .val (.ref d1)]) rfl q) ?_
    refine Go.of (fun _ q => XS.aload X3.here hx rfl (hb hby d5_28) rfl rfl q) ?_
    show Go _ _ _ _ _ _ _ (T3.setTop (mkF m 30 #[.val (.ref b), .val (.int (0 : Int32)), .val (.int (4 : Int32)), .val (.ref d0), .val (.int (Int32.ofNat k)), .val (.ref d1)] [(.ref d1)]))
    refine Go.of (fun _ q => XS.iload X3.here hx rfl (hb hby d5_30) rfl q) ?_
    refine Go.static X3 hx hZ (y := (⟨"java/lang/StringUTF16", "getChar", "([BI)C"⟩ : MethodName)) (argsL := [(.ref d1), (.int (Int32.ofNat k))]) hown (hw _ (List.mem_of_getElem? (i := 97) rfl)) (hw _ (List.mem_of_getElem? (i := 98) rfl)) (hw _ (List.mem_of_getElem? (i := 30) rfl)) (hw _ (List.mem_of_getElem? (i := 99) rfl)) (by decide) 0 rfl (rm21 l Z a0 hw d1 (Int32.ofNat k) kd1 (own_u gb) 8 k T3.heap n0 Zs Od A_d1 rfl (own_kk (own_lt (n := 4) (by decide) hkn_2 c17)) (by decide) Sad Shi Slo) (by decide) (by decide) (by decide) (by decide) (g := (mkF m 32 #[.val (.ref b), .val (.int (0 : Int32)), .val (.int (4 : Int32)), .val (.ref d0), .val (.int (Int32.ofNat k)), .val (.ref d1)] [(.int (Int32.ofNat k)), (.ref d1)])) rfl (by rw [hml]; rfl) (rest := []) (lenOf pd4 rfl) rfl (by show 2 * 0 + _ ≤ _; exact Nat.le_of_eq rfl) (hb hby d5_32) ?_
    intro T4 v4 L4 X4 q4
    obtain ⟨rfl, Nq4, e4⟩ := q4
    have N4 := Fr.app N3 Nq4
    refine Go.of (fun _ q => XS.sipush X4.here hx rfl (hb hby d5_35) q) ?_
    show Go _ _ _ _ _ _ _ (T4.setTop (mkF m 38 #[.val (.ref b), .val (.int (0 : Int32)), .val (.int (4 : Int32)), .val (.ref d0), .val (.int (Int32.ofNat k)), .val (.ref d1)] [(.int (255 : Int32)), (.int (own_gc ((own_u gb) (2 * k)) ((own_u gb) (2 * k + 1))))]))
    refine Go.of (fun _ q => XS.icmpYes X4.here hx rfl (pc0 := 38) (pc' := 54) rfl (hb hby d5_38) rfl (tlt (own_gt2 (hcc k (own_lt (n := 4) (by decide) hkn_2 c17)) (hy_2 (own_lt (n := 4) (by decide) hkn_2 c17)))).2.2.1 (by decide) (by decide) q) ?_
    refine Go.of (fun _ q => XS.aload X4.here hx rfl (hb hby d5_54) rfl rfl q) ?_
    refine Go.retA X4 hx hlk hret rfl rfl (hb hby d5_56) (by decide) (by decide) ?_
    rw [e4]
    exact ⟨d1, rfl, N4, Kp, sz_d1, ⟨_, Or.inr A_d1⟩⟩
theorem ef_7_4L (m : MethodId) (d : Addr) : entryFrame m #[(.ref d), (.int (4 : Int32))] 2 = mkF m 0 #[.val (.ref d), .val (.int (4 : Int32))] [] := by first | (simp [entryFrame, mkF, argsToLocals, Value.category]; done) | rfl
def Q7_4L (Z : State) (d : Addr) (kd : ClassId) (gd : Nat → Int32) (h0 : Heap) (n0 : Nat) (v : Option Value) (h : Heap) (L : List Loc) : Prop := v = some (.int (0 : Int32)) ∧ Fr n0 L ∧ h = h0
set_option maxRecDepth 65536 in
set_option maxHeartbeats 40000000 in
theorem rm7_4L (l : Launch) (Z : State) (a0 : Array Value) (hw : ∀ d ∈ tables_1, d.before a0 Z = true) (d : Addr) (kd : ClassId) (gd : Nat → Int32) (h0 : Heap) (n0 : Nat) (Zs : n0 ≤ h0.size) (A_d : AF Z h0 d kd .byte 4 (fun i => .int (gd i))) :
    Con l Z (⟨"java/lang/StringUTF16", "coderFromArrayLen", "([BI)B"⟩ : MethodName) jdk_52_method_15_code 2 (some .byte) ({ frames := 0, cells := 0, slots := 0, locals := 0 } : Room) #[(.ref d), (.int (4 : Int32))] h0 (Q7_4L Z d kd gd h0 n0) := by
  refine Con.intro (plainFor_of_name pn3) (fun m => ef_7_4L m d) ?_
  intro p e s m below meth c s₁ hx hby hml0 hZ hown hnm hret hlk X0 e0
  have hml : c.maxLocals = 2 := hml0
  have N0 := Fr.nil n0
  have Kp : Keep h0 h0 [] := Keep.refl h0 _
  show Go _ _ _ _ _ _ _ (s₁.setTop (mkF m 0 #[.val (.ref d), .val (.int (4 : Int32))] []))
  refine Go.of (fun _ q => XS.iloadN X0.here hx rfl (hb hby d7_0) rfl q) ?_
  refine Go.of (fun _ q => XS.aloadN X0.here hx rfl (hb hby d7_1) rfl rfl q) ?_
  refine Go.of (fun _ q => AF.length A_d X0 hx hZ e0 rfl (g := (mkF m 2 #[.val (.ref d), .val (.int (4 : Int32))] [(.ref d), (.int (4 : Int32))])) rfl rfl (hb hby d7_2) q) ?_
  show Go _ _ _ _ _ _ _ (s₁.setTop (mkF m 3 #[.val (.ref d), .val (.int (4 : Int32))] [(.int (4 : Int32)), (.int (4 : Int32))]))
  refine Go.of (fun _ q => XS.isub X0.here hx rfl (hb hby d7_3) rfl q) ?_
  refine Go.of (fun _ q => XS.bipush X0.here hx rfl (hb hby d7_4) q) ?_
  refine Go.of (fun _ q => XS.iushr X0.here hx rfl (hb hby d7_6) rfl q) ?_
  show Go _ _ _ _ _ _ _ (s₁.setTop (mkF m 7 #[.val (.ref d), .val (.int (4 : Int32))] [(.int (0 : Int32))]))
  refine Go.of (fun _ q => XS.i2b X0.here hx rfl (hb hby d7_7) rfl q) ?_
  refine Go.retN X0 hx hlk (t := .byte) hret (by simp) (hb hby d7_8) rfl (by decide) (by decide) ?_
  rw [e0]
  exact ⟨rfl, N0, rfl⟩
theorem ef_7_4U (m : MethodId) (d : Addr) : entryFrame m #[(.ref d), (.int (4 : Int32))] 2 = mkF m 0 #[.val (.ref d), .val (.int (4 : Int32))] [] := by first | (simp [entryFrame, mkF, argsToLocals, Value.category]; done) | rfl
def Q7_4U (Z : State) (d : Addr) (kd : ClassId) (gd : Nat → Int32) (h0 : Heap) (n0 : Nat) (v : Option Value) (h : Heap) (L : List Loc) : Prop := v = some (.int (1 : Int32)) ∧ Fr n0 L ∧ h = h0
set_option maxRecDepth 65536 in
set_option maxHeartbeats 40000000 in
theorem rm7_4U (l : Launch) (Z : State) (a0 : Array Value) (hw : ∀ d ∈ tables_1, d.before a0 Z = true) (d : Addr) (kd : ClassId) (gd : Nat → Int32) (h0 : Heap) (n0 : Nat) (Zs : n0 ≤ h0.size) (A_d : AF Z h0 d kd .byte 8 (fun i => .int (gd i))) :
    Con l Z (⟨"java/lang/StringUTF16", "coderFromArrayLen", "([BI)B"⟩ : MethodName) jdk_52_method_15_code 2 (some .byte) ({ frames := 0, cells := 0, slots := 0, locals := 0 } : Room) #[(.ref d), (.int (4 : Int32))] h0 (Q7_4U Z d kd gd h0 n0) := by
  refine Con.intro (plainFor_of_name pn3) (fun m => ef_7_4U m d) ?_
  intro p e s m below meth c s₁ hx hby hml0 hZ hown hnm hret hlk X0 e0
  have hml : c.maxLocals = 2 := hml0
  have N0 := Fr.nil n0
  have Kp : Keep h0 h0 [] := Keep.refl h0 _
  show Go _ _ _ _ _ _ _ (s₁.setTop (mkF m 0 #[.val (.ref d), .val (.int (4 : Int32))] []))
  refine Go.of (fun _ q => XS.iloadN X0.here hx rfl (hb hby d7_0) rfl q) ?_
  refine Go.of (fun _ q => XS.aloadN X0.here hx rfl (hb hby d7_1) rfl rfl q) ?_
  refine Go.of (fun _ q => AF.length A_d X0 hx hZ e0 rfl (g := (mkF m 2 #[.val (.ref d), .val (.int (4 : Int32))] [(.ref d), (.int (4 : Int32))])) rfl rfl (hb hby d7_2) q) ?_
  show Go _ _ _ _ _ _ _ (s₁.setTop (mkF m 3 #[.val (.ref d), .val (.int (4 : Int32))] [(.int (8 : Int32)), (.int (4 : Int32))]))
  refine Go.of (fun _ q => XS.isub X0.here hx rfl (hb hby d7_3) rfl q) ?_
  refine Go.of (fun _ q => XS.bipush X0.here hx rfl (hb hby d7_4) q) ?_
  refine Go.of (fun _ q => XS.iushr X0.here hx rfl (hb hby d7_6) rfl q) ?_
  show Go _ _ _ _ _ _ _ (s₁.setTop (mkF m 7 #[.val (.ref d), .val (.int (4 : Int32))] [(.int (1 : Int32))]))
  refine Go.of (fun _ q => XS.i2b X0.here hx rfl (hb hby d7_7) rfl q) ?_
  refine Go.retN X0 hx hlk (t := .byte) hret (by simp) (hb hby d7_8) rfl (by decide) (by decide) ?_
  rw [e0]
  exact ⟨rfl, N0, rfl⟩
theorem ef_3_4 (m : MethodId) (a : Addr) (b : Addr) : entryFrame m #[(.ref a), (.ref b), (.int (0 : Int32)), (.int (4 : Int32)), .null] 6 = mkF m 0 #[.val (.ref a), .val (.ref b), .val (.int (0 : Int32)), .val (.int (4 : Int32)), .val .null, .unset] [] := by first | (simp [entryFrame, mkF, argsToLocals, Value.category]; done) | rfl
def Q3_4 (Z : State) (a : Addr) (b : Addr) (kb : ClassId) (gb : Nat → Int32) (u1 : Value) (u2 : Int32) (cs : Int32) (h0 : Heap) (n0 : Nat) (v : Option Value) (h : Heap) (L : List Loc) : Prop := v = none ∧ Fr n0 L ∧ Keep h0 h [a] ∧ Exa Z h a "java/lang/String" ∧ own_St Z h a 4 gb
set_option maxRecDepth 65536 in
set_option maxHeartbeats 40000000 in
theorem rm3_4 (l : Launch) (Z : State) (a0 : Array Value) (hw : ∀ d ∈ tables_1, d.before a0 Z = true) (a : Addr) (b : Addr) (kb : ClassId) (gb : Nat → Int32) (u1 : Value) (u2 : Int32) (cs : Int32) (h0 : Heap) (n0 : Nat) (Zs : n0 ≤ h0.size) (Od : Old Z n0 h0) (E_a : Exa Z h0 a "java/lang/String") (F_a_value : Fld Z h0 a "java/lang/String" "value" "[B" u1) (F_a_coder : Fld Z h0 a "java/lang/String" "coder" "B" (.int u2)) (g_a : n0 ≤ a) (A_b : AF Z h0 b kb .char 4 (fun i => .int (gb i))) (ne_b_a : b ≠ a) (hcc : ∀ i, i < 4 → own_cc (gb i) = gb i) (Scs : Sta Z Z.heap "java/lang/String" "COMPACT_STRINGS" "Z" (.int cs)) (hcs : ¬ cs = (0 : Int32)) (Sad : Sta Z Z.heap "java/lang/StringUTF16" "$assertionsDisabled" "Z" (.int (1 : Int32))) (Shi : Sta Z Z.heap "java/lang/StringUTF16" "HI_BYTE_SHIFT" "I" (.int (0 : Int32))) (Slo : Sta Z Z.heap "java/lang/StringUTF16" "LO_BYTE_SHIFT" "I" (.int (8 : Int32))) :
    Con l Z (⟨"java/lang/String", "<init>", "([CIILjava/lang/Void;)V"⟩ : MethodName) jdk_42_method_149_code 6 none ({ frames := 4, cells := 2, slots := 12, locals := 57 } : Room) #[(.ref a), (.ref b), (.int (0 : Int32)), (.int (4 : Int32)), .null] h0 (Q3_4 Z a b kb gb u1 u2 cs h0 n0) := by
  refine Con.intro (plainFor_of_name pn1) (fun m => ef_3_4 m a b) ?_
  intro p e s m below meth c s₁ hx hby hml0 hZ hown hnm hret hlk X0 e0
  have hml : c.maxLocals = 6 := hml0
  have N0 := Fr.nil n0
  have Kp : Keep h0 h0 [a] := Keep.refl h0 _
  show Go _ _ _ _ _ _ _ (s₁.setTop (mkF m 0 #[.val (.ref a), .val (.ref b), .val (.int (0 : Int32)), .val (.int (4 : Int32)), .val .null, .unset] []))
  refine Go.of (fun _ q => XS.aloadN X0.here hx rfl (hb hby d3_0) rfl rfl q) ?_
  obtain ⟨T1, X1, e1, st1⟩ := initO X0 hx hZ hown (hw _ (List.mem_of_getElem? (i := 16) rfl)) (hw _ (List.mem_of_getElem? (i := 17) rfl)) (hw _ (List.mem_of_getElem? (i := 18) rfl)) e0 (g := (mkF m 1 #[.val (.ref a), .val (.ref b), .val (.int (0 : Int32)), .val (.int (4 : Int32)), .val .null, .unset] [(.ref a)])) rfl (by rw [hml]; rfl) rfl (hb hby d3_1) (by decide) (W := 0) (by show 2 * 0 + _ ≤ _; exact Nat.le_of_eq rfl) (by decide)
  refine Go.of st1 ?_
  refine Go.of (fun _ q => XS.iloadN X1.here hx rfl (hb hby d3_4) rfl q) ?_
  show Go _ _ _ _ _ _ _ (T1.setTop (mkF m 5 #[.val (.ref a), .val (.ref b), .val (.int (0 : Int32)), .val (.int (4 : Int32)), .val .null, .unset] [(.int (4 : Int32))]))
  refine Go.of (fun _ q => XS.ifYes X1.here hx rfl (pc0 := 5) (pc' := 27) rfl (hb hby d3_5) rfl ((if0 _ _).trans (feq (by decide)).2) (by decide) (by decide) q) ?_
  obtain ⟨T2, X2, e2, st2⟩ := getS2 X1 hx hZ hown (host := "") (Or.inl (hw _ (List.mem_of_getElem? (i := 27) rfl))) Via.refl e1 (Sta.ext Od.2 Scs) (g := (mkF m 27 #[.val (.ref a), .val (.ref b), .val (.int (0 : Int32)), .val (.int (4 : Int32)), .val .null, .unset] [])) rfl (hb hby d3_27)
  refine Go.of st2 ?_
  refine Go.of (fun _ q => XS.ifNo X2.here hx rfl (hb hby d3_30) rfl ((if0 _ _).trans (feq hcs).1) q) ?_
  show Go _ _ _ _ _ _ _ (T2.setTop (mkF m 33 #[.val (.ref a), .val (.ref b), .val (.int (0 : Int32)), .val (.int (4 : Int32)), .val .null, .unset] []))
  refine Go.of (fun _ q => XS.aloadN X2.here hx rfl (hb hby d3_33) rfl rfl q) ?_
  refine Go.of (fun _ q => XS.iloadN X2.here hx rfl (hb hby d3_34) rfl q) ?_
  refine Go.of (fun _ q => XS.iloadN X2.here hx rfl (hb hby d3_35) rfl q) ?_
  show Go _ _ _ _ _ _ _ (T2.setTop (mkF m 36 #[.val (.ref a), .val (.ref b), .val (.int (0 : Int32)), .val (.int (4 : Int32)), .val .null, .unset] [(.int (4 : Int32)), (.int (0 : Int32)), (.ref b)]))
  refine Go.static X2 hx hZ (y := (⟨"java/lang/StringUTF16", "compress", "([CII)[B"⟩ : MethodName)) (argsL := [(.ref b), (.int (0 : Int32)), (.int (4 : Int32))]) hown (hw _ (List.mem_of_getElem? (i := 28) rfl)) (hw _ (List.mem_of_getElem? (i := 29) rfl)) (hw _ (List.mem_of_getElem? (i := 30) rfl)) (hw _ (List.mem_of_getElem? (i := 31) rfl)) (by decide) 0 e2 (rm5_4 l Z a0 hw b kb gb h0 n0 Zs Od A_b hcc Sad Shi Slo) (by decide) (by decide) (by decide) (by decide) (g := (mkF m 36 #[.val (.ref a), .val (.ref b), .val (.int (0 : Int32)), .val (.int (4 : Int32)), .val .null, .unset] [(.int (4 : Int32)), (.int (0 : Int32)), (.ref b)])) rfl (by rw [hml]; rfl) (rest := []) (lenOf pd13 rfl) rfl (by show 2 * 0 + _ ≤ _; exact Nat.le_of_eq rfl) (hb hby d3_36) ?_
  intro T3 v3 L3 X3 q3
  obtain ⟨d, rfl, Nq3, K3, f3_0, f3_1⟩ := q3
  have N3 := Fr.app N0 Nq3
  have g_d : n0 ≤ d := Nat.le_trans Zs f3_0
  have sz_d : h0.size ≤ d := Nat.le_trans Kp.1 f3_0
  have ne_a_d : a ≠ d := Nat.ne_of_lt (Nat.lt_of_lt_of_le E_a.lt f3_0)
  have ne_b_d : b ≠ d := Nat.ne_of_lt (Nat.lt_of_lt_of_le A_b.lt f3_0)
  have Zs := Nat.le_trans Zs K3.1
  have Kp := Kp.trans K3 all0
  have Od := Od.keep K3 all0
  have E_a := E_a.keep K3
  have F_a_value := F_a_value.keep K3 nin0
  have F_a_coder := F_a_coder.keep K3 nin0
  have A_b := A_b.keep K3 nin0
  have hd_3 := f3_1
  show Go _ _ _ _ _ _ _ (T3.setTop (mkF m 39 #[.val (.ref a), .val (.ref b), .val (.int (0 : Int32)), .val (.int (4 : Int32)), .val .null, .unset] [(.ref d)]))
  obtain ⟨kd, ⟨A_d0, hl⟩ | A_d0⟩ := hd_3
  · have A_d : AF Z T3.heap d kd .byte 4 (fun i => .int ((fun i => own_by (gb i)) i)) := A_d0
    have ne_d_a : d ≠ a := Ne.symm ne_a_d
    refine Go.of (fun _ q => XS.astore X3.here hx rfl (hb hby d3_39) rfl rfl (l' := #[.val (.ref a), .val (.ref b), .val (.int (0 : Int32)), .val (.int (4 : Int32)), .val .null, .val (.ref d)]) rfl q) ?_
    refine Go.of (fun _ q => XS.aloadN X3.here hx rfl (hb hby d3_41) rfl rfl q) ?_
    show Go _ _ _ _ _ _ _ (T3.setTop (mkF m 42 #[.val (.ref a), .val (.ref b), .val (.int (0 : Int32)), .val (.int (4 : Int32)), .val .null, .val (.ref d)] [(.ref a)]))
    refine Go.of (fun _ q => XS.aload X3.here hx rfl (hb hby d3_42) rfl rfl q) ?_
    refine Go.of (fun _ q => XS.iloadN X3.here hx rfl (hb hby d3_44) rfl q) ?_
    refine Go.static X3 hx hZ (y := (⟨"java/lang/StringUTF16", "coderFromArrayLen", "([BI)B"⟩ : MethodName)) (argsL := [(.ref d), (.int (4 : Int32))]) hown (hw _ (List.mem_of_getElem? (i := 35) rfl)) (hw _ (List.mem_of_getElem? (i := 36) rfl)) (hw _ (List.mem_of_getElem? (i := 30) rfl)) (hw _ (List.mem_of_getElem? (i := 37) rfl)) (by decide) 1 rfl (rm7_4L l Z a0 hw d kd (fun i => own_by (gb i)) T3.heap n0 Zs A_d) (by decide) (by decide) (by decide) (by decide) (g := (mkF m 45 #[.val (.ref a), .val (.ref b), .val (.int (0 : Int32)), .val (.int (4 : Int32)), .val .null, .val (.ref d)] [(.int (4 : Int32)), (.ref d), (.ref a)])) rfl (by rw [hml]; rfl) (rest := [(.ref a)]) (lenOf pd14 rfl) rfl (by show 2 * 0 + _ ≤ _; exact Nat.le_of_eq rfl) (hb hby d3_45) ?_
    intro T4 v4 L4 X4 q4
    obtain ⟨rfl, Nq4, e4⟩ := q4
    have N4 := Fr.app N3 Nq4
    show Go _ _ _ _ _ _ _ (T4.setTop (mkF m 48 #[.val (.ref a), .val (.ref b), .val (.int (0 : Int32)), .val (.int (4 : Int32)), .val .null, .val (.ref d)] [(.int (0 : Int32)), (.ref a)]))
    obtain ⟨T5, h5, X5, e5, W5, st5⟩ := putFN X4 hx hZ hown (hw _ (List.mem_of_getElem? (i := 26) rfl)) Via.refl e4 F_a_coder E_a (Or.inr ⟨(hw _ (List.mem_of_getElem? (i := 22) rfl)), rfl, hnm⟩) (hw _ (List.mem_of_getElem? (i := 6) rfl)) (ty := .byte) (v' := .int (0 : Int32)) (by decide) rfl rfl (g := (mkF m 48 #[.val (.ref a), .val (.ref b), .val (.int (0 : Int32)), .val (.int (4 : Int32)), .val .null, .val (.ref d)] [(.int (0 : Int32)), (.ref a)])) rfl rfl (hb hby d3_48)
    refine Go.of st5 ?_
    have Zs := Nat.le_trans Zs (Nat.le_of_eq W5.size.symm)
    have Kp := Kp.wr W5 (Or.inl (List.mem_of_getElem? (i := 0) rfl))
    have Od := Od.wr W5 g_a
    have E_a := E_a.wr W5
    have F_a_value := F_a_value.other W5 (Or.inr (slot_ne (Or.inr (hw _ (List.mem_of_getElem? (i := 21) rfl))) (Or.inr (hw _ (List.mem_of_getElem? (i := 22) rfl))) (by decide) (t := (.array .byte)) (t' := .byte) (by decide) (by decide)))
    have F_a_coder := F_a_coder.same W5
    have A_b := A_b.other W5 ne_b_a
    have A_d := A_d.other W5 ne_d_a
    have N5 := Fr.snoc X5 N4 g_a
    refine Go.of (fun _ q => XS.aloadN X5.here hx rfl (hb hby d3_51) rfl rfl q) ?_
    refine Go.of (fun _ q => XS.aload X5.here hx rfl (hb hby d3_52) rfl rfl q) ?_
    show Go _ _ _ _ _ _ _ (T5.setTop (mkF m 54 #[.val (.ref a), .val (.ref b), .val (.int (0 : Int32)), .val (.int (4 : Int32)), .val .null, .val (.ref d)] [(.ref d), (.ref a)]))
    obtain ⟨T6, h6, X6, e6, W6, st6⟩ := putF X5 hx hZ hown (host := "") (Or.inl (hw _ (List.mem_of_getElem? (i := 25) rfl))) Via.refl e5 F_a_value E_a (Or.inr ⟨(hw _ (List.mem_of_getElem? (i := 21) rfl)), rfl, hnm⟩) (hw _ (List.mem_of_getElem? (i := 6) rfl)) (ty := (.array .byte)) (by decide) rfl rfl (g := (mkF m 54 #[.val (.ref a), .val (.ref b), .val (.int (0 : Int32)), .val (.int (4 : Int32)), .val .null, .val (.ref d)] [(.ref d), (.ref a)])) rfl rfl (hb hby d3_54)
    refine Go.of st6 ?_
    have Zs := Nat.le_trans Zs (Nat.le_of_eq W6.size.symm)
    have Kp := Kp.wr W6 (Or.inl (List.mem_of_getElem? (i := 0) rfl))
    have Od := Od.wr W6 g_a
    have E_a := E_a.wr W6
    have F_a_value := F_a_value.same W6
    have F_a_coder := F_a_coder.other W6 (Or.inr (slot_ne (Or.inr (hw _ (List.mem_of_getElem? (i := 22) rfl))) (Or.inr (hw _ (List.mem_of_getElem? (i := 21) rfl))) (by decide) (t := .byte) (t' := (.array .byte)) (by decide) (by decide)))
    have A_b := A_b.other W6 ne_b_a
    have A_d := A_d.other W6 ne_d_a
    have N6 := Fr.snoc X6 N5 g_a
    refine Go.retV X6 hx hlk hret (hb hby d3_57) (by decide) (by decide) ?_
    rw [e6]
    exact ⟨rfl, N6, Kp, E_a, (own_St.mkL F_a_value F_a_coder A_d (own_hL hl hcc))⟩
  · have A_d : AF Z T3.heap d kd .byte 8 (fun i => .int ((own_u gb) i)) := A_d0
    have ne_d_a : d ≠ a := Ne.symm ne_a_d
    refine Go.of (fun _ q => XS.astore X3.here hx rfl (hb hby d3_39) rfl rfl (l' := #[.val (.ref a), .val (.ref b), .val (.int (0 : Int32)), .val (.int (4 : Int32)), .val .null, .val (.ref d)]) rfl q) ?_
    show Go _ _ _ _ _ _ _ (T3.setTop (mkF m 41 #[.val (.ref a), .val (.ref b), .val (.int (0 : Int32)), .val (.int (4 : Int32)), .val .null, .val (.ref d)] []))
    refine Go.of (fun _ q => XS.aloadN X3.here hx rfl (hb hby d3_41) rfl rfl q) ?_
    refine Go.of (fun _ q => XS.aload X3.here hx rfl (hb hby d3_42) rfl rfl q) ?_
    refine Go.of (fun _ q => XS.iloadN X3.here hx rfl (hb hby d3_44) rfl q) ?_
    show Go _ _ _ _ _ _ _ (T3.setTop (mkF m 45 #[.val (.ref a), .val (.ref b), .val (.int (0 : Int32)), .val (.int (4 : Int32)), .val .null, .val (.ref d)] [(.int (4 : Int32)), (.ref d), (.ref a)]))
    refine Go.static X3 hx hZ (y := (⟨"java/lang/StringUTF16", "coderFromArrayLen", "([BI)B"⟩ : MethodName)) (argsL := [(.ref d), (.int (4 : Int32))]) hown (hw _ (List.mem_of_getElem? (i := 35) rfl)) (hw _ (List.mem_of_getElem? (i := 36) rfl)) (hw _ (List.mem_of_getElem? (i := 30) rfl)) (hw _ (List.mem_of_getElem? (i := 37) rfl)) (by decide) 1 rfl (rm7_4U l Z a0 hw d kd (own_u gb) T3.heap n0 Zs A_d) (by decide) (by decide) (by decide) (by decide) (g := (mkF m 45 #[.val (.ref a), .val (.ref b), .val (.int (0 : Int32)), .val (.int (4 : Int32)), .val .null, .val (.ref d)] [(.int (4 : Int32)), (.ref d), (.ref a)])) rfl (by rw [hml]; rfl) (rest := [(.ref a)]) (lenOf pd14 rfl) rfl (by show 2 * 0 + _ ≤ _; exact Nat.le_of_eq rfl) (hb hby d3_45) ?_
    intro T7 v7 L7 X7 q7
    obtain ⟨rfl, Nq7, e7⟩ := q7
    have N7 := Fr.app N3 Nq7
    obtain ⟨T8, h8, X8, e8, W8, st8⟩ := putFN X7 hx hZ hown (hw _ (List.mem_of_getElem? (i := 26) rfl)) Via.refl e7 F_a_coder E_a (Or.inr ⟨(hw _ (List.mem_of_getElem? (i := 22) rfl)), rfl, hnm⟩) (hw _ (List.mem_of_getElem? (i := 6) rfl)) (ty := .byte) (v' := .int (1 : Int32)) (by decide) rfl rfl (g := (mkF m 48 #[.val (.ref a), .val (.ref b), .val (.int (0 : Int32)), .val (.int (4 : Int32)), .val .null, .val (.ref d)] [(.int (1 : Int32)), (.ref a)])) rfl rfl (hb hby d3_48)
    refine Go.of st8 ?_
    have Zs := Nat.le_trans Zs (Nat.le_of_eq W8.size.symm)
    have Kp := Kp.wr W8 (Or.inl (List.mem_of_getElem? (i := 0) rfl))
    have Od := Od.wr W8 g_a
    have E_a := E_a.wr W8
    have F_a_value := F_a_value.other W8 (Or.inr (slot_ne (Or.inr (hw _ (List.mem_of_getElem? (i := 21) rfl))) (Or.inr (hw _ (List.mem_of_getElem? (i := 22) rfl))) (by decide) (t := (.array .byte)) (t' := .byte) (by decide) (by decide)))
    have F_a_coder := F_a_coder.same W8
    have A_b := A_b.other W8 ne_b_a
    have A_d := A_d.other W8 ne_d_a
    have N8 := Fr.snoc X8 N7 g_a
    refine Go.of (fun _ q => XS.aloadN X8.here hx rfl (hb hby d3_51) rfl rfl q) ?_
    show Go _ _ _ _ _ _ _ (T8.setTop (mkF m 52 #[.val (.ref a), .val (.ref b), .val (.int (0 : Int32)), .val (.int (4 : Int32)), .val .null, .val (.ref d)] [(.ref a)]))
    refine Go.of (fun _ q => XS.aload X8.here hx rfl (hb hby d3_52) rfl rfl q) ?_
    obtain ⟨T9, h9, X9, e9, W9, st9⟩ := putF X8 hx hZ hown (host := "") (Or.inl (hw _ (List.mem_of_getElem? (i := 25) rfl))) Via.refl e8 F_a_value E_a (Or.inr ⟨(hw _ (List.mem_of_getElem? (i := 21) rfl)), rfl, hnm⟩) (hw _ (List.mem_of_getElem? (i := 6) rfl)) (ty := (.array .byte)) (by decide) rfl rfl (g := (mkF m 54 #[.val (.ref a), .val (.ref b), .val (.int (0 : Int32)), .val (.int (4 : Int32)), .val .null, .val (.ref d)] [(.ref d), (.ref a)])) rfl rfl (hb hby d3_54)
    refine Go.of st9 ?_
    have Zs := Nat.le_trans Zs (Nat.le_of_eq W9.size.symm)
    have Kp := Kp.wr W9 (Or.inl (List.mem_of_getElem? (i := 0) rfl))
    have Od := Od.wr W9 g_a
    have E_a := E_a.wr W9
    have F_a_value := F_a_value.same W9
    have F_a_coder := F_a_coder.other W9 (Or.inr (slot_ne (Or.inr (hw _ (List.mem_of_getElem? (i := 22) rfl))) (Or.inr (hw _ (List.mem_of_getElem? (i := 21) rfl))) (by decide) (t := .byte) (t' := (.array .byte)) (by decide) (by decide)))
    have A_b := A_b.other W9 ne_b_a
    have A_d := A_d.other W9 ne_d_a
    have N9 := Fr.snoc X9 N8 g_a
    refine Go.retV X9 hx hlk hret (hb hby d3_57) (by decide) (by decide) ?_
    rw [e9]
    exact ⟨rfl, N9, Kp, E_a, (own_St.mkU F_a_value F_a_coder A_d (own_hU hcc))⟩
theorem ef_2_4 (m : MethodId) (a : Addr) (b : Addr) : entryFrame m #[(.ref a), (.ref b)] 2 = mkF m 0 #[.val (.ref a), .val (.ref b)] [] := by first | (simp [entryFrame, mkF, argsToLocals, Value.category]; done) | rfl
def Q2_4 (Z : State) (a : Addr) (b : Addr) (kb : ClassId) (gb : Nat → Int32) (u1 : Value) (u2 : Int32) (cs : Int32) (h0 : Heap) (n0 : Nat) (v : Option Value) (h : Heap) (L : List Loc) : Prop := v = none ∧ Fr n0 L ∧ Keep h0 h [a] ∧ Exa Z h a "java/lang/String" ∧ own_St Z h a 4 gb
set_option maxRecDepth 65536 in
set_option maxHeartbeats 40000000 in
theorem rm2_4 (l : Launch) (Z : State) (a0 : Array Value) (hw : ∀ d ∈ tables_1, d.before a0 Z = true) (a : Addr) (b : Addr) (kb : ClassId) (gb : Nat → Int32) (u1 : Value) (u2 : Int32) (cs : Int32) (h0 : Heap) (n0 : Nat) (Zs : n0 ≤ h0.size) (Od : Old Z n0 h0) (E_a : Exa Z h0 a "java/lang/String") (F_a_value : Fld Z h0 a "java/lang/String" "value" "[B" u1) (F_a_coder : Fld Z h0 a "java/lang/String" "coder" "B" (.int u2)) (g_a : n0 ≤ a) (A_b : AF Z h0 b kb .char 4 (fun i => .int (gb i))) (ne_b_a : b ≠ a) (hcc : ∀ i, i < 4 → own_cc (gb i) = gb i) (Scs : Sta Z Z.heap "java/lang/String" "COMPACT_STRINGS" "Z" (.int cs)) (hcs : ¬ cs = (0 : Int32)) (Sad : Sta Z Z.heap "java/lang/StringUTF16" "$assertionsDisabled" "Z" (.int (1 : Int32))) (Shi : Sta Z Z.heap "java/lang/StringUTF16" "HI_BYTE_SHIFT" "I" (.int (0 : Int32))) (Slo : Sta Z Z.heap "java/lang/StringUTF16" "LO_BYTE_SHIFT" "I" (.int (8 : Int32))) :
    Con l Z (⟨"java/lang/String", "<init>", "([C)V"⟩ : MethodName) jdk_42_method_3_code 2 none ({ frames := 5, cells := 2, slots := 12, locals := 74 } : Room) #[(.ref a), (.ref b)] h0 (Q2_4 Z a b kb gb u1 u2 cs h0 n0) := by
  refine Con.intro (plainFor_of_name pn1) (fun m => ef_2_4 m a b) ?_
  intro p e s m below meth c s₁ hx hby hml0 hZ hown hnm hret hlk X0 e0
  have hml : c.maxLocals = 2 := hml0
  have N0 := Fr.nil n0
  have Kp : Keep h0 h0 [a] := Keep.refl h0 _
  show Go _ _ _ _ _ _ _ (s₁.setTop (mkF m 0 #[.val (.ref a), .val (.ref b)] []))
  refine Go.of (fun _ q => XS.aloadN X0.here hx rfl (hb hby d2_0) rfl rfl q) ?_
  refine Go.of (fun _ q => XS.aloadN X0.here hx rfl (hb hby d2_1) rfl rfl q) ?_
  refine Go.of (fun _ q => XS.iconst X0.here hx rfl (hb hby d2_2) q) ?_
  show Go _ _ _ _ _ _ _ (s₁.setTop (mkF m 3 #[.val (.ref a), .val (.ref b)] [(.int (0 : Int32)), (.ref b), (.ref a)]))
  refine Go.of (fun _ q => XS.aloadN X0.here hx rfl (hb hby d2_3) rfl rfl q) ?_
  refine Go.of (fun _ q => AF.length A_b X0 hx hZ e0 rfl (g := (mkF m 4 #[.val (.ref a), .val (.ref b)] [(.ref b), (.int (0 : Int32)), (.ref b), (.ref a)])) rfl rfl (hb hby d2_4) q) ?_
  refine Go.of (fun _ q => XS.aconstNull X0.here hx rfl (hb hby d2_5) q) ?_
  show Go _ _ _ _ _ _ _ (s₁.setTop (mkF m 6 #[.val (.ref a), .val (.ref b)] [.null, (.int (4 : Int32)), (.int (0 : Int32)), (.ref b), (.ref a)]))
  refine Go.special X0 hx hZ (y := (⟨"java/lang/String", "<init>", "([CIILjava/lang/Void;)V"⟩ : MethodName)) (a := a) (argsL := [(.ref b), (.int (0 : Int32)), (.int (4 : Int32)), .null]) rfl hown (hw _ (List.mem_of_getElem? (i := 12) rfl)) (hw _ (List.mem_of_getElem? (i := 13) rfl)) (hw _ (List.mem_of_getElem? (i := 7) rfl)) (hw _ (List.mem_of_getElem? (i := 15) rfl)) (by decide) 0 e0 (rm3_4 l Z a0 hw a b kb gb u1 u2 cs h0 n0 Zs Od E_a F_a_value F_a_coder g_a A_b ne_b_a hcc Scs hcs Sad Shi Slo) (by decide) (by decide) (by decide) (by decide) (g := (mkF m 6 #[.val (.ref a), .val (.ref b)] [.null, (.int (4 : Int32)), (.int (0 : Int32)), (.ref b), (.ref a)])) rfl (by rw [hml]; rfl) (rest := []) (lenOf pd15 rfl) rfl (by show 2 * 0 + _ ≤ _; exact Nat.le_of_eq rfl) (hb hby d2_6) ?_
  intro T1 v1 L1 X1 q1
  obtain ⟨rfl, Nq1, K1, f1_0, f1_1⟩ := q1
  have N1 := Fr.app N0 Nq1
  have Zs := Nat.le_trans Zs K1.1
  have Kp := Kp.trans K1 (allS (P := fun x => x ∈ [a] ∨ h0.size ≤ x) (Or.inl (List.mem_of_getElem? (i := 0) rfl)) all0)
  have Od := Od.keep K1 (allS (P := fun x => n0 ≤ x) g_a all0)
  have E_a := E_a.keep K1
  have A_b := A_b.keep K1 (ninS ne_b_a nin0)
  have S_a := f1_1
  refine Go.retV X1 hx hlk hret (hb hby d2_9) (by decide) (by decide) ?_
  exact ⟨rfl, N1, Kp, E_a, S_a⟩
theorem d3_8 : decode jdk_42_method_149_code 8 = .ok (.aload_n 0, 1) := by decide +kernel
theorem d3_9 : decode jdk_42_method_149_code 9 = .ok (.ldc 7, 2) := by decide +kernel
theorem d3_11 : decode jdk_42_method_149_code 11 = .ok (.getfield 9, 3) := by decide +kernel
theorem d3_14 : decode jdk_42_method_149_code 14 = .ok (.putfield 9, 3) := by decide +kernel
theorem d3_17 : decode jdk_42_method_149_code 17 = .ok (.aload_n 0, 1) := by decide +kernel
theorem d3_18 : decode jdk_42_method_149_code 18 = .ok (.ldc 7, 2) := by decide +kernel
theorem d3_20 : decode jdk_42_method_149_code 20 = .ok (.getfield 15, 3) := by decide +kernel
theorem d3_23 : decode jdk_42_method_149_code 23 = .ok (.putfield 15, 3) := by decide +kernel
theorem d3_26 : decode jdk_42_method_149_code 26 = .ok (.return_, 1) := by decide +kernel
theorem ef_3_0 (m : MethodId) (a : Addr) (b : Addr) : entryFrame m #[(.ref a), (.ref b), (.int (0 : Int32)), (.int (0 : Int32)), .null] 6 = mkF m 0 #[.val (.ref a), .val (.ref b), .val (.int (0 : Int32)), .val (.int (0 : Int32)), .val .null, .unset] [] := by first | (simp [entryFrame, mkF, argsToLocals, Value.category]; done) | rfl
def Q3_0 (Z : State) (a : Addr) (b : Addr) (kb : ClassId) (gb : Nat → Int32) (h0 : Heap) (n0 : Nat) (v : Option Value) (h : Heap) (vm : Vm) (L : List Loc) : Prop := ∃ d : Addr, ∃ kd : ClassId, ∃ gd : Nat → Int32, ∃ la : Addr, v = none ∧ Fr n0 L ∧ Keep h0 h [a] ∧ Exa Z h a "java/lang/String" ∧ Fld Z h a "java/lang/String" "value" "[B" (.ref d) ∧ Fld Z h a "java/lang/String" "coder" "B" (.int (0 : Int32)) ∧ AF Z h d kd .byte 0 (fun i => .int (gd i)) ∧ Fld Z h la "java/lang/String" "value" "[B" (.ref d) ∧ Fld Z h la "java/lang/String" "coder" "B" (.int (0 : Int32)) ∧ (Lit (Z.setVm vm) "java/lang/String" 7 la)
set_option maxRecDepth 65536 in
set_option maxHeartbeats 40000000 in
theorem rm3_0 (l : Launch) (Z : State) (a0 : Array Value) (hw : ∀ d ∈ tables_1, d.before a0 Z = true) (a : Addr) (b : Addr) (kb : ClassId) (gb : Nat → Int32) (h0 : Heap) (n0 : Nat) (Zs : n0 ≤ h0.size) (Od : Old Z n0 h0) (E_a : Exa Z h0 a "java/lang/String") (F_a_value : Fld Z h0 a "java/lang/String" "value" "[B" .null) (F_a_coder : Fld Z h0 a "java/lang/String" "coder" "B" (.int (0 : Int32))) (g_a : n0 ≤ a) (A_b : AF Z h0 b kb .char 0 (fun i => .int (gb i))) (ne_b_a : b ≠ a) (hheld : Jvm.Lit.constHeld Z "java/lang/String" 7) (hcomp : Jvm.Lit.compactW.before a0 Z = true) :
    ConW l Z (⟨"java/lang/String", "<init>", "([CIILjava/lang/Void;)V"⟩ : MethodName) jdk_42_method_149_code 6 none ({ frames := 1, cells := 2, slots := 4, locals := 12 } : Room) #[(.ref a), (.ref b), (.int (0 : Int32)), (.int (0 : Int32)), .null] h0 (fun vm => vm.interned = Z.vm.interned) (Q3_0 Z a b kb gb h0 n0) := by
  refine ConW.intro (plainFor_of_name pn1) (fun m => ef_3_0 m a b) ?_
  intro p e s m below meth c s₁ hx hby hml0 hZ hown hnm hret hlk X0 e0 hs0 hV hS
  have hk : 0 ≤ h0.size := Nat.zero_le _
  have hml : c.maxLocals = 6 := hml0
  have N0 := Fr.nil n0
  have Kp : Keep h0 h0 [a] := Keep.refl h0 _
  show GoW _ _ _ _ _ _ _ (s₁.setTop (mkF m 0 #[.val (.ref a), .val (.ref b), .val (.int (0 : Int32)), .val (.int (0 : Int32)), .val .null, .unset] []))
  refine GoW.of (fun _ q => XS.aloadN X0.here hx rfl (hb hby d3_0) rfl rfl q) ?_
  obtain ⟨T1, X1, e1, st1⟩ := initO X0 hx hZ hown (hw _ (List.mem_of_getElem? (i := 16) rfl)) (hw _ (List.mem_of_getElem? (i := 17) rfl)) (hw _ (List.mem_of_getElem? (i := 18) rfl)) e0 (g := (mkF m 1 #[.val (.ref a), .val (.ref b), .val (.int (0 : Int32)), .val (.int (0 : Int32)), .val .null, .unset] [(.ref a)])) rfl (by rw [hml]; rfl) rfl (hb hby d3_1) (by decide) (W := 0) (by show 2 * 0 + _ ≤ _; exact Nat.le_of_eq rfl) (by decide)
  refine GoW.of st1 ?_
  refine GoW.of (fun _ q => XS.iloadN X1.here hx rfl (hb hby d3_4) rfl q) ?_
  show GoW _ _ _ _ _ _ _ (T1.setTop (mkF m 5 #[.val (.ref a), .val (.ref b), .val (.int (0 : Int32)), .val (.int (0 : Int32)), .val .null, .unset] [(.int (0 : Int32))]))
  refine GoW.of (fun _ q => XS.ifNo X1.here hx rfl (hb hby d3_5) rfl ((if0 _ _).trans (teq rfl).2) q) ?_
  refine GoW.of (fun _ q => XS.aloadN X1.here hx rfl (hb hby d3_8) rfl rfl q) ?_
  obtain ⟨la2, T2, h2, k2, lb2, kb2, X2, e2, E2, hS, hk2, hZ, hown, EL2, FC2, FV2, VL2, lta2, ltb2, -, LI2, st2⟩ := ldcSVL X1 hx hZ hown (hw _ (List.mem_of_getElem? (i := 19) rfl)) (fun d hd => by simp only [Bundle.stringAtoms, Bundle.sN, List.mem_cons, List.not_mem_nil, or_false] at hd; rcases hd with rfl | rfl | rfl | rfl | rfl | rfl | rfl <;> first | exact (hw _ (List.mem_of_getElem? (i := 7) rfl)) | exact (hw _ (List.mem_of_getElem? (i := 6) rfl)) | exact (hw _ (List.mem_of_getElem? (i := 20) rfl)) | exact (hw _ (List.mem_of_getElem? (i := 21) rfl)) | exact (hw _ (List.mem_of_getElem? (i := 22) rfl)) | exact (hw _ (List.mem_of_getElem? (i := 23) rfl)) | exact (hw _ (List.mem_of_getElem? (i := 24) rfl))) e1 hS hk (Fr.nil _) (fun b cl q => by rw [hs0]; exact Od.2.2 b cl q) (⟨#[], by rw [hV]; simp, fun q hq => by simp at hq⟩ : IB Z s.vm []) (by simp) hheld hcomp (vs := []) (z := 0) ⟨by simp, rfl⟩ (by decide) rfl (g := (mkF m 9 #[.val (.ref a), .val (.ref b), .val (.int (0 : Int32)), .val (.int (0 : Int32)), .val .null, .unset] [(.ref a)])) rfl (hb hby d3_9) (n := 0) (by decide) (by decide) (by decide) (by decide)
  refine GoW.of st2 ?_
  have Zs := Nat.le_trans Zs E2.1
  have Kp := Kp.ext E2
  have hk := Nat.le_trans hk E2.1
  have Od := Od.ext E2
  have E_a := E_a.ext E2
  have F_a_value := F_a_value.ext E2
  have F_a_coder := F_a_coder.ext E2
  have A_b := A_b.ext E2
  have hk := hk2
  have E_la2 := EL2
  have F_la2_coder := FC2
  have F_la2_value := FV2
  have A_lb2 : AF Z h2 lb2 kb2 .byte 0 (fun i => .int ((fun _ => (0 : Int32)) i)) := AF.ofArv VL2 rfl (fun i hi => absurd hi (Nat.not_lt_zero _))
  have ne_la2_a : la2 ≠ a := fld_ne F_la2_value F_a_value nofun
  have ne_lb2_a : lb2 ≠ a := af0_ne A_lb2 F_a_value
  show GoW _ _ _ _ _ _ _ (T2.setTop (mkF m 11 #[.val (.ref a), .val (.ref b), .val (.int (0 : Int32)), .val (.int (0 : Int32)), .val .null, .unset] [(.ref la2), (.ref a)]))
  obtain ⟨T3, X3, e3, st3⟩ := getF X2 hx hZ hown (host := "") (Or.inl (hw _ (List.mem_of_getElem? (i := 25) rfl))) Via.refl e2 F_la2_value (g := (mkF m 11 #[.val (.ref a), .val (.ref b), .val (.int (0 : Int32)), .val (.int (0 : Int32)), .val .null, .unset] [(.ref la2), (.ref a)])) rfl rfl (hb hby d3_11)
  refine GoW.of st3 ?_
  obtain ⟨T4, h4, X4, e4, W4, st4⟩ := putF X3 hx hZ hown (host := "") (Or.inl (hw _ (List.mem_of_getElem? (i := 25) rfl))) Via.refl e3 F_a_value E_a (Or.inr ⟨(hw _ (List.mem_of_getElem? (i := 21) rfl)), rfl, hnm⟩) (hw _ (List.mem_of_getElem? (i := 6) rfl)) (ty := (.array .byte)) (by decide) rfl rfl (g := (mkF m 14 #[.val (.ref a), .val (.ref b), .val (.int (0 : Int32)), .val (.int (0 : Int32)), .val .null, .unset] [(.ref lb2), (.ref a)])) rfl rfl (hb hby d3_14)
  refine GoW.of st4 ?_
  have Zs := Nat.le_trans Zs (Nat.le_of_eq W4.size.symm)
  have Kp := Kp.wr W4 (Or.inl (List.mem_of_getElem? (i := 0) rfl))
  have hk := Nat.le_trans hk (Nat.le_of_eq W4.size.symm)
  have Od := Od.wr W4 g_a
  have E_a := E_a.wr W4
  have F_a_value := F_a_value.same W4
  have F_a_coder := F_a_coder.other W4 (Or.inr (slot_ne (Or.inr (hw _ (List.mem_of_getElem? (i := 22) rfl))) (Or.inr (hw _ (List.mem_of_getElem? (i := 21) rfl))) (by decide) (t := .byte) (t' := (.array .byte)) (by decide) (by decide)))
  have A_b := A_b.other W4 ne_b_a
  have E_la2 := E_la2.wr W4
  have F_la2_coder := F_la2_coder.other W4 (Or.inl ne_la2_a)
  have F_la2_value := F_la2_value.other W4 (Or.inl ne_la2_a)
  have A_lb2 := A_lb2.other W4 ne_lb2_a
  have N4 := Fr.snoc X4 N0 g_a
  refine GoW.of (fun _ q => XS.aloadN X4.here hx rfl (hb hby d3_17) rfl rfl q) ?_
  show GoW _ _ _ _ _ _ _ (T4.setTop (mkF m 18 #[.val (.ref a), .val (.ref b), .val (.int (0 : Int32)), .val (.int (0 : Int32)), .val .null, .unset] [(.ref a)]))
  refine GoW.of (fun _ q => ldcAgain X4 hx hZ hown (hw _ (List.mem_of_getElem? (i := 19) rfl)) LI2 (g := (mkF m 18 #[.val (.ref a), .val (.ref b), .val (.int (0 : Int32)), .val (.int (0 : Int32)), .val .null, .unset] [(.ref a)])) rfl (hb hby d3_18) _ q) ?_
  obtain ⟨T5, X5, e5, st5⟩ := getF X4 hx hZ hown (host := "") (Or.inl (hw _ (List.mem_of_getElem? (i := 26) rfl))) Via.refl e4 F_la2_coder (g := (mkF m 20 #[.val (.ref a), .val (.ref b), .val (.int (0 : Int32)), .val (.int (0 : Int32)), .val .null, .unset] [(.ref la2), (.ref a)])) rfl rfl (hb hby d3_20)
  refine GoW.of st5 ?_
  obtain ⟨T6, h6, X6, e6, W6, st6⟩ := putFN X5 hx hZ hown (hw _ (List.mem_of_getElem? (i := 26) rfl)) Via.refl e5 F_a_coder E_a (Or.inr ⟨(hw _ (List.mem_of_getElem? (i := 22) rfl)), rfl, hnm⟩) (hw _ (List.mem_of_getElem? (i := 6) rfl)) (ty := .byte) (v' := .int (0 : Int32)) (by decide) rfl rfl (g := (mkF m 23 #[.val (.ref a), .val (.ref b), .val (.int (0 : Int32)), .val (.int (0 : Int32)), .val .null, .unset] [(.int (0 : Int32)), (.ref a)])) rfl rfl (hb hby d3_23)
  refine GoW.of st6 ?_
  have Zs := Nat.le_trans Zs (Nat.le_of_eq W6.size.symm)
  have Kp := Kp.wr W6 (Or.inl (List.mem_of_getElem? (i := 0) rfl))
  have hk := Nat.le_trans hk (Nat.le_of_eq W6.size.symm)
  have Od := Od.wr W6 g_a
  have E_a := E_a.wr W6
  have F_a_value := F_a_value.other W6 (Or.inr (slot_ne (Or.inr (hw _ (List.mem_of_getElem? (i := 21) rfl))) (Or.inr (hw _ (List.mem_of_getElem? (i := 22) rfl))) (by decide) (t := (.array .byte)) (t' := .byte) (by decide) (by decide)))
  have F_a_coder := F_a_coder.same W6
  have A_b := A_b.other W6 ne_b_a
  have E_la2 := E_la2.wr W6
  have F_la2_coder := F_la2_coder.other W6 (Or.inl ne_la2_a)
  have F_la2_value := F_la2_value.other W6 (Or.inl ne_la2_a)
  have A_lb2 := A_lb2.other W6 ne_lb2_a
  have N6 := Fr.snoc X6 N4 g_a
  show GoW _ _ _ _ _ _ _ (T6.setTop (mkF m 26 #[.val (.ref a), .val (.ref b), .val (.int (0 : Int32)), .val (.int (0 : Int32)), .val .null, .unset] []))
  refine GoW.retV X6 hS (by rw [e6]; exact hk) hx hlk hret (hb hby d3_26) (by decide) (by decide) ?_
  rw [e6]
  exact ⟨lb2, kb2, (fun _ => (0 : Int32)), la2, rfl, N6, Kp, E_a, F_a_value, F_a_coder, A_lb2, F_la2_value, F_la2_coder, (litZ (Lit.stays (s := s) LI2 X6.warmed.wide))⟩
theorem ef_2_0 (m : MethodId) (a : Addr) (b : Addr) : entryFrame m #[(.ref a), (.ref b)] 2 = mkF m 0 #[.val (.ref a), .val (.ref b)] [] := by first | (simp [entryFrame, mkF, argsToLocals, Value.category]; done) | rfl
def Q2_0 (Z : State) (a : Addr) (b : Addr) (kb : ClassId) (gb : Nat → Int32) (h0 : Heap) (n0 : Nat) (v : Option Value) (h : Heap) (vm : Vm) (L : List Loc) : Prop := ∃ d : Addr, ∃ kd : ClassId, ∃ gd : Nat → Int32, ∃ la : Addr, v = none ∧ Fr n0 L ∧ Keep h0 h [a] ∧ Exa Z h a "java/lang/String" ∧ Fld Z h a "java/lang/String" "value" "[B" (.ref d) ∧ Fld Z h a "java/lang/String" "coder" "B" (.int (0 : Int32)) ∧ AF Z h d kd .byte 0 (fun i => .int (gd i)) ∧ Fld Z h la "java/lang/String" "value" "[B" (.ref d) ∧ Fld Z h la "java/lang/String" "coder" "B" (.int (0 : Int32)) ∧ (Lit (Z.setVm vm) "java/lang/String" 7 la)
set_option maxRecDepth 65536 in
set_option maxHeartbeats 40000000 in
theorem rm2_0 (l : Launch) (Z : State) (a0 : Array Value) (hw : ∀ d ∈ tables_1, d.before a0 Z = true) (a : Addr) (b : Addr) (kb : ClassId) (gb : Nat → Int32) (h0 : Heap) (n0 : Nat) (Zs : n0 ≤ h0.size) (Od : Old Z n0 h0) (E_a : Exa Z h0 a "java/lang/String") (F_a_value : Fld Z h0 a "java/lang/String" "value" "[B" .null) (F_a_coder : Fld Z h0 a "java/lang/String" "coder" "B" (.int (0 : Int32))) (g_a : n0 ≤ a) (A_b : AF Z h0 b kb .char 0 (fun i => .int (gb i))) (ne_b_a : b ≠ a) (hheld : Jvm.Lit.constHeld Z "java/lang/String" 7) (hcomp : Jvm.Lit.compactW.before a0 Z = true) :
    ConW l Z (⟨"java/lang/String", "<init>", "([C)V"⟩ : MethodName) jdk_42_method_3_code 2 none ({ frames := 2, cells := 2, slots := 4, locals := 29 } : Room) #[(.ref a), (.ref b)] h0 (fun vm => vm.interned = Z.vm.interned) (Q2_0 Z a b kb gb h0 n0) := by
  refine ConW.intro (plainFor_of_name pn1) (fun m => ef_2_0 m a b) ?_
  intro p e s m below meth c s₁ hx hby hml0 hZ hown hnm hret hlk X0 e0 hs0 hV hS
  have hk : 0 ≤ h0.size := Nat.zero_le _
  have hml : c.maxLocals = 2 := hml0
  have N0 := Fr.nil n0
  have Kp : Keep h0 h0 [a] := Keep.refl h0 _
  show GoW _ _ _ _ _ _ _ (s₁.setTop (mkF m 0 #[.val (.ref a), .val (.ref b)] []))
  refine GoW.of (fun _ q => XS.aloadN X0.here hx rfl (hb hby d2_0) rfl rfl q) ?_
  refine GoW.of (fun _ q => XS.aloadN X0.here hx rfl (hb hby d2_1) rfl rfl q) ?_
  refine GoW.of (fun _ q => XS.iconst X0.here hx rfl (hb hby d2_2) q) ?_
  show GoW _ _ _ _ _ _ _ (s₁.setTop (mkF m 3 #[.val (.ref a), .val (.ref b)] [(.int (0 : Int32)), (.ref b), (.ref a)]))
  refine GoW.of (fun _ q => XS.aloadN X0.here hx rfl (hb hby d2_3) rfl rfl q) ?_
  refine GoW.of (fun _ q => AF.length A_b X0 hx hZ e0 rfl (g := (mkF m 4 #[.val (.ref a), .val (.ref b)] [(.ref b), (.int (0 : Int32)), (.ref b), (.ref a)])) rfl rfl (hb hby d2_4) q) ?_
  refine GoW.of (fun _ q => XS.aconstNull X0.here hx rfl (hb hby d2_5) q) ?_
  show GoW _ _ _ _ _ _ _ (s₁.setTop (mkF m 6 #[.val (.ref a), .val (.ref b)] [.null, (.int (0 : Int32)), (.int (0 : Int32)), (.ref b), (.ref a)]))
  refine GoW.specialW X0 hS hk hx hZ (y := (⟨"java/lang/String", "<init>", "([CIILjava/lang/Void;)V"⟩ : MethodName)) (a := a) (argsL := [(.ref b), (.int (0 : Int32)), (.int (0 : Int32)), .null]) rfl hown (hw _ (List.mem_of_getElem? (i := 12) rfl)) (hw _ (List.mem_of_getElem? (i := 13) rfl)) (hw _ (List.mem_of_getElem? (i := 7) rfl)) (hw _ (List.mem_of_getElem? (i := 15) rfl)) (by decide) 0 e0 (fun vm₁ hW => hW.interned_eq.trans hV) (rm3_0 l Z a0 hw a b kb gb h0 n0 Zs Od E_a F_a_value F_a_coder g_a A_b ne_b_a hheld hcomp) (by decide) (by decide) (by decide) (by decide) (g := (mkF m 6 #[.val (.ref a), .val (.ref b)] [.null, (.int (0 : Int32)), (.int (0 : Int32)), (.ref b), (.ref a)])) rfl (by rw [hml]; rfl) (rest := []) (lenOf pd15 rfl) rfl (by show 2 * 0 + _ ≤ _; exact Nat.le_of_eq rfl) (hb hby d2_6) ?_
  intro T1 v1 L1 X1 hS hZ hown q1
  obtain ⟨d, kd0, gd0, la, rfl, Nq1, K1, f1_0, f1_1, f1_2, f1_3, f1_4, f1_5, f1_6⟩ := q1
  have N1 := Fr.app N0 Nq1
  have Zs := Nat.le_trans Zs K1.1
  have Kp := Kp.trans K1 (allS (P := fun x => x ∈ [a] ∨ h0.size ≤ x) (Or.inl (List.mem_of_getElem? (i := 0) rfl)) all0)
  have hk := Nat.le_trans hk K1.1
  have Od := Od.keep K1 (allS (P := fun x => n0 ≤ x) g_a all0)
  have E_a := E_a.keep K1
  have A_b := A_b.keep K1 (ninS ne_b_a nin0)
  have hk := Nat.le_refl T1.heap.size
  have F_a_value := f1_1
  have F_a_coder := f1_2
  have A_d := f1_3
  have F_la_value := f1_4
  have F_la_coder := f1_5
  have hli_1 := f1_6
  refine GoW.retV X1 hS hk hx hlk hret (hb hby d2_9) (by decide) (by decide) ?_
  exact ⟨d, kd0, gd0, la, rfl, N1, Kp, E_a, F_a_value, F_a_coder, A_d, F_la_value, F_la_coder, (litZ (Lit.stays (s := s) (litZ hli_1) X1.warmed.wide))⟩
theorem pd16 : parseMethodDescriptor "([C)V" = some ⟨[(.array .char)], none⟩ := by decide +kernel
theorem d1_0 : decode method_2_code 0 = .ok (.iload_n 0, 1) := by decide +kernel
theorem d1_1 : decode method_2_code 1 = .ok (.ifCond .ne 14, 3) := by decide +kernel
theorem d1_4 : decode method_2_code 4 = .ok (.new 7, 3) := by decide +kernel
theorem d1_7 : decode method_2_code 7 = .ok (.dup, 1) := by decide +kernel
theorem d1_8 : decode method_2_code 8 = .ok (.iconst 0, 1) := by decide +kernel
theorem d1_9 : decode method_2_code 9 = .ok (.newarray .char, 2) := by decide +kernel
theorem d1_11 : decode method_2_code 11 = .ok (.invokespecial 9, 3) := by decide +kernel
theorem d1_14 : decode method_2_code 14 = .ok (.areturn, 1) := by decide +kernel
theorem ef_1_0 (m : MethodId) (x1 : Int32) (x2 : Int32) (x3 : Int32) (x4 : Int32) : entryFrame m #[(.int (0 : Int32)), (.int x1), (.int x2), (.int x3), (.int x4)] 5 = mkF m 0 #[.val (.int (0 : Int32)), .val (.int x1), .val (.int x2), .val (.int x3), .val (.int x4)] [] := by first | (simp [entryFrame, mkF, argsToLocals, Value.category]; done) | rfl
def Q1_0 (Z : State) (x1 : Int32) (x2 : Int32) (x3 : Int32) (x4 : Int32) (h0 : Heap) (n0 : Nat) (v : Option Value) (h : Heap) (vm : Vm) (L : List Loc) : Prop := ∃ sa : Addr, ∃ d : Addr, ∃ kd : ClassId, ∃ gd : Nat → Int32, ∃ la : Addr, v = some (.ref sa) ∧ Fr n0 L ∧ Keep h0 h [] ∧ h0.size ≤ sa ∧ Exa Z h sa "java/lang/String" ∧ own_St Z h sa 0 (own_c4 x1 x2 x3 x4) ∧ AF Z h d kd .byte 0 (fun i => .int (gd i)) ∧ Fld Z h la "java/lang/String" "value" "[B" (.ref d) ∧ Fld Z h la "java/lang/String" "coder" "B" (.int (0 : Int32)) ∧ (Lit (Z.setVm vm) "java/lang/String" 7 la)
set_option maxRecDepth 65536 in
set_option maxHeartbeats 40000000 in
theorem rm1_0 (l : Launch) (Z : State) (a0 : Array Value) (hw : ∀ d ∈ tables_1, d.before a0 Z = true) (x1 : Int32) (x2 : Int32) (x3 : Int32) (x4 : Int32) (h0 : Heap) (n0 : Nat) (Zs : n0 ≤ h0.size) (Od : Old Z n0 h0) (hheld : Jvm.Lit.constHeld Z "java/lang/String" 7) (hcomp : Jvm.Lit.compactW.before a0 Z = true) :
    ConW l Z (⟨"com/example/ddos_fee_ledger/ddosfeeledger/IndexRunHashPinLaw", "make", "(ICCCC)Ljava/lang/String;"⟩ : MethodName) method_2_code 5 (some (.object "java/lang/String")) ({ frames := 3, cells := 4, slots := 8, locals := 43 } : Room) #[(.int (0 : Int32)), (.int x1), (.int x2), (.int x3), (.int x4)] h0 (fun vm => vm.interned = Z.vm.interned) (Q1_0 Z x1 x2 x3 x4 h0 n0) := by
  refine ConW.intro (plainFor_of_name pn5) (fun m => ef_1_0 m x1 x2 x3 x4) ?_
  intro p e s m below meth c s₁ hx hby hml0 hZ hown hnm hret hlk X0 e0 hs0 hV hS
  have hk : 0 ≤ h0.size := Nat.zero_le _
  have hml : c.maxLocals = 5 := hml0
  have N0 := Fr.nil n0
  have Kp : Keep h0 h0 [] := Keep.refl h0 _
  show GoW _ _ _ _ _ _ _ (s₁.setTop (mkF m 0 #[.val (.int (0 : Int32)), .val (.int x1), .val (.int x2), .val (.int x3), .val (.int x4)] []))
  refine GoW.of (fun _ q => XS.iloadN X0.here hx rfl (hb hby d1_0) rfl q) ?_
  refine GoW.of (fun _ q => XS.ifNo X0.here hx rfl (hb hby d1_1) rfl ((if0 _ _).trans (teq rfl).2) q) ?_
  obtain ⟨T1, h1, X1, e1, E1, A1, D1, -, st1⟩ := newO X0 hx hZ hown (hw _ (List.mem_of_getElem? (i := 5) rfl)) (hw _ (List.mem_of_getElem? (i := 6) rfl)) (hw _ (List.mem_of_getElem? (i := 7) rfl)) e0 (g := (mkF m 4 #[.val (.int (0 : Int32)), .val (.int x1), .val (.int x2), .val (.int x3), .val (.int x4)] [])) rfl (hb hby d1_4) (by decide) (by decide)
  obtain ⟨sa, g1⟩ : ∃ z, z = h0.size := ⟨_, rfl⟩
  rw [← g1] at A1 D1 st1
  refine GoW.of st1 ?_
  have g_sa : n0 ≤ sa := Nat.le_trans Zs (Nat.le_of_eq g1.symm)
  have sz_sa : h0.size ≤ sa := Nat.le_trans Kp.1 (Nat.le_of_eq g1.symm)
  have Zs := Nat.le_trans Zs E1.1
  have Kp := Kp.ext E1
  have hk := Nat.le_trans hk E1.1
  have Od := Od.ext E1
  have E_sa := A1
  have F_sa_value : Fld Z h1 sa "java/lang/String" "value" "[B" .null := D1 (Or.inr (hw _ (List.mem_of_getElem? (i := 21) rfl))) (ty := (.array .byte)) (by decide)
  have F_sa_coder : Fld Z h1 sa "java/lang/String" "coder" "B" (.int (0 : Int32)) := D1 (Or.inr (hw _ (List.mem_of_getElem? (i := 22) rfl))) (ty := .byte) (by decide)
  show GoW _ _ _ _ _ _ _ (T1.setTop (mkF m 7 #[.val (.int (0 : Int32)), .val (.int x1), .val (.int x2), .val (.int x3), .val (.int x4)] [(.ref sa)]))
  refine GoW.of (fun _ q => XS.dup X1.here hx rfl (hb hby d1_7) rfl rfl q) ?_
  refine GoW.of (fun _ q => XS.iconst X1.here hx rfl (hb hby d1_8) q) ?_
  obtain ⟨T2, h2, k2, X2, e2, E2, A2, B2, st2⟩ := newPE X1 hx hZ (hw _ (List.mem_of_getElem? (i := 8) rfl)) e1 (g := (mkF m 9 #[.val (.int (0 : Int32)), .val (.int x1), .val (.int x2), .val (.int x3), .val (.int x4)] [(.int (0 : Int32)), (.ref sa), (.ref sa)])) rfl (hb hby d1_9) rfl (by decide) (cap := 0) (by decide) (by decide) (by decide) (by decide) (ad := "[C") (by decide)
  obtain ⟨b, g2⟩ : ∃ z, z = h1.size := ⟨_, rfl⟩
  rw [← g2] at A2 B2 st2
  refine GoW.of st2 ?_
  have g_b : n0 ≤ b := Nat.le_trans Zs (Nat.le_of_eq g2.symm)
  have sz_b : h0.size ≤ b := Nat.le_trans Kp.1 (Nat.le_of_eq g2.symm)
  have ne_sa_b : sa ≠ b := Nat.ne_of_lt (Nat.lt_of_lt_of_le E_sa.lt (Nat.le_of_eq g2.symm))
  have Zs := Nat.le_trans Zs E2.1
  have Kp := Kp.ext E2
  have hk := Nat.le_trans hk E2.1
  have Od := Od.ext E2
  have E_sa := E_sa.ext E2
  have F_sa_value := F_sa_value.ext E2
  have F_sa_coder := F_sa_coder.ext E2
  have E_b := B2
  have A_b : AF Z h2 b k2 .char 0 (fun i => .int ((fun _ => (0 : Int32)) i)) := AF.new A2 (by decide) rfl rfl
  show GoW _ _ _ _ _ _ _ (T2.setTop (mkF m 11 #[.val (.int (0 : Int32)), .val (.int x1), .val (.int x2), .val (.int x3), .val (.int x4)] [(.ref b), (.ref sa), (.ref sa)]))
  refine GoW.specialW X2 hS hk hx hZ (y := (⟨"java/lang/String", "<init>", "([C)V"⟩ : MethodName)) (a := sa) (argsL := [(.ref b)]) rfl hown (hw _ (List.mem_of_getElem? (i := 9) rfl)) (hw _ (List.mem_of_getElem? (i := 10) rfl)) (hw _ (List.mem_of_getElem? (i := 7) rfl)) (hw _ (List.mem_of_getElem? (i := 11) rfl)) (by decide) 1 e2 (fun vm₁ hW => hW.interned_eq.trans hV) (rm2_0 l Z a0 hw sa b k2 (fun _ => (0 : Int32)) h2 n0 Zs Od E_sa F_sa_value F_sa_coder g_sa A_b (Ne.symm ne_sa_b) hheld hcomp) (by decide) (by decide) (by decide) (by decide) (g := (mkF m 11 #[.val (.int (0 : Int32)), .val (.int x1), .val (.int x2), .val (.int x3), .val (.int x4)] [(.ref b), (.ref sa), (.ref sa)])) rfl (by rw [hml]; rfl) (rest := [(.ref sa)]) (lenOf pd16 rfl) rfl (by show 2 * 0 + _ ≤ _; exact Nat.le_of_eq rfl) (hb hby d1_11) ?_
  intro T3 v3 L3 X3 hS hZ hown q3
  obtain ⟨d, kd0, gd0, la, rfl, Nq3, K3, f3_0, f3_1, f3_2, f3_3, f3_4, f3_5, f3_6⟩ := q3
  have N3 := Fr.app N0 Nq3
  have Zs := Nat.le_trans Zs K3.1
  have Kp := Kp.trans K3 (allS (P := fun x => x ∈ [] ∨ h0.size ≤ x) (Or.inr sz_sa) all0)
  have hk := Nat.le_trans hk K3.1
  have Od := Od.keep K3 (allS (P := fun x => n0 ≤ x) g_sa all0)
  have E_sa := E_sa.keep K3
  have E_b := E_b.keep K3
  have A_b := A_b.keep K3 (ninS (Ne.symm ne_sa_b) nin0)
  have hk := Nat.le_refl T3.heap.size
  have F_sa_value := f3_1
  have F_sa_coder := f3_2
  have A_d := f3_3
  have F_la_value := f3_4
  have F_la_coder := f3_5
  have hli_3 := f3_6
  refine GoW.retA X3 hS hk hx hlk hret rfl rfl (hb hby d1_14) (by decide) (by decide) ?_
  exact ⟨sa, d, kd0, gd0, la, rfl, N3, Kp, sz_sa, E_sa, (own_St.mkL F_sa_value F_sa_coder A_d (fun i hi => absurd hi (Nat.not_lt_zero _))), A_d, F_la_value, F_la_coder, (litZ (Lit.stays (s := s) (litZ hli_3) X3.warmed.wide))⟩
theorem ef_3_0b (m : MethodId) (a : Addr) (b : Addr) : entryFrame m #[(.ref a), (.ref b), (.int (0 : Int32)), (.int (0 : Int32)), .null] 6 = mkF m 0 #[.val (.ref a), .val (.ref b), .val (.int (0 : Int32)), .val (.int (0 : Int32)), .val .null, .unset] [] := by first | (simp [entryFrame, mkF, argsToLocals, Value.category]; done) | rfl
def Q3_0b (Z : State) (a : Addr) (b : Addr) (kb : ClassId) (gb : Nat → Int32) (la : Addr) (lb : Addr) (kl : ClassId) (gl : Nat → Int32) (h0 : Heap) (n0 : Nat) (v : Option Value) (h : Heap) (vm : Vm) (L : List Loc) : Prop := v = none ∧ Fr n0 L ∧ Keep h0 h [a] ∧ Exa Z h a "java/lang/String" ∧ Fld Z h a "java/lang/String" "value" "[B" (.ref lb) ∧ Fld Z h a "java/lang/String" "coder" "B" (.int (0 : Int32))
set_option maxRecDepth 65536 in
set_option maxHeartbeats 40000000 in
theorem rm3_0b (l : Launch) (Z : State) (a0 : Array Value) (hw : ∀ d ∈ tables_1, d.before a0 Z = true) (a : Addr) (b : Addr) (kb : ClassId) (gb : Nat → Int32) (la : Addr) (lb : Addr) (kl : ClassId) (gl : Nat → Int32) (h0 : Heap) (n0 : Nat) (Zs : n0 ≤ h0.size) (Od : Old Z n0 h0) (E_a : Exa Z h0 a "java/lang/String") (F_a_value : Fld Z h0 a "java/lang/String" "value" "[B" .null) (F_a_coder : Fld Z h0 a "java/lang/String" "coder" "B" (.int (0 : Int32))) (g_a : n0 ≤ a) (A_b : AF Z h0 b kb .char 0 (fun i => .int (gb i))) (ne_b_a : b ≠ a) (F_la_value : Fld Z h0 la "java/lang/String" "value" "[B" (.ref lb)) (F_la_coder : Fld Z h0 la "java/lang/String" "coder" "B" (.int (0 : Int32))) (A_lb : AF Z h0 lb kl .byte 0 (fun i => .int (gl i))) (ne_la_a : la ≠ a) (ne_lb_a : lb ≠ a) :
    ConW l Z (⟨"java/lang/String", "<init>", "([CIILjava/lang/Void;)V"⟩ : MethodName) jdk_42_method_149_code 6 none ({ frames := 1, cells := 0, slots := 0, locals := 12 } : Room) #[(.ref a), (.ref b), (.int (0 : Int32)), (.int (0 : Int32)), .null] h0 (fun vm => Lit (Z.setVm vm) "java/lang/String" 7 la) (Q3_0b Z a b kb gb la lb kl gl h0 n0) := by
  refine ConW.intro (plainFor_of_name pn1) (fun m => ef_3_0b m a b) ?_
  intro p e s m below meth c s₁ hx hby hml0 hZ hown hnm hret hlk X0 e0 hs0 hV hS
  have hk : 0 ≤ h0.size := Nat.zero_le _
  have hml : c.maxLocals = 6 := hml0
  have N0 := Fr.nil n0
  have Kp : Keep h0 h0 [a] := Keep.refl h0 _
  show GoW _ _ _ _ _ _ _ (s₁.setTop (mkF m 0 #[.val (.ref a), .val (.ref b), .val (.int (0 : Int32)), .val (.int (0 : Int32)), .val .null, .unset] []))
  refine GoW.of (fun _ q => XS.aloadN X0.here hx rfl (hb hby d3_0) rfl rfl q) ?_
  obtain ⟨T1, X1, e1, st1⟩ := initO X0 hx hZ hown (hw _ (List.mem_of_getElem? (i := 16) rfl)) (hw _ (List.mem_of_getElem? (i := 17) rfl)) (hw _ (List.mem_of_getElem? (i := 18) rfl)) e0 (g := (mkF m 1 #[.val (.ref a), .val (.ref b), .val (.int (0 : Int32)), .val (.int (0 : Int32)), .val .null, .unset] [(.ref a)])) rfl (by rw [hml]; rfl) rfl (hb hby d3_1) (by decide) (W := 0) (by show 2 * 0 + _ ≤ _; exact Nat.le_of_eq rfl) (by decide)
  refine GoW.of st1 ?_
  refine GoW.of (fun _ q => XS.iloadN X1.here hx rfl (hb hby d3_4) rfl q) ?_
  show GoW _ _ _ _ _ _ _ (T1.setTop (mkF m 5 #[.val (.ref a), .val (.ref b), .val (.int (0 : Int32)), .val (.int (0 : Int32)), .val .null, .unset] [(.int (0 : Int32))]))
  refine GoW.of (fun _ q => XS.ifNo X1.here hx rfl (hb hby d3_5) rfl ((if0 _ _).trans (teq rfl).2) q) ?_
  refine GoW.of (fun _ q => XS.aloadN X1.here hx rfl (hb hby d3_8) rfl rfl q) ?_
  refine GoW.of (fun _ q => ldcAgain X1 hx hZ hown (hw _ (List.mem_of_getElem? (i := 19) rfl)) (show Lit (s.setVm s.vm) "java/lang/String" 7 la from hV) (g := (mkF m 9 #[.val (.ref a), .val (.ref b), .val (.int (0 : Int32)), .val (.int (0 : Int32)), .val .null, .unset] [(.ref a)])) rfl (hb hby d3_9) _ q) ?_
  show GoW _ _ _ _ _ _ _ (T1.setTop (mkF m 11 #[.val (.ref a), .val (.ref b), .val (.int (0 : Int32)), .val (.int (0 : Int32)), .val .null, .unset] [(.ref la), (.ref a)]))
  obtain ⟨T2, X2, e2, st2⟩ := getF X1 hx hZ hown (host := "") (Or.inl (hw _ (List.mem_of_getElem? (i := 25) rfl))) Via.refl e1 F_la_value (g := (mkF m 11 #[.val (.ref a), .val (.ref b), .val (.int (0 : Int32)), .val (.int (0 : Int32)), .val .null, .unset] [(.ref la), (.ref a)])) rfl rfl (hb hby d3_11)
  refine GoW.of st2 ?_
  obtain ⟨T3, h3, X3, e3, W3, st3⟩ := putF X2 hx hZ hown (host := "") (Or.inl (hw _ (List.mem_of_getElem? (i := 25) rfl))) Via.refl e2 F_a_value E_a (Or.inr ⟨(hw _ (List.mem_of_getElem? (i := 21) rfl)), rfl, hnm⟩) (hw _ (List.mem_of_getElem? (i := 6) rfl)) (ty := (.array .byte)) (by decide) rfl rfl (g := (mkF m 14 #[.val (.ref a), .val (.ref b), .val (.int (0 : Int32)), .val (.int (0 : Int32)), .val .null, .unset] [(.ref lb), (.ref a)])) rfl rfl (hb hby d3_14)
  refine GoW.of st3 ?_
  have Zs := Nat.le_trans Zs (Nat.le_of_eq W3.size.symm)
  have Kp := Kp.wr W3 (Or.inl (List.mem_of_getElem? (i := 0) rfl))
  have hk := Nat.le_trans hk (Nat.le_of_eq W3.size.symm)
  have Od := Od.wr W3 g_a
  have E_a := E_a.wr W3
  have F_a_value := F_a_value.same W3
  have F_a_coder := F_a_coder.other W3 (Or.inr (slot_ne (Or.inr (hw _ (List.mem_of_getElem? (i := 22) rfl))) (Or.inr (hw _ (List.mem_of_getElem? (i := 21) rfl))) (by decide) (t := .byte) (t' := (.array .byte)) (by decide) (by decide)))
  have A_b := A_b.other W3 ne_b_a
  have F_la_value := F_la_value.other W3 (Or.inl ne_la_a)
  have F_la_coder := F_la_coder.other W3 (Or.inl ne_la_a)
  have A_lb := A_lb.other W3 ne_lb_a
  have N3 := Fr.snoc X3 N0 g_a
  refine GoW.of (fun _ q => XS.aloadN X3.here hx rfl (hb hby d3_17) rfl rfl q) ?_
  show GoW _ _ _ _ _ _ _ (T3.setTop (mkF m 18 #[.val (.ref a), .val (.ref b), .val (.int (0 : Int32)), .val (.int (0 : Int32)), .val .null, .unset] [(.ref a)]))
  refine GoW.of (fun _ q => ldcAgain X3 hx hZ hown (hw _ (List.mem_of_getElem? (i := 19) rfl)) (show Lit (s.setVm s.vm) "java/lang/String" 7 la from hV) (g := (mkF m 18 #[.val (.ref a), .val (.ref b), .val (.int (0 : Int32)), .val (.int (0 : Int32)), .val .null, .unset] [(.ref a)])) rfl (hb hby d3_18) _ q) ?_
  obtain ⟨T4, X4, e4, st4⟩ := getF X3 hx hZ hown (host := "") (Or.inl (hw _ (List.mem_of_getElem? (i := 26) rfl))) Via.refl e3 F_la_coder (g := (mkF m 20 #[.val (.ref a), .val (.ref b), .val (.int (0 : Int32)), .val (.int (0 : Int32)), .val .null, .unset] [(.ref la), (.ref a)])) rfl rfl (hb hby d3_20)
  refine GoW.of st4 ?_
  obtain ⟨T5, h5, X5, e5, W5, st5⟩ := putFN X4 hx hZ hown (hw _ (List.mem_of_getElem? (i := 26) rfl)) Via.refl e4 F_a_coder E_a (Or.inr ⟨(hw _ (List.mem_of_getElem? (i := 22) rfl)), rfl, hnm⟩) (hw _ (List.mem_of_getElem? (i := 6) rfl)) (ty := .byte) (v' := .int (0 : Int32)) (by decide) rfl rfl (g := (mkF m 23 #[.val (.ref a), .val (.ref b), .val (.int (0 : Int32)), .val (.int (0 : Int32)), .val .null, .unset] [(.int (0 : Int32)), (.ref a)])) rfl rfl (hb hby d3_23)
  refine GoW.of st5 ?_
  have Zs := Nat.le_trans Zs (Nat.le_of_eq W5.size.symm)
  have Kp := Kp.wr W5 (Or.inl (List.mem_of_getElem? (i := 0) rfl))
  have hk := Nat.le_trans hk (Nat.le_of_eq W5.size.symm)
  have Od := Od.wr W5 g_a
  have E_a := E_a.wr W5
  have F_a_value := F_a_value.other W5 (Or.inr (slot_ne (Or.inr (hw _ (List.mem_of_getElem? (i := 21) rfl))) (Or.inr (hw _ (List.mem_of_getElem? (i := 22) rfl))) (by decide) (t := (.array .byte)) (t' := .byte) (by decide) (by decide)))
  have F_a_coder := F_a_coder.same W5
  have A_b := A_b.other W5 ne_b_a
  have F_la_value := F_la_value.other W5 (Or.inl ne_la_a)
  have F_la_coder := F_la_coder.other W5 (Or.inl ne_la_a)
  have A_lb := A_lb.other W5 ne_lb_a
  have N5 := Fr.snoc X5 N3 g_a
  show GoW _ _ _ _ _ _ _ (T5.setTop (mkF m 26 #[.val (.ref a), .val (.ref b), .val (.int (0 : Int32)), .val (.int (0 : Int32)), .val .null, .unset] []))
  refine GoW.retV X5 hS (by rw [e5]; exact hk) hx hlk hret (hb hby d3_26) (by decide) (by decide) ?_
  rw [e5]
  exact ⟨rfl, N5, Kp, E_a, F_a_value, F_a_coder⟩
theorem ef_2_0b (m : MethodId) (a : Addr) (b : Addr) : entryFrame m #[(.ref a), (.ref b)] 2 = mkF m 0 #[.val (.ref a), .val (.ref b)] [] := by first | (simp [entryFrame, mkF, argsToLocals, Value.category]; done) | rfl
def Q2_0b (Z : State) (a : Addr) (b : Addr) (kb : ClassId) (gb : Nat → Int32) (la : Addr) (lb : Addr) (kl : ClassId) (gl : Nat → Int32) (h0 : Heap) (n0 : Nat) (v : Option Value) (h : Heap) (vm : Vm) (L : List Loc) : Prop := v = none ∧ Fr n0 L ∧ Keep h0 h [a] ∧ Exa Z h a "java/lang/String" ∧ Fld Z h a "java/lang/String" "value" "[B" (.ref lb) ∧ Fld Z h a "java/lang/String" "coder" "B" (.int (0 : Int32))
set_option maxRecDepth 65536 in
set_option maxHeartbeats 40000000 in
theorem rm2_0b (l : Launch) (Z : State) (a0 : Array Value) (hw : ∀ d ∈ tables_1, d.before a0 Z = true) (a : Addr) (b : Addr) (kb : ClassId) (gb : Nat → Int32) (la : Addr) (lb : Addr) (kl : ClassId) (gl : Nat → Int32) (h0 : Heap) (n0 : Nat) (Zs : n0 ≤ h0.size) (Od : Old Z n0 h0) (E_a : Exa Z h0 a "java/lang/String") (F_a_value : Fld Z h0 a "java/lang/String" "value" "[B" .null) (F_a_coder : Fld Z h0 a "java/lang/String" "coder" "B" (.int (0 : Int32))) (g_a : n0 ≤ a) (A_b : AF Z h0 b kb .char 0 (fun i => .int (gb i))) (ne_b_a : b ≠ a) (F_la_value : Fld Z h0 la "java/lang/String" "value" "[B" (.ref lb)) (F_la_coder : Fld Z h0 la "java/lang/String" "coder" "B" (.int (0 : Int32))) (A_lb : AF Z h0 lb kl .byte 0 (fun i => .int (gl i))) (ne_la_a : la ≠ a) (ne_lb_a : lb ≠ a) :
    ConW l Z (⟨"java/lang/String", "<init>", "([C)V"⟩ : MethodName) jdk_42_method_3_code 2 none ({ frames := 2, cells := 0, slots := 0, locals := 29 } : Room) #[(.ref a), (.ref b)] h0 (fun vm => Lit (Z.setVm vm) "java/lang/String" 7 la) (Q2_0b Z a b kb gb la lb kl gl h0 n0) := by
  refine ConW.intro (plainFor_of_name pn1) (fun m => ef_2_0b m a b) ?_
  intro p e s m below meth c s₁ hx hby hml0 hZ hown hnm hret hlk X0 e0 hs0 hV hS
  have hk : 0 ≤ h0.size := Nat.zero_le _
  have hml : c.maxLocals = 2 := hml0
  have N0 := Fr.nil n0
  have Kp : Keep h0 h0 [a] := Keep.refl h0 _
  show GoW _ _ _ _ _ _ _ (s₁.setTop (mkF m 0 #[.val (.ref a), .val (.ref b)] []))
  refine GoW.of (fun _ q => XS.aloadN X0.here hx rfl (hb hby d2_0) rfl rfl q) ?_
  refine GoW.of (fun _ q => XS.aloadN X0.here hx rfl (hb hby d2_1) rfl rfl q) ?_
  refine GoW.of (fun _ q => XS.iconst X0.here hx rfl (hb hby d2_2) q) ?_
  show GoW _ _ _ _ _ _ _ (s₁.setTop (mkF m 3 #[.val (.ref a), .val (.ref b)] [(.int (0 : Int32)), (.ref b), (.ref a)]))
  refine GoW.of (fun _ q => XS.aloadN X0.here hx rfl (hb hby d2_3) rfl rfl q) ?_
  refine GoW.of (fun _ q => AF.length A_b X0 hx hZ e0 rfl (g := (mkF m 4 #[.val (.ref a), .val (.ref b)] [(.ref b), (.int (0 : Int32)), (.ref b), (.ref a)])) rfl rfl (hb hby d2_4) q) ?_
  refine GoW.of (fun _ q => XS.aconstNull X0.here hx rfl (hb hby d2_5) q) ?_
  show GoW _ _ _ _ _ _ _ (s₁.setTop (mkF m 6 #[.val (.ref a), .val (.ref b)] [.null, (.int (0 : Int32)), (.int (0 : Int32)), (.ref b), (.ref a)]))
  refine GoW.specialW X0 hS hk hx hZ (y := (⟨"java/lang/String", "<init>", "([CIILjava/lang/Void;)V"⟩ : MethodName)) (a := a) (argsL := [(.ref b), (.int (0 : Int32)), (.int (0 : Int32)), .null]) rfl hown (hw _ (List.mem_of_getElem? (i := 12) rfl)) (hw _ (List.mem_of_getElem? (i := 13) rfl)) (hw _ (List.mem_of_getElem? (i := 7) rfl)) (hw _ (List.mem_of_getElem? (i := 15) rfl)) (by decide) 0 e0 (fun vm₁ hW => litZ (Lit.stays (s := s) (show Lit (s.setVm s.vm) "java/lang/String" 7 la from hV) hW.wide)) (rm3_0b l Z a0 hw a b kb gb la lb kl gl h0 n0 Zs Od E_a F_a_value F_a_coder g_a A_b ne_b_a F_la_value F_la_coder A_lb ne_la_a ne_lb_a) (by decide) (by decide) (by decide) (by decide) (g := (mkF m 6 #[.val (.ref a), .val (.ref b)] [.null, (.int (0 : Int32)), (.int (0 : Int32)), (.ref b), (.ref a)])) rfl (by rw [hml]; rfl) (rest := []) (lenOf pd15 rfl) rfl (by show 2 * 0 + _ ≤ _; exact Nat.le_of_eq rfl) (hb hby d2_6) ?_
  intro T1 v1 L1 X1 hS hZ hown q1
  obtain ⟨rfl, Nq1, K1, f1_0, f1_1, f1_2⟩ := q1
  have N1 := Fr.app N0 Nq1
  have Zs := Nat.le_trans Zs K1.1
  have Kp := Kp.trans K1 (allS (P := fun x => x ∈ [a] ∨ h0.size ≤ x) (Or.inl (List.mem_of_getElem? (i := 0) rfl)) all0)
  have hk := Nat.le_trans hk K1.1
  have Od := Od.keep K1 (allS (P := fun x => n0 ≤ x) g_a all0)
  have E_a := E_a.keep K1
  have A_b := A_b.keep K1 (ninS ne_b_a nin0)
  have F_la_value := F_la_value.keep K1 (ninS ne_la_a nin0)
  have F_la_coder := F_la_coder.keep K1 (ninS ne_la_a nin0)
  have A_lb := A_lb.keep K1 (ninS ne_lb_a nin0)
  have hk := Nat.le_refl T1.heap.size
  have F_a_value := f1_1
  have F_a_coder := f1_2
  refine GoW.retV X1 hS hk hx hlk hret (hb hby d2_9) (by decide) (by decide) ?_
  exact ⟨rfl, N1, Kp, E_a, F_a_value, F_a_coder⟩
theorem ef_1_0b (m : MethodId) (x1 : Int32) (x2 : Int32) (x3 : Int32) (x4 : Int32) : entryFrame m #[(.int (0 : Int32)), (.int x1), (.int x2), (.int x3), (.int x4)] 5 = mkF m 0 #[.val (.int (0 : Int32)), .val (.int x1), .val (.int x2), .val (.int x3), .val (.int x4)] [] := by first | (simp [entryFrame, mkF, argsToLocals, Value.category]; done) | rfl
def Q1_0b (Z : State) (x1 : Int32) (x2 : Int32) (x3 : Int32) (x4 : Int32) (la : Addr) (lb : Addr) (kl : ClassId) (gl : Nat → Int32) (h0 : Heap) (n0 : Nat) (v : Option Value) (h : Heap) (vm : Vm) (L : List Loc) : Prop := ∃ sa : Addr, v = some (.ref sa) ∧ Fr n0 L ∧ Keep h0 h [] ∧ h0.size ≤ sa ∧ Exa Z h sa "java/lang/String" ∧ own_St Z h sa 0 (own_c4 x1 x2 x3 x4)
set_option maxRecDepth 65536 in
set_option maxHeartbeats 40000000 in
theorem rm1_0b (l : Launch) (Z : State) (a0 : Array Value) (hw : ∀ d ∈ tables_1, d.before a0 Z = true) (x1 : Int32) (x2 : Int32) (x3 : Int32) (x4 : Int32) (la : Addr) (lb : Addr) (kl : ClassId) (gl : Nat → Int32) (h0 : Heap) (n0 : Nat) (Zs : n0 ≤ h0.size) (Od : Old Z n0 h0) (F_la_value : Fld Z h0 la "java/lang/String" "value" "[B" (.ref lb)) (F_la_coder : Fld Z h0 la "java/lang/String" "coder" "B" (.int (0 : Int32))) (A_lb : AF Z h0 lb kl .byte 0 (fun i => .int (gl i))) :
    ConW l Z (⟨"com/example/ddos_fee_ledger/ddosfeeledger/IndexRunHashPinLaw", "make", "(ICCCC)Ljava/lang/String;"⟩ : MethodName) method_2_code 5 (some (.object "java/lang/String")) ({ frames := 3, cells := 2, slots := 4, locals := 43 } : Room) #[(.int (0 : Int32)), (.int x1), (.int x2), (.int x3), (.int x4)] h0 (fun vm => Lit (Z.setVm vm) "java/lang/String" 7 la) (Q1_0b Z x1 x2 x3 x4 la lb kl gl h0 n0) := by
  refine ConW.intro (plainFor_of_name pn5) (fun m => ef_1_0b m x1 x2 x3 x4) ?_
  intro p e s m below meth c s₁ hx hby hml0 hZ hown hnm hret hlk X0 e0 hs0 hV hS
  have hk : 0 ≤ h0.size := Nat.zero_le _
  have hml : c.maxLocals = 5 := hml0
  have N0 := Fr.nil n0
  have Kp : Keep h0 h0 [] := Keep.refl h0 _
  show GoW _ _ _ _ _ _ _ (s₁.setTop (mkF m 0 #[.val (.int (0 : Int32)), .val (.int x1), .val (.int x2), .val (.int x3), .val (.int x4)] []))
  refine GoW.of (fun _ q => XS.iloadN X0.here hx rfl (hb hby d1_0) rfl q) ?_
  refine GoW.of (fun _ q => XS.ifNo X0.here hx rfl (hb hby d1_1) rfl ((if0 _ _).trans (teq rfl).2) q) ?_
  obtain ⟨T1, h1, X1, e1, E1, A1, D1, -, st1⟩ := newO X0 hx hZ hown (hw _ (List.mem_of_getElem? (i := 5) rfl)) (hw _ (List.mem_of_getElem? (i := 6) rfl)) (hw _ (List.mem_of_getElem? (i := 7) rfl)) e0 (g := (mkF m 4 #[.val (.int (0 : Int32)), .val (.int x1), .val (.int x2), .val (.int x3), .val (.int x4)] [])) rfl (hb hby d1_4) (by decide) (by decide)
  obtain ⟨sa, g1⟩ : ∃ z, z = h0.size := ⟨_, rfl⟩
  rw [← g1] at A1 D1 st1
  refine GoW.of st1 ?_
  have g_sa : n0 ≤ sa := Nat.le_trans Zs (Nat.le_of_eq g1.symm)
  have sz_sa : h0.size ≤ sa := Nat.le_trans Kp.1 (Nat.le_of_eq g1.symm)
  have ne_la_sa : la ≠ sa := Nat.ne_of_lt (Nat.lt_of_lt_of_le F_la_value.lt (Nat.le_of_eq g1.symm))
  have ne_lb_sa : lb ≠ sa := Nat.ne_of_lt (Nat.lt_of_lt_of_le A_lb.lt (Nat.le_of_eq g1.symm))
  have Zs := Nat.le_trans Zs E1.1
  have Kp := Kp.ext E1
  have hk := Nat.le_trans hk E1.1
  have Od := Od.ext E1
  have F_la_value := F_la_value.ext E1
  have F_la_coder := F_la_coder.ext E1
  have A_lb := A_lb.ext E1
  have E_sa := A1
  have F_sa_value : Fld Z h1 sa "java/lang/String" "value" "[B" .null := D1 (Or.inr (hw _ (List.mem_of_getElem? (i := 21) rfl))) (ty := (.array .byte)) (by decide)
  have F_sa_coder : Fld Z h1 sa "java/lang/String" "coder" "B" (.int (0 : Int32)) := D1 (Or.inr (hw _ (List.mem_of_getElem? (i := 22) rfl))) (ty := .byte) (by decide)
  show GoW _ _ _ _ _ _ _ (T1.setTop (mkF m 7 #[.val (.int (0 : Int32)), .val (.int x1), .val (.int x2), .val (.int x3), .val (.int x4)] [(.ref sa)]))
  refine GoW.of (fun _ q => XS.dup X1.here hx rfl (hb hby d1_7) rfl rfl q) ?_
  refine GoW.of (fun _ q => XS.iconst X1.here hx rfl (hb hby d1_8) q) ?_
  obtain ⟨T2, h2, k2, X2, e2, E2, A2, B2, st2⟩ := newPE X1 hx hZ (hw _ (List.mem_of_getElem? (i := 8) rfl)) e1 (g := (mkF m 9 #[.val (.int (0 : Int32)), .val (.int x1), .val (.int x2), .val (.int x3), .val (.int x4)] [(.int (0 : Int32)), (.ref sa), (.ref sa)])) rfl (hb hby d1_9) rfl (by decide) (cap := 0) (by decide) (by decide) (by decide) (by decide) (ad := "[C") (by decide)
  obtain ⟨b, g2⟩ : ∃ z, z = h1.size := ⟨_, rfl⟩
  rw [← g2] at A2 B2 st2
  refine GoW.of st2 ?_
  have g_b : n0 ≤ b := Nat.le_trans Zs (Nat.le_of_eq g2.symm)
  have sz_b : h0.size ≤ b := Nat.le_trans Kp.1 (Nat.le_of_eq g2.symm)
  have ne_la_b : la ≠ b := Nat.ne_of_lt (Nat.lt_of_lt_of_le F_la_value.lt (Nat.le_of_eq g2.symm))
  have ne_lb_b : lb ≠ b := Nat.ne_of_lt (Nat.lt_of_lt_of_le A_lb.lt (Nat.le_of_eq g2.symm))
  have ne_sa_b : sa ≠ b := Nat.ne_of_lt (Nat.lt_of_lt_of_le E_sa.lt (Nat.le_of_eq g2.symm))
  have Zs := Nat.le_trans Zs E2.1
  have Kp := Kp.ext E2
  have hk := Nat.le_trans hk E2.1
  have Od := Od.ext E2
  have F_la_value := F_la_value.ext E2
  have F_la_coder := F_la_coder.ext E2
  have A_lb := A_lb.ext E2
  have E_sa := E_sa.ext E2
  have F_sa_value := F_sa_value.ext E2
  have F_sa_coder := F_sa_coder.ext E2
  have E_b := B2
  have A_b : AF Z h2 b k2 .char 0 (fun i => .int ((fun _ => (0 : Int32)) i)) := AF.new A2 (by decide) rfl rfl
  show GoW _ _ _ _ _ _ _ (T2.setTop (mkF m 11 #[.val (.int (0 : Int32)), .val (.int x1), .val (.int x2), .val (.int x3), .val (.int x4)] [(.ref b), (.ref sa), (.ref sa)]))
  refine GoW.specialW X2 hS hk hx hZ (y := (⟨"java/lang/String", "<init>", "([C)V"⟩ : MethodName)) (a := sa) (argsL := [(.ref b)]) rfl hown (hw _ (List.mem_of_getElem? (i := 9) rfl)) (hw _ (List.mem_of_getElem? (i := 10) rfl)) (hw _ (List.mem_of_getElem? (i := 7) rfl)) (hw _ (List.mem_of_getElem? (i := 11) rfl)) (by decide) 1 e2 (fun vm₁ hW => litZ (Lit.stays (s := s) (show Lit (s.setVm s.vm) "java/lang/String" 7 la from hV) hW.wide)) (rm2_0b l Z a0 hw sa b k2 (fun _ => (0 : Int32)) la lb kl gl h2 n0 Zs Od E_sa F_sa_value F_sa_coder g_sa A_b (Ne.symm ne_sa_b) F_la_value F_la_coder A_lb ne_la_sa ne_lb_sa) (by decide) (by decide) (by decide) (by decide) (g := (mkF m 11 #[.val (.int (0 : Int32)), .val (.int x1), .val (.int x2), .val (.int x3), .val (.int x4)] [(.ref b), (.ref sa), (.ref sa)])) rfl (by rw [hml]; rfl) (rest := [(.ref sa)]) (lenOf pd16 rfl) rfl (by show 2 * 0 + _ ≤ _; exact Nat.le_of_eq rfl) (hb hby d1_11) ?_
  intro T3 v3 L3 X3 hS hZ hown q3
  obtain ⟨rfl, Nq3, K3, f3_0, f3_1, f3_2⟩ := q3
  have N3 := Fr.app N0 Nq3
  have Zs := Nat.le_trans Zs K3.1
  have Kp := Kp.trans K3 (allS (P := fun x => x ∈ [] ∨ h0.size ≤ x) (Or.inr sz_sa) all0)
  have hk := Nat.le_trans hk K3.1
  have Od := Od.keep K3 (allS (P := fun x => n0 ≤ x) g_sa all0)
  have F_la_value := F_la_value.keep K3 (ninS ne_la_sa nin0)
  have F_la_coder := F_la_coder.keep K3 (ninS ne_la_sa nin0)
  have A_lb := A_lb.keep K3 (ninS ne_lb_sa nin0)
  have E_sa := E_sa.keep K3
  have E_b := E_b.keep K3
  have A_b := A_b.keep K3 (ninS (Ne.symm ne_sa_b) nin0)
  have hk := Nat.le_refl T3.heap.size
  have F_sa_value := f3_1
  have F_sa_coder := f3_2
  refine GoW.retA X3 hS hk hx hlk hret rfl rfl (hb hby d1_14) (by decide) (by decide) ?_
  exact ⟨sa, rfl, N3, Kp, sz_sa, E_sa, (own_St.mkL F_sa_value F_sa_coder A_lb (fun i hi => absurd hi (Nat.not_lt_zero _)))⟩
theorem d1_15 : decode method_2_code 15 = .ok (.iload_n 0, 1) := by decide +kernel
theorem d1_16 : decode method_2_code 16 = .ok (.iconst 1, 1) := by decide +kernel
theorem d1_17 : decode method_2_code 17 = .ok (.if_icmp .ne 18, 3) := by decide +kernel
theorem d1_20 : decode method_2_code 20 = .ok (.new 7, 3) := by decide +kernel
theorem d1_23 : decode method_2_code 23 = .ok (.dup, 1) := by decide +kernel
theorem d1_24 : decode method_2_code 24 = .ok (.iconst 1, 1) := by decide +kernel
theorem d1_25 : decode method_2_code 25 = .ok (.newarray .char, 2) := by decide +kernel
theorem d1_27 : decode method_2_code 27 = .ok (.dup, 1) := by decide +kernel
theorem d1_28 : decode method_2_code 28 = .ok (.iconst 0, 1) := by decide +kernel
theorem d1_29 : decode method_2_code 29 = .ok (.iload_n 1, 1) := by decide +kernel
theorem d1_30 : decode method_2_code 30 = .ok (.castore, 1) := by decide +kernel
theorem d1_31 : decode method_2_code 31 = .ok (.invokespecial 9, 3) := by decide +kernel
theorem d1_34 : decode method_2_code 34 = .ok (.areturn, 1) := by decide +kernel
theorem ef_1_1 (m : MethodId) (x1 : Int32) (x2 : Int32) (x3 : Int32) (x4 : Int32) : entryFrame m #[(.int (1 : Int32)), (.int x1), (.int x2), (.int x3), (.int x4)] 5 = mkF m 0 #[.val (.int (1 : Int32)), .val (.int x1), .val (.int x2), .val (.int x3), .val (.int x4)] [] := by first | (simp [entryFrame, mkF, argsToLocals, Value.category]; done) | rfl
def Q1_1 (Z : State) (x1 : Int32) (x2 : Int32) (x3 : Int32) (x4 : Int32) (cs : Int32) (h0 : Heap) (n0 : Nat) (v : Option Value) (h : Heap) (L : List Loc) : Prop := ∃ sa : Addr, v = some (.ref sa) ∧ Fr n0 L ∧ Keep h0 h [] ∧ h0.size ≤ sa ∧ Exa Z h sa "java/lang/String" ∧ own_St Z h sa 1 (own_c4 x1 x2 x3 x4)
set_option maxRecDepth 65536 in
set_option maxHeartbeats 40000000 in
theorem rm1_1 (l : Launch) (Z : State) (a0 : Array Value) (hw : ∀ d ∈ tables_1, d.before a0 Z = true) (x1 : Int32) (x2 : Int32) (x3 : Int32) (x4 : Int32) (cs : Int32) (h0 : Heap) (n0 : Nat) (Zs : n0 ≤ h0.size) (Od : Old Z n0 h0) (hcc : ∀ i, i < 4 → own_cc ((own_c4 x1 x2 x3 x4) i) = (own_c4 x1 x2 x3 x4) i) (Scs : Sta Z Z.heap "java/lang/String" "COMPACT_STRINGS" "Z" (.int cs)) (hcs : ¬ cs = (0 : Int32)) (Sad : Sta Z Z.heap "java/lang/StringUTF16" "$assertionsDisabled" "Z" (.int (1 : Int32))) (Shi : Sta Z Z.heap "java/lang/StringUTF16" "HI_BYTE_SHIFT" "I" (.int (0 : Int32))) (Slo : Sta Z Z.heap "java/lang/StringUTF16" "LO_BYTE_SHIFT" "I" (.int (8 : Int32))) :
    Con l Z (⟨"com/example/ddos_fee_ledger/ddosfeeledger/IndexRunHashPinLaw", "make", "(ICCCC)Ljava/lang/String;"⟩ : MethodName) method_2_code 5 (some (.object "java/lang/String")) ({ frames := 6, cells := 4, slots := 8, locals := 88 } : Room) #[(.int (1 : Int32)), (.int x1), (.int x2), (.int x3), (.int x4)] h0 (Q1_1 Z x1 x2 x3 x4 cs h0 n0) := by
  refine Con.intro (plainFor_of_name pn5) (fun m => ef_1_1 m x1 x2 x3 x4) ?_
  intro p e s m below meth c s₁ hx hby hml0 hZ hown hnm hret hlk X0 e0
  have hml : c.maxLocals = 5 := hml0
  have N0 := Fr.nil n0
  have Kp : Keep h0 h0 [] := Keep.refl h0 _
  show Go _ _ _ _ _ _ _ (s₁.setTop (mkF m 0 #[.val (.int (1 : Int32)), .val (.int x1), .val (.int x2), .val (.int x3), .val (.int x4)] []))
  refine Go.of (fun _ q => XS.iloadN X0.here hx rfl (hb hby d1_0) rfl q) ?_
  refine Go.of (fun _ q => XS.ifYes X0.here hx rfl (pc0 := 1) (pc' := 15) rfl (hb hby d1_1) rfl ((if0 _ _).trans (feq (by decide)).2) (by decide) (by decide) q) ?_
  refine Go.of (fun _ q => XS.iloadN X0.here hx rfl (hb hby d1_15) rfl q) ?_
  show Go _ _ _ _ _ _ _ (s₁.setTop (mkF m 16 #[.val (.int (1 : Int32)), .val (.int x1), .val (.int x2), .val (.int x3), .val (.int x4)] [(.int (1 : Int32))]))
  refine Go.of (fun _ q => XS.iconst X0.here hx rfl (hb hby d1_16) q) ?_
  refine Go.of (fun _ q => XS.icmpNo X0.here hx rfl (hb hby d1_17) rfl (teq rfl).2 q) ?_
  obtain ⟨T1, h1, X1, e1, E1, A1, D1, -, st1⟩ := newO X0 hx hZ hown (hw _ (List.mem_of_getElem? (i := 5) rfl)) (hw _ (List.mem_of_getElem? (i := 6) rfl)) (hw _ (List.mem_of_getElem? (i := 7) rfl)) e0 (g := (mkF m 20 #[.val (.int (1 : Int32)), .val (.int x1), .val (.int x2), .val (.int x3), .val (.int x4)] [])) rfl (hb hby d1_20) (by decide) (by decide)
  obtain ⟨sa, g1⟩ : ∃ z, z = h0.size := ⟨_, rfl⟩
  rw [← g1] at A1 D1 st1
  refine Go.of st1 ?_
  have g_sa : n0 ≤ sa := Nat.le_trans Zs (Nat.le_of_eq g1.symm)
  have sz_sa : h0.size ≤ sa := Nat.le_trans Kp.1 (Nat.le_of_eq g1.symm)
  have Zs := Nat.le_trans Zs E1.1
  have Kp := Kp.ext E1
  have Od := Od.ext E1
  have E_sa := A1
  have F_sa_value : Fld Z h1 sa "java/lang/String" "value" "[B" .null := D1 (Or.inr (hw _ (List.mem_of_getElem? (i := 21) rfl))) (ty := (.array .byte)) (by decide)
  have F_sa_coder : Fld Z h1 sa "java/lang/String" "coder" "B" (.int (0 : Int32)) := D1 (Or.inr (hw _ (List.mem_of_getElem? (i := 22) rfl))) (ty := .byte) (by decide)
  show Go _ _ _ _ _ _ _ (T1.setTop (mkF m 23 #[.val (.int (1 : Int32)), .val (.int x1), .val (.int x2), .val (.int x3), .val (.int x4)] [(.ref sa)]))
  refine Go.of (fun _ q => XS.dup X1.here hx rfl (hb hby d1_23) rfl rfl q) ?_
  refine Go.of (fun _ q => XS.iconst X1.here hx rfl (hb hby d1_24) q) ?_
  obtain ⟨T2, h2, k2, X2, e2, E2, A2, B2, st2⟩ := newPE X1 hx hZ (hw _ (List.mem_of_getElem? (i := 8) rfl)) e1 (g := (mkF m 25 #[.val (.int (1 : Int32)), .val (.int x1), .val (.int x2), .val (.int x3), .val (.int x4)] [(.int (1 : Int32)), (.ref sa), (.ref sa)])) rfl (hb hby d1_25) rfl (by decide) (cap := 1) (by decide) (by decide) (by decide) (by decide) (ad := "[C") (by decide)
  obtain ⟨b, g2⟩ : ∃ z, z = h1.size := ⟨_, rfl⟩
  rw [← g2] at A2 B2 st2
  refine Go.of st2 ?_
  have g_b : n0 ≤ b := Nat.le_trans Zs (Nat.le_of_eq g2.symm)
  have sz_b : h0.size ≤ b := Nat.le_trans Kp.1 (Nat.le_of_eq g2.symm)
  have ne_sa_b : sa ≠ b := Nat.ne_of_lt (Nat.lt_of_lt_of_le E_sa.lt (Nat.le_of_eq g2.symm))
  have Zs := Nat.le_trans Zs E2.1
  have Kp := Kp.ext E2
  have Od := Od.ext E2
  have E_sa := E_sa.ext E2
  have F_sa_value := F_sa_value.ext E2
  have F_sa_coder := F_sa_coder.ext E2
  have E_b := B2
  have A_b : AF Z h2 b k2 .char 1 (fun i => .int ((fun _ => (0 : Int32)) i)) := AF.new A2 (by decide) rfl rfl
  show Go _ _ _ _ _ _ _ (T2.setTop (mkF m 27 #[.val (.int (1 : Int32)), .val (.int x1), .val (.int x2), .val (.int x3), .val (.int x4)] [(.ref b), (.ref sa), (.ref sa)]))
  refine Go.of (fun _ q => XS.dup X2.here hx rfl (hb hby d1_27) rfl rfl q) ?_
  refine Go.of (fun _ q => XS.iconst X2.here hx rfl (hb hby d1_28) q) ?_
  refine Go.of (fun _ q => XS.iloadN X2.here hx rfl (hb hby d1_29) rfl q) ?_
  show Go _ _ _ _ _ _ _ (T2.setTop (mkF m 30 #[.val (.int (1 : Int32)), .val (.int x1), .val (.int x2), .val (.int x3), .val (.int x4)] [(.int x1), (.int (0 : Int32)), (.ref b), (.ref b), (.ref sa), (.ref sa)]))
  obtain ⟨T3, h3, X3, e3, W3, A3', st3⟩ := AF.castore A_b X2 hx hZ e2 (i := 0) ⟨rfl, by decide, by decide⟩ (g := (mkF m 30 #[.val (.int (1 : Int32)), .val (.int x1), .val (.int x2), .val (.int x3), .val (.int x4)] [(.int x1), (.int (0 : Int32)), (.ref b), (.ref b), (.ref sa), (.ref sa)])) rfl rfl (hb hby d1_30)
  refine Go.of st3 ?_
  have Zs := Nat.le_trans Zs (Nat.le_of_eq W3.size.symm)
  have Kp := Kp.wr W3 (Or.inr sz_b)
  have Od := Od.wr W3 g_b
  have E_sa := E_sa.wr W3
  have F_sa_value := F_sa_value.other W3 (Or.inl ne_sa_b)
  have F_sa_coder := F_sa_coder.other W3 (Or.inl ne_sa_b)
  have E_b := E_b.wr W3
  have A_b : AF Z h3 b k2 .char 1 (fun i => .int ((upI (fun _ => (0 : Int32)) 0 (x1.toUInt32.toUInt16.toUInt32.toInt32)) i)) := A3'.toI
  have N3 := Fr.snoc X3 N0 g_b
  have hgb : ∀ i, i < 1 → (upI (fun _ => (0 : Int32)) 0 (x1.toUInt32.toUInt16.toUInt32.toInt32)) i = (own_c4 x1 x2 x3 x4) i := fun i hi => by rcases (show i = 0 by omega) with rfl <;> first | exact hcc 0 (by decide)
  refine Go.special X3 hx hZ (y := (⟨"java/lang/String", "<init>", "([C)V"⟩ : MethodName)) (a := sa) (argsL := [(.ref b)]) rfl hown (hw _ (List.mem_of_getElem? (i := 9) rfl)) (hw _ (List.mem_of_getElem? (i := 10) rfl)) (hw _ (List.mem_of_getElem? (i := 7) rfl)) (hw _ (List.mem_of_getElem? (i := 11) rfl)) (by decide) 1 e3 (rm2_1 l Z a0 hw sa b k2 (upI (fun _ => (0 : Int32)) 0 (x1.toUInt32.toUInt16.toUInt32.toInt32)) .null (0 : Int32) cs h3 n0 Zs Od E_sa F_sa_value F_sa_coder g_sa A_b (Ne.symm ne_sa_b) (own_ccg (by decide) hcc hgb) Scs hcs Sad Shi Slo) (by decide) (by decide) (by decide) (by decide) (g := (mkF m 31 #[.val (.int (1 : Int32)), .val (.int x1), .val (.int x2), .val (.int x3), .val (.int x4)] [(.ref b), (.ref sa), (.ref sa)])) rfl (by rw [hml]; rfl) (rest := [(.ref sa)]) (lenOf pd16 rfl) rfl (by show 2 * 0 + _ ≤ _; exact Nat.le_of_eq rfl) (hb hby d1_31) ?_
  intro T4 v4 L4 X4 q4
  obtain ⟨rfl, Nq4, K4, f4_0, f4_1⟩ := q4
  have N4 := Fr.app N3 Nq4
  have Zs := Nat.le_trans Zs K4.1
  have Kp := Kp.trans K4 (allS (P := fun x => x ∈ [] ∨ h0.size ≤ x) (Or.inr sz_sa) all0)
  have Od := Od.keep K4 (allS (P := fun x => n0 ≤ x) g_sa all0)
  have E_sa := E_sa.keep K4
  have E_b := E_b.keep K4
  have A_b := A_b.keep K4 (ninS (Ne.symm ne_sa_b) nin0)
  have S_sa := f4_1
  refine Go.retA X4 hx hlk hret rfl rfl (hb hby d1_34) (by decide) (by decide) ?_
  exact ⟨sa, rfl, N4, Kp, sz_sa, E_sa, (own_St.cast S_sa hgb)⟩
theorem d1_35 : decode method_2_code 35 = .ok (.iload_n 0, 1) := by decide +kernel
theorem d1_36 : decode method_2_code 36 = .ok (.iconst 2, 1) := by decide +kernel
theorem d1_37 : decode method_2_code 37 = .ok (.if_icmp .ne 22, 3) := by decide +kernel
theorem d1_40 : decode method_2_code 40 = .ok (.new 7, 3) := by decide +kernel
theorem d1_43 : decode method_2_code 43 = .ok (.dup, 1) := by decide +kernel
theorem d1_44 : decode method_2_code 44 = .ok (.iconst 2, 1) := by decide +kernel
theorem d1_45 : decode method_2_code 45 = .ok (.newarray .char, 2) := by decide +kernel
theorem d1_47 : decode method_2_code 47 = .ok (.dup, 1) := by decide +kernel
theorem d1_48 : decode method_2_code 48 = .ok (.iconst 0, 1) := by decide +kernel
theorem d1_49 : decode method_2_code 49 = .ok (.iload_n 1, 1) := by decide +kernel
theorem d1_50 : decode method_2_code 50 = .ok (.castore, 1) := by decide +kernel
theorem d1_51 : decode method_2_code 51 = .ok (.dup, 1) := by decide +kernel
theorem d1_52 : decode method_2_code 52 = .ok (.iconst 1, 1) := by decide +kernel
theorem d1_53 : decode method_2_code 53 = .ok (.iload_n 2, 1) := by decide +kernel
theorem d1_54 : decode method_2_code 54 = .ok (.castore, 1) := by decide +kernel
theorem d1_55 : decode method_2_code 55 = .ok (.invokespecial 9, 3) := by decide +kernel
theorem d1_58 : decode method_2_code 58 = .ok (.areturn, 1) := by decide +kernel
theorem ef_1_2 (m : MethodId) (x1 : Int32) (x2 : Int32) (x3 : Int32) (x4 : Int32) : entryFrame m #[(.int (2 : Int32)), (.int x1), (.int x2), (.int x3), (.int x4)] 5 = mkF m 0 #[.val (.int (2 : Int32)), .val (.int x1), .val (.int x2), .val (.int x3), .val (.int x4)] [] := by first | (simp [entryFrame, mkF, argsToLocals, Value.category]; done) | rfl
def Q1_2 (Z : State) (x1 : Int32) (x2 : Int32) (x3 : Int32) (x4 : Int32) (cs : Int32) (h0 : Heap) (n0 : Nat) (v : Option Value) (h : Heap) (L : List Loc) : Prop := ∃ sa : Addr, v = some (.ref sa) ∧ Fr n0 L ∧ Keep h0 h [] ∧ h0.size ≤ sa ∧ Exa Z h sa "java/lang/String" ∧ own_St Z h sa 2 (own_c4 x1 x2 x3 x4)
set_option maxRecDepth 65536 in
set_option maxHeartbeats 40000000 in
theorem rm1_2 (l : Launch) (Z : State) (a0 : Array Value) (hw : ∀ d ∈ tables_1, d.before a0 Z = true) (x1 : Int32) (x2 : Int32) (x3 : Int32) (x4 : Int32) (cs : Int32) (h0 : Heap) (n0 : Nat) (Zs : n0 ≤ h0.size) (Od : Old Z n0 h0) (hcc : ∀ i, i < 4 → own_cc ((own_c4 x1 x2 x3 x4) i) = (own_c4 x1 x2 x3 x4) i) (Scs : Sta Z Z.heap "java/lang/String" "COMPACT_STRINGS" "Z" (.int cs)) (hcs : ¬ cs = (0 : Int32)) (Sad : Sta Z Z.heap "java/lang/StringUTF16" "$assertionsDisabled" "Z" (.int (1 : Int32))) (Shi : Sta Z Z.heap "java/lang/StringUTF16" "HI_BYTE_SHIFT" "I" (.int (0 : Int32))) (Slo : Sta Z Z.heap "java/lang/StringUTF16" "LO_BYTE_SHIFT" "I" (.int (8 : Int32))) :
    Con l Z (⟨"com/example/ddos_fee_ledger/ddosfeeledger/IndexRunHashPinLaw", "make", "(ICCCC)Ljava/lang/String;"⟩ : MethodName) method_2_code 5 (some (.object "java/lang/String")) ({ frames := 6, cells := 4, slots := 12, locals := 88 } : Room) #[(.int (2 : Int32)), (.int x1), (.int x2), (.int x3), (.int x4)] h0 (Q1_2 Z x1 x2 x3 x4 cs h0 n0) := by
  refine Con.intro (plainFor_of_name pn5) (fun m => ef_1_2 m x1 x2 x3 x4) ?_
  intro p e s m below meth c s₁ hx hby hml0 hZ hown hnm hret hlk X0 e0
  have hml : c.maxLocals = 5 := hml0
  have N0 := Fr.nil n0
  have Kp : Keep h0 h0 [] := Keep.refl h0 _
  show Go _ _ _ _ _ _ _ (s₁.setTop (mkF m 0 #[.val (.int (2 : Int32)), .val (.int x1), .val (.int x2), .val (.int x3), .val (.int x4)] []))
  refine Go.of (fun _ q => XS.iloadN X0.here hx rfl (hb hby d1_0) rfl q) ?_
  refine Go.of (fun _ q => XS.ifYes X0.here hx rfl (pc0 := 1) (pc' := 15) rfl (hb hby d1_1) rfl ((if0 _ _).trans (feq (by decide)).2) (by decide) (by decide) q) ?_
  refine Go.of (fun _ q => XS.iloadN X0.here hx rfl (hb hby d1_15) rfl q) ?_
  show Go _ _ _ _ _ _ _ (s₁.setTop (mkF m 16 #[.val (.int (2 : Int32)), .val (.int x1), .val (.int x2), .val (.int x3), .val (.int x4)] [(.int (2 : Int32))]))
  refine Go.of (fun _ q => XS.iconst X0.here hx rfl (hb hby d1_16) q) ?_
  refine Go.of (fun _ q => XS.icmpYes X0.here hx rfl (pc0 := 17) (pc' := 35) rfl (hb hby d1_17) rfl (feq (by decide)).2 (by decide) (by decide) q) ?_
  refine Go.of (fun _ q => XS.iloadN X0.here hx rfl (hb hby d1_35) rfl q) ?_
  show Go _ _ _ _ _ _ _ (s₁.setTop (mkF m 36 #[.val (.int (2 : Int32)), .val (.int x1), .val (.int x2), .val (.int x3), .val (.int x4)] [(.int (2 : Int32))]))
  refine Go.of (fun _ q => XS.iconst X0.here hx rfl (hb hby d1_36) q) ?_
  refine Go.of (fun _ q => XS.icmpNo X0.here hx rfl (hb hby d1_37) rfl (teq rfl).2 q) ?_
  obtain ⟨T1, h1, X1, e1, E1, A1, D1, -, st1⟩ := newO X0 hx hZ hown (hw _ (List.mem_of_getElem? (i := 5) rfl)) (hw _ (List.mem_of_getElem? (i := 6) rfl)) (hw _ (List.mem_of_getElem? (i := 7) rfl)) e0 (g := (mkF m 40 #[.val (.int (2 : Int32)), .val (.int x1), .val (.int x2), .val (.int x3), .val (.int x4)] [])) rfl (hb hby d1_40) (by decide) (by decide)
  obtain ⟨sa, g1⟩ : ∃ z, z = h0.size := ⟨_, rfl⟩
  rw [← g1] at A1 D1 st1
  refine Go.of st1 ?_
  have g_sa : n0 ≤ sa := Nat.le_trans Zs (Nat.le_of_eq g1.symm)
  have sz_sa : h0.size ≤ sa := Nat.le_trans Kp.1 (Nat.le_of_eq g1.symm)
  have Zs := Nat.le_trans Zs E1.1
  have Kp := Kp.ext E1
  have Od := Od.ext E1
  have E_sa := A1
  have F_sa_value : Fld Z h1 sa "java/lang/String" "value" "[B" .null := D1 (Or.inr (hw _ (List.mem_of_getElem? (i := 21) rfl))) (ty := (.array .byte)) (by decide)
  have F_sa_coder : Fld Z h1 sa "java/lang/String" "coder" "B" (.int (0 : Int32)) := D1 (Or.inr (hw _ (List.mem_of_getElem? (i := 22) rfl))) (ty := .byte) (by decide)
  show Go _ _ _ _ _ _ _ (T1.setTop (mkF m 43 #[.val (.int (2 : Int32)), .val (.int x1), .val (.int x2), .val (.int x3), .val (.int x4)] [(.ref sa)]))
  refine Go.of (fun _ q => XS.dup X1.here hx rfl (hb hby d1_43) rfl rfl q) ?_
  refine Go.of (fun _ q => XS.iconst X1.here hx rfl (hb hby d1_44) q) ?_
  obtain ⟨T2, h2, k2, X2, e2, E2, A2, B2, st2⟩ := newPE X1 hx hZ (hw _ (List.mem_of_getElem? (i := 8) rfl)) e1 (g := (mkF m 45 #[.val (.int (2 : Int32)), .val (.int x1), .val (.int x2), .val (.int x3), .val (.int x4)] [(.int (2 : Int32)), (.ref sa), (.ref sa)])) rfl (hb hby d1_45) rfl (by decide) (cap := 2) (by decide) (by decide) (by decide) (by decide) (ad := "[C") (by decide)
  obtain ⟨b, g2⟩ : ∃ z, z = h1.size := ⟨_, rfl⟩
  rw [← g2] at A2 B2 st2
  refine Go.of st2 ?_
  have g_b : n0 ≤ b := Nat.le_trans Zs (Nat.le_of_eq g2.symm)
  have sz_b : h0.size ≤ b := Nat.le_trans Kp.1 (Nat.le_of_eq g2.symm)
  have ne_sa_b : sa ≠ b := Nat.ne_of_lt (Nat.lt_of_lt_of_le E_sa.lt (Nat.le_of_eq g2.symm))
  have Zs := Nat.le_trans Zs E2.1
  have Kp := Kp.ext E2
  have Od := Od.ext E2
  have E_sa := E_sa.ext E2
  have F_sa_value := F_sa_value.ext E2
  have F_sa_coder := F_sa_coder.ext E2
  have E_b := B2
  have A_b : AF Z h2 b k2 .char 2 (fun i => .int ((fun _ => (0 : Int32)) i)) := AF.new A2 (by decide) rfl rfl
  show Go _ _ _ _ _ _ _ (T2.setTop (mkF m 47 #[.val (.int (2 : Int32)), .val (.int x1), .val (.int x2), .val (.int x3), .val (.int x4)] [(.ref b), (.ref sa), (.ref sa)]))
  refine Go.of (fun _ q => XS.dup X2.here hx rfl (hb hby d1_47) rfl rfl q) ?_
  refine Go.of (fun _ q => XS.iconst X2.here hx rfl (hb hby d1_48) q) ?_
  refine Go.of (fun _ q => XS.iloadN X2.here hx rfl (hb hby d1_49) rfl q) ?_
  show Go _ _ _ _ _ _ _ (T2.setTop (mkF m 50 #[.val (.int (2 : Int32)), .val (.int x1), .val (.int x2), .val (.int x3), .val (.int x4)] [(.int x1), (.int (0 : Int32)), (.ref b), (.ref b), (.ref sa), (.ref sa)]))
  obtain ⟨T3, h3, X3, e3, W3, A3', st3⟩ := AF.castore A_b X2 hx hZ e2 (i := 0) ⟨rfl, by decide, by decide⟩ (g := (mkF m 50 #[.val (.int (2 : Int32)), .val (.int x1), .val (.int x2), .val (.int x3), .val (.int x4)] [(.int x1), (.int (0 : Int32)), (.ref b), (.ref b), (.ref sa), (.ref sa)])) rfl rfl (hb hby d1_50)
  refine Go.of st3 ?_
  have Zs := Nat.le_trans Zs (Nat.le_of_eq W3.size.symm)
  have Kp := Kp.wr W3 (Or.inr sz_b)
  have Od := Od.wr W3 g_b
  have E_sa := E_sa.wr W3
  have F_sa_value := F_sa_value.other W3 (Or.inl ne_sa_b)
  have F_sa_coder := F_sa_coder.other W3 (Or.inl ne_sa_b)
  have E_b := E_b.wr W3
  have A_b : AF Z h3 b k2 .char 2 (fun i => .int ((upI (fun _ => (0 : Int32)) 0 (x1.toUInt32.toUInt16.toUInt32.toInt32)) i)) := A3'.toI
  have N3 := Fr.snoc X3 N0 g_b
  refine Go.of (fun _ q => XS.dup X3.here hx rfl (hb hby d1_51) rfl rfl q) ?_
  refine Go.of (fun _ q => XS.iconst X3.here hx rfl (hb hby d1_52) q) ?_
  show Go _ _ _ _ _ _ _ (T3.setTop (mkF m 53 #[.val (.int (2 : Int32)), .val (.int x1), .val (.int x2), .val (.int x3), .val (.int x4)] [(.int (1 : Int32)), (.ref b), (.ref b), (.ref sa), (.ref sa)]))
  refine Go.of (fun _ q => XS.iloadN X3.here hx rfl (hb hby d1_53) rfl q) ?_
  obtain ⟨T4, h4, X4, e4, W4, A4', st4⟩ := AF.castore A_b X3 hx hZ e3 (i := 1) ⟨rfl, by decide, by decide⟩ (g := (mkF m 54 #[.val (.int (2 : Int32)), .val (.int x1), .val (.int x2), .val (.int x3), .val (.int x4)] [(.int x2), (.int (1 : Int32)), (.ref b), (.ref b), (.ref sa), (.ref sa)])) rfl rfl (hb hby d1_54)
  refine Go.of st4 ?_
  have Zs := Nat.le_trans Zs (Nat.le_of_eq W4.size.symm)
  have Kp := Kp.wr W4 (Or.inr sz_b)
  have Od := Od.wr W4 g_b
  have E_sa := E_sa.wr W4
  have F_sa_value := F_sa_value.other W4 (Or.inl ne_sa_b)
  have F_sa_coder := F_sa_coder.other W4 (Or.inl ne_sa_b)
  have E_b := E_b.wr W4
  have A_b : AF Z h4 b k2 .char 2 (fun i => .int ((upI (upI (fun _ => (0 : Int32)) 0 (x1.toUInt32.toUInt16.toUInt32.toInt32)) 1 (x2.toUInt32.toUInt16.toUInt32.toInt32)) i)) := A4'.toI
  have N4 := Fr.snoc X4 N3 g_b
  have hgb : ∀ i, i < 2 → (upI (upI (fun _ => (0 : Int32)) 0 (x1.toUInt32.toUInt16.toUInt32.toInt32)) 1 (x2.toUInt32.toUInt16.toUInt32.toInt32)) i = (own_c4 x1 x2 x3 x4) i := fun i hi => by rcases (show i = 0 ∨ i = 1 by omega) with rfl | rfl <;> first | exact hcc 0 (by decide) | exact hcc 1 (by decide)
  refine Go.special X4 hx hZ (y := (⟨"java/lang/String", "<init>", "([C)V"⟩ : MethodName)) (a := sa) (argsL := [(.ref b)]) rfl hown (hw _ (List.mem_of_getElem? (i := 9) rfl)) (hw _ (List.mem_of_getElem? (i := 10) rfl)) (hw _ (List.mem_of_getElem? (i := 7) rfl)) (hw _ (List.mem_of_getElem? (i := 11) rfl)) (by decide) 1 e4 (rm2_2 l Z a0 hw sa b k2 (upI (upI (fun _ => (0 : Int32)) 0 (x1.toUInt32.toUInt16.toUInt32.toInt32)) 1 (x2.toUInt32.toUInt16.toUInt32.toInt32)) .null (0 : Int32) cs h4 n0 Zs Od E_sa F_sa_value F_sa_coder g_sa A_b (Ne.symm ne_sa_b) (own_ccg (by decide) hcc hgb) Scs hcs Sad Shi Slo) (by decide) (by decide) (by decide) (by decide) (g := (mkF m 55 #[.val (.int (2 : Int32)), .val (.int x1), .val (.int x2), .val (.int x3), .val (.int x4)] [(.ref b), (.ref sa), (.ref sa)])) rfl (by rw [hml]; rfl) (rest := [(.ref sa)]) (lenOf pd16 rfl) rfl (by show 2 * 0 + _ ≤ _; exact Nat.le_of_eq rfl) (hb hby d1_55) ?_
  intro T5 v5 L5 X5 q5
  obtain ⟨rfl, Nq5, K5, f5_0, f5_1⟩ := q5
  have N5 := Fr.app N4 Nq5
  have Zs := Nat.le_trans Zs K5.1
  have Kp := Kp.trans K5 (allS (P := fun x => x ∈ [] ∨ h0.size ≤ x) (Or.inr sz_sa) all0)
  have Od := Od.keep K5 (allS (P := fun x => n0 ≤ x) g_sa all0)
  have E_sa := E_sa.keep K5
  have E_b := E_b.keep K5
  have A_b := A_b.keep K5 (ninS (Ne.symm ne_sa_b) nin0)
  have S_sa := f5_1
  show Go _ _ _ _ _ _ _ (T5.setTop (mkF m 58 #[.val (.int (2 : Int32)), .val (.int x1), .val (.int x2), .val (.int x3), .val (.int x4)] [(.ref sa)]))
  refine Go.retA X5 hx hlk hret rfl rfl (hb hby d1_58) (by decide) (by decide) ?_
  exact ⟨sa, rfl, N5, Kp, sz_sa, E_sa, (own_St.cast S_sa hgb)⟩
theorem d1_59 : decode method_2_code 59 = .ok (.iload_n 0, 1) := by decide +kernel
theorem d1_60 : decode method_2_code 60 = .ok (.iconst 3, 1) := by decide +kernel
theorem d1_61 : decode method_2_code 61 = .ok (.if_icmp .ne 26, 3) := by decide +kernel
theorem d1_64 : decode method_2_code 64 = .ok (.new 7, 3) := by decide +kernel
theorem d1_67 : decode method_2_code 67 = .ok (.dup, 1) := by decide +kernel
theorem d1_68 : decode method_2_code 68 = .ok (.iconst 3, 1) := by decide +kernel
theorem d1_69 : decode method_2_code 69 = .ok (.newarray .char, 2) := by decide +kernel
theorem d1_71 : decode method_2_code 71 = .ok (.dup, 1) := by decide +kernel
theorem d1_72 : decode method_2_code 72 = .ok (.iconst 0, 1) := by decide +kernel
theorem d1_73 : decode method_2_code 73 = .ok (.iload_n 1, 1) := by decide +kernel
theorem d1_74 : decode method_2_code 74 = .ok (.castore, 1) := by decide +kernel
theorem d1_75 : decode method_2_code 75 = .ok (.dup, 1) := by decide +kernel
theorem d1_76 : decode method_2_code 76 = .ok (.iconst 1, 1) := by decide +kernel
theorem d1_77 : decode method_2_code 77 = .ok (.iload_n 2, 1) := by decide +kernel
theorem d1_78 : decode method_2_code 78 = .ok (.castore, 1) := by decide +kernel
theorem d1_79 : decode method_2_code 79 = .ok (.dup, 1) := by decide +kernel
theorem d1_80 : decode method_2_code 80 = .ok (.iconst 2, 1) := by decide +kernel
theorem d1_81 : decode method_2_code 81 = .ok (.iload_n 3, 1) := by decide +kernel
theorem d1_82 : decode method_2_code 82 = .ok (.castore, 1) := by decide +kernel
theorem d1_83 : decode method_2_code 83 = .ok (.invokespecial 9, 3) := by decide +kernel
theorem d1_86 : decode method_2_code 86 = .ok (.areturn, 1) := by decide +kernel
theorem ef_1_3 (m : MethodId) (x1 : Int32) (x2 : Int32) (x3 : Int32) (x4 : Int32) : entryFrame m #[(.int (3 : Int32)), (.int x1), (.int x2), (.int x3), (.int x4)] 5 = mkF m 0 #[.val (.int (3 : Int32)), .val (.int x1), .val (.int x2), .val (.int x3), .val (.int x4)] [] := by first | (simp [entryFrame, mkF, argsToLocals, Value.category]; done) | rfl
def Q1_3 (Z : State) (x1 : Int32) (x2 : Int32) (x3 : Int32) (x4 : Int32) (cs : Int32) (h0 : Heap) (n0 : Nat) (v : Option Value) (h : Heap) (L : List Loc) : Prop := ∃ sa : Addr, v = some (.ref sa) ∧ Fr n0 L ∧ Keep h0 h [] ∧ h0.size ≤ sa ∧ Exa Z h sa "java/lang/String" ∧ own_St Z h sa 3 (own_c4 x1 x2 x3 x4)
set_option maxRecDepth 65536 in
set_option maxHeartbeats 40000000 in
theorem rm1_3 (l : Launch) (Z : State) (a0 : Array Value) (hw : ∀ d ∈ tables_1, d.before a0 Z = true) (x1 : Int32) (x2 : Int32) (x3 : Int32) (x4 : Int32) (cs : Int32) (h0 : Heap) (n0 : Nat) (Zs : n0 ≤ h0.size) (Od : Old Z n0 h0) (hcc : ∀ i, i < 4 → own_cc ((own_c4 x1 x2 x3 x4) i) = (own_c4 x1 x2 x3 x4) i) (Scs : Sta Z Z.heap "java/lang/String" "COMPACT_STRINGS" "Z" (.int cs)) (hcs : ¬ cs = (0 : Int32)) (Sad : Sta Z Z.heap "java/lang/StringUTF16" "$assertionsDisabled" "Z" (.int (1 : Int32))) (Shi : Sta Z Z.heap "java/lang/StringUTF16" "HI_BYTE_SHIFT" "I" (.int (0 : Int32))) (Slo : Sta Z Z.heap "java/lang/StringUTF16" "LO_BYTE_SHIFT" "I" (.int (8 : Int32))) :
    Con l Z (⟨"com/example/ddos_fee_ledger/ddosfeeledger/IndexRunHashPinLaw", "make", "(ICCCC)Ljava/lang/String;"⟩ : MethodName) method_2_code 5 (some (.object "java/lang/String")) ({ frames := 6, cells := 4, slots := 16, locals := 88 } : Room) #[(.int (3 : Int32)), (.int x1), (.int x2), (.int x3), (.int x4)] h0 (Q1_3 Z x1 x2 x3 x4 cs h0 n0) := by
  refine Con.intro (plainFor_of_name pn5) (fun m => ef_1_3 m x1 x2 x3 x4) ?_
  intro p e s m below meth c s₁ hx hby hml0 hZ hown hnm hret hlk X0 e0
  have hml : c.maxLocals = 5 := hml0
  have N0 := Fr.nil n0
  have Kp : Keep h0 h0 [] := Keep.refl h0 _
  show Go _ _ _ _ _ _ _ (s₁.setTop (mkF m 0 #[.val (.int (3 : Int32)), .val (.int x1), .val (.int x2), .val (.int x3), .val (.int x4)] []))
  refine Go.of (fun _ q => XS.iloadN X0.here hx rfl (hb hby d1_0) rfl q) ?_
  refine Go.of (fun _ q => XS.ifYes X0.here hx rfl (pc0 := 1) (pc' := 15) rfl (hb hby d1_1) rfl ((if0 _ _).trans (feq (by decide)).2) (by decide) (by decide) q) ?_
  refine Go.of (fun _ q => XS.iloadN X0.here hx rfl (hb hby d1_15) rfl q) ?_
  show Go _ _ _ _ _ _ _ (s₁.setTop (mkF m 16 #[.val (.int (3 : Int32)), .val (.int x1), .val (.int x2), .val (.int x3), .val (.int x4)] [(.int (3 : Int32))]))
  refine Go.of (fun _ q => XS.iconst X0.here hx rfl (hb hby d1_16) q) ?_
  refine Go.of (fun _ q => XS.icmpYes X0.here hx rfl (pc0 := 17) (pc' := 35) rfl (hb hby d1_17) rfl (feq (by decide)).2 (by decide) (by decide) q) ?_
  refine Go.of (fun _ q => XS.iloadN X0.here hx rfl (hb hby d1_35) rfl q) ?_
  show Go _ _ _ _ _ _ _ (s₁.setTop (mkF m 36 #[.val (.int (3 : Int32)), .val (.int x1), .val (.int x2), .val (.int x3), .val (.int x4)] [(.int (3 : Int32))]))
  refine Go.of (fun _ q => XS.iconst X0.here hx rfl (hb hby d1_36) q) ?_
  refine Go.of (fun _ q => XS.icmpYes X0.here hx rfl (pc0 := 37) (pc' := 59) rfl (hb hby d1_37) rfl (feq (by decide)).2 (by decide) (by decide) q) ?_
  refine Go.of (fun _ q => XS.iloadN X0.here hx rfl (hb hby d1_59) rfl q) ?_
  show Go _ _ _ _ _ _ _ (s₁.setTop (mkF m 60 #[.val (.int (3 : Int32)), .val (.int x1), .val (.int x2), .val (.int x3), .val (.int x4)] [(.int (3 : Int32))]))
  refine Go.of (fun _ q => XS.iconst X0.here hx rfl (hb hby d1_60) q) ?_
  refine Go.of (fun _ q => XS.icmpNo X0.here hx rfl (hb hby d1_61) rfl (teq rfl).2 q) ?_
  obtain ⟨T1, h1, X1, e1, E1, A1, D1, -, st1⟩ := newO X0 hx hZ hown (hw _ (List.mem_of_getElem? (i := 5) rfl)) (hw _ (List.mem_of_getElem? (i := 6) rfl)) (hw _ (List.mem_of_getElem? (i := 7) rfl)) e0 (g := (mkF m 64 #[.val (.int (3 : Int32)), .val (.int x1), .val (.int x2), .val (.int x3), .val (.int x4)] [])) rfl (hb hby d1_64) (by decide) (by decide)
  obtain ⟨sa, g1⟩ : ∃ z, z = h0.size := ⟨_, rfl⟩
  rw [← g1] at A1 D1 st1
  refine Go.of st1 ?_
  have g_sa : n0 ≤ sa := Nat.le_trans Zs (Nat.le_of_eq g1.symm)
  have sz_sa : h0.size ≤ sa := Nat.le_trans Kp.1 (Nat.le_of_eq g1.symm)
  have Zs := Nat.le_trans Zs E1.1
  have Kp := Kp.ext E1
  have Od := Od.ext E1
  have E_sa := A1
  have F_sa_value : Fld Z h1 sa "java/lang/String" "value" "[B" .null := D1 (Or.inr (hw _ (List.mem_of_getElem? (i := 21) rfl))) (ty := (.array .byte)) (by decide)
  have F_sa_coder : Fld Z h1 sa "java/lang/String" "coder" "B" (.int (0 : Int32)) := D1 (Or.inr (hw _ (List.mem_of_getElem? (i := 22) rfl))) (ty := .byte) (by decide)
  show Go _ _ _ _ _ _ _ (T1.setTop (mkF m 67 #[.val (.int (3 : Int32)), .val (.int x1), .val (.int x2), .val (.int x3), .val (.int x4)] [(.ref sa)]))
  refine Go.of (fun _ q => XS.dup X1.here hx rfl (hb hby d1_67) rfl rfl q) ?_
  refine Go.of (fun _ q => XS.iconst X1.here hx rfl (hb hby d1_68) q) ?_
  obtain ⟨T2, h2, k2, X2, e2, E2, A2, B2, st2⟩ := newPE X1 hx hZ (hw _ (List.mem_of_getElem? (i := 8) rfl)) e1 (g := (mkF m 69 #[.val (.int (3 : Int32)), .val (.int x1), .val (.int x2), .val (.int x3), .val (.int x4)] [(.int (3 : Int32)), (.ref sa), (.ref sa)])) rfl (hb hby d1_69) rfl (by decide) (cap := 3) (by decide) (by decide) (by decide) (by decide) (ad := "[C") (by decide)
  obtain ⟨b, g2⟩ : ∃ z, z = h1.size := ⟨_, rfl⟩
  rw [← g2] at A2 B2 st2
  refine Go.of st2 ?_
  have g_b : n0 ≤ b := Nat.le_trans Zs (Nat.le_of_eq g2.symm)
  have sz_b : h0.size ≤ b := Nat.le_trans Kp.1 (Nat.le_of_eq g2.symm)
  have ne_sa_b : sa ≠ b := Nat.ne_of_lt (Nat.lt_of_lt_of_le E_sa.lt (Nat.le_of_eq g2.symm))
  have Zs := Nat.le_trans Zs E2.1
  have Kp := Kp.ext E2
  have Od := Od.ext E2
  have E_sa := E_sa.ext E2
  have F_sa_value := F_sa_value.ext E2
  have F_sa_coder := F_sa_coder.ext E2
  have E_b := B2
  have A_b : AF Z h2 b k2 .char 3 (fun i => .int ((fun _ => (0 : Int32)) i)) := AF.new A2 (by decide) rfl rfl
  show Go _ _ _ _ _ _ _ (T2.setTop (mkF m 71 #[.val (.int (3 : Int32)), .val (.int x1), .val (.int x2), .val (.int x3), .val (.int x4)] [(.ref b), (.ref sa), (.ref sa)]))
  refine Go.of (fun _ q => XS.dup X2.here hx rfl (hb hby d1_71) rfl rfl q) ?_
  refine Go.of (fun _ q => XS.iconst X2.here hx rfl (hb hby d1_72) q) ?_
  refine Go.of (fun _ q => XS.iloadN X2.here hx rfl (hb hby d1_73) rfl q) ?_
  show Go _ _ _ _ _ _ _ (T2.setTop (mkF m 74 #[.val (.int (3 : Int32)), .val (.int x1), .val (.int x2), .val (.int x3), .val (.int x4)] [(.int x1), (.int (0 : Int32)), (.ref b), (.ref b), (.ref sa), (.ref sa)]))
  obtain ⟨T3, h3, X3, e3, W3, A3', st3⟩ := AF.castore A_b X2 hx hZ e2 (i := 0) ⟨rfl, by decide, by decide⟩ (g := (mkF m 74 #[.val (.int (3 : Int32)), .val (.int x1), .val (.int x2), .val (.int x3), .val (.int x4)] [(.int x1), (.int (0 : Int32)), (.ref b), (.ref b), (.ref sa), (.ref sa)])) rfl rfl (hb hby d1_74)
  refine Go.of st3 ?_
  have Zs := Nat.le_trans Zs (Nat.le_of_eq W3.size.symm)
  have Kp := Kp.wr W3 (Or.inr sz_b)
  have Od := Od.wr W3 g_b
  have E_sa := E_sa.wr W3
  have F_sa_value := F_sa_value.other W3 (Or.inl ne_sa_b)
  have F_sa_coder := F_sa_coder.other W3 (Or.inl ne_sa_b)
  have E_b := E_b.wr W3
  have A_b : AF Z h3 b k2 .char 3 (fun i => .int ((upI (fun _ => (0 : Int32)) 0 (x1.toUInt32.toUInt16.toUInt32.toInt32)) i)) := A3'.toI
  have N3 := Fr.snoc X3 N0 g_b
  refine Go.of (fun _ q => XS.dup X3.here hx rfl (hb hby d1_75) rfl rfl q) ?_
  refine Go.of (fun _ q => XS.iconst X3.here hx rfl (hb hby d1_76) q) ?_
  show Go _ _ _ _ _ _ _ (T3.setTop (mkF m 77 #[.val (.int (3 : Int32)), .val (.int x1), .val (.int x2), .val (.int x3), .val (.int x4)] [(.int (1 : Int32)), (.ref b), (.ref b), (.ref sa), (.ref sa)]))
  refine Go.of (fun _ q => XS.iloadN X3.here hx rfl (hb hby d1_77) rfl q) ?_
  obtain ⟨T4, h4, X4, e4, W4, A4', st4⟩ := AF.castore A_b X3 hx hZ e3 (i := 1) ⟨rfl, by decide, by decide⟩ (g := (mkF m 78 #[.val (.int (3 : Int32)), .val (.int x1), .val (.int x2), .val (.int x3), .val (.int x4)] [(.int x2), (.int (1 : Int32)), (.ref b), (.ref b), (.ref sa), (.ref sa)])) rfl rfl (hb hby d1_78)
  refine Go.of st4 ?_
  have Zs := Nat.le_trans Zs (Nat.le_of_eq W4.size.symm)
  have Kp := Kp.wr W4 (Or.inr sz_b)
  have Od := Od.wr W4 g_b
  have E_sa := E_sa.wr W4
  have F_sa_value := F_sa_value.other W4 (Or.inl ne_sa_b)
  have F_sa_coder := F_sa_coder.other W4 (Or.inl ne_sa_b)
  have E_b := E_b.wr W4
  have A_b : AF Z h4 b k2 .char 3 (fun i => .int ((upI (upI (fun _ => (0 : Int32)) 0 (x1.toUInt32.toUInt16.toUInt32.toInt32)) 1 (x2.toUInt32.toUInt16.toUInt32.toInt32)) i)) := A4'.toI
  have N4 := Fr.snoc X4 N3 g_b
  refine Go.of (fun _ q => XS.dup X4.here hx rfl (hb hby d1_79) rfl rfl q) ?_
  show Go _ _ _ _ _ _ _ (T4.setTop (mkF m 80 #[.val (.int (3 : Int32)), .val (.int x1), .val (.int x2), .val (.int x3), .val (.int x4)] [(.ref b), (.ref b), (.ref sa), (.ref sa)]))
  refine Go.of (fun _ q => XS.iconst X4.here hx rfl (hb hby d1_80) q) ?_
  refine Go.of (fun _ q => XS.iloadN X4.here hx rfl (hb hby d1_81) rfl q) ?_
  obtain ⟨T5, h5, X5, e5, W5, A5', st5⟩ := AF.castore A_b X4 hx hZ e4 (i := 2) ⟨rfl, by decide, by decide⟩ (g := (mkF m 82 #[.val (.int (3 : Int32)), .val (.int x1), .val (.int x2), .val (.int x3), .val (.int x4)] [(.int x3), (.int (2 : Int32)), (.ref b), (.ref b), (.ref sa), (.ref sa)])) rfl rfl (hb hby d1_82)
  refine Go.of st5 ?_
  have Zs := Nat.le_trans Zs (Nat.le_of_eq W5.size.symm)
  have Kp := Kp.wr W5 (Or.inr sz_b)
  have Od := Od.wr W5 g_b
  have E_sa := E_sa.wr W5
  have F_sa_value := F_sa_value.other W5 (Or.inl ne_sa_b)
  have F_sa_coder := F_sa_coder.other W5 (Or.inl ne_sa_b)
  have E_b := E_b.wr W5
  have A_b : AF Z h5 b k2 .char 3 (fun i => .int ((upI (upI (upI (fun _ => (0 : Int32)) 0 (x1.toUInt32.toUInt16.toUInt32.toInt32)) 1 (x2.toUInt32.toUInt16.toUInt32.toInt32)) 2 (x3.toUInt32.toUInt16.toUInt32.toInt32)) i)) := A5'.toI
  have N5 := Fr.snoc X5 N4 g_b
  have hgb : ∀ i, i < 3 → (upI (upI (upI (fun _ => (0 : Int32)) 0 (x1.toUInt32.toUInt16.toUInt32.toInt32)) 1 (x2.toUInt32.toUInt16.toUInt32.toInt32)) 2 (x3.toUInt32.toUInt16.toUInt32.toInt32)) i = (own_c4 x1 x2 x3 x4) i := fun i hi => by rcases (show i = 0 ∨ i = 1 ∨ i = 2 by omega) with rfl | rfl | rfl <;> first | exact hcc 0 (by decide) | exact hcc 1 (by decide) | exact hcc 2 (by decide)
  show Go _ _ _ _ _ _ _ (T5.setTop (mkF m 83 #[.val (.int (3 : Int32)), .val (.int x1), .val (.int x2), .val (.int x3), .val (.int x4)] [(.ref b), (.ref sa), (.ref sa)]))
  refine Go.special X5 hx hZ (y := (⟨"java/lang/String", "<init>", "([C)V"⟩ : MethodName)) (a := sa) (argsL := [(.ref b)]) rfl hown (hw _ (List.mem_of_getElem? (i := 9) rfl)) (hw _ (List.mem_of_getElem? (i := 10) rfl)) (hw _ (List.mem_of_getElem? (i := 7) rfl)) (hw _ (List.mem_of_getElem? (i := 11) rfl)) (by decide) 1 e5 (rm2_3 l Z a0 hw sa b k2 (upI (upI (upI (fun _ => (0 : Int32)) 0 (x1.toUInt32.toUInt16.toUInt32.toInt32)) 1 (x2.toUInt32.toUInt16.toUInt32.toInt32)) 2 (x3.toUInt32.toUInt16.toUInt32.toInt32)) .null (0 : Int32) cs h5 n0 Zs Od E_sa F_sa_value F_sa_coder g_sa A_b (Ne.symm ne_sa_b) (own_ccg (by decide) hcc hgb) Scs hcs Sad Shi Slo) (by decide) (by decide) (by decide) (by decide) (g := (mkF m 83 #[.val (.int (3 : Int32)), .val (.int x1), .val (.int x2), .val (.int x3), .val (.int x4)] [(.ref b), (.ref sa), (.ref sa)])) rfl (by rw [hml]; rfl) (rest := [(.ref sa)]) (lenOf pd16 rfl) rfl (by show 2 * 0 + _ ≤ _; exact Nat.le_of_eq rfl) (hb hby d1_83) ?_
  intro T6 v6 L6 X6 q6
  obtain ⟨rfl, Nq6, K6, f6_0, f6_1⟩ := q6
  have N6 := Fr.app N5 Nq6
  have Zs := Nat.le_trans Zs K6.1
  have Kp := Kp.trans K6 (allS (P := fun x => x ∈ [] ∨ h0.size ≤ x) (Or.inr sz_sa) all0)
  have Od := Od.keep K6 (allS (P := fun x => n0 ≤ x) g_sa all0)
  have E_sa := E_sa.keep K6
  have E_b := E_b.keep K6
  have A_b := A_b.keep K6 (ninS (Ne.symm ne_sa_b) nin0)
  have S_sa := f6_1
  refine Go.retA X6 hx hlk hret rfl rfl (hb hby d1_86) (by decide) (by decide) ?_
  exact ⟨sa, rfl, N6, Kp, sz_sa, E_sa, (own_St.cast S_sa hgb)⟩
theorem d1_87 : decode method_2_code 87 = .ok (.new 7, 3) := by decide +kernel
theorem d1_90 : decode method_2_code 90 = .ok (.dup, 1) := by decide +kernel
theorem d1_91 : decode method_2_code 91 = .ok (.iconst 4, 1) := by decide +kernel
theorem d1_92 : decode method_2_code 92 = .ok (.newarray .char, 2) := by decide +kernel
theorem d1_94 : decode method_2_code 94 = .ok (.dup, 1) := by decide +kernel
theorem d1_95 : decode method_2_code 95 = .ok (.iconst 0, 1) := by decide +kernel
theorem d1_96 : decode method_2_code 96 = .ok (.iload_n 1, 1) := by decide +kernel
theorem d1_97 : decode method_2_code 97 = .ok (.castore, 1) := by decide +kernel
theorem d1_98 : decode method_2_code 98 = .ok (.dup, 1) := by decide +kernel
theorem d1_99 : decode method_2_code 99 = .ok (.iconst 1, 1) := by decide +kernel
theorem d1_100 : decode method_2_code 100 = .ok (.iload_n 2, 1) := by decide +kernel
theorem d1_101 : decode method_2_code 101 = .ok (.castore, 1) := by decide +kernel
theorem d1_102 : decode method_2_code 102 = .ok (.dup, 1) := by decide +kernel
theorem d1_103 : decode method_2_code 103 = .ok (.iconst 2, 1) := by decide +kernel
theorem d1_104 : decode method_2_code 104 = .ok (.iload_n 3, 1) := by decide +kernel
theorem d1_105 : decode method_2_code 105 = .ok (.castore, 1) := by decide +kernel
theorem d1_106 : decode method_2_code 106 = .ok (.dup, 1) := by decide +kernel
theorem d1_107 : decode method_2_code 107 = .ok (.iconst 3, 1) := by decide +kernel
theorem d1_108 : decode method_2_code 108 = .ok (.iload 4, 2) := by decide +kernel
theorem d1_110 : decode method_2_code 110 = .ok (.castore, 1) := by decide +kernel
theorem d1_111 : decode method_2_code 111 = .ok (.invokespecial 9, 3) := by decide +kernel
theorem d1_114 : decode method_2_code 114 = .ok (.areturn, 1) := by decide +kernel
theorem ef_1_4 (m : MethodId) (x1 : Int32) (x2 : Int32) (x3 : Int32) (x4 : Int32) : entryFrame m #[(.int (4 : Int32)), (.int x1), (.int x2), (.int x3), (.int x4)] 5 = mkF m 0 #[.val (.int (4 : Int32)), .val (.int x1), .val (.int x2), .val (.int x3), .val (.int x4)] [] := by first | (simp [entryFrame, mkF, argsToLocals, Value.category]; done) | rfl
def Q1_4 (Z : State) (x1 : Int32) (x2 : Int32) (x3 : Int32) (x4 : Int32) (cs : Int32) (h0 : Heap) (n0 : Nat) (v : Option Value) (h : Heap) (L : List Loc) : Prop := ∃ sa : Addr, v = some (.ref sa) ∧ Fr n0 L ∧ Keep h0 h [] ∧ h0.size ≤ sa ∧ Exa Z h sa "java/lang/String" ∧ own_St Z h sa 4 (own_c4 x1 x2 x3 x4)
set_option maxRecDepth 65536 in
set_option maxHeartbeats 40000000 in
theorem rm1_4 (l : Launch) (Z : State) (a0 : Array Value) (hw : ∀ d ∈ tables_1, d.before a0 Z = true) (x1 : Int32) (x2 : Int32) (x3 : Int32) (x4 : Int32) (cs : Int32) (h0 : Heap) (n0 : Nat) (Zs : n0 ≤ h0.size) (Od : Old Z n0 h0) (hcc : ∀ i, i < 4 → own_cc ((own_c4 x1 x2 x3 x4) i) = (own_c4 x1 x2 x3 x4) i) (Scs : Sta Z Z.heap "java/lang/String" "COMPACT_STRINGS" "Z" (.int cs)) (hcs : ¬ cs = (0 : Int32)) (Sad : Sta Z Z.heap "java/lang/StringUTF16" "$assertionsDisabled" "Z" (.int (1 : Int32))) (Shi : Sta Z Z.heap "java/lang/StringUTF16" "HI_BYTE_SHIFT" "I" (.int (0 : Int32))) (Slo : Sta Z Z.heap "java/lang/StringUTF16" "LO_BYTE_SHIFT" "I" (.int (8 : Int32))) :
    Con l Z (⟨"com/example/ddos_fee_ledger/ddosfeeledger/IndexRunHashPinLaw", "make", "(ICCCC)Ljava/lang/String;"⟩ : MethodName) method_2_code 5 (some (.object "java/lang/String")) ({ frames := 6, cells := 4, slots := 20, locals := 88 } : Room) #[(.int (4 : Int32)), (.int x1), (.int x2), (.int x3), (.int x4)] h0 (Q1_4 Z x1 x2 x3 x4 cs h0 n0) := by
  refine Con.intro (plainFor_of_name pn5) (fun m => ef_1_4 m x1 x2 x3 x4) ?_
  intro p e s m below meth c s₁ hx hby hml0 hZ hown hnm hret hlk X0 e0
  have hml : c.maxLocals = 5 := hml0
  have N0 := Fr.nil n0
  have Kp : Keep h0 h0 [] := Keep.refl h0 _
  show Go _ _ _ _ _ _ _ (s₁.setTop (mkF m 0 #[.val (.int (4 : Int32)), .val (.int x1), .val (.int x2), .val (.int x3), .val (.int x4)] []))
  refine Go.of (fun _ q => XS.iloadN X0.here hx rfl (hb hby d1_0) rfl q) ?_
  refine Go.of (fun _ q => XS.ifYes X0.here hx rfl (pc0 := 1) (pc' := 15) rfl (hb hby d1_1) rfl ((if0 _ _).trans (feq (by decide)).2) (by decide) (by decide) q) ?_
  refine Go.of (fun _ q => XS.iloadN X0.here hx rfl (hb hby d1_15) rfl q) ?_
  show Go _ _ _ _ _ _ _ (s₁.setTop (mkF m 16 #[.val (.int (4 : Int32)), .val (.int x1), .val (.int x2), .val (.int x3), .val (.int x4)] [(.int (4 : Int32))]))
  refine Go.of (fun _ q => XS.iconst X0.here hx rfl (hb hby d1_16) q) ?_
  refine Go.of (fun _ q => XS.icmpYes X0.here hx rfl (pc0 := 17) (pc' := 35) rfl (hb hby d1_17) rfl (feq (by decide)).2 (by decide) (by decide) q) ?_
  refine Go.of (fun _ q => XS.iloadN X0.here hx rfl (hb hby d1_35) rfl q) ?_
  show Go _ _ _ _ _ _ _ (s₁.setTop (mkF m 36 #[.val (.int (4 : Int32)), .val (.int x1), .val (.int x2), .val (.int x3), .val (.int x4)] [(.int (4 : Int32))]))
  refine Go.of (fun _ q => XS.iconst X0.here hx rfl (hb hby d1_36) q) ?_
  refine Go.of (fun _ q => XS.icmpYes X0.here hx rfl (pc0 := 37) (pc' := 59) rfl (hb hby d1_37) rfl (feq (by decide)).2 (by decide) (by decide) q) ?_
  refine Go.of (fun _ q => XS.iloadN X0.here hx rfl (hb hby d1_59) rfl q) ?_
  show Go _ _ _ _ _ _ _ (s₁.setTop (mkF m 60 #[.val (.int (4 : Int32)), .val (.int x1), .val (.int x2), .val (.int x3), .val (.int x4)] [(.int (4 : Int32))]))
  refine Go.of (fun _ q => XS.iconst X0.here hx rfl (hb hby d1_60) q) ?_
  refine Go.of (fun _ q => XS.icmpYes X0.here hx rfl (pc0 := 61) (pc' := 87) rfl (hb hby d1_61) rfl (feq (by decide)).2 (by decide) (by decide) q) ?_
  obtain ⟨T1, h1, X1, e1, E1, A1, D1, -, st1⟩ := newO X0 hx hZ hown (hw _ (List.mem_of_getElem? (i := 5) rfl)) (hw _ (List.mem_of_getElem? (i := 6) rfl)) (hw _ (List.mem_of_getElem? (i := 7) rfl)) e0 (g := (mkF m 87 #[.val (.int (4 : Int32)), .val (.int x1), .val (.int x2), .val (.int x3), .val (.int x4)] [])) rfl (hb hby d1_87) (by decide) (by decide)
  obtain ⟨sa, g1⟩ : ∃ z, z = h0.size := ⟨_, rfl⟩
  rw [← g1] at A1 D1 st1
  refine Go.of st1 ?_
  have g_sa : n0 ≤ sa := Nat.le_trans Zs (Nat.le_of_eq g1.symm)
  have sz_sa : h0.size ≤ sa := Nat.le_trans Kp.1 (Nat.le_of_eq g1.symm)
  have Zs := Nat.le_trans Zs E1.1
  have Kp := Kp.ext E1
  have Od := Od.ext E1
  have E_sa := A1
  have F_sa_value : Fld Z h1 sa "java/lang/String" "value" "[B" .null := D1 (Or.inr (hw _ (List.mem_of_getElem? (i := 21) rfl))) (ty := (.array .byte)) (by decide)
  have F_sa_coder : Fld Z h1 sa "java/lang/String" "coder" "B" (.int (0 : Int32)) := D1 (Or.inr (hw _ (List.mem_of_getElem? (i := 22) rfl))) (ty := .byte) (by decide)
  show Go _ _ _ _ _ _ _ (T1.setTop (mkF m 90 #[.val (.int (4 : Int32)), .val (.int x1), .val (.int x2), .val (.int x3), .val (.int x4)] [(.ref sa)]))
  refine Go.of (fun _ q => XS.dup X1.here hx rfl (hb hby d1_90) rfl rfl q) ?_
  refine Go.of (fun _ q => XS.iconst X1.here hx rfl (hb hby d1_91) q) ?_
  obtain ⟨T2, h2, k2, X2, e2, E2, A2, B2, st2⟩ := newPE X1 hx hZ (hw _ (List.mem_of_getElem? (i := 8) rfl)) e1 (g := (mkF m 92 #[.val (.int (4 : Int32)), .val (.int x1), .val (.int x2), .val (.int x3), .val (.int x4)] [(.int (4 : Int32)), (.ref sa), (.ref sa)])) rfl (hb hby d1_92) rfl (by decide) (cap := 4) (by decide) (by decide) (by decide) (by decide) (ad := "[C") (by decide)
  obtain ⟨b, g2⟩ : ∃ z, z = h1.size := ⟨_, rfl⟩
  rw [← g2] at A2 B2 st2
  refine Go.of st2 ?_
  have g_b : n0 ≤ b := Nat.le_trans Zs (Nat.le_of_eq g2.symm)
  have sz_b : h0.size ≤ b := Nat.le_trans Kp.1 (Nat.le_of_eq g2.symm)
  have ne_sa_b : sa ≠ b := Nat.ne_of_lt (Nat.lt_of_lt_of_le E_sa.lt (Nat.le_of_eq g2.symm))
  have Zs := Nat.le_trans Zs E2.1
  have Kp := Kp.ext E2
  have Od := Od.ext E2
  have E_sa := E_sa.ext E2
  have F_sa_value := F_sa_value.ext E2
  have F_sa_coder := F_sa_coder.ext E2
  have E_b := B2
  have A_b : AF Z h2 b k2 .char 4 (fun i => .int ((fun _ => (0 : Int32)) i)) := AF.new A2 (by decide) rfl rfl
  show Go _ _ _ _ _ _ _ (T2.setTop (mkF m 94 #[.val (.int (4 : Int32)), .val (.int x1), .val (.int x2), .val (.int x3), .val (.int x4)] [(.ref b), (.ref sa), (.ref sa)]))
  refine Go.of (fun _ q => XS.dup X2.here hx rfl (hb hby d1_94) rfl rfl q) ?_
  refine Go.of (fun _ q => XS.iconst X2.here hx rfl (hb hby d1_95) q) ?_
  refine Go.of (fun _ q => XS.iloadN X2.here hx rfl (hb hby d1_96) rfl q) ?_
  show Go _ _ _ _ _ _ _ (T2.setTop (mkF m 97 #[.val (.int (4 : Int32)), .val (.int x1), .val (.int x2), .val (.int x3), .val (.int x4)] [(.int x1), (.int (0 : Int32)), (.ref b), (.ref b), (.ref sa), (.ref sa)]))
  obtain ⟨T3, h3, X3, e3, W3, A3', st3⟩ := AF.castore A_b X2 hx hZ e2 (i := 0) ⟨rfl, by decide, by decide⟩ (g := (mkF m 97 #[.val (.int (4 : Int32)), .val (.int x1), .val (.int x2), .val (.int x3), .val (.int x4)] [(.int x1), (.int (0 : Int32)), (.ref b), (.ref b), (.ref sa), (.ref sa)])) rfl rfl (hb hby d1_97)
  refine Go.of st3 ?_
  have Zs := Nat.le_trans Zs (Nat.le_of_eq W3.size.symm)
  have Kp := Kp.wr W3 (Or.inr sz_b)
  have Od := Od.wr W3 g_b
  have E_sa := E_sa.wr W3
  have F_sa_value := F_sa_value.other W3 (Or.inl ne_sa_b)
  have F_sa_coder := F_sa_coder.other W3 (Or.inl ne_sa_b)
  have E_b := E_b.wr W3
  have A_b : AF Z h3 b k2 .char 4 (fun i => .int ((upI (fun _ => (0 : Int32)) 0 (x1.toUInt32.toUInt16.toUInt32.toInt32)) i)) := A3'.toI
  have N3 := Fr.snoc X3 N0 g_b
  refine Go.of (fun _ q => XS.dup X3.here hx rfl (hb hby d1_98) rfl rfl q) ?_
  refine Go.of (fun _ q => XS.iconst X3.here hx rfl (hb hby d1_99) q) ?_
  show Go _ _ _ _ _ _ _ (T3.setTop (mkF m 100 #[.val (.int (4 : Int32)), .val (.int x1), .val (.int x2), .val (.int x3), .val (.int x4)] [(.int (1 : Int32)), (.ref b), (.ref b), (.ref sa), (.ref sa)]))
  refine Go.of (fun _ q => XS.iloadN X3.here hx rfl (hb hby d1_100) rfl q) ?_
  obtain ⟨T4, h4, X4, e4, W4, A4', st4⟩ := AF.castore A_b X3 hx hZ e3 (i := 1) ⟨rfl, by decide, by decide⟩ (g := (mkF m 101 #[.val (.int (4 : Int32)), .val (.int x1), .val (.int x2), .val (.int x3), .val (.int x4)] [(.int x2), (.int (1 : Int32)), (.ref b), (.ref b), (.ref sa), (.ref sa)])) rfl rfl (hb hby d1_101)
  refine Go.of st4 ?_
  have Zs := Nat.le_trans Zs (Nat.le_of_eq W4.size.symm)
  have Kp := Kp.wr W4 (Or.inr sz_b)
  have Od := Od.wr W4 g_b
  have E_sa := E_sa.wr W4
  have F_sa_value := F_sa_value.other W4 (Or.inl ne_sa_b)
  have F_sa_coder := F_sa_coder.other W4 (Or.inl ne_sa_b)
  have E_b := E_b.wr W4
  have A_b : AF Z h4 b k2 .char 4 (fun i => .int ((upI (upI (fun _ => (0 : Int32)) 0 (x1.toUInt32.toUInt16.toUInt32.toInt32)) 1 (x2.toUInt32.toUInt16.toUInt32.toInt32)) i)) := A4'.toI
  have N4 := Fr.snoc X4 N3 g_b
  refine Go.of (fun _ q => XS.dup X4.here hx rfl (hb hby d1_102) rfl rfl q) ?_
  show Go _ _ _ _ _ _ _ (T4.setTop (mkF m 103 #[.val (.int (4 : Int32)), .val (.int x1), .val (.int x2), .val (.int x3), .val (.int x4)] [(.ref b), (.ref b), (.ref sa), (.ref sa)]))
  refine Go.of (fun _ q => XS.iconst X4.here hx rfl (hb hby d1_103) q) ?_
  refine Go.of (fun _ q => XS.iloadN X4.here hx rfl (hb hby d1_104) rfl q) ?_
  obtain ⟨T5, h5, X5, e5, W5, A5', st5⟩ := AF.castore A_b X4 hx hZ e4 (i := 2) ⟨rfl, by decide, by decide⟩ (g := (mkF m 105 #[.val (.int (4 : Int32)), .val (.int x1), .val (.int x2), .val (.int x3), .val (.int x4)] [(.int x3), (.int (2 : Int32)), (.ref b), (.ref b), (.ref sa), (.ref sa)])) rfl rfl (hb hby d1_105)
  refine Go.of st5 ?_
  have Zs := Nat.le_trans Zs (Nat.le_of_eq W5.size.symm)
  have Kp := Kp.wr W5 (Or.inr sz_b)
  have Od := Od.wr W5 g_b
  have E_sa := E_sa.wr W5
  have F_sa_value := F_sa_value.other W5 (Or.inl ne_sa_b)
  have F_sa_coder := F_sa_coder.other W5 (Or.inl ne_sa_b)
  have E_b := E_b.wr W5
  have A_b : AF Z h5 b k2 .char 4 (fun i => .int ((upI (upI (upI (fun _ => (0 : Int32)) 0 (x1.toUInt32.toUInt16.toUInt32.toInt32)) 1 (x2.toUInt32.toUInt16.toUInt32.toInt32)) 2 (x3.toUInt32.toUInt16.toUInt32.toInt32)) i)) := A5'.toI
  have N5 := Fr.snoc X5 N4 g_b
  show Go _ _ _ _ _ _ _ (T5.setTop (mkF m 106 #[.val (.int (4 : Int32)), .val (.int x1), .val (.int x2), .val (.int x3), .val (.int x4)] [(.ref b), (.ref sa), (.ref sa)]))
  refine Go.of (fun _ q => XS.dup X5.here hx rfl (hb hby d1_106) rfl rfl q) ?_
  refine Go.of (fun _ q => XS.iconst X5.here hx rfl (hb hby d1_107) q) ?_
  refine Go.of (fun _ q => XS.iload X5.here hx rfl (hb hby d1_108) rfl q) ?_
  show Go _ _ _ _ _ _ _ (T5.setTop (mkF m 110 #[.val (.int (4 : Int32)), .val (.int x1), .val (.int x2), .val (.int x3), .val (.int x4)] [(.int x4), (.int (3 : Int32)), (.ref b), (.ref b), (.ref sa), (.ref sa)]))
  obtain ⟨T6, h6, X6, e6, W6, A6', st6⟩ := AF.castore A_b X5 hx hZ e5 (i := 3) ⟨rfl, by decide, by decide⟩ (g := (mkF m 110 #[.val (.int (4 : Int32)), .val (.int x1), .val (.int x2), .val (.int x3), .val (.int x4)] [(.int x4), (.int (3 : Int32)), (.ref b), (.ref b), (.ref sa), (.ref sa)])) rfl rfl (hb hby d1_110)
  refine Go.of st6 ?_
  have Zs := Nat.le_trans Zs (Nat.le_of_eq W6.size.symm)
  have Kp := Kp.wr W6 (Or.inr sz_b)
  have Od := Od.wr W6 g_b
  have E_sa := E_sa.wr W6
  have F_sa_value := F_sa_value.other W6 (Or.inl ne_sa_b)
  have F_sa_coder := F_sa_coder.other W6 (Or.inl ne_sa_b)
  have E_b := E_b.wr W6
  have A_b : AF Z h6 b k2 .char 4 (fun i => .int ((upI (upI (upI (upI (fun _ => (0 : Int32)) 0 (x1.toUInt32.toUInt16.toUInt32.toInt32)) 1 (x2.toUInt32.toUInt16.toUInt32.toInt32)) 2 (x3.toUInt32.toUInt16.toUInt32.toInt32)) 3 (x4.toUInt32.toUInt16.toUInt32.toInt32)) i)) := A6'.toI
  have N6 := Fr.snoc X6 N5 g_b
  have hgb : ∀ i, i < 4 → (upI (upI (upI (upI (fun _ => (0 : Int32)) 0 (x1.toUInt32.toUInt16.toUInt32.toInt32)) 1 (x2.toUInt32.toUInt16.toUInt32.toInt32)) 2 (x3.toUInt32.toUInt16.toUInt32.toInt32)) 3 (x4.toUInt32.toUInt16.toUInt32.toInt32)) i = (own_c4 x1 x2 x3 x4) i := fun i hi => by rcases (show i = 0 ∨ i = 1 ∨ i = 2 ∨ i = 3 by omega) with rfl | rfl | rfl | rfl <;> first | exact hcc 0 (by decide) | exact hcc 1 (by decide) | exact hcc 2 (by decide) | exact hcc 3 (by decide)
  refine Go.special X6 hx hZ (y := (⟨"java/lang/String", "<init>", "([C)V"⟩ : MethodName)) (a := sa) (argsL := [(.ref b)]) rfl hown (hw _ (List.mem_of_getElem? (i := 9) rfl)) (hw _ (List.mem_of_getElem? (i := 10) rfl)) (hw _ (List.mem_of_getElem? (i := 7) rfl)) (hw _ (List.mem_of_getElem? (i := 11) rfl)) (by decide) 1 e6 (rm2_4 l Z a0 hw sa b k2 (upI (upI (upI (upI (fun _ => (0 : Int32)) 0 (x1.toUInt32.toUInt16.toUInt32.toInt32)) 1 (x2.toUInt32.toUInt16.toUInt32.toInt32)) 2 (x3.toUInt32.toUInt16.toUInt32.toInt32)) 3 (x4.toUInt32.toUInt16.toUInt32.toInt32)) .null (0 : Int32) cs h6 n0 Zs Od E_sa F_sa_value F_sa_coder g_sa A_b (Ne.symm ne_sa_b) (own_ccg (by decide) hcc hgb) Scs hcs Sad Shi Slo) (by decide) (by decide) (by decide) (by decide) (g := (mkF m 111 #[.val (.int (4 : Int32)), .val (.int x1), .val (.int x2), .val (.int x3), .val (.int x4)] [(.ref b), (.ref sa), (.ref sa)])) rfl (by rw [hml]; rfl) (rest := [(.ref sa)]) (lenOf pd16 rfl) rfl (by show 2 * 0 + _ ≤ _; exact Nat.le_of_eq rfl) (hb hby d1_111) ?_
  intro T7 v7 L7 X7 q7
  obtain ⟨rfl, Nq7, K7, f7_0, f7_1⟩ := q7
  have N7 := Fr.app N6 Nq7
  have Zs := Nat.le_trans Zs K7.1
  have Kp := Kp.trans K7 (allS (P := fun x => x ∈ [] ∨ h0.size ≤ x) (Or.inr sz_sa) all0)
  have Od := Od.keep K7 (allS (P := fun x => n0 ≤ x) g_sa all0)
  have E_sa := E_sa.keep K7
  have E_b := E_b.keep K7
  have A_b := A_b.keep K7 (ninS (Ne.symm ne_sa_b) nin0)
  have S_sa := f7_1
  refine Go.retA X7 hx hlk hret rfl rfl (hb hby d1_114) (by decide) (by decide) ?_
  exact ⟨sa, rfl, N7, Kp, sz_sa, E_sa, (own_St.cast S_sa hgb)⟩
theorem pd17 : parseMethodDescriptor "(ICCCC)Ljava/lang/String;" = some ⟨[.int, .char, .char, .char, .char], some (.object "java/lang/String")⟩ := by decide +kernel
theorem pd18 : parseMethodDescriptor "(ICCCC)C" = some ⟨[.int, .char, .char, .char, .char], some .char⟩ := by decide +kernel
theorem pd19 : parseMethodDescriptor "(Ljava/lang/String;)J" = some ⟨[(.object "java/lang/String")], some .long⟩ := by decide +kernel
theorem ef_0 (m : MethodId) (x1 : Int32) (x2 : Int32) (x3 : Int32) : entryFrame m #[(.int x1), (.int x2), (.int x3)] maxLocals = mkF m 0 #[.val (.int x1), .val (.int x2), .val (.int x3), .unset, .unset, .unset, .unset, .unset, .unset, .unset, .unset, .unset, .unset, .unset, .unset, .unset, .unset, .unset] [] := by first | (simp [entryFrame, mkF, argsToLocals, Value.category, maxLocals]; done) | rfl
def Q0 (Z : State) (x1 : Int32) (x2 : Int32) (x3 : Int32) (cs : Int32) (fm : Value) (hfm : fm.isRef = true) (h0 : Heap) (n0 : Nat) (v : Option Value) (h : Heap) (vm : Vm) (L : List Loc) : Prop := v = some (.int (1 : Int32)) ∧ Fr n0 L
set_option maxRecDepth 65536 in
set_option maxHeartbeats 40000000 in
theorem rm0 (l : Launch) (Z : State) (a0 : Array Value) (hw : ∀ d ∈ tables_1, d.before a0 Z = true) (x1 : Int32) (x2 : Int32) (x3 : Int32) (cs : Int32) (fm : Value) (hfm : fm.isRef = true) (h0 : Heap) (n0 : Nat) (Zs : n0 ≤ h0.size) (Od : Old Z n0 h0) (Scs : Sta Z Z.heap "java/lang/String" "COMPACT_STRINGS" "Z" (.int cs)) (hcs : ¬ cs = (0 : Int32)) (Sfm : Sta Z Z.heap "jdk/internal/util/Preconditions" "SIOOBE_FORMATTER" "Ljava/util/function/BiFunction;" fm) (Sad : Sta Z Z.heap "java/lang/StringUTF16" "$assertionsDisabled" "Z" (.int (1 : Int32))) (Shi : Sta Z Z.heap "java/lang/StringUTF16" "HI_BYTE_SHIFT" "I" (.int (0 : Int32))) (Slo : Sta Z Z.heap "java/lang/StringUTF16" "LO_BYTE_SHIFT" "I" (.int (8 : Int32))) (hheld : Jvm.Lit.constHeld Z "java/lang/String" 7) (hcomp : Jvm.Lit.compactW.before a0 Z = true) :
    ConW l Z x code maxLocals ret room_1 #[(.int x1), (.int x2), (.int x3)] h0 (fun vm => vm.interned = Z.vm.interned) (Q0 Z x1 x2 x3 cs fm hfm h0 n0) := by
  refine ConW.intro (plainFor_of_name pn5) (fun m => ef_0 m x1 x2 x3) ?_
  intro p e s m below meth c s₁ hx hby hml0 hZ hown hnm hret hlk X0 e0 hs0 hV hS
  have hk : 0 ≤ h0.size := Nat.zero_le _
  have hml : c.maxLocals = 18 := hml0
  have N0 := Fr.nil n0
  have Kp : Keep h0 h0 [] := Keep.refl h0 _
  show GoW _ _ _ _ _ _ _ (s₁.setTop (mkF m 0 #[.val (.int x1), .val (.int x2), .val (.int x3), .unset, .unset, .unset, .unset, .unset, .unset, .unset, .unset, .unset, .unset, .unset, .unset, .unset, .unset, .unset] []))
  refine GoW.of (fun _ q => XS.iloadN X0.here hx rfl (hb hby at_0) rfl q) ?_
  refine GoW.of (fun _ q => X0.ldcInt hx hown (mvT hZ (hw _ (List.mem_of_getElem? (i := 0) rfl))) (g := (mkF m 1 #[.val (.int x1), .val (.int x2), .val (.int x3), .unset, .unset, .unset, .unset, .unset, .unset, .unset, .unset, .unset, .unset, .unset, .unset, .unset, .unset, .unset] [(.int x1)])) rfl (hb hby at_1) _ q) ?_
  refine GoW.of (fun _ q => XS.iand X0.here hx rfl (hb hby at_3) rfl q) ?_
  show GoW _ _ _ _ _ _ _ (s₁.setTop (mkF m 4 #[.val (.int x1), .val (.int x2), .val (.int x3), .unset, .unset, .unset, .unset, .unset, .unset, .unset, .unset, .unset, .unset, .unset, .unset, .unset, .unset, .unset] [(.int (x1 &&& (65535 : Int32)))]))
  refine GoW.of (fun _ q => XS.i2c X0.here hx rfl (hb hby at_4) rfl q) ?_
  refine GoW.of (fun _ q => XS.istoreN X0.here hx rfl (hb hby at_5) rfl (l' := #[.val (.int x1), .val (.int x2), .val (.int x3), .val (.int ((x1 &&& (65535 : Int32)).toUInt32.toUInt16.toUInt32.toInt32)), .unset, .unset, .unset, .unset, .unset, .unset, .unset, .unset, .unset, .unset, .unset, .unset, .unset, .unset]) rfl q) ?_
  obtain ⟨c0, hc0⟩ : ∃ z, z = ((x1 &&& (65535 : Int32)).toUInt32.toUInt16.toUInt32.toInt32) := ⟨_, rfl⟩
  rw [← hc0]
  refine GoW.of (fun _ q => XS.iloadN X0.here hx rfl (hb hby at_6) rfl q) ?_
  show GoW _ _ _ _ _ _ _ (s₁.setTop (mkF m 7 #[.val (.int x1), .val (.int x2), .val (.int x3), .val (.int c0), .unset, .unset, .unset, .unset, .unset, .unset, .unset, .unset, .unset, .unset, .unset, .unset, .unset, .unset] [(.int x1)]))
  refine GoW.of (fun _ q => XS.bipush X0.here hx rfl (hb hby at_7) q) ?_
  refine GoW.of (fun _ q => XS.iushr X0.here hx rfl (hb hby at_9) rfl q) ?_
  refine GoW.of (fun _ q => X0.ldcInt hx hown (mvT hZ (hw _ (List.mem_of_getElem? (i := 0) rfl))) (g := (mkF m 10 #[.val (.int x1), .val (.int x2), .val (.int x3), .val (.int c0), .unset, .unset, .unset, .unset, .unset, .unset, .unset, .unset, .unset, .unset, .unset, .unset, .unset, .unset] [(.int ((x1.toUInt32 >>> ((16 : Int32) &&& 31).toUInt32).toInt32))])) rfl (hb hby at_10) _ q) ?_
  show GoW _ _ _ _ _ _ _ (s₁.setTop (mkF m 12 #[.val (.int x1), .val (.int x2), .val (.int x3), .val (.int c0), .unset, .unset, .unset, .unset, .unset, .unset, .unset, .unset, .unset, .unset, .unset, .unset, .unset, .unset] [(.int (65535 : Int32)), (.int ((x1.toUInt32 >>> ((16 : Int32) &&& 31).toUInt32).toInt32))]))
  refine GoW.of (fun _ q => XS.iand X0.here hx rfl (hb hby at_12) rfl q) ?_
  refine GoW.of (fun _ q => XS.i2c X0.here hx rfl (hb hby at_13) rfl q) ?_
  refine GoW.of (fun _ q => XS.istore X0.here hx rfl (hb hby at_14) rfl (l' := #[.val (.int x1), .val (.int x2), .val (.int x3), .val (.int c0), .val (.int ((((x1.toUInt32 >>> ((16 : Int32) &&& 31).toUInt32).toInt32) &&& (65535 : Int32)).toUInt32.toUInt16.toUInt32.toInt32)), .unset, .unset, .unset, .unset, .unset, .unset, .unset, .unset, .unset, .unset, .unset, .unset, .unset]) rfl q) ?_
  obtain ⟨c1, hc1⟩ : ∃ z, z = ((((x1.toUInt32 >>> ((16 : Int32) &&& 31).toUInt32).toInt32) &&& (65535 : Int32)).toUInt32.toUInt16.toUInt32.toInt32) := ⟨_, rfl⟩
  rw [← hc1]
  show GoW _ _ _ _ _ _ _ (s₁.setTop (mkF m 16 #[.val (.int x1), .val (.int x2), .val (.int x3), .val (.int c0), .val (.int c1), .unset, .unset, .unset, .unset, .unset, .unset, .unset, .unset, .unset, .unset, .unset, .unset, .unset] []))
  refine GoW.of (fun _ q => XS.iloadN X0.here hx rfl (hb hby at_16) rfl q) ?_
  refine GoW.of (fun _ q => X0.ldcInt hx hown (mvT hZ (hw _ (List.mem_of_getElem? (i := 0) rfl))) (g := (mkF m 17 #[.val (.int x1), .val (.int x2), .val (.int x3), .val (.int c0), .val (.int c1), .unset, .unset, .unset, .unset, .unset, .unset, .unset, .unset, .unset, .unset, .unset, .unset, .unset] [(.int x2)])) rfl (hb hby at_17) _ q) ?_
  refine GoW.of (fun _ q => XS.iand X0.here hx rfl (hb hby at_19) rfl q) ?_
  show GoW _ _ _ _ _ _ _ (s₁.setTop (mkF m 20 #[.val (.int x1), .val (.int x2), .val (.int x3), .val (.int c0), .val (.int c1), .unset, .unset, .unset, .unset, .unset, .unset, .unset, .unset, .unset, .unset, .unset, .unset, .unset] [(.int (x2 &&& (65535 : Int32)))]))
  refine GoW.of (fun _ q => XS.i2c X0.here hx rfl (hb hby at_20) rfl q) ?_
  refine GoW.of (fun _ q => XS.istore X0.here hx rfl (hb hby at_21) rfl (l' := #[.val (.int x1), .val (.int x2), .val (.int x3), .val (.int c0), .val (.int c1), .val (.int ((x2 &&& (65535 : Int32)).toUInt32.toUInt16.toUInt32.toInt32)), .unset, .unset, .unset, .unset, .unset, .unset, .unset, .unset, .unset, .unset, .unset, .unset]) rfl q) ?_
  obtain ⟨c2, hc2⟩ : ∃ z, z = ((x2 &&& (65535 : Int32)).toUInt32.toUInt16.toUInt32.toInt32) := ⟨_, rfl⟩
  rw [← hc2]
  refine GoW.of (fun _ q => XS.iloadN X0.here hx rfl (hb hby at_23) rfl q) ?_
  show GoW _ _ _ _ _ _ _ (s₁.setTop (mkF m 24 #[.val (.int x1), .val (.int x2), .val (.int x3), .val (.int c0), .val (.int c1), .val (.int c2), .unset, .unset, .unset, .unset, .unset, .unset, .unset, .unset, .unset, .unset, .unset, .unset] [(.int x2)]))
  refine GoW.of (fun _ q => XS.bipush X0.here hx rfl (hb hby at_24) q) ?_
  refine GoW.of (fun _ q => XS.iushr X0.here hx rfl (hb hby at_26) rfl q) ?_
  refine GoW.of (fun _ q => X0.ldcInt hx hown (mvT hZ (hw _ (List.mem_of_getElem? (i := 0) rfl))) (g := (mkF m 27 #[.val (.int x1), .val (.int x2), .val (.int x3), .val (.int c0), .val (.int c1), .val (.int c2), .unset, .unset, .unset, .unset, .unset, .unset, .unset, .unset, .unset, .unset, .unset, .unset] [(.int ((x2.toUInt32 >>> ((16 : Int32) &&& 31).toUInt32).toInt32))])) rfl (hb hby at_27) _ q) ?_
  show GoW _ _ _ _ _ _ _ (s₁.setTop (mkF m 29 #[.val (.int x1), .val (.int x2), .val (.int x3), .val (.int c0), .val (.int c1), .val (.int c2), .unset, .unset, .unset, .unset, .unset, .unset, .unset, .unset, .unset, .unset, .unset, .unset] [(.int (65535 : Int32)), (.int ((x2.toUInt32 >>> ((16 : Int32) &&& 31).toUInt32).toInt32))]))
  refine GoW.of (fun _ q => XS.iand X0.here hx rfl (hb hby at_29) rfl q) ?_
  refine GoW.of (fun _ q => XS.i2c X0.here hx rfl (hb hby at_30) rfl q) ?_
  refine GoW.of (fun _ q => XS.istore X0.here hx rfl (hb hby at_31) rfl (l' := #[.val (.int x1), .val (.int x2), .val (.int x3), .val (.int c0), .val (.int c1), .val (.int c2), .val (.int ((((x2.toUInt32 >>> ((16 : Int32) &&& 31).toUInt32).toInt32) &&& (65535 : Int32)).toUInt32.toUInt16.toUInt32.toInt32)), .unset, .unset, .unset, .unset, .unset, .unset, .unset, .unset, .unset, .unset, .unset]) rfl q) ?_
  obtain ⟨c3, hc3⟩ : ∃ z, z = ((((x2.toUInt32 >>> ((16 : Int32) &&& 31).toUInt32).toInt32) &&& (65535 : Int32)).toUInt32.toUInt16.toUInt32.toInt32) := ⟨_, rfl⟩
  rw [← hc3]
  have k0 : own_cc c0 = c0 := by rw [hc0]; exact own_cc2 _
  have k1 : own_cc c1 = c1 := by rw [hc1]; exact own_cc2 _
  have k2 : own_cc c2 = c2 := by rw [hc2]; exact own_cc2 _
  have k3 : own_cc c3 = c3 := by rw [hc3]; exact own_cc2 _
  have hcc := own_c4cc k0 k1 k2 k3
  show GoW _ _ _ _ _ _ _ (s₁.setTop (mkF m 33 #[.val (.int x1), .val (.int x2), .val (.int x3), .val (.int c0), .val (.int c1), .val (.int c2), .val (.int c3), .unset, .unset, .unset, .unset, .unset, .unset, .unset, .unset, .unset, .unset, .unset] []))
  refine GoW.of (fun _ q => XS.iloadN X0.here hx rfl (hb hby at_33) rfl q) ?_
  refine GoW.of (fun _ q => XS.iconst X0.here hx rfl (hb hby at_34) q) ?_
  refine GoW.of (fun _ q => XS.iand X0.here hx rfl (hb hby at_35) rfl q) ?_
  show GoW _ _ _ _ _ _ _ (s₁.setTop (mkF m 36 #[.val (.int x1), .val (.int x2), .val (.int x3), .val (.int c0), .val (.int c1), .val (.int c2), .val (.int c3), .unset, .unset, .unset, .unset, .unset, .unset, .unset, .unset, .unset, .unset, .unset] [(.int (x3 &&& (3 : Int32)))]))
  refine GoW.of (fun _ q => XS.istore X0.here hx rfl (hb hby at_36) rfl (l' := #[.val (.int x1), .val (.int x2), .val (.int x3), .val (.int c0), .val (.int c1), .val (.int c2), .val (.int c3), .val (.int (x3 &&& (3 : Int32))), .unset, .unset, .unset, .unset, .unset, .unset, .unset, .unset, .unset, .unset]) rfl q) ?_
  show GoW _ _ _ _ _ _ _ (s₁.setTop (mkF m 38 #[.val (.int x1), .val (.int x2), .val (.int x3), .val (.int c0), .val (.int c1), .val (.int c2), .val (.int c3), .val (.int (x3 &&& (3 : Int32))), .unset, .unset, .unset, .unset, .unset, .unset, .unset, .unset, .unset, .unset] []))
  rcases own_four x3 with q3 | q3 | q3 | q3
  · rw [q3]
    refine GoW.of (fun _ q => XS.iconst X0.here hx rfl (hb hby at_38) q) ?_
    refine GoW.of (fun _ q => XS.iloadN X0.here hx rfl (hb hby at_39) rfl q) ?_
    show GoW _ _ _ _ _ _ _ (s₁.setTop (mkF m 40 #[.val (.int x1), .val (.int x2), .val (.int x3), .val (.int c0), .val (.int c1), .val (.int c2), .val (.int c3), .val (.int (0 : Int32)), .unset, .unset, .unset, .unset, .unset, .unset, .unset, .unset, .unset, .unset] [(.int c0), (.int (0 : Int32))]))
    refine GoW.of (fun _ q => XS.iload X0.here hx rfl (hb hby at_40) rfl q) ?_
    refine GoW.of (fun _ q => XS.iload X0.here hx rfl (hb hby at_42) rfl q) ?_
    refine GoW.of (fun _ q => XS.iload X0.here hx rfl (hb hby at_44) rfl q) ?_
    show GoW _ _ _ _ _ _ _ (s₁.setTop (mkF m 46 #[.val (.int x1), .val (.int x2), .val (.int x3), .val (.int c0), .val (.int c1), .val (.int c2), .val (.int c3), .val (.int (0 : Int32)), .unset, .unset, .unset, .unset, .unset, .unset, .unset, .unset, .unset, .unset] [(.int c3), (.int c2), (.int c1), (.int c0), (.int (0 : Int32))]))
    refine GoW.staticW X0 hS hk hx hZ (y := (⟨"com/example/ddos_fee_ledger/ddosfeeledger/IndexRunHashPinLaw", "make", "(ICCCC)Ljava/lang/String;"⟩ : MethodName)) (argsL := [(.int (0 : Int32)), (.int c0), (.int c1), (.int c2), (.int c3)]) hown (hw _ (List.mem_of_getElem? (i := 1) rfl)) (hw _ (List.mem_of_getElem? (i := 2) rfl)) (hw _ (List.mem_of_getElem? (i := 3) rfl)) (hw _ (List.mem_of_getElem? (i := 4) rfl)) (by decide) 0 e0 (fun vm₁ hW => hW.interned_eq.trans hV) (rm1_0 l Z a0 hw c0 c1 c2 c3 h0 n0 Zs Od hheld hcomp) (by decide) (by decide) (by decide) (by decide) (g := (mkF m 46 #[.val (.int x1), .val (.int x2), .val (.int x3), .val (.int c0), .val (.int c1), .val (.int c2), .val (.int c3), .val (.int (0 : Int32)), .unset, .unset, .unset, .unset, .unset, .unset, .unset, .unset, .unset, .unset] [(.int c3), (.int c2), (.int c1), (.int c0), (.int (0 : Int32))])) rfl (by rw [hml]; rfl) (rest := []) (lenOf pd17 rfl) rfl (by show 2 * 0 + _ ≤ _; exact Nat.le_of_eq rfl) (hb hby at_46) ?_
    intro T1 v1 L1 X1 hS hZ hown q1
    obtain ⟨s0, lb, klb, glb, la, rfl, Nq1, K1, f1_0, f1_1, f1_2, f1_3, f1_4, f1_5, f1_6⟩ := q1
    have N1 := Fr.app N0 Nq1
    have g_s0 : n0 ≤ s0 := Nat.le_trans Zs f1_0
    have sz_s0 : h0.size ≤ s0 := Nat.le_trans Kp.1 f1_0
    have Zs := Nat.le_trans Zs K1.1
    have Kp := Kp.trans K1 all0
    have hk := Nat.le_trans hk K1.1
    have Od := Od.keep K1 all0
    have hk := Nat.le_refl T1.heap.size
    have E_s0 := f1_1
    have S_s0 := f1_2
    have A_lb := f1_3
    have F_la_value := f1_4
    have F_la_coder := f1_5
    have hli_1 := f1_6
    refine GoW.of (fun _ q => XS.astore X1.here hx rfl (hb hby at_49) rfl rfl (l' := #[.val (.int x1), .val (.int x2), .val (.int x3), .val (.int c0), .val (.int c1), .val (.int c2), .val (.int c3), .val (.int (0 : Int32)), .val (.ref s0), .unset, .unset, .unset, .unset, .unset, .unset, .unset, .unset, .unset]) rfl q) ?_
    refine GoW.of (fun _ q => XS.iload X1.here hx rfl (hb hby at_51) rfl q) ?_
    show GoW _ _ _ _ _ _ _ (T1.setTop (mkF m 53 #[.val (.int x1), .val (.int x2), .val (.int x3), .val (.int c0), .val (.int c1), .val (.int c2), .val (.int c3), .val (.int (0 : Int32)), .val (.ref s0), .unset, .unset, .unset, .unset, .unset, .unset, .unset, .unset, .unset] [(.int (0 : Int32))]))
    refine GoW.of (fun _ q => XS.iloadN X1.here hx rfl (hb hby at_53) rfl q) ?_
    refine GoW.of (fun _ q => XS.iload X1.here hx rfl (hb hby at_54) rfl q) ?_
    refine GoW.of (fun _ q => XS.iload X1.here hx rfl (hb hby at_56) rfl q) ?_
    show GoW _ _ _ _ _ _ _ (T1.setTop (mkF m 58 #[.val (.int x1), .val (.int x2), .val (.int x3), .val (.int c0), .val (.int c1), .val (.int c2), .val (.int c3), .val (.int (0 : Int32)), .val (.ref s0), .unset, .unset, .unset, .unset, .unset, .unset, .unset, .unset, .unset] [(.int c2), (.int c1), (.int c0), (.int (0 : Int32))]))
    refine GoW.of (fun _ q => XS.iload X1.here hx rfl (hb hby at_58) rfl q) ?_
    refine GoW.staticW X1 hS hk hx hZ (y := (⟨"com/example/ddos_fee_ledger/ddosfeeledger/IndexRunHashPinLaw", "make", "(ICCCC)Ljava/lang/String;"⟩ : MethodName)) (argsL := [(.int (0 : Int32)), (.int c0), (.int c1), (.int c2), (.int c3)]) hown (hw _ (List.mem_of_getElem? (i := 1) rfl)) (hw _ (List.mem_of_getElem? (i := 2) rfl)) (hw _ (List.mem_of_getElem? (i := 3) rfl)) (hw _ (List.mem_of_getElem? (i := 4) rfl)) (by decide) 0 rfl (fun vm₁ hW => litZ (Lit.stays (s := s) (litZ hli_1) hW.wide)) (rm1_0b l Z a0 hw c0 c1 c2 c3 la lb klb glb T1.heap n0 Zs Od F_la_value F_la_coder A_lb) (by decide) (by decide) (by decide) (by decide) (g := (mkF m 60 #[.val (.int x1), .val (.int x2), .val (.int x3), .val (.int c0), .val (.int c1), .val (.int c2), .val (.int c3), .val (.int (0 : Int32)), .val (.ref s0), .unset, .unset, .unset, .unset, .unset, .unset, .unset, .unset, .unset] [(.int c3), (.int c2), (.int c1), (.int c0), (.int (0 : Int32))])) rfl (by rw [hml]; rfl) (rest := []) (lenOf pd17 rfl) rfl (by show 2 * 0 + _ ≤ _; exact Nat.le_of_eq rfl) (hb hby at_60) ?_
    intro T2 v2 L2 X2 hS hZ hown q2
    obtain ⟨sS, rfl, Nq2, K2, f2_0, f2_1, f2_2⟩ := q2
    have N2 := Fr.app N1 Nq2
    have g_sS : n0 ≤ sS := Nat.le_trans Zs f2_0
    have sz_sS : h0.size ≤ sS := Nat.le_trans Kp.1 f2_0
    have ne_s0_sS : s0 ≠ sS := Nat.ne_of_lt (Nat.lt_of_lt_of_le E_s0.lt f2_0)
    have ne_lb_sS : lb ≠ sS := Nat.ne_of_lt (Nat.lt_of_lt_of_le A_lb.lt f2_0)
    have ne_la_sS : la ≠ sS := Nat.ne_of_lt (Nat.lt_of_lt_of_le F_la_value.lt f2_0)
    have Zs := Nat.le_trans Zs K2.1
    have Kp := Kp.trans K2 all0
    have hk := Nat.le_trans hk K2.1
    have Od := Od.keep K2 all0
    have E_s0 := E_s0.keep K2
    have S_s0 := S_s0.keep0 K2
    have A_lb := A_lb.keep K2 nin0
    have F_la_value := F_la_value.keep K2 nin0
    have F_la_coder := F_la_coder.keep K2 nin0
    have hk := Nat.le_refl T2.heap.size
    have E_sS := f2_1
    have S_sS := f2_2
    refine GoW.of (fun _ q => XS.astore X2.here hx rfl (hb hby at_63) rfl rfl (l' := #[.val (.int x1), .val (.int x2), .val (.int x3), .val (.int c0), .val (.int c1), .val (.int c2), .val (.int c3), .val (.int (0 : Int32)), .val (.ref s0), .val (.ref sS), .unset, .unset, .unset, .unset, .unset, .unset, .unset, .unset]) rfl q) ?_
    show GoW _ _ _ _ _ _ _ (T2.setTop (mkF m 65 #[.val (.int x1), .val (.int x2), .val (.int x3), .val (.int c0), .val (.int c1), .val (.int c2), .val (.int c3), .val (.int (0 : Int32)), .val (.ref s0), .val (.ref sS), .unset, .unset, .unset, .unset, .unset, .unset, .unset, .unset] []))
    refine GoW.of (fun _ q => XS.iload X2.here hx rfl (hb hby at_65) rfl q) ?_
    refine GoW.of (fun _ q => XS.iconst X2.here hx rfl (hb hby at_67) q) ?_
    refine GoW.of (fun _ q => XS.iadd X2.here hx rfl (hb hby at_68) rfl q) ?_
    show GoW _ _ _ _ _ _ _ (T2.setTop (mkF m 69 #[.val (.int x1), .val (.int x2), .val (.int x3), .val (.int c0), .val (.int c1), .val (.int c2), .val (.int c3), .val (.int (0 : Int32)), .val (.ref s0), .val (.ref sS), .unset, .unset, .unset, .unset, .unset, .unset, .unset, .unset] [(.int (1 : Int32))]))
    refine GoW.of (fun _ q => XS.iloadN X2.here hx rfl (hb hby at_69) rfl q) ?_
    refine GoW.of (fun _ q => XS.iload X2.here hx rfl (hb hby at_70) rfl q) ?_
    refine GoW.of (fun _ q => XS.iload X2.here hx rfl (hb hby at_72) rfl q) ?_
    show GoW _ _ _ _ _ _ _ (T2.setTop (mkF m 74 #[.val (.int x1), .val (.int x2), .val (.int x3), .val (.int c0), .val (.int c1), .val (.int c2), .val (.int c3), .val (.int (0 : Int32)), .val (.ref s0), .val (.ref sS), .unset, .unset, .unset, .unset, .unset, .unset, .unset, .unset] [(.int c2), (.int c1), (.int c0), (.int (1 : Int32))]))
    refine GoW.of (fun _ q => XS.iload X2.here hx rfl (hb hby at_74) rfl q) ?_
    refine callStatic GoW.of X2 hx hZ (y := (⟨"com/example/ddos_fee_ledger/ddosfeeledger/IndexRunHashPinLaw", "make", "(ICCCC)Ljava/lang/String;"⟩ : MethodName)) (argsL := [(.int (1 : Int32)), (.int c0), (.int c1), (.int c2), (.int c3)]) hown (hw _ (List.mem_of_getElem? (i := 1) rfl)) (hw _ (List.mem_of_getElem? (i := 2) rfl)) (hw _ (List.mem_of_getElem? (i := 3) rfl)) (hw _ (List.mem_of_getElem? (i := 4) rfl)) (by decide) 0 rfl (rm1_1 l Z a0 hw c0 c1 c2 c3 cs T2.heap n0 Zs Od hcc Scs hcs Sad Shi Slo) (by decide) (by decide) (by decide) (by decide) (g := (mkF m 76 #[.val (.int x1), .val (.int x2), .val (.int x3), .val (.int c0), .val (.int c1), .val (.int c2), .val (.int c3), .val (.int (0 : Int32)), .val (.ref s0), .val (.ref sS), .unset, .unset, .unset, .unset, .unset, .unset, .unset, .unset] [(.int c3), (.int c2), (.int c1), (.int c0), (.int (1 : Int32))])) rfl (by rw [hml]; rfl) (rest := []) (lenOf pd17 rfl) rfl (by show 2 * 0 + _ ≤ _; exact Nat.le_of_eq rfl) (hb hby at_76) ?_
    intro T3 v3 L3 X3 q3
    obtain ⟨sT, rfl, Nq3, K3, f3_0, f3_1, f3_2⟩ := q3
    have N3 := Fr.app N2 Nq3
    have g_sT : n0 ≤ sT := Nat.le_trans Zs f3_0
    have sz_sT : h0.size ≤ sT := Nat.le_trans Kp.1 f3_0
    have ne_s0_sT : s0 ≠ sT := Nat.ne_of_lt (Nat.lt_of_lt_of_le E_s0.lt f3_0)
    have ne_lb_sT : lb ≠ sT := Nat.ne_of_lt (Nat.lt_of_lt_of_le A_lb.lt f3_0)
    have ne_la_sT : la ≠ sT := Nat.ne_of_lt (Nat.lt_of_lt_of_le F_la_value.lt f3_0)
    have ne_sS_sT : sS ≠ sT := Nat.ne_of_lt (Nat.lt_of_lt_of_le E_sS.lt f3_0)
    have Zs := Nat.le_trans Zs K3.1
    have Kp := Kp.trans K3 all0
    have hk := Nat.le_trans hk K3.1
    have Od := Od.keep K3 all0
    have E_s0 := E_s0.keep K3
    have S_s0 := S_s0.keep0 K3
    have A_lb := A_lb.keep K3 nin0
    have F_la_value := F_la_value.keep K3 nin0
    have F_la_coder := F_la_coder.keep K3 nin0
    have E_sS := E_sS.keep K3
    have S_sS := S_sS.keep0 K3
    have E_sT := f3_1
    have S_sT := f3_2
    refine GoW.of (fun _ q => XS.astore X3.here hx rfl (hb hby at_79) rfl rfl (l' := #[.val (.int x1), .val (.int x2), .val (.int x3), .val (.int c0), .val (.int c1), .val (.int c2), .val (.int c3), .val (.int (0 : Int32)), .val (.ref s0), .val (.ref sS), .val (.ref sT), .unset, .unset, .unset, .unset, .unset, .unset, .unset]) rfl q) ?_
    show GoW _ _ _ _ _ _ _ (T3.setTop (mkF m 81 #[.val (.int x1), .val (.int x2), .val (.int x3), .val (.int c0), .val (.int c1), .val (.int c2), .val (.int c3), .val (.int (0 : Int32)), .val (.ref s0), .val (.ref sS), .val (.ref sT), .unset, .unset, .unset, .unset, .unset, .unset, .unset] []))
    refine GoW.of (fun _ q => XS.iload X3.here hx rfl (hb hby at_81) rfl q) ?_
    refine GoW.of (fun _ q => XS.iloadN X3.here hx rfl (hb hby at_83) rfl q) ?_
    refine GoW.of (fun _ q => XS.iload X3.here hx rfl (hb hby at_84) rfl q) ?_
    show GoW _ _ _ _ _ _ _ (T3.setTop (mkF m 86 #[.val (.int x1), .val (.int x2), .val (.int x3), .val (.int c0), .val (.int c1), .val (.int c2), .val (.int c3), .val (.int (0 : Int32)), .val (.ref s0), .val (.ref sS), .val (.ref sT), .unset, .unset, .unset, .unset, .unset, .unset, .unset] [(.int c1), (.int c0), (.int (0 : Int32))]))
    refine GoW.of (fun _ q => XS.iload X3.here hx rfl (hb hby at_86) rfl q) ?_
    refine GoW.of (fun _ q => XS.iload X3.here hx rfl (hb hby at_88) rfl q) ?_
    refine callStatic GoW.of X3 hx hZ (y := (⟨"com/example/ddos_fee_ledger/ddosfeeledger/IndexRunHashPinLaw", "pick", "(ICCCC)C"⟩ : MethodName)) (argsL := [(.int (0 : Int32)), (.int c0), (.int c1), (.int c2), (.int c3)]) hown (hw _ (List.mem_of_getElem? (i := 38) rfl)) (hw _ (List.mem_of_getElem? (i := 39) rfl)) (hw _ (List.mem_of_getElem? (i := 3) rfl)) (hw _ (List.mem_of_getElem? (i := 40) rfl)) (by decide) 0 rfl (rm8_0 l Z a0 hw c0 c1 c2 c3 T3.heap n0 Zs k0) (by decide) (by decide) (by decide) (by decide) (g := (mkF m 90 #[.val (.int x1), .val (.int x2), .val (.int x3), .val (.int c0), .val (.int c1), .val (.int c2), .val (.int c3), .val (.int (0 : Int32)), .val (.ref s0), .val (.ref sS), .val (.ref sT), .unset, .unset, .unset, .unset, .unset, .unset, .unset] [(.int c3), (.int c2), (.int c1), (.int c0), (.int (0 : Int32))])) rfl (by rw [hml]; rfl) (rest := []) (lenOf pd18 rfl) rfl (by show 2 * 0 + _ ≤ _; exact Nat.le_of_eq rfl) (hb hby at_90) ?_
    intro T4 v4 L4 X4 q4
    obtain ⟨rfl, Nq4, e4⟩ := q4
    have N4 := Fr.app N3 Nq4
    show GoW _ _ _ _ _ _ _ (T4.setTop (mkF m 93 #[.val (.int x1), .val (.int x2), .val (.int x3), .val (.int c0), .val (.int c1), .val (.int c2), .val (.int c3), .val (.int (0 : Int32)), .val (.ref s0), .val (.ref sS), .val (.ref sT), .unset, .unset, .unset, .unset, .unset, .unset, .unset] [(.int c0)]))
    refine GoW.of (fun _ q => XS.istore X4.here hx rfl (hb hby at_93) rfl (l' := #[.val (.int x1), .val (.int x2), .val (.int x3), .val (.int c0), .val (.int c1), .val (.int c2), .val (.int c3), .val (.int (0 : Int32)), .val (.ref s0), .val (.ref sS), .val (.ref sT), .val (.int c0), .unset, .unset, .unset, .unset, .unset, .unset]) rfl q) ?_
    refine GoW.of (fun _ q => XS.aload X4.here hx rfl (hb hby at_95) rfl rfl q) ?_
    refine callStatic GoW.of X4 hx hZ (y := (⟨"com/example/ddos_fee_ledger/ddosfeeledger/IndexRun", "hash", "(Ljava/lang/String;)J"⟩ : MethodName)) (argsL := [(.ref s0)]) hown (hw _ (List.mem_of_getElem? (i := 41) rfl)) (hw _ (List.mem_of_getElem? (i := 42) rfl)) (hw _ (List.mem_of_getElem? (i := 43) rfl)) (hw _ (List.mem_of_getElem? (i := 44) rfl)) (by decide) 0 e4 (rm9_0 l Z a0 hw s0 (own_c4 c0 c1 c2 c3) cs T3.heap n0 Zs Od E_s0 S_s0 Scs hcs) (by decide) (by decide) (by decide) (by decide) (g := (mkF m 97 #[.val (.int x1), .val (.int x2), .val (.int x3), .val (.int c0), .val (.int c1), .val (.int c2), .val (.int c3), .val (.int (0 : Int32)), .val (.ref s0), .val (.ref sS), .val (.ref sT), .val (.int c0), .unset, .unset, .unset, .unset, .unset, .unset] [(.ref s0)])) rfl (by rw [hml]; rfl) (rest := []) (lenOf pd19 rfl) rfl (by show 2 * 0 + _ ≤ _; exact Nat.le_of_eq rfl) (hb hby at_97) ?_
    intro T5 v5 L5 X5 q5
    obtain ⟨rfl, Nq5, e5⟩ := q5
    have N5 := Fr.app N4 Nq5
    show GoW _ _ _ _ _ _ _ (T5.setTop (mkF m 100 #[.val (.int x1), .val (.int x2), .val (.int x3), .val (.int c0), .val (.int c1), .val (.int c2), .val (.int c3), .val (.int (0 : Int32)), .val (.ref s0), .val (.ref sS), .val (.ref sT), .val (.int c0), .unset, .unset, .unset, .unset, .unset, .unset] [(.long (-3750763034362895579 : Int64))]))
    refine GoW.of (fun _ q => X5.ldc2Long hx hown (mvT hZ (hw _ (List.mem_of_getElem? (i := 56) rfl))) (g := (mkF m 100 #[.val (.int x1), .val (.int x2), .val (.int x3), .val (.int c0), .val (.int c1), .val (.int c2), .val (.int c3), .val (.int (0 : Int32)), .val (.ref s0), .val (.ref sS), .val (.ref sT), .val (.int c0), .unset, .unset, .unset, .unset, .unset, .unset] [(.long (-3750763034362895579 : Int64))])) rfl (hb hby at_100) _ q) ?_
    refine GoW.of (fun _ q => XS.lcmp X5.here hx rfl (hb hby at_103) rfl q) ?_
    refine GoW.of (fun _ q => XS.ifNo X5.here hx rfl (hb hby at_104) rfl ((if0 _ _).trans (teq ((lw_eq (-3750763034362895579 : Int64) (-3750763034362895579 : Int64)).mpr rfl)).2) q) ?_
    show GoW _ _ _ _ _ _ _ (T5.setTop (mkF m 107 #[.val (.int x1), .val (.int x2), .val (.int x3), .val (.int c0), .val (.int c1), .val (.int c2), .val (.int c3), .val (.int (0 : Int32)), .val (.ref s0), .val (.ref sS), .val (.ref sT), .val (.int c0), .unset, .unset, .unset, .unset, .unset, .unset] []))
    refine GoW.of (fun _ q => XS.iconst X5.here hx rfl (hb hby at_107) q) ?_
    refine GoW.of (fun _ q => XS.goto X5.here hx rfl (pc0 := 108) (pc' := 112) rfl (hb hby at_108) (by decide) (by decide) q) ?_
    refine GoW.of (fun _ q => XS.istore X5.here hx rfl (hb hby at_112) rfl (l' := #[.val (.int x1), .val (.int x2), .val (.int x3), .val (.int c0), .val (.int c1), .val (.int c2), .val (.int c3), .val (.int (0 : Int32)), .val (.ref s0), .val (.ref sS), .val (.ref sT), .val (.int c0), .val (.int (1 : Int32)), .unset, .unset, .unset, .unset, .unset]) rfl q) ?_
    show GoW _ _ _ _ _ _ _ (T5.setTop (mkF m 114 #[.val (.int x1), .val (.int x2), .val (.int x3), .val (.int c0), .val (.int c1), .val (.int c2), .val (.int c3), .val (.int (0 : Int32)), .val (.ref s0), .val (.ref sS), .val (.ref sT), .val (.int c0), .val (.int (1 : Int32)), .unset, .unset, .unset, .unset, .unset] []))
    refine GoW.of (fun _ q => XS.aload X5.here hx rfl (hb hby at_114) rfl rfl q) ?_
    refine callStatic GoW.of X5 hx hZ (y := (⟨"com/example/ddos_fee_ledger/ddosfeeledger/IndexRun", "hash", "(Ljava/lang/String;)J"⟩ : MethodName)) (argsL := [(.ref sS)]) hown (hw _ (List.mem_of_getElem? (i := 41) rfl)) (hw _ (List.mem_of_getElem? (i := 42) rfl)) (hw _ (List.mem_of_getElem? (i := 43) rfl)) (hw _ (List.mem_of_getElem? (i := 44) rfl)) (by decide) 0 e5 (rm9_0 l Z a0 hw sS (own_c4 c0 c1 c2 c3) cs T3.heap n0 Zs Od E_sS S_sS Scs hcs) (by decide) (by decide) (by decide) (by decide) (g := (mkF m 116 #[.val (.int x1), .val (.int x2), .val (.int x3), .val (.int c0), .val (.int c1), .val (.int c2), .val (.int c3), .val (.int (0 : Int32)), .val (.ref s0), .val (.ref sS), .val (.ref sT), .val (.int c0), .val (.int (1 : Int32)), .unset, .unset, .unset, .unset, .unset] [(.ref sS)])) rfl (by rw [hml]; rfl) (rest := []) (lenOf pd19 rfl) rfl (by show 2 * 0 + _ ≤ _; exact Nat.le_of_eq rfl) (hb hby at_116) ?_
    intro T6 v6 L6 X6 q6
    obtain ⟨rfl, Nq6, e6⟩ := q6
    have N6 := Fr.app N5 Nq6
    refine GoW.of (fun _ q => XS.lstore X6.here hx rfl (hb hby at_119) rfl (l' := #[.val (.int x1), .val (.int x2), .val (.int x3), .val (.int c0), .val (.int c1), .val (.int c2), .val (.int c3), .val (.int (0 : Int32)), .val (.ref s0), .val (.ref sS), .val (.ref sT), .val (.int c0), .val (.int (1 : Int32)), .val (.long (-3750763034362895579 : Int64)), .second, .unset, .unset, .unset]) rfl q) ?_
    show GoW _ _ _ _ _ _ _ (T6.setTop (mkF m 121 #[.val (.int x1), .val (.int x2), .val (.int x3), .val (.int c0), .val (.int c1), .val (.int c2), .val (.int c3), .val (.int (0 : Int32)), .val (.ref s0), .val (.ref sS), .val (.ref sT), .val (.int c0), .val (.int (1 : Int32)), .val (.long (-3750763034362895579 : Int64)), .second, .unset, .unset, .unset] []))
    refine GoW.of (fun _ q => XS.aload X6.here hx rfl (hb hby at_121) rfl rfl q) ?_
    refine callStatic GoW.of X6 hx hZ (y := (⟨"com/example/ddos_fee_ledger/ddosfeeledger/IndexRun", "hash", "(Ljava/lang/String;)J"⟩ : MethodName)) (argsL := [(.ref sT)]) hown (hw _ (List.mem_of_getElem? (i := 41) rfl)) (hw _ (List.mem_of_getElem? (i := 42) rfl)) (hw _ (List.mem_of_getElem? (i := 43) rfl)) (hw _ (List.mem_of_getElem? (i := 44) rfl)) (by decide) 0 e6 (rm9_1 l Z a0 hw sT (own_c4 c0 c1 c2 c3) fm hfm cs T3.heap n0 Zs Od E_sT S_sT Scs hcs Sfm Sad Shi Slo) (by decide) (by decide) (by decide) (by decide) (g := (mkF m 123 #[.val (.int x1), .val (.int x2), .val (.int x3), .val (.int c0), .val (.int c1), .val (.int c2), .val (.int c3), .val (.int (0 : Int32)), .val (.ref s0), .val (.ref sS), .val (.ref sT), .val (.int c0), .val (.int (1 : Int32)), .val (.long (-3750763034362895579 : Int64)), .second, .unset, .unset, .unset] [(.ref sT)])) rfl (by rw [hml]; rfl) (rest := []) (lenOf pd19 rfl) rfl (by show 2 * 0 + _ ≤ _; exact Nat.le_of_eq rfl) (hb hby at_123) ?_
    intro T7 v7 L7 X7 q7
    obtain ⟨rfl, Nq7, e7⟩ := q7
    have N7 := Fr.app N6 Nq7
    refine GoW.of (fun _ q => XS.lstore X7.here hx rfl (hb hby at_126) rfl (l' := #[.val (.int x1), .val (.int x2), .val (.int x3), .val (.int c0), .val (.int c1), .val (.int c2), .val (.int c3), .val (.int (0 : Int32)), .val (.ref s0), .val (.ref sS), .val (.ref sT), .val (.int c0), .val (.int (1 : Int32)), .val (.long (-3750763034362895579 : Int64)), .second, .val (.long (own_h [((own_c4 c0 c1 c2 c3) 0)])), .second, .unset]) rfl q) ?_
    show GoW _ _ _ _ _ _ _ (T7.setTop (mkF m 128 #[.val (.int x1), .val (.int x2), .val (.int x3), .val (.int c0), .val (.int c1), .val (.int c2), .val (.int c3), .val (.int (0 : Int32)), .val (.ref s0), .val (.ref sS), .val (.ref sT), .val (.int c0), .val (.int (1 : Int32)), .val (.long (-3750763034362895579 : Int64)), .second, .val (.long (own_h [((own_c4 c0 c1 c2 c3) 0)])), .second, .unset] []))
    refine GoW.of (fun _ q => XS.lload X7.here hx rfl (hb hby at_128) rfl q) ?_
    refine GoW.of (fun _ q => XS.lload X7.here hx rfl (hb hby at_130) rfl q) ?_
    refine GoW.of (fun _ q => XS.iload X7.here hx rfl (hb hby at_132) rfl q) ?_
    show GoW _ _ _ _ _ _ _ (T7.setTop (mkF m 134 #[.val (.int x1), .val (.int x2), .val (.int x3), .val (.int c0), .val (.int c1), .val (.int c2), .val (.int c3), .val (.int (0 : Int32)), .val (.ref s0), .val (.ref sS), .val (.ref sT), .val (.int c0), .val (.int (1 : Int32)), .val (.long (-3750763034362895579 : Int64)), .second, .val (.long (own_h [((own_c4 c0 c1 c2 c3) 0)])), .second, .unset] [(.int c0), (.long (-3750763034362895579 : Int64)), (.long (own_h [((own_c4 c0 c1 c2 c3) 0)]))]))
    refine GoW.of (fun _ q => XS.i2l X7.here hx rfl (hb hby at_134) rfl q) ?_
    refine GoW.of (fun _ q => XS.lxor X7.here hx rfl (hb hby at_135) rfl q) ?_
    refine GoW.of (fun _ q => X7.ldc2Long hx hown (mvT hZ (hw _ (List.mem_of_getElem? (i := 80) rfl))) (g := (mkF m 136 #[.val (.int x1), .val (.int x2), .val (.int x3), .val (.int c0), .val (.int c1), .val (.int c2), .val (.int c3), .val (.int (0 : Int32)), .val (.ref s0), .val (.ref sS), .val (.ref sT), .val (.int c0), .val (.int (1 : Int32)), .val (.long (-3750763034362895579 : Int64)), .second, .val (.long (own_h [((own_c4 c0 c1 c2 c3) 0)])), .second, .unset] [(.long ((-3750763034362895579 : Int64) ^^^ (c0.toInt64))), (.long (own_h [((own_c4 c0 c1 c2 c3) 0)]))])) rfl (hb hby at_136) _ q) ?_
    show GoW _ _ _ _ _ _ _ (T7.setTop (mkF m 139 #[.val (.int x1), .val (.int x2), .val (.int x3), .val (.int c0), .val (.int c1), .val (.int c2), .val (.int c3), .val (.int (0 : Int32)), .val (.ref s0), .val (.ref sS), .val (.ref sT), .val (.int c0), .val (.int (1 : Int32)), .val (.long (-3750763034362895579 : Int64)), .second, .val (.long (own_h [((own_c4 c0 c1 c2 c3) 0)])), .second, .unset] [(.long (1099511628211 : Int64)), (.long ((-3750763034362895579 : Int64) ^^^ (c0.toInt64))), (.long (own_h [((own_c4 c0 c1 c2 c3) 0)]))]))
    refine GoW.of (fun _ q => XS.lmul X7.here hx rfl (hb hby at_139) rfl q) ?_
    refine GoW.of (fun _ q => XS.lcmp X7.here hx rfl (hb hby at_140) rfl q) ?_
    refine GoW.of (fun _ q => XS.ifNo X7.here hx rfl (hb hby at_141) rfl ((if0 _ _).trans (teq ((lw_eq (own_h [((own_c4 c0 c1 c2 c3) 0)]) (((-3750763034362895579 : Int64) ^^^ (c0.toInt64)) * (1099511628211 : Int64))).mpr rfl)).2) q) ?_
    show GoW _ _ _ _ _ _ _ (T7.setTop (mkF m 144 #[.val (.int x1), .val (.int x2), .val (.int x3), .val (.int c0), .val (.int c1), .val (.int c2), .val (.int c3), .val (.int (0 : Int32)), .val (.ref s0), .val (.ref sS), .val (.ref sT), .val (.int c0), .val (.int (1 : Int32)), .val (.long (-3750763034362895579 : Int64)), .second, .val (.long (own_h [((own_c4 c0 c1 c2 c3) 0)])), .second, .unset] []))
    refine GoW.of (fun _ q => XS.iconst X7.here hx rfl (hb hby at_144) q) ?_
    refine GoW.of (fun _ q => XS.goto X7.here hx rfl (pc0 := 145) (pc' := 149) rfl (hb hby at_145) (by decide) (by decide) q) ?_
    refine GoW.of (fun _ q => XS.istore X7.here hx rfl (hb hby at_149) rfl (l' := #[.val (.int x1), .val (.int x2), .val (.int x3), .val (.int c0), .val (.int c1), .val (.int c2), .val (.int c3), .val (.int (0 : Int32)), .val (.ref s0), .val (.ref sS), .val (.ref sT), .val (.int c0), .val (.int (1 : Int32)), .val (.long (-3750763034362895579 : Int64)), .second, .val (.long (own_h [((own_c4 c0 c1 c2 c3) 0)])), .second, .val (.int (1 : Int32))]) rfl q) ?_
    show GoW _ _ _ _ _ _ _ (T7.setTop (mkF m 151 #[.val (.int x1), .val (.int x2), .val (.int x3), .val (.int c0), .val (.int c1), .val (.int c2), .val (.int c3), .val (.int (0 : Int32)), .val (.ref s0), .val (.ref sS), .val (.ref sT), .val (.int c0), .val (.int (1 : Int32)), .val (.long (-3750763034362895579 : Int64)), .second, .val (.long (own_h [((own_c4 c0 c1 c2 c3) 0)])), .second, .val (.int (1 : Int32))] []))
    refine GoW.of (fun _ q => XS.iload X7.here hx rfl (hb hby at_151) rfl q) ?_
    refine GoW.of (fun _ q => XS.ifNo X7.here hx rfl (hb hby at_153) rfl ((if0 _ _).trans (feq (by decide)).1) q) ?_
    refine GoW.of (fun _ q => XS.iload X7.here hx rfl (hb hby at_156) rfl q) ?_
    show GoW _ _ _ _ _ _ _ (T7.setTop (mkF m 158 #[.val (.int x1), .val (.int x2), .val (.int x3), .val (.int c0), .val (.int c1), .val (.int c2), .val (.int c3), .val (.int (0 : Int32)), .val (.ref s0), .val (.ref sS), .val (.ref sT), .val (.int c0), .val (.int (1 : Int32)), .val (.long (-3750763034362895579 : Int64)), .second, .val (.long (own_h [((own_c4 c0 c1 c2 c3) 0)])), .second, .val (.int (1 : Int32))] [(.int (1 : Int32))]))
    refine GoW.of (fun _ q => XS.ifNo X7.here hx rfl (hb hby at_158) rfl ((if0 _ _).trans (feq (by decide)).1) q) ?_
    refine GoW.of (fun _ q => XS.iconst X7.here hx rfl (hb hby at_161) q) ?_
    refine GoW.of (fun _ q => XS.goto X7.here hx rfl (pc0 := 162) (pc' := 166) rfl (hb hby at_162) (by decide) (by decide) q) ?_
    show GoW _ _ _ _ _ _ _ (T7.setTop (mkF m 166 #[.val (.int x1), .val (.int x2), .val (.int x3), .val (.int c0), .val (.int c1), .val (.int c2), .val (.int c3), .val (.int (0 : Int32)), .val (.ref s0), .val (.ref sS), .val (.ref sT), .val (.int c0), .val (.int (1 : Int32)), .val (.long (-3750763034362895579 : Int64)), .second, .val (.long (own_h [((own_c4 c0 c1 c2 c3) 0)])), .second, .val (.int (1 : Int32))] [(.int (1 : Int32))]))
    refine GoW.retN X7 hS (by rw [e7]; exact hk) hx hlk (t := .boolean) hret (by simp) (hb hby at_166) rfl (by decide) (by decide) ?_
    rw [e7]
    exact ⟨rfl, N7⟩
  · rw [q3]
    refine GoW.of (fun _ q => XS.iconst X0.here hx rfl (hb hby at_38) q) ?_
    refine GoW.of (fun _ q => XS.iloadN X0.here hx rfl (hb hby at_39) rfl q) ?_
    show GoW _ _ _ _ _ _ _ (s₁.setTop (mkF m 40 #[.val (.int x1), .val (.int x2), .val (.int x3), .val (.int c0), .val (.int c1), .val (.int c2), .val (.int c3), .val (.int (1 : Int32)), .unset, .unset, .unset, .unset, .unset, .unset, .unset, .unset, .unset, .unset] [(.int c0), (.int (0 : Int32))]))
    refine GoW.of (fun _ q => XS.iload X0.here hx rfl (hb hby at_40) rfl q) ?_
    refine GoW.of (fun _ q => XS.iload X0.here hx rfl (hb hby at_42) rfl q) ?_
    refine GoW.of (fun _ q => XS.iload X0.here hx rfl (hb hby at_44) rfl q) ?_
    show GoW _ _ _ _ _ _ _ (s₁.setTop (mkF m 46 #[.val (.int x1), .val (.int x2), .val (.int x3), .val (.int c0), .val (.int c1), .val (.int c2), .val (.int c3), .val (.int (1 : Int32)), .unset, .unset, .unset, .unset, .unset, .unset, .unset, .unset, .unset, .unset] [(.int c3), (.int c2), (.int c1), (.int c0), (.int (0 : Int32))]))
    refine GoW.staticW X0 hS hk hx hZ (y := (⟨"com/example/ddos_fee_ledger/ddosfeeledger/IndexRunHashPinLaw", "make", "(ICCCC)Ljava/lang/String;"⟩ : MethodName)) (argsL := [(.int (0 : Int32)), (.int c0), (.int c1), (.int c2), (.int c3)]) hown (hw _ (List.mem_of_getElem? (i := 1) rfl)) (hw _ (List.mem_of_getElem? (i := 2) rfl)) (hw _ (List.mem_of_getElem? (i := 3) rfl)) (hw _ (List.mem_of_getElem? (i := 4) rfl)) (by decide) 0 e0 (fun vm₁ hW => hW.interned_eq.trans hV) (rm1_0 l Z a0 hw c0 c1 c2 c3 h0 n0 Zs Od hheld hcomp) (by decide) (by decide) (by decide) (by decide) (g := (mkF m 46 #[.val (.int x1), .val (.int x2), .val (.int x3), .val (.int c0), .val (.int c1), .val (.int c2), .val (.int c3), .val (.int (1 : Int32)), .unset, .unset, .unset, .unset, .unset, .unset, .unset, .unset, .unset, .unset] [(.int c3), (.int c2), (.int c1), (.int c0), (.int (0 : Int32))])) rfl (by rw [hml]; rfl) (rest := []) (lenOf pd17 rfl) rfl (by show 2 * 0 + _ ≤ _; exact Nat.le_of_eq rfl) (hb hby at_46) ?_
    intro T8 v8 L8 X8 hS hZ hown q8
    obtain ⟨s0, lb, klb, glb, la, rfl, Nq8, K8, f8_0, f8_1, f8_2, f8_3, f8_4, f8_5, f8_6⟩ := q8
    have N8 := Fr.app N0 Nq8
    have g_s0 : n0 ≤ s0 := Nat.le_trans Zs f8_0
    have sz_s0 : h0.size ≤ s0 := Nat.le_trans Kp.1 f8_0
    have Zs := Nat.le_trans Zs K8.1
    have Kp := Kp.trans K8 all0
    have hk := Nat.le_trans hk K8.1
    have Od := Od.keep K8 all0
    have hk := Nat.le_refl T8.heap.size
    have E_s0 := f8_1
    have S_s0 := f8_2
    have A_lb := f8_3
    have F_la_value := f8_4
    have F_la_coder := f8_5
    have hli_8 := f8_6
    refine GoW.of (fun _ q => XS.astore X8.here hx rfl (hb hby at_49) rfl rfl (l' := #[.val (.int x1), .val (.int x2), .val (.int x3), .val (.int c0), .val (.int c1), .val (.int c2), .val (.int c3), .val (.int (1 : Int32)), .val (.ref s0), .unset, .unset, .unset, .unset, .unset, .unset, .unset, .unset, .unset]) rfl q) ?_
    refine GoW.of (fun _ q => XS.iload X8.here hx rfl (hb hby at_51) rfl q) ?_
    show GoW _ _ _ _ _ _ _ (T8.setTop (mkF m 53 #[.val (.int x1), .val (.int x2), .val (.int x3), .val (.int c0), .val (.int c1), .val (.int c2), .val (.int c3), .val (.int (1 : Int32)), .val (.ref s0), .unset, .unset, .unset, .unset, .unset, .unset, .unset, .unset, .unset] [(.int (1 : Int32))]))
    refine GoW.of (fun _ q => XS.iloadN X8.here hx rfl (hb hby at_53) rfl q) ?_
    refine GoW.of (fun _ q => XS.iload X8.here hx rfl (hb hby at_54) rfl q) ?_
    refine GoW.of (fun _ q => XS.iload X8.here hx rfl (hb hby at_56) rfl q) ?_
    show GoW _ _ _ _ _ _ _ (T8.setTop (mkF m 58 #[.val (.int x1), .val (.int x2), .val (.int x3), .val (.int c0), .val (.int c1), .val (.int c2), .val (.int c3), .val (.int (1 : Int32)), .val (.ref s0), .unset, .unset, .unset, .unset, .unset, .unset, .unset, .unset, .unset] [(.int c2), (.int c1), (.int c0), (.int (1 : Int32))]))
    refine GoW.of (fun _ q => XS.iload X8.here hx rfl (hb hby at_58) rfl q) ?_
    refine callStatic GoW.of X8 hx hZ (y := (⟨"com/example/ddos_fee_ledger/ddosfeeledger/IndexRunHashPinLaw", "make", "(ICCCC)Ljava/lang/String;"⟩ : MethodName)) (argsL := [(.int (1 : Int32)), (.int c0), (.int c1), (.int c2), (.int c3)]) hown (hw _ (List.mem_of_getElem? (i := 1) rfl)) (hw _ (List.mem_of_getElem? (i := 2) rfl)) (hw _ (List.mem_of_getElem? (i := 3) rfl)) (hw _ (List.mem_of_getElem? (i := 4) rfl)) (by decide) 0 rfl (rm1_1 l Z a0 hw c0 c1 c2 c3 cs T8.heap n0 Zs Od hcc Scs hcs Sad Shi Slo) (by decide) (by decide) (by decide) (by decide) (g := (mkF m 60 #[.val (.int x1), .val (.int x2), .val (.int x3), .val (.int c0), .val (.int c1), .val (.int c2), .val (.int c3), .val (.int (1 : Int32)), .val (.ref s0), .unset, .unset, .unset, .unset, .unset, .unset, .unset, .unset, .unset] [(.int c3), (.int c2), (.int c1), (.int c0), (.int (1 : Int32))])) rfl (by rw [hml]; rfl) (rest := []) (lenOf pd17 rfl) rfl (by show 2 * 0 + _ ≤ _; exact Nat.le_of_eq rfl) (hb hby at_60) ?_
    intro T9 v9 L9 X9 q9
    obtain ⟨sS, rfl, Nq9, K9, f9_0, f9_1, f9_2⟩ := q9
    have N9 := Fr.app N8 Nq9
    have g_sS : n0 ≤ sS := Nat.le_trans Zs f9_0
    have sz_sS : h0.size ≤ sS := Nat.le_trans Kp.1 f9_0
    have ne_s0_sS : s0 ≠ sS := Nat.ne_of_lt (Nat.lt_of_lt_of_le E_s0.lt f9_0)
    have ne_lb_sS : lb ≠ sS := Nat.ne_of_lt (Nat.lt_of_lt_of_le A_lb.lt f9_0)
    have ne_la_sS : la ≠ sS := Nat.ne_of_lt (Nat.lt_of_lt_of_le F_la_value.lt f9_0)
    have Zs := Nat.le_trans Zs K9.1
    have Kp := Kp.trans K9 all0
    have hk := Nat.le_trans hk K9.1
    have Od := Od.keep K9 all0
    have E_s0 := E_s0.keep K9
    have S_s0 := S_s0.keep0 K9
    have A_lb := A_lb.keep K9 nin0
    have F_la_value := F_la_value.keep K9 nin0
    have F_la_coder := F_la_coder.keep K9 nin0
    have E_sS := f9_1
    have S_sS := f9_2
    refine GoW.of (fun _ q => XS.astore X9.here hx rfl (hb hby at_63) rfl rfl (l' := #[.val (.int x1), .val (.int x2), .val (.int x3), .val (.int c0), .val (.int c1), .val (.int c2), .val (.int c3), .val (.int (1 : Int32)), .val (.ref s0), .val (.ref sS), .unset, .unset, .unset, .unset, .unset, .unset, .unset, .unset]) rfl q) ?_
    show GoW _ _ _ _ _ _ _ (T9.setTop (mkF m 65 #[.val (.int x1), .val (.int x2), .val (.int x3), .val (.int c0), .val (.int c1), .val (.int c2), .val (.int c3), .val (.int (1 : Int32)), .val (.ref s0), .val (.ref sS), .unset, .unset, .unset, .unset, .unset, .unset, .unset, .unset] []))
    refine GoW.of (fun _ q => XS.iload X9.here hx rfl (hb hby at_65) rfl q) ?_
    refine GoW.of (fun _ q => XS.iconst X9.here hx rfl (hb hby at_67) q) ?_
    refine GoW.of (fun _ q => XS.iadd X9.here hx rfl (hb hby at_68) rfl q) ?_
    show GoW _ _ _ _ _ _ _ (T9.setTop (mkF m 69 #[.val (.int x1), .val (.int x2), .val (.int x3), .val (.int c0), .val (.int c1), .val (.int c2), .val (.int c3), .val (.int (1 : Int32)), .val (.ref s0), .val (.ref sS), .unset, .unset, .unset, .unset, .unset, .unset, .unset, .unset] [(.int (2 : Int32))]))
    refine GoW.of (fun _ q => XS.iloadN X9.here hx rfl (hb hby at_69) rfl q) ?_
    refine GoW.of (fun _ q => XS.iload X9.here hx rfl (hb hby at_70) rfl q) ?_
    refine GoW.of (fun _ q => XS.iload X9.here hx rfl (hb hby at_72) rfl q) ?_
    show GoW _ _ _ _ _ _ _ (T9.setTop (mkF m 74 #[.val (.int x1), .val (.int x2), .val (.int x3), .val (.int c0), .val (.int c1), .val (.int c2), .val (.int c3), .val (.int (1 : Int32)), .val (.ref s0), .val (.ref sS), .unset, .unset, .unset, .unset, .unset, .unset, .unset, .unset] [(.int c2), (.int c1), (.int c0), (.int (2 : Int32))]))
    refine GoW.of (fun _ q => XS.iload X9.here hx rfl (hb hby at_74) rfl q) ?_
    refine callStatic GoW.of X9 hx hZ (y := (⟨"com/example/ddos_fee_ledger/ddosfeeledger/IndexRunHashPinLaw", "make", "(ICCCC)Ljava/lang/String;"⟩ : MethodName)) (argsL := [(.int (2 : Int32)), (.int c0), (.int c1), (.int c2), (.int c3)]) hown (hw _ (List.mem_of_getElem? (i := 1) rfl)) (hw _ (List.mem_of_getElem? (i := 2) rfl)) (hw _ (List.mem_of_getElem? (i := 3) rfl)) (hw _ (List.mem_of_getElem? (i := 4) rfl)) (by decide) 0 rfl (rm1_2 l Z a0 hw c0 c1 c2 c3 cs T9.heap n0 Zs Od hcc Scs hcs Sad Shi Slo) (by decide) (by decide) (by decide) (by decide) (g := (mkF m 76 #[.val (.int x1), .val (.int x2), .val (.int x3), .val (.int c0), .val (.int c1), .val (.int c2), .val (.int c3), .val (.int (1 : Int32)), .val (.ref s0), .val (.ref sS), .unset, .unset, .unset, .unset, .unset, .unset, .unset, .unset] [(.int c3), (.int c2), (.int c1), (.int c0), (.int (2 : Int32))])) rfl (by rw [hml]; rfl) (rest := []) (lenOf pd17 rfl) rfl (by show 2 * 0 + _ ≤ _; exact Nat.le_of_eq rfl) (hb hby at_76) ?_
    intro T10 v10 L10 X10 q10
    obtain ⟨sT, rfl, Nq10, K10, f10_0, f10_1, f10_2⟩ := q10
    have N10 := Fr.app N9 Nq10
    have g_sT : n0 ≤ sT := Nat.le_trans Zs f10_0
    have sz_sT : h0.size ≤ sT := Nat.le_trans Kp.1 f10_0
    have ne_s0_sT : s0 ≠ sT := Nat.ne_of_lt (Nat.lt_of_lt_of_le E_s0.lt f10_0)
    have ne_lb_sT : lb ≠ sT := Nat.ne_of_lt (Nat.lt_of_lt_of_le A_lb.lt f10_0)
    have ne_la_sT : la ≠ sT := Nat.ne_of_lt (Nat.lt_of_lt_of_le F_la_value.lt f10_0)
    have ne_sS_sT : sS ≠ sT := Nat.ne_of_lt (Nat.lt_of_lt_of_le E_sS.lt f10_0)
    have Zs := Nat.le_trans Zs K10.1
    have Kp := Kp.trans K10 all0
    have hk := Nat.le_trans hk K10.1
    have Od := Od.keep K10 all0
    have E_s0 := E_s0.keep K10
    have S_s0 := S_s0.keep0 K10
    have A_lb := A_lb.keep K10 nin0
    have F_la_value := F_la_value.keep K10 nin0
    have F_la_coder := F_la_coder.keep K10 nin0
    have E_sS := E_sS.keep K10
    have S_sS := S_sS.keep0 K10
    have E_sT := f10_1
    have S_sT := f10_2
    refine GoW.of (fun _ q => XS.astore X10.here hx rfl (hb hby at_79) rfl rfl (l' := #[.val (.int x1), .val (.int x2), .val (.int x3), .val (.int c0), .val (.int c1), .val (.int c2), .val (.int c3), .val (.int (1 : Int32)), .val (.ref s0), .val (.ref sS), .val (.ref sT), .unset, .unset, .unset, .unset, .unset, .unset, .unset]) rfl q) ?_
    show GoW _ _ _ _ _ _ _ (T10.setTop (mkF m 81 #[.val (.int x1), .val (.int x2), .val (.int x3), .val (.int c0), .val (.int c1), .val (.int c2), .val (.int c3), .val (.int (1 : Int32)), .val (.ref s0), .val (.ref sS), .val (.ref sT), .unset, .unset, .unset, .unset, .unset, .unset, .unset] []))
    refine GoW.of (fun _ q => XS.iload X10.here hx rfl (hb hby at_81) rfl q) ?_
    refine GoW.of (fun _ q => XS.iloadN X10.here hx rfl (hb hby at_83) rfl q) ?_
    refine GoW.of (fun _ q => XS.iload X10.here hx rfl (hb hby at_84) rfl q) ?_
    show GoW _ _ _ _ _ _ _ (T10.setTop (mkF m 86 #[.val (.int x1), .val (.int x2), .val (.int x3), .val (.int c0), .val (.int c1), .val (.int c2), .val (.int c3), .val (.int (1 : Int32)), .val (.ref s0), .val (.ref sS), .val (.ref sT), .unset, .unset, .unset, .unset, .unset, .unset, .unset] [(.int c1), (.int c0), (.int (1 : Int32))]))
    refine GoW.of (fun _ q => XS.iload X10.here hx rfl (hb hby at_86) rfl q) ?_
    refine GoW.of (fun _ q => XS.iload X10.here hx rfl (hb hby at_88) rfl q) ?_
    refine callStatic GoW.of X10 hx hZ (y := (⟨"com/example/ddos_fee_ledger/ddosfeeledger/IndexRunHashPinLaw", "pick", "(ICCCC)C"⟩ : MethodName)) (argsL := [(.int (1 : Int32)), (.int c0), (.int c1), (.int c2), (.int c3)]) hown (hw _ (List.mem_of_getElem? (i := 38) rfl)) (hw _ (List.mem_of_getElem? (i := 39) rfl)) (hw _ (List.mem_of_getElem? (i := 3) rfl)) (hw _ (List.mem_of_getElem? (i := 40) rfl)) (by decide) 0 rfl (rm8_1 l Z a0 hw c0 c1 c2 c3 T10.heap n0 Zs k1) (by decide) (by decide) (by decide) (by decide) (g := (mkF m 90 #[.val (.int x1), .val (.int x2), .val (.int x3), .val (.int c0), .val (.int c1), .val (.int c2), .val (.int c3), .val (.int (1 : Int32)), .val (.ref s0), .val (.ref sS), .val (.ref sT), .unset, .unset, .unset, .unset, .unset, .unset, .unset] [(.int c3), (.int c2), (.int c1), (.int c0), (.int (1 : Int32))])) rfl (by rw [hml]; rfl) (rest := []) (lenOf pd18 rfl) rfl (by show 2 * 0 + _ ≤ _; exact Nat.le_of_eq rfl) (hb hby at_90) ?_
    intro T11 v11 L11 X11 q11
    obtain ⟨rfl, Nq11, e11⟩ := q11
    have N11 := Fr.app N10 Nq11
    show GoW _ _ _ _ _ _ _ (T11.setTop (mkF m 93 #[.val (.int x1), .val (.int x2), .val (.int x3), .val (.int c0), .val (.int c1), .val (.int c2), .val (.int c3), .val (.int (1 : Int32)), .val (.ref s0), .val (.ref sS), .val (.ref sT), .unset, .unset, .unset, .unset, .unset, .unset, .unset] [(.int c1)]))
    refine GoW.of (fun _ q => XS.istore X11.here hx rfl (hb hby at_93) rfl (l' := #[.val (.int x1), .val (.int x2), .val (.int x3), .val (.int c0), .val (.int c1), .val (.int c2), .val (.int c3), .val (.int (1 : Int32)), .val (.ref s0), .val (.ref sS), .val (.ref sT), .val (.int c1), .unset, .unset, .unset, .unset, .unset, .unset]) rfl q) ?_
    refine GoW.of (fun _ q => XS.aload X11.here hx rfl (hb hby at_95) rfl rfl q) ?_
    refine callStatic GoW.of X11 hx hZ (y := (⟨"com/example/ddos_fee_ledger/ddosfeeledger/IndexRun", "hash", "(Ljava/lang/String;)J"⟩ : MethodName)) (argsL := [(.ref s0)]) hown (hw _ (List.mem_of_getElem? (i := 41) rfl)) (hw _ (List.mem_of_getElem? (i := 42) rfl)) (hw _ (List.mem_of_getElem? (i := 43) rfl)) (hw _ (List.mem_of_getElem? (i := 44) rfl)) (by decide) 0 e11 (rm9_0 l Z a0 hw s0 (own_c4 c0 c1 c2 c3) cs T10.heap n0 Zs Od E_s0 S_s0 Scs hcs) (by decide) (by decide) (by decide) (by decide) (g := (mkF m 97 #[.val (.int x1), .val (.int x2), .val (.int x3), .val (.int c0), .val (.int c1), .val (.int c2), .val (.int c3), .val (.int (1 : Int32)), .val (.ref s0), .val (.ref sS), .val (.ref sT), .val (.int c1), .unset, .unset, .unset, .unset, .unset, .unset] [(.ref s0)])) rfl (by rw [hml]; rfl) (rest := []) (lenOf pd19 rfl) rfl (by show 2 * 0 + _ ≤ _; exact Nat.le_of_eq rfl) (hb hby at_97) ?_
    intro T12 v12 L12 X12 q12
    obtain ⟨rfl, Nq12, e12⟩ := q12
    have N12 := Fr.app N11 Nq12
    show GoW _ _ _ _ _ _ _ (T12.setTop (mkF m 100 #[.val (.int x1), .val (.int x2), .val (.int x3), .val (.int c0), .val (.int c1), .val (.int c2), .val (.int c3), .val (.int (1 : Int32)), .val (.ref s0), .val (.ref sS), .val (.ref sT), .val (.int c1), .unset, .unset, .unset, .unset, .unset, .unset] [(.long (-3750763034362895579 : Int64))]))
    refine GoW.of (fun _ q => X12.ldc2Long hx hown (mvT hZ (hw _ (List.mem_of_getElem? (i := 56) rfl))) (g := (mkF m 100 #[.val (.int x1), .val (.int x2), .val (.int x3), .val (.int c0), .val (.int c1), .val (.int c2), .val (.int c3), .val (.int (1 : Int32)), .val (.ref s0), .val (.ref sS), .val (.ref sT), .val (.int c1), .unset, .unset, .unset, .unset, .unset, .unset] [(.long (-3750763034362895579 : Int64))])) rfl (hb hby at_100) _ q) ?_
    refine GoW.of (fun _ q => XS.lcmp X12.here hx rfl (hb hby at_103) rfl q) ?_
    refine GoW.of (fun _ q => XS.ifNo X12.here hx rfl (hb hby at_104) rfl ((if0 _ _).trans (teq ((lw_eq (-3750763034362895579 : Int64) (-3750763034362895579 : Int64)).mpr rfl)).2) q) ?_
    show GoW _ _ _ _ _ _ _ (T12.setTop (mkF m 107 #[.val (.int x1), .val (.int x2), .val (.int x3), .val (.int c0), .val (.int c1), .val (.int c2), .val (.int c3), .val (.int (1 : Int32)), .val (.ref s0), .val (.ref sS), .val (.ref sT), .val (.int c1), .unset, .unset, .unset, .unset, .unset, .unset] []))
    refine GoW.of (fun _ q => XS.iconst X12.here hx rfl (hb hby at_107) q) ?_
    refine GoW.of (fun _ q => XS.goto X12.here hx rfl (pc0 := 108) (pc' := 112) rfl (hb hby at_108) (by decide) (by decide) q) ?_
    refine GoW.of (fun _ q => XS.istore X12.here hx rfl (hb hby at_112) rfl (l' := #[.val (.int x1), .val (.int x2), .val (.int x3), .val (.int c0), .val (.int c1), .val (.int c2), .val (.int c3), .val (.int (1 : Int32)), .val (.ref s0), .val (.ref sS), .val (.ref sT), .val (.int c1), .val (.int (1 : Int32)), .unset, .unset, .unset, .unset, .unset]) rfl q) ?_
    show GoW _ _ _ _ _ _ _ (T12.setTop (mkF m 114 #[.val (.int x1), .val (.int x2), .val (.int x3), .val (.int c0), .val (.int c1), .val (.int c2), .val (.int c3), .val (.int (1 : Int32)), .val (.ref s0), .val (.ref sS), .val (.ref sT), .val (.int c1), .val (.int (1 : Int32)), .unset, .unset, .unset, .unset, .unset] []))
    refine GoW.of (fun _ q => XS.aload X12.here hx rfl (hb hby at_114) rfl rfl q) ?_
    refine callStatic GoW.of X12 hx hZ (y := (⟨"com/example/ddos_fee_ledger/ddosfeeledger/IndexRun", "hash", "(Ljava/lang/String;)J"⟩ : MethodName)) (argsL := [(.ref sS)]) hown (hw _ (List.mem_of_getElem? (i := 41) rfl)) (hw _ (List.mem_of_getElem? (i := 42) rfl)) (hw _ (List.mem_of_getElem? (i := 43) rfl)) (hw _ (List.mem_of_getElem? (i := 44) rfl)) (by decide) 0 e12 (rm9_1 l Z a0 hw sS (own_c4 c0 c1 c2 c3) fm hfm cs T10.heap n0 Zs Od E_sS S_sS Scs hcs Sfm Sad Shi Slo) (by decide) (by decide) (by decide) (by decide) (g := (mkF m 116 #[.val (.int x1), .val (.int x2), .val (.int x3), .val (.int c0), .val (.int c1), .val (.int c2), .val (.int c3), .val (.int (1 : Int32)), .val (.ref s0), .val (.ref sS), .val (.ref sT), .val (.int c1), .val (.int (1 : Int32)), .unset, .unset, .unset, .unset, .unset] [(.ref sS)])) rfl (by rw [hml]; rfl) (rest := []) (lenOf pd19 rfl) rfl (by show 2 * 0 + _ ≤ _; exact Nat.le_of_eq rfl) (hb hby at_116) ?_
    intro T13 v13 L13 X13 q13
    obtain ⟨rfl, Nq13, e13⟩ := q13
    have N13 := Fr.app N12 Nq13
    refine GoW.of (fun _ q => XS.lstore X13.here hx rfl (hb hby at_119) rfl (l' := #[.val (.int x1), .val (.int x2), .val (.int x3), .val (.int c0), .val (.int c1), .val (.int c2), .val (.int c3), .val (.int (1 : Int32)), .val (.ref s0), .val (.ref sS), .val (.ref sT), .val (.int c1), .val (.int (1 : Int32)), .val (.long (own_h [((own_c4 c0 c1 c2 c3) 0)])), .second, .unset, .unset, .unset]) rfl q) ?_
    show GoW _ _ _ _ _ _ _ (T13.setTop (mkF m 121 #[.val (.int x1), .val (.int x2), .val (.int x3), .val (.int c0), .val (.int c1), .val (.int c2), .val (.int c3), .val (.int (1 : Int32)), .val (.ref s0), .val (.ref sS), .val (.ref sT), .val (.int c1), .val (.int (1 : Int32)), .val (.long (own_h [((own_c4 c0 c1 c2 c3) 0)])), .second, .unset, .unset, .unset] []))
    refine GoW.of (fun _ q => XS.aload X13.here hx rfl (hb hby at_121) rfl rfl q) ?_
    refine callStatic GoW.of X13 hx hZ (y := (⟨"com/example/ddos_fee_ledger/ddosfeeledger/IndexRun", "hash", "(Ljava/lang/String;)J"⟩ : MethodName)) (argsL := [(.ref sT)]) hown (hw _ (List.mem_of_getElem? (i := 41) rfl)) (hw _ (List.mem_of_getElem? (i := 42) rfl)) (hw _ (List.mem_of_getElem? (i := 43) rfl)) (hw _ (List.mem_of_getElem? (i := 44) rfl)) (by decide) 0 e13 (rm9_2 l Z a0 hw sT (own_c4 c0 c1 c2 c3) fm hfm cs T10.heap n0 Zs Od E_sT S_sT Scs hcs Sfm Sad Shi Slo) (by decide) (by decide) (by decide) (by decide) (g := (mkF m 123 #[.val (.int x1), .val (.int x2), .val (.int x3), .val (.int c0), .val (.int c1), .val (.int c2), .val (.int c3), .val (.int (1 : Int32)), .val (.ref s0), .val (.ref sS), .val (.ref sT), .val (.int c1), .val (.int (1 : Int32)), .val (.long (own_h [((own_c4 c0 c1 c2 c3) 0)])), .second, .unset, .unset, .unset] [(.ref sT)])) rfl (by rw [hml]; rfl) (rest := []) (lenOf pd19 rfl) rfl (by show 2 * 0 + _ ≤ _; exact Nat.le_of_eq rfl) (hb hby at_123) ?_
    intro T14 v14 L14 X14 q14
    obtain ⟨rfl, Nq14, e14⟩ := q14
    have N14 := Fr.app N13 Nq14
    refine GoW.of (fun _ q => XS.lstore X14.here hx rfl (hb hby at_126) rfl (l' := #[.val (.int x1), .val (.int x2), .val (.int x3), .val (.int c0), .val (.int c1), .val (.int c2), .val (.int c3), .val (.int (1 : Int32)), .val (.ref s0), .val (.ref sS), .val (.ref sT), .val (.int c1), .val (.int (1 : Int32)), .val (.long (own_h [((own_c4 c0 c1 c2 c3) 0)])), .second, .val (.long (own_h [((own_c4 c0 c1 c2 c3) 0), ((own_c4 c0 c1 c2 c3) 1)])), .second, .unset]) rfl q) ?_
    show GoW _ _ _ _ _ _ _ (T14.setTop (mkF m 128 #[.val (.int x1), .val (.int x2), .val (.int x3), .val (.int c0), .val (.int c1), .val (.int c2), .val (.int c3), .val (.int (1 : Int32)), .val (.ref s0), .val (.ref sS), .val (.ref sT), .val (.int c1), .val (.int (1 : Int32)), .val (.long (own_h [((own_c4 c0 c1 c2 c3) 0)])), .second, .val (.long (own_h [((own_c4 c0 c1 c2 c3) 0), ((own_c4 c0 c1 c2 c3) 1)])), .second, .unset] []))
    refine GoW.of (fun _ q => XS.lload X14.here hx rfl (hb hby at_128) rfl q) ?_
    refine GoW.of (fun _ q => XS.lload X14.here hx rfl (hb hby at_130) rfl q) ?_
    refine GoW.of (fun _ q => XS.iload X14.here hx rfl (hb hby at_132) rfl q) ?_
    show GoW _ _ _ _ _ _ _ (T14.setTop (mkF m 134 #[.val (.int x1), .val (.int x2), .val (.int x3), .val (.int c0), .val (.int c1), .val (.int c2), .val (.int c3), .val (.int (1 : Int32)), .val (.ref s0), .val (.ref sS), .val (.ref sT), .val (.int c1), .val (.int (1 : Int32)), .val (.long (own_h [((own_c4 c0 c1 c2 c3) 0)])), .second, .val (.long (own_h [((own_c4 c0 c1 c2 c3) 0), ((own_c4 c0 c1 c2 c3) 1)])), .second, .unset] [(.int c1), (.long (own_h [((own_c4 c0 c1 c2 c3) 0)])), (.long (own_h [((own_c4 c0 c1 c2 c3) 0), ((own_c4 c0 c1 c2 c3) 1)]))]))
    refine GoW.of (fun _ q => XS.i2l X14.here hx rfl (hb hby at_134) rfl q) ?_
    refine GoW.of (fun _ q => XS.lxor X14.here hx rfl (hb hby at_135) rfl q) ?_
    refine GoW.of (fun _ q => X14.ldc2Long hx hown (mvT hZ (hw _ (List.mem_of_getElem? (i := 80) rfl))) (g := (mkF m 136 #[.val (.int x1), .val (.int x2), .val (.int x3), .val (.int c0), .val (.int c1), .val (.int c2), .val (.int c3), .val (.int (1 : Int32)), .val (.ref s0), .val (.ref sS), .val (.ref sT), .val (.int c1), .val (.int (1 : Int32)), .val (.long (own_h [((own_c4 c0 c1 c2 c3) 0)])), .second, .val (.long (own_h [((own_c4 c0 c1 c2 c3) 0), ((own_c4 c0 c1 c2 c3) 1)])), .second, .unset] [(.long ((own_h [((own_c4 c0 c1 c2 c3) 0)]) ^^^ (c1.toInt64))), (.long (own_h [((own_c4 c0 c1 c2 c3) 0), ((own_c4 c0 c1 c2 c3) 1)]))])) rfl (hb hby at_136) _ q) ?_
    show GoW _ _ _ _ _ _ _ (T14.setTop (mkF m 139 #[.val (.int x1), .val (.int x2), .val (.int x3), .val (.int c0), .val (.int c1), .val (.int c2), .val (.int c3), .val (.int (1 : Int32)), .val (.ref s0), .val (.ref sS), .val (.ref sT), .val (.int c1), .val (.int (1 : Int32)), .val (.long (own_h [((own_c4 c0 c1 c2 c3) 0)])), .second, .val (.long (own_h [((own_c4 c0 c1 c2 c3) 0), ((own_c4 c0 c1 c2 c3) 1)])), .second, .unset] [(.long (1099511628211 : Int64)), (.long ((own_h [((own_c4 c0 c1 c2 c3) 0)]) ^^^ (c1.toInt64))), (.long (own_h [((own_c4 c0 c1 c2 c3) 0), ((own_c4 c0 c1 c2 c3) 1)]))]))
    refine GoW.of (fun _ q => XS.lmul X14.here hx rfl (hb hby at_139) rfl q) ?_
    refine GoW.of (fun _ q => XS.lcmp X14.here hx rfl (hb hby at_140) rfl q) ?_
    refine GoW.of (fun _ q => XS.ifNo X14.here hx rfl (hb hby at_141) rfl ((if0 _ _).trans (teq ((lw_eq (own_h [((own_c4 c0 c1 c2 c3) 0), ((own_c4 c0 c1 c2 c3) 1)]) (((own_h [((own_c4 c0 c1 c2 c3) 0)]) ^^^ (c1.toInt64)) * (1099511628211 : Int64))).mpr rfl)).2) q) ?_
    show GoW _ _ _ _ _ _ _ (T14.setTop (mkF m 144 #[.val (.int x1), .val (.int x2), .val (.int x3), .val (.int c0), .val (.int c1), .val (.int c2), .val (.int c3), .val (.int (1 : Int32)), .val (.ref s0), .val (.ref sS), .val (.ref sT), .val (.int c1), .val (.int (1 : Int32)), .val (.long (own_h [((own_c4 c0 c1 c2 c3) 0)])), .second, .val (.long (own_h [((own_c4 c0 c1 c2 c3) 0), ((own_c4 c0 c1 c2 c3) 1)])), .second, .unset] []))
    refine GoW.of (fun _ q => XS.iconst X14.here hx rfl (hb hby at_144) q) ?_
    refine GoW.of (fun _ q => XS.goto X14.here hx rfl (pc0 := 145) (pc' := 149) rfl (hb hby at_145) (by decide) (by decide) q) ?_
    refine GoW.of (fun _ q => XS.istore X14.here hx rfl (hb hby at_149) rfl (l' := #[.val (.int x1), .val (.int x2), .val (.int x3), .val (.int c0), .val (.int c1), .val (.int c2), .val (.int c3), .val (.int (1 : Int32)), .val (.ref s0), .val (.ref sS), .val (.ref sT), .val (.int c1), .val (.int (1 : Int32)), .val (.long (own_h [((own_c4 c0 c1 c2 c3) 0)])), .second, .val (.long (own_h [((own_c4 c0 c1 c2 c3) 0), ((own_c4 c0 c1 c2 c3) 1)])), .second, .val (.int (1 : Int32))]) rfl q) ?_
    show GoW _ _ _ _ _ _ _ (T14.setTop (mkF m 151 #[.val (.int x1), .val (.int x2), .val (.int x3), .val (.int c0), .val (.int c1), .val (.int c2), .val (.int c3), .val (.int (1 : Int32)), .val (.ref s0), .val (.ref sS), .val (.ref sT), .val (.int c1), .val (.int (1 : Int32)), .val (.long (own_h [((own_c4 c0 c1 c2 c3) 0)])), .second, .val (.long (own_h [((own_c4 c0 c1 c2 c3) 0), ((own_c4 c0 c1 c2 c3) 1)])), .second, .val (.int (1 : Int32))] []))
    refine GoW.of (fun _ q => XS.iload X14.here hx rfl (hb hby at_151) rfl q) ?_
    refine GoW.of (fun _ q => XS.ifNo X14.here hx rfl (hb hby at_153) rfl ((if0 _ _).trans (feq (by decide)).1) q) ?_
    refine GoW.of (fun _ q => XS.iload X14.here hx rfl (hb hby at_156) rfl q) ?_
    show GoW _ _ _ _ _ _ _ (T14.setTop (mkF m 158 #[.val (.int x1), .val (.int x2), .val (.int x3), .val (.int c0), .val (.int c1), .val (.int c2), .val (.int c3), .val (.int (1 : Int32)), .val (.ref s0), .val (.ref sS), .val (.ref sT), .val (.int c1), .val (.int (1 : Int32)), .val (.long (own_h [((own_c4 c0 c1 c2 c3) 0)])), .second, .val (.long (own_h [((own_c4 c0 c1 c2 c3) 0), ((own_c4 c0 c1 c2 c3) 1)])), .second, .val (.int (1 : Int32))] [(.int (1 : Int32))]))
    refine GoW.of (fun _ q => XS.ifNo X14.here hx rfl (hb hby at_158) rfl ((if0 _ _).trans (feq (by decide)).1) q) ?_
    refine GoW.of (fun _ q => XS.iconst X14.here hx rfl (hb hby at_161) q) ?_
    refine GoW.of (fun _ q => XS.goto X14.here hx rfl (pc0 := 162) (pc' := 166) rfl (hb hby at_162) (by decide) (by decide) q) ?_
    show GoW _ _ _ _ _ _ _ (T14.setTop (mkF m 166 #[.val (.int x1), .val (.int x2), .val (.int x3), .val (.int c0), .val (.int c1), .val (.int c2), .val (.int c3), .val (.int (1 : Int32)), .val (.ref s0), .val (.ref sS), .val (.ref sT), .val (.int c1), .val (.int (1 : Int32)), .val (.long (own_h [((own_c4 c0 c1 c2 c3) 0)])), .second, .val (.long (own_h [((own_c4 c0 c1 c2 c3) 0), ((own_c4 c0 c1 c2 c3) 1)])), .second, .val (.int (1 : Int32))] [(.int (1 : Int32))]))
    refine GoW.retN X14 hS (by rw [e14]; exact hk) hx hlk (t := .boolean) hret (by simp) (hb hby at_166) rfl (by decide) (by decide) ?_
    rw [e14]
    exact ⟨rfl, N14⟩
  · rw [q3]
    refine GoW.of (fun _ q => XS.iconst X0.here hx rfl (hb hby at_38) q) ?_
    refine GoW.of (fun _ q => XS.iloadN X0.here hx rfl (hb hby at_39) rfl q) ?_
    show GoW _ _ _ _ _ _ _ (s₁.setTop (mkF m 40 #[.val (.int x1), .val (.int x2), .val (.int x3), .val (.int c0), .val (.int c1), .val (.int c2), .val (.int c3), .val (.int (2 : Int32)), .unset, .unset, .unset, .unset, .unset, .unset, .unset, .unset, .unset, .unset] [(.int c0), (.int (0 : Int32))]))
    refine GoW.of (fun _ q => XS.iload X0.here hx rfl (hb hby at_40) rfl q) ?_
    refine GoW.of (fun _ q => XS.iload X0.here hx rfl (hb hby at_42) rfl q) ?_
    refine GoW.of (fun _ q => XS.iload X0.here hx rfl (hb hby at_44) rfl q) ?_
    show GoW _ _ _ _ _ _ _ (s₁.setTop (mkF m 46 #[.val (.int x1), .val (.int x2), .val (.int x3), .val (.int c0), .val (.int c1), .val (.int c2), .val (.int c3), .val (.int (2 : Int32)), .unset, .unset, .unset, .unset, .unset, .unset, .unset, .unset, .unset, .unset] [(.int c3), (.int c2), (.int c1), (.int c0), (.int (0 : Int32))]))
    refine GoW.staticW X0 hS hk hx hZ (y := (⟨"com/example/ddos_fee_ledger/ddosfeeledger/IndexRunHashPinLaw", "make", "(ICCCC)Ljava/lang/String;"⟩ : MethodName)) (argsL := [(.int (0 : Int32)), (.int c0), (.int c1), (.int c2), (.int c3)]) hown (hw _ (List.mem_of_getElem? (i := 1) rfl)) (hw _ (List.mem_of_getElem? (i := 2) rfl)) (hw _ (List.mem_of_getElem? (i := 3) rfl)) (hw _ (List.mem_of_getElem? (i := 4) rfl)) (by decide) 0 e0 (fun vm₁ hW => hW.interned_eq.trans hV) (rm1_0 l Z a0 hw c0 c1 c2 c3 h0 n0 Zs Od hheld hcomp) (by decide) (by decide) (by decide) (by decide) (g := (mkF m 46 #[.val (.int x1), .val (.int x2), .val (.int x3), .val (.int c0), .val (.int c1), .val (.int c2), .val (.int c3), .val (.int (2 : Int32)), .unset, .unset, .unset, .unset, .unset, .unset, .unset, .unset, .unset, .unset] [(.int c3), (.int c2), (.int c1), (.int c0), (.int (0 : Int32))])) rfl (by rw [hml]; rfl) (rest := []) (lenOf pd17 rfl) rfl (by show 2 * 0 + _ ≤ _; exact Nat.le_of_eq rfl) (hb hby at_46) ?_
    intro T15 v15 L15 X15 hS hZ hown q15
    obtain ⟨s0, lb, klb, glb, la, rfl, Nq15, K15, f15_0, f15_1, f15_2, f15_3, f15_4, f15_5, f15_6⟩ := q15
    have N15 := Fr.app N0 Nq15
    have g_s0 : n0 ≤ s0 := Nat.le_trans Zs f15_0
    have sz_s0 : h0.size ≤ s0 := Nat.le_trans Kp.1 f15_0
    have Zs := Nat.le_trans Zs K15.1
    have Kp := Kp.trans K15 all0
    have hk := Nat.le_trans hk K15.1
    have Od := Od.keep K15 all0
    have hk := Nat.le_refl T15.heap.size
    have E_s0 := f15_1
    have S_s0 := f15_2
    have A_lb := f15_3
    have F_la_value := f15_4
    have F_la_coder := f15_5
    have hli_15 := f15_6
    refine GoW.of (fun _ q => XS.astore X15.here hx rfl (hb hby at_49) rfl rfl (l' := #[.val (.int x1), .val (.int x2), .val (.int x3), .val (.int c0), .val (.int c1), .val (.int c2), .val (.int c3), .val (.int (2 : Int32)), .val (.ref s0), .unset, .unset, .unset, .unset, .unset, .unset, .unset, .unset, .unset]) rfl q) ?_
    refine GoW.of (fun _ q => XS.iload X15.here hx rfl (hb hby at_51) rfl q) ?_
    show GoW _ _ _ _ _ _ _ (T15.setTop (mkF m 53 #[.val (.int x1), .val (.int x2), .val (.int x3), .val (.int c0), .val (.int c1), .val (.int c2), .val (.int c3), .val (.int (2 : Int32)), .val (.ref s0), .unset, .unset, .unset, .unset, .unset, .unset, .unset, .unset, .unset] [(.int (2 : Int32))]))
    refine GoW.of (fun _ q => XS.iloadN X15.here hx rfl (hb hby at_53) rfl q) ?_
    refine GoW.of (fun _ q => XS.iload X15.here hx rfl (hb hby at_54) rfl q) ?_
    refine GoW.of (fun _ q => XS.iload X15.here hx rfl (hb hby at_56) rfl q) ?_
    show GoW _ _ _ _ _ _ _ (T15.setTop (mkF m 58 #[.val (.int x1), .val (.int x2), .val (.int x3), .val (.int c0), .val (.int c1), .val (.int c2), .val (.int c3), .val (.int (2 : Int32)), .val (.ref s0), .unset, .unset, .unset, .unset, .unset, .unset, .unset, .unset, .unset] [(.int c2), (.int c1), (.int c0), (.int (2 : Int32))]))
    refine GoW.of (fun _ q => XS.iload X15.here hx rfl (hb hby at_58) rfl q) ?_
    refine callStatic GoW.of X15 hx hZ (y := (⟨"com/example/ddos_fee_ledger/ddosfeeledger/IndexRunHashPinLaw", "make", "(ICCCC)Ljava/lang/String;"⟩ : MethodName)) (argsL := [(.int (2 : Int32)), (.int c0), (.int c1), (.int c2), (.int c3)]) hown (hw _ (List.mem_of_getElem? (i := 1) rfl)) (hw _ (List.mem_of_getElem? (i := 2) rfl)) (hw _ (List.mem_of_getElem? (i := 3) rfl)) (hw _ (List.mem_of_getElem? (i := 4) rfl)) (by decide) 0 rfl (rm1_2 l Z a0 hw c0 c1 c2 c3 cs T15.heap n0 Zs Od hcc Scs hcs Sad Shi Slo) (by decide) (by decide) (by decide) (by decide) (g := (mkF m 60 #[.val (.int x1), .val (.int x2), .val (.int x3), .val (.int c0), .val (.int c1), .val (.int c2), .val (.int c3), .val (.int (2 : Int32)), .val (.ref s0), .unset, .unset, .unset, .unset, .unset, .unset, .unset, .unset, .unset] [(.int c3), (.int c2), (.int c1), (.int c0), (.int (2 : Int32))])) rfl (by rw [hml]; rfl) (rest := []) (lenOf pd17 rfl) rfl (by show 2 * 0 + _ ≤ _; exact Nat.le_of_eq rfl) (hb hby at_60) ?_
    intro T16 v16 L16 X16 q16
    obtain ⟨sS, rfl, Nq16, K16, f16_0, f16_1, f16_2⟩ := q16
    have N16 := Fr.app N15 Nq16
    have g_sS : n0 ≤ sS := Nat.le_trans Zs f16_0
    have sz_sS : h0.size ≤ sS := Nat.le_trans Kp.1 f16_0
    have ne_s0_sS : s0 ≠ sS := Nat.ne_of_lt (Nat.lt_of_lt_of_le E_s0.lt f16_0)
    have ne_lb_sS : lb ≠ sS := Nat.ne_of_lt (Nat.lt_of_lt_of_le A_lb.lt f16_0)
    have ne_la_sS : la ≠ sS := Nat.ne_of_lt (Nat.lt_of_lt_of_le F_la_value.lt f16_0)
    have Zs := Nat.le_trans Zs K16.1
    have Kp := Kp.trans K16 all0
    have hk := Nat.le_trans hk K16.1
    have Od := Od.keep K16 all0
    have E_s0 := E_s0.keep K16
    have S_s0 := S_s0.keep0 K16
    have A_lb := A_lb.keep K16 nin0
    have F_la_value := F_la_value.keep K16 nin0
    have F_la_coder := F_la_coder.keep K16 nin0
    have E_sS := f16_1
    have S_sS := f16_2
    refine GoW.of (fun _ q => XS.astore X16.here hx rfl (hb hby at_63) rfl rfl (l' := #[.val (.int x1), .val (.int x2), .val (.int x3), .val (.int c0), .val (.int c1), .val (.int c2), .val (.int c3), .val (.int (2 : Int32)), .val (.ref s0), .val (.ref sS), .unset, .unset, .unset, .unset, .unset, .unset, .unset, .unset]) rfl q) ?_
    show GoW _ _ _ _ _ _ _ (T16.setTop (mkF m 65 #[.val (.int x1), .val (.int x2), .val (.int x3), .val (.int c0), .val (.int c1), .val (.int c2), .val (.int c3), .val (.int (2 : Int32)), .val (.ref s0), .val (.ref sS), .unset, .unset, .unset, .unset, .unset, .unset, .unset, .unset] []))
    refine GoW.of (fun _ q => XS.iload X16.here hx rfl (hb hby at_65) rfl q) ?_
    refine GoW.of (fun _ q => XS.iconst X16.here hx rfl (hb hby at_67) q) ?_
    refine GoW.of (fun _ q => XS.iadd X16.here hx rfl (hb hby at_68) rfl q) ?_
    show GoW _ _ _ _ _ _ _ (T16.setTop (mkF m 69 #[.val (.int x1), .val (.int x2), .val (.int x3), .val (.int c0), .val (.int c1), .val (.int c2), .val (.int c3), .val (.int (2 : Int32)), .val (.ref s0), .val (.ref sS), .unset, .unset, .unset, .unset, .unset, .unset, .unset, .unset] [(.int (3 : Int32))]))
    refine GoW.of (fun _ q => XS.iloadN X16.here hx rfl (hb hby at_69) rfl q) ?_
    refine GoW.of (fun _ q => XS.iload X16.here hx rfl (hb hby at_70) rfl q) ?_
    refine GoW.of (fun _ q => XS.iload X16.here hx rfl (hb hby at_72) rfl q) ?_
    show GoW _ _ _ _ _ _ _ (T16.setTop (mkF m 74 #[.val (.int x1), .val (.int x2), .val (.int x3), .val (.int c0), .val (.int c1), .val (.int c2), .val (.int c3), .val (.int (2 : Int32)), .val (.ref s0), .val (.ref sS), .unset, .unset, .unset, .unset, .unset, .unset, .unset, .unset] [(.int c2), (.int c1), (.int c0), (.int (3 : Int32))]))
    refine GoW.of (fun _ q => XS.iload X16.here hx rfl (hb hby at_74) rfl q) ?_
    refine callStatic GoW.of X16 hx hZ (y := (⟨"com/example/ddos_fee_ledger/ddosfeeledger/IndexRunHashPinLaw", "make", "(ICCCC)Ljava/lang/String;"⟩ : MethodName)) (argsL := [(.int (3 : Int32)), (.int c0), (.int c1), (.int c2), (.int c3)]) hown (hw _ (List.mem_of_getElem? (i := 1) rfl)) (hw _ (List.mem_of_getElem? (i := 2) rfl)) (hw _ (List.mem_of_getElem? (i := 3) rfl)) (hw _ (List.mem_of_getElem? (i := 4) rfl)) (by decide) 0 rfl (rm1_3 l Z a0 hw c0 c1 c2 c3 cs T16.heap n0 Zs Od hcc Scs hcs Sad Shi Slo) (by decide) (by decide) (by decide) (by decide) (g := (mkF m 76 #[.val (.int x1), .val (.int x2), .val (.int x3), .val (.int c0), .val (.int c1), .val (.int c2), .val (.int c3), .val (.int (2 : Int32)), .val (.ref s0), .val (.ref sS), .unset, .unset, .unset, .unset, .unset, .unset, .unset, .unset] [(.int c3), (.int c2), (.int c1), (.int c0), (.int (3 : Int32))])) rfl (by rw [hml]; rfl) (rest := []) (lenOf pd17 rfl) rfl (by show 2 * 0 + _ ≤ _; exact Nat.le_of_eq rfl) (hb hby at_76) ?_
    intro T17 v17 L17 X17 q17
    obtain ⟨sT, rfl, Nq17, K17, f17_0, f17_1, f17_2⟩ := q17
    have N17 := Fr.app N16 Nq17
    have g_sT : n0 ≤ sT := Nat.le_trans Zs f17_0
    have sz_sT : h0.size ≤ sT := Nat.le_trans Kp.1 f17_0
    have ne_s0_sT : s0 ≠ sT := Nat.ne_of_lt (Nat.lt_of_lt_of_le E_s0.lt f17_0)
    have ne_lb_sT : lb ≠ sT := Nat.ne_of_lt (Nat.lt_of_lt_of_le A_lb.lt f17_0)
    have ne_la_sT : la ≠ sT := Nat.ne_of_lt (Nat.lt_of_lt_of_le F_la_value.lt f17_0)
    have ne_sS_sT : sS ≠ sT := Nat.ne_of_lt (Nat.lt_of_lt_of_le E_sS.lt f17_0)
    have Zs := Nat.le_trans Zs K17.1
    have Kp := Kp.trans K17 all0
    have hk := Nat.le_trans hk K17.1
    have Od := Od.keep K17 all0
    have E_s0 := E_s0.keep K17
    have S_s0 := S_s0.keep0 K17
    have A_lb := A_lb.keep K17 nin0
    have F_la_value := F_la_value.keep K17 nin0
    have F_la_coder := F_la_coder.keep K17 nin0
    have E_sS := E_sS.keep K17
    have S_sS := S_sS.keep0 K17
    have E_sT := f17_1
    have S_sT := f17_2
    refine GoW.of (fun _ q => XS.astore X17.here hx rfl (hb hby at_79) rfl rfl (l' := #[.val (.int x1), .val (.int x2), .val (.int x3), .val (.int c0), .val (.int c1), .val (.int c2), .val (.int c3), .val (.int (2 : Int32)), .val (.ref s0), .val (.ref sS), .val (.ref sT), .unset, .unset, .unset, .unset, .unset, .unset, .unset]) rfl q) ?_
    show GoW _ _ _ _ _ _ _ (T17.setTop (mkF m 81 #[.val (.int x1), .val (.int x2), .val (.int x3), .val (.int c0), .val (.int c1), .val (.int c2), .val (.int c3), .val (.int (2 : Int32)), .val (.ref s0), .val (.ref sS), .val (.ref sT), .unset, .unset, .unset, .unset, .unset, .unset, .unset] []))
    refine GoW.of (fun _ q => XS.iload X17.here hx rfl (hb hby at_81) rfl q) ?_
    refine GoW.of (fun _ q => XS.iloadN X17.here hx rfl (hb hby at_83) rfl q) ?_
    refine GoW.of (fun _ q => XS.iload X17.here hx rfl (hb hby at_84) rfl q) ?_
    show GoW _ _ _ _ _ _ _ (T17.setTop (mkF m 86 #[.val (.int x1), .val (.int x2), .val (.int x3), .val (.int c0), .val (.int c1), .val (.int c2), .val (.int c3), .val (.int (2 : Int32)), .val (.ref s0), .val (.ref sS), .val (.ref sT), .unset, .unset, .unset, .unset, .unset, .unset, .unset] [(.int c1), (.int c0), (.int (2 : Int32))]))
    refine GoW.of (fun _ q => XS.iload X17.here hx rfl (hb hby at_86) rfl q) ?_
    refine GoW.of (fun _ q => XS.iload X17.here hx rfl (hb hby at_88) rfl q) ?_
    refine callStatic GoW.of X17 hx hZ (y := (⟨"com/example/ddos_fee_ledger/ddosfeeledger/IndexRunHashPinLaw", "pick", "(ICCCC)C"⟩ : MethodName)) (argsL := [(.int (2 : Int32)), (.int c0), (.int c1), (.int c2), (.int c3)]) hown (hw _ (List.mem_of_getElem? (i := 38) rfl)) (hw _ (List.mem_of_getElem? (i := 39) rfl)) (hw _ (List.mem_of_getElem? (i := 3) rfl)) (hw _ (List.mem_of_getElem? (i := 40) rfl)) (by decide) 0 rfl (rm8_2 l Z a0 hw c0 c1 c2 c3 T17.heap n0 Zs k2) (by decide) (by decide) (by decide) (by decide) (g := (mkF m 90 #[.val (.int x1), .val (.int x2), .val (.int x3), .val (.int c0), .val (.int c1), .val (.int c2), .val (.int c3), .val (.int (2 : Int32)), .val (.ref s0), .val (.ref sS), .val (.ref sT), .unset, .unset, .unset, .unset, .unset, .unset, .unset] [(.int c3), (.int c2), (.int c1), (.int c0), (.int (2 : Int32))])) rfl (by rw [hml]; rfl) (rest := []) (lenOf pd18 rfl) rfl (by show 2 * 0 + _ ≤ _; exact Nat.le_of_eq rfl) (hb hby at_90) ?_
    intro T18 v18 L18 X18 q18
    obtain ⟨rfl, Nq18, e18⟩ := q18
    have N18 := Fr.app N17 Nq18
    show GoW _ _ _ _ _ _ _ (T18.setTop (mkF m 93 #[.val (.int x1), .val (.int x2), .val (.int x3), .val (.int c0), .val (.int c1), .val (.int c2), .val (.int c3), .val (.int (2 : Int32)), .val (.ref s0), .val (.ref sS), .val (.ref sT), .unset, .unset, .unset, .unset, .unset, .unset, .unset] [(.int c2)]))
    refine GoW.of (fun _ q => XS.istore X18.here hx rfl (hb hby at_93) rfl (l' := #[.val (.int x1), .val (.int x2), .val (.int x3), .val (.int c0), .val (.int c1), .val (.int c2), .val (.int c3), .val (.int (2 : Int32)), .val (.ref s0), .val (.ref sS), .val (.ref sT), .val (.int c2), .unset, .unset, .unset, .unset, .unset, .unset]) rfl q) ?_
    refine GoW.of (fun _ q => XS.aload X18.here hx rfl (hb hby at_95) rfl rfl q) ?_
    refine callStatic GoW.of X18 hx hZ (y := (⟨"com/example/ddos_fee_ledger/ddosfeeledger/IndexRun", "hash", "(Ljava/lang/String;)J"⟩ : MethodName)) (argsL := [(.ref s0)]) hown (hw _ (List.mem_of_getElem? (i := 41) rfl)) (hw _ (List.mem_of_getElem? (i := 42) rfl)) (hw _ (List.mem_of_getElem? (i := 43) rfl)) (hw _ (List.mem_of_getElem? (i := 44) rfl)) (by decide) 0 e18 (rm9_0 l Z a0 hw s0 (own_c4 c0 c1 c2 c3) cs T17.heap n0 Zs Od E_s0 S_s0 Scs hcs) (by decide) (by decide) (by decide) (by decide) (g := (mkF m 97 #[.val (.int x1), .val (.int x2), .val (.int x3), .val (.int c0), .val (.int c1), .val (.int c2), .val (.int c3), .val (.int (2 : Int32)), .val (.ref s0), .val (.ref sS), .val (.ref sT), .val (.int c2), .unset, .unset, .unset, .unset, .unset, .unset] [(.ref s0)])) rfl (by rw [hml]; rfl) (rest := []) (lenOf pd19 rfl) rfl (by show 2 * 0 + _ ≤ _; exact Nat.le_of_eq rfl) (hb hby at_97) ?_
    intro T19 v19 L19 X19 q19
    obtain ⟨rfl, Nq19, e19⟩ := q19
    have N19 := Fr.app N18 Nq19
    show GoW _ _ _ _ _ _ _ (T19.setTop (mkF m 100 #[.val (.int x1), .val (.int x2), .val (.int x3), .val (.int c0), .val (.int c1), .val (.int c2), .val (.int c3), .val (.int (2 : Int32)), .val (.ref s0), .val (.ref sS), .val (.ref sT), .val (.int c2), .unset, .unset, .unset, .unset, .unset, .unset] [(.long (-3750763034362895579 : Int64))]))
    refine GoW.of (fun _ q => X19.ldc2Long hx hown (mvT hZ (hw _ (List.mem_of_getElem? (i := 56) rfl))) (g := (mkF m 100 #[.val (.int x1), .val (.int x2), .val (.int x3), .val (.int c0), .val (.int c1), .val (.int c2), .val (.int c3), .val (.int (2 : Int32)), .val (.ref s0), .val (.ref sS), .val (.ref sT), .val (.int c2), .unset, .unset, .unset, .unset, .unset, .unset] [(.long (-3750763034362895579 : Int64))])) rfl (hb hby at_100) _ q) ?_
    refine GoW.of (fun _ q => XS.lcmp X19.here hx rfl (hb hby at_103) rfl q) ?_
    refine GoW.of (fun _ q => XS.ifNo X19.here hx rfl (hb hby at_104) rfl ((if0 _ _).trans (teq ((lw_eq (-3750763034362895579 : Int64) (-3750763034362895579 : Int64)).mpr rfl)).2) q) ?_
    show GoW _ _ _ _ _ _ _ (T19.setTop (mkF m 107 #[.val (.int x1), .val (.int x2), .val (.int x3), .val (.int c0), .val (.int c1), .val (.int c2), .val (.int c3), .val (.int (2 : Int32)), .val (.ref s0), .val (.ref sS), .val (.ref sT), .val (.int c2), .unset, .unset, .unset, .unset, .unset, .unset] []))
    refine GoW.of (fun _ q => XS.iconst X19.here hx rfl (hb hby at_107) q) ?_
    refine GoW.of (fun _ q => XS.goto X19.here hx rfl (pc0 := 108) (pc' := 112) rfl (hb hby at_108) (by decide) (by decide) q) ?_
    refine GoW.of (fun _ q => XS.istore X19.here hx rfl (hb hby at_112) rfl (l' := #[.val (.int x1), .val (.int x2), .val (.int x3), .val (.int c0), .val (.int c1), .val (.int c2), .val (.int c3), .val (.int (2 : Int32)), .val (.ref s0), .val (.ref sS), .val (.ref sT), .val (.int c2), .val (.int (1 : Int32)), .unset, .unset, .unset, .unset, .unset]) rfl q) ?_
    show GoW _ _ _ _ _ _ _ (T19.setTop (mkF m 114 #[.val (.int x1), .val (.int x2), .val (.int x3), .val (.int c0), .val (.int c1), .val (.int c2), .val (.int c3), .val (.int (2 : Int32)), .val (.ref s0), .val (.ref sS), .val (.ref sT), .val (.int c2), .val (.int (1 : Int32)), .unset, .unset, .unset, .unset, .unset] []))
    refine GoW.of (fun _ q => XS.aload X19.here hx rfl (hb hby at_114) rfl rfl q) ?_
    refine callStatic GoW.of X19 hx hZ (y := (⟨"com/example/ddos_fee_ledger/ddosfeeledger/IndexRun", "hash", "(Ljava/lang/String;)J"⟩ : MethodName)) (argsL := [(.ref sS)]) hown (hw _ (List.mem_of_getElem? (i := 41) rfl)) (hw _ (List.mem_of_getElem? (i := 42) rfl)) (hw _ (List.mem_of_getElem? (i := 43) rfl)) (hw _ (List.mem_of_getElem? (i := 44) rfl)) (by decide) 0 e19 (rm9_2 l Z a0 hw sS (own_c4 c0 c1 c2 c3) fm hfm cs T17.heap n0 Zs Od E_sS S_sS Scs hcs Sfm Sad Shi Slo) (by decide) (by decide) (by decide) (by decide) (g := (mkF m 116 #[.val (.int x1), .val (.int x2), .val (.int x3), .val (.int c0), .val (.int c1), .val (.int c2), .val (.int c3), .val (.int (2 : Int32)), .val (.ref s0), .val (.ref sS), .val (.ref sT), .val (.int c2), .val (.int (1 : Int32)), .unset, .unset, .unset, .unset, .unset] [(.ref sS)])) rfl (by rw [hml]; rfl) (rest := []) (lenOf pd19 rfl) rfl (by show 2 * 0 + _ ≤ _; exact Nat.le_of_eq rfl) (hb hby at_116) ?_
    intro T20 v20 L20 X20 q20
    obtain ⟨rfl, Nq20, e20⟩ := q20
    have N20 := Fr.app N19 Nq20
    refine GoW.of (fun _ q => XS.lstore X20.here hx rfl (hb hby at_119) rfl (l' := #[.val (.int x1), .val (.int x2), .val (.int x3), .val (.int c0), .val (.int c1), .val (.int c2), .val (.int c3), .val (.int (2 : Int32)), .val (.ref s0), .val (.ref sS), .val (.ref sT), .val (.int c2), .val (.int (1 : Int32)), .val (.long (own_h [((own_c4 c0 c1 c2 c3) 0), ((own_c4 c0 c1 c2 c3) 1)])), .second, .unset, .unset, .unset]) rfl q) ?_
    show GoW _ _ _ _ _ _ _ (T20.setTop (mkF m 121 #[.val (.int x1), .val (.int x2), .val (.int x3), .val (.int c0), .val (.int c1), .val (.int c2), .val (.int c3), .val (.int (2 : Int32)), .val (.ref s0), .val (.ref sS), .val (.ref sT), .val (.int c2), .val (.int (1 : Int32)), .val (.long (own_h [((own_c4 c0 c1 c2 c3) 0), ((own_c4 c0 c1 c2 c3) 1)])), .second, .unset, .unset, .unset] []))
    refine GoW.of (fun _ q => XS.aload X20.here hx rfl (hb hby at_121) rfl rfl q) ?_
    refine callStatic GoW.of X20 hx hZ (y := (⟨"com/example/ddos_fee_ledger/ddosfeeledger/IndexRun", "hash", "(Ljava/lang/String;)J"⟩ : MethodName)) (argsL := [(.ref sT)]) hown (hw _ (List.mem_of_getElem? (i := 41) rfl)) (hw _ (List.mem_of_getElem? (i := 42) rfl)) (hw _ (List.mem_of_getElem? (i := 43) rfl)) (hw _ (List.mem_of_getElem? (i := 44) rfl)) (by decide) 0 e20 (rm9_3 l Z a0 hw sT (own_c4 c0 c1 c2 c3) fm hfm cs T17.heap n0 Zs Od E_sT S_sT Scs hcs Sfm Sad Shi Slo) (by decide) (by decide) (by decide) (by decide) (g := (mkF m 123 #[.val (.int x1), .val (.int x2), .val (.int x3), .val (.int c0), .val (.int c1), .val (.int c2), .val (.int c3), .val (.int (2 : Int32)), .val (.ref s0), .val (.ref sS), .val (.ref sT), .val (.int c2), .val (.int (1 : Int32)), .val (.long (own_h [((own_c4 c0 c1 c2 c3) 0), ((own_c4 c0 c1 c2 c3) 1)])), .second, .unset, .unset, .unset] [(.ref sT)])) rfl (by rw [hml]; rfl) (rest := []) (lenOf pd19 rfl) rfl (by show 2 * 0 + _ ≤ _; exact Nat.le_of_eq rfl) (hb hby at_123) ?_
    intro T21 v21 L21 X21 q21
    obtain ⟨rfl, Nq21, e21⟩ := q21
    have N21 := Fr.app N20 Nq21
    refine GoW.of (fun _ q => XS.lstore X21.here hx rfl (hb hby at_126) rfl (l' := #[.val (.int x1), .val (.int x2), .val (.int x3), .val (.int c0), .val (.int c1), .val (.int c2), .val (.int c3), .val (.int (2 : Int32)), .val (.ref s0), .val (.ref sS), .val (.ref sT), .val (.int c2), .val (.int (1 : Int32)), .val (.long (own_h [((own_c4 c0 c1 c2 c3) 0), ((own_c4 c0 c1 c2 c3) 1)])), .second, .val (.long (own_h [((own_c4 c0 c1 c2 c3) 0), ((own_c4 c0 c1 c2 c3) 1), ((own_c4 c0 c1 c2 c3) 2)])), .second, .unset]) rfl q) ?_
    show GoW _ _ _ _ _ _ _ (T21.setTop (mkF m 128 #[.val (.int x1), .val (.int x2), .val (.int x3), .val (.int c0), .val (.int c1), .val (.int c2), .val (.int c3), .val (.int (2 : Int32)), .val (.ref s0), .val (.ref sS), .val (.ref sT), .val (.int c2), .val (.int (1 : Int32)), .val (.long (own_h [((own_c4 c0 c1 c2 c3) 0), ((own_c4 c0 c1 c2 c3) 1)])), .second, .val (.long (own_h [((own_c4 c0 c1 c2 c3) 0), ((own_c4 c0 c1 c2 c3) 1), ((own_c4 c0 c1 c2 c3) 2)])), .second, .unset] []))
    refine GoW.of (fun _ q => XS.lload X21.here hx rfl (hb hby at_128) rfl q) ?_
    refine GoW.of (fun _ q => XS.lload X21.here hx rfl (hb hby at_130) rfl q) ?_
    refine GoW.of (fun _ q => XS.iload X21.here hx rfl (hb hby at_132) rfl q) ?_
    show GoW _ _ _ _ _ _ _ (T21.setTop (mkF m 134 #[.val (.int x1), .val (.int x2), .val (.int x3), .val (.int c0), .val (.int c1), .val (.int c2), .val (.int c3), .val (.int (2 : Int32)), .val (.ref s0), .val (.ref sS), .val (.ref sT), .val (.int c2), .val (.int (1 : Int32)), .val (.long (own_h [((own_c4 c0 c1 c2 c3) 0), ((own_c4 c0 c1 c2 c3) 1)])), .second, .val (.long (own_h [((own_c4 c0 c1 c2 c3) 0), ((own_c4 c0 c1 c2 c3) 1), ((own_c4 c0 c1 c2 c3) 2)])), .second, .unset] [(.int c2), (.long (own_h [((own_c4 c0 c1 c2 c3) 0), ((own_c4 c0 c1 c2 c3) 1)])), (.long (own_h [((own_c4 c0 c1 c2 c3) 0), ((own_c4 c0 c1 c2 c3) 1), ((own_c4 c0 c1 c2 c3) 2)]))]))
    refine GoW.of (fun _ q => XS.i2l X21.here hx rfl (hb hby at_134) rfl q) ?_
    refine GoW.of (fun _ q => XS.lxor X21.here hx rfl (hb hby at_135) rfl q) ?_
    refine GoW.of (fun _ q => X21.ldc2Long hx hown (mvT hZ (hw _ (List.mem_of_getElem? (i := 80) rfl))) (g := (mkF m 136 #[.val (.int x1), .val (.int x2), .val (.int x3), .val (.int c0), .val (.int c1), .val (.int c2), .val (.int c3), .val (.int (2 : Int32)), .val (.ref s0), .val (.ref sS), .val (.ref sT), .val (.int c2), .val (.int (1 : Int32)), .val (.long (own_h [((own_c4 c0 c1 c2 c3) 0), ((own_c4 c0 c1 c2 c3) 1)])), .second, .val (.long (own_h [((own_c4 c0 c1 c2 c3) 0), ((own_c4 c0 c1 c2 c3) 1), ((own_c4 c0 c1 c2 c3) 2)])), .second, .unset] [(.long ((own_h [((own_c4 c0 c1 c2 c3) 0), ((own_c4 c0 c1 c2 c3) 1)]) ^^^ (c2.toInt64))), (.long (own_h [((own_c4 c0 c1 c2 c3) 0), ((own_c4 c0 c1 c2 c3) 1), ((own_c4 c0 c1 c2 c3) 2)]))])) rfl (hb hby at_136) _ q) ?_
    show GoW _ _ _ _ _ _ _ (T21.setTop (mkF m 139 #[.val (.int x1), .val (.int x2), .val (.int x3), .val (.int c0), .val (.int c1), .val (.int c2), .val (.int c3), .val (.int (2 : Int32)), .val (.ref s0), .val (.ref sS), .val (.ref sT), .val (.int c2), .val (.int (1 : Int32)), .val (.long (own_h [((own_c4 c0 c1 c2 c3) 0), ((own_c4 c0 c1 c2 c3) 1)])), .second, .val (.long (own_h [((own_c4 c0 c1 c2 c3) 0), ((own_c4 c0 c1 c2 c3) 1), ((own_c4 c0 c1 c2 c3) 2)])), .second, .unset] [(.long (1099511628211 : Int64)), (.long ((own_h [((own_c4 c0 c1 c2 c3) 0), ((own_c4 c0 c1 c2 c3) 1)]) ^^^ (c2.toInt64))), (.long (own_h [((own_c4 c0 c1 c2 c3) 0), ((own_c4 c0 c1 c2 c3) 1), ((own_c4 c0 c1 c2 c3) 2)]))]))
    refine GoW.of (fun _ q => XS.lmul X21.here hx rfl (hb hby at_139) rfl q) ?_
    refine GoW.of (fun _ q => XS.lcmp X21.here hx rfl (hb hby at_140) rfl q) ?_
    refine GoW.of (fun _ q => XS.ifNo X21.here hx rfl (hb hby at_141) rfl ((if0 _ _).trans (teq ((lw_eq (own_h [((own_c4 c0 c1 c2 c3) 0), ((own_c4 c0 c1 c2 c3) 1), ((own_c4 c0 c1 c2 c3) 2)]) (((own_h [((own_c4 c0 c1 c2 c3) 0), ((own_c4 c0 c1 c2 c3) 1)]) ^^^ (c2.toInt64)) * (1099511628211 : Int64))).mpr rfl)).2) q) ?_
    show GoW _ _ _ _ _ _ _ (T21.setTop (mkF m 144 #[.val (.int x1), .val (.int x2), .val (.int x3), .val (.int c0), .val (.int c1), .val (.int c2), .val (.int c3), .val (.int (2 : Int32)), .val (.ref s0), .val (.ref sS), .val (.ref sT), .val (.int c2), .val (.int (1 : Int32)), .val (.long (own_h [((own_c4 c0 c1 c2 c3) 0), ((own_c4 c0 c1 c2 c3) 1)])), .second, .val (.long (own_h [((own_c4 c0 c1 c2 c3) 0), ((own_c4 c0 c1 c2 c3) 1), ((own_c4 c0 c1 c2 c3) 2)])), .second, .unset] []))
    refine GoW.of (fun _ q => XS.iconst X21.here hx rfl (hb hby at_144) q) ?_
    refine GoW.of (fun _ q => XS.goto X21.here hx rfl (pc0 := 145) (pc' := 149) rfl (hb hby at_145) (by decide) (by decide) q) ?_
    refine GoW.of (fun _ q => XS.istore X21.here hx rfl (hb hby at_149) rfl (l' := #[.val (.int x1), .val (.int x2), .val (.int x3), .val (.int c0), .val (.int c1), .val (.int c2), .val (.int c3), .val (.int (2 : Int32)), .val (.ref s0), .val (.ref sS), .val (.ref sT), .val (.int c2), .val (.int (1 : Int32)), .val (.long (own_h [((own_c4 c0 c1 c2 c3) 0), ((own_c4 c0 c1 c2 c3) 1)])), .second, .val (.long (own_h [((own_c4 c0 c1 c2 c3) 0), ((own_c4 c0 c1 c2 c3) 1), ((own_c4 c0 c1 c2 c3) 2)])), .second, .val (.int (1 : Int32))]) rfl q) ?_
    show GoW _ _ _ _ _ _ _ (T21.setTop (mkF m 151 #[.val (.int x1), .val (.int x2), .val (.int x3), .val (.int c0), .val (.int c1), .val (.int c2), .val (.int c3), .val (.int (2 : Int32)), .val (.ref s0), .val (.ref sS), .val (.ref sT), .val (.int c2), .val (.int (1 : Int32)), .val (.long (own_h [((own_c4 c0 c1 c2 c3) 0), ((own_c4 c0 c1 c2 c3) 1)])), .second, .val (.long (own_h [((own_c4 c0 c1 c2 c3) 0), ((own_c4 c0 c1 c2 c3) 1), ((own_c4 c0 c1 c2 c3) 2)])), .second, .val (.int (1 : Int32))] []))
    refine GoW.of (fun _ q => XS.iload X21.here hx rfl (hb hby at_151) rfl q) ?_
    refine GoW.of (fun _ q => XS.ifNo X21.here hx rfl (hb hby at_153) rfl ((if0 _ _).trans (feq (by decide)).1) q) ?_
    refine GoW.of (fun _ q => XS.iload X21.here hx rfl (hb hby at_156) rfl q) ?_
    show GoW _ _ _ _ _ _ _ (T21.setTop (mkF m 158 #[.val (.int x1), .val (.int x2), .val (.int x3), .val (.int c0), .val (.int c1), .val (.int c2), .val (.int c3), .val (.int (2 : Int32)), .val (.ref s0), .val (.ref sS), .val (.ref sT), .val (.int c2), .val (.int (1 : Int32)), .val (.long (own_h [((own_c4 c0 c1 c2 c3) 0), ((own_c4 c0 c1 c2 c3) 1)])), .second, .val (.long (own_h [((own_c4 c0 c1 c2 c3) 0), ((own_c4 c0 c1 c2 c3) 1), ((own_c4 c0 c1 c2 c3) 2)])), .second, .val (.int (1 : Int32))] [(.int (1 : Int32))]))
    refine GoW.of (fun _ q => XS.ifNo X21.here hx rfl (hb hby at_158) rfl ((if0 _ _).trans (feq (by decide)).1) q) ?_
    refine GoW.of (fun _ q => XS.iconst X21.here hx rfl (hb hby at_161) q) ?_
    refine GoW.of (fun _ q => XS.goto X21.here hx rfl (pc0 := 162) (pc' := 166) rfl (hb hby at_162) (by decide) (by decide) q) ?_
    show GoW _ _ _ _ _ _ _ (T21.setTop (mkF m 166 #[.val (.int x1), .val (.int x2), .val (.int x3), .val (.int c0), .val (.int c1), .val (.int c2), .val (.int c3), .val (.int (2 : Int32)), .val (.ref s0), .val (.ref sS), .val (.ref sT), .val (.int c2), .val (.int (1 : Int32)), .val (.long (own_h [((own_c4 c0 c1 c2 c3) 0), ((own_c4 c0 c1 c2 c3) 1)])), .second, .val (.long (own_h [((own_c4 c0 c1 c2 c3) 0), ((own_c4 c0 c1 c2 c3) 1), ((own_c4 c0 c1 c2 c3) 2)])), .second, .val (.int (1 : Int32))] [(.int (1 : Int32))]))
    refine GoW.retN X21 hS (by rw [e21]; exact hk) hx hlk (t := .boolean) hret (by simp) (hb hby at_166) rfl (by decide) (by decide) ?_
    rw [e21]
    exact ⟨rfl, N21⟩
  · rw [q3]
    refine GoW.of (fun _ q => XS.iconst X0.here hx rfl (hb hby at_38) q) ?_
    refine GoW.of (fun _ q => XS.iloadN X0.here hx rfl (hb hby at_39) rfl q) ?_
    show GoW _ _ _ _ _ _ _ (s₁.setTop (mkF m 40 #[.val (.int x1), .val (.int x2), .val (.int x3), .val (.int c0), .val (.int c1), .val (.int c2), .val (.int c3), .val (.int (3 : Int32)), .unset, .unset, .unset, .unset, .unset, .unset, .unset, .unset, .unset, .unset] [(.int c0), (.int (0 : Int32))]))
    refine GoW.of (fun _ q => XS.iload X0.here hx rfl (hb hby at_40) rfl q) ?_
    refine GoW.of (fun _ q => XS.iload X0.here hx rfl (hb hby at_42) rfl q) ?_
    refine GoW.of (fun _ q => XS.iload X0.here hx rfl (hb hby at_44) rfl q) ?_
    show GoW _ _ _ _ _ _ _ (s₁.setTop (mkF m 46 #[.val (.int x1), .val (.int x2), .val (.int x3), .val (.int c0), .val (.int c1), .val (.int c2), .val (.int c3), .val (.int (3 : Int32)), .unset, .unset, .unset, .unset, .unset, .unset, .unset, .unset, .unset, .unset] [(.int c3), (.int c2), (.int c1), (.int c0), (.int (0 : Int32))]))
    refine GoW.staticW X0 hS hk hx hZ (y := (⟨"com/example/ddos_fee_ledger/ddosfeeledger/IndexRunHashPinLaw", "make", "(ICCCC)Ljava/lang/String;"⟩ : MethodName)) (argsL := [(.int (0 : Int32)), (.int c0), (.int c1), (.int c2), (.int c3)]) hown (hw _ (List.mem_of_getElem? (i := 1) rfl)) (hw _ (List.mem_of_getElem? (i := 2) rfl)) (hw _ (List.mem_of_getElem? (i := 3) rfl)) (hw _ (List.mem_of_getElem? (i := 4) rfl)) (by decide) 0 e0 (fun vm₁ hW => hW.interned_eq.trans hV) (rm1_0 l Z a0 hw c0 c1 c2 c3 h0 n0 Zs Od hheld hcomp) (by decide) (by decide) (by decide) (by decide) (g := (mkF m 46 #[.val (.int x1), .val (.int x2), .val (.int x3), .val (.int c0), .val (.int c1), .val (.int c2), .val (.int c3), .val (.int (3 : Int32)), .unset, .unset, .unset, .unset, .unset, .unset, .unset, .unset, .unset, .unset] [(.int c3), (.int c2), (.int c1), (.int c0), (.int (0 : Int32))])) rfl (by rw [hml]; rfl) (rest := []) (lenOf pd17 rfl) rfl (by show 2 * 0 + _ ≤ _; exact Nat.le_of_eq rfl) (hb hby at_46) ?_
    intro T22 v22 L22 X22 hS hZ hown q22
    obtain ⟨s0, lb, klb, glb, la, rfl, Nq22, K22, f22_0, f22_1, f22_2, f22_3, f22_4, f22_5, f22_6⟩ := q22
    have N22 := Fr.app N0 Nq22
    have g_s0 : n0 ≤ s0 := Nat.le_trans Zs f22_0
    have sz_s0 : h0.size ≤ s0 := Nat.le_trans Kp.1 f22_0
    have Zs := Nat.le_trans Zs K22.1
    have Kp := Kp.trans K22 all0
    have hk := Nat.le_trans hk K22.1
    have Od := Od.keep K22 all0
    have hk := Nat.le_refl T22.heap.size
    have E_s0 := f22_1
    have S_s0 := f22_2
    have A_lb := f22_3
    have F_la_value := f22_4
    have F_la_coder := f22_5
    have hli_22 := f22_6
    refine GoW.of (fun _ q => XS.astore X22.here hx rfl (hb hby at_49) rfl rfl (l' := #[.val (.int x1), .val (.int x2), .val (.int x3), .val (.int c0), .val (.int c1), .val (.int c2), .val (.int c3), .val (.int (3 : Int32)), .val (.ref s0), .unset, .unset, .unset, .unset, .unset, .unset, .unset, .unset, .unset]) rfl q) ?_
    refine GoW.of (fun _ q => XS.iload X22.here hx rfl (hb hby at_51) rfl q) ?_
    show GoW _ _ _ _ _ _ _ (T22.setTop (mkF m 53 #[.val (.int x1), .val (.int x2), .val (.int x3), .val (.int c0), .val (.int c1), .val (.int c2), .val (.int c3), .val (.int (3 : Int32)), .val (.ref s0), .unset, .unset, .unset, .unset, .unset, .unset, .unset, .unset, .unset] [(.int (3 : Int32))]))
    refine GoW.of (fun _ q => XS.iloadN X22.here hx rfl (hb hby at_53) rfl q) ?_
    refine GoW.of (fun _ q => XS.iload X22.here hx rfl (hb hby at_54) rfl q) ?_
    refine GoW.of (fun _ q => XS.iload X22.here hx rfl (hb hby at_56) rfl q) ?_
    show GoW _ _ _ _ _ _ _ (T22.setTop (mkF m 58 #[.val (.int x1), .val (.int x2), .val (.int x3), .val (.int c0), .val (.int c1), .val (.int c2), .val (.int c3), .val (.int (3 : Int32)), .val (.ref s0), .unset, .unset, .unset, .unset, .unset, .unset, .unset, .unset, .unset] [(.int c2), (.int c1), (.int c0), (.int (3 : Int32))]))
    refine GoW.of (fun _ q => XS.iload X22.here hx rfl (hb hby at_58) rfl q) ?_
    refine callStatic GoW.of X22 hx hZ (y := (⟨"com/example/ddos_fee_ledger/ddosfeeledger/IndexRunHashPinLaw", "make", "(ICCCC)Ljava/lang/String;"⟩ : MethodName)) (argsL := [(.int (3 : Int32)), (.int c0), (.int c1), (.int c2), (.int c3)]) hown (hw _ (List.mem_of_getElem? (i := 1) rfl)) (hw _ (List.mem_of_getElem? (i := 2) rfl)) (hw _ (List.mem_of_getElem? (i := 3) rfl)) (hw _ (List.mem_of_getElem? (i := 4) rfl)) (by decide) 0 rfl (rm1_3 l Z a0 hw c0 c1 c2 c3 cs T22.heap n0 Zs Od hcc Scs hcs Sad Shi Slo) (by decide) (by decide) (by decide) (by decide) (g := (mkF m 60 #[.val (.int x1), .val (.int x2), .val (.int x3), .val (.int c0), .val (.int c1), .val (.int c2), .val (.int c3), .val (.int (3 : Int32)), .val (.ref s0), .unset, .unset, .unset, .unset, .unset, .unset, .unset, .unset, .unset] [(.int c3), (.int c2), (.int c1), (.int c0), (.int (3 : Int32))])) rfl (by rw [hml]; rfl) (rest := []) (lenOf pd17 rfl) rfl (by show 2 * 0 + _ ≤ _; exact Nat.le_of_eq rfl) (hb hby at_60) ?_
    intro T23 v23 L23 X23 q23
    obtain ⟨sS, rfl, Nq23, K23, f23_0, f23_1, f23_2⟩ := q23
    have N23 := Fr.app N22 Nq23
    have g_sS : n0 ≤ sS := Nat.le_trans Zs f23_0
    have sz_sS : h0.size ≤ sS := Nat.le_trans Kp.1 f23_0
    have ne_s0_sS : s0 ≠ sS := Nat.ne_of_lt (Nat.lt_of_lt_of_le E_s0.lt f23_0)
    have ne_lb_sS : lb ≠ sS := Nat.ne_of_lt (Nat.lt_of_lt_of_le A_lb.lt f23_0)
    have ne_la_sS : la ≠ sS := Nat.ne_of_lt (Nat.lt_of_lt_of_le F_la_value.lt f23_0)
    have Zs := Nat.le_trans Zs K23.1
    have Kp := Kp.trans K23 all0
    have hk := Nat.le_trans hk K23.1
    have Od := Od.keep K23 all0
    have E_s0 := E_s0.keep K23
    have S_s0 := S_s0.keep0 K23
    have A_lb := A_lb.keep K23 nin0
    have F_la_value := F_la_value.keep K23 nin0
    have F_la_coder := F_la_coder.keep K23 nin0
    have E_sS := f23_1
    have S_sS := f23_2
    refine GoW.of (fun _ q => XS.astore X23.here hx rfl (hb hby at_63) rfl rfl (l' := #[.val (.int x1), .val (.int x2), .val (.int x3), .val (.int c0), .val (.int c1), .val (.int c2), .val (.int c3), .val (.int (3 : Int32)), .val (.ref s0), .val (.ref sS), .unset, .unset, .unset, .unset, .unset, .unset, .unset, .unset]) rfl q) ?_
    show GoW _ _ _ _ _ _ _ (T23.setTop (mkF m 65 #[.val (.int x1), .val (.int x2), .val (.int x3), .val (.int c0), .val (.int c1), .val (.int c2), .val (.int c3), .val (.int (3 : Int32)), .val (.ref s0), .val (.ref sS), .unset, .unset, .unset, .unset, .unset, .unset, .unset, .unset] []))
    refine GoW.of (fun _ q => XS.iload X23.here hx rfl (hb hby at_65) rfl q) ?_
    refine GoW.of (fun _ q => XS.iconst X23.here hx rfl (hb hby at_67) q) ?_
    refine GoW.of (fun _ q => XS.iadd X23.here hx rfl (hb hby at_68) rfl q) ?_
    show GoW _ _ _ _ _ _ _ (T23.setTop (mkF m 69 #[.val (.int x1), .val (.int x2), .val (.int x3), .val (.int c0), .val (.int c1), .val (.int c2), .val (.int c3), .val (.int (3 : Int32)), .val (.ref s0), .val (.ref sS), .unset, .unset, .unset, .unset, .unset, .unset, .unset, .unset] [(.int (4 : Int32))]))
    refine GoW.of (fun _ q => XS.iloadN X23.here hx rfl (hb hby at_69) rfl q) ?_
    refine GoW.of (fun _ q => XS.iload X23.here hx rfl (hb hby at_70) rfl q) ?_
    refine GoW.of (fun _ q => XS.iload X23.here hx rfl (hb hby at_72) rfl q) ?_
    show GoW _ _ _ _ _ _ _ (T23.setTop (mkF m 74 #[.val (.int x1), .val (.int x2), .val (.int x3), .val (.int c0), .val (.int c1), .val (.int c2), .val (.int c3), .val (.int (3 : Int32)), .val (.ref s0), .val (.ref sS), .unset, .unset, .unset, .unset, .unset, .unset, .unset, .unset] [(.int c2), (.int c1), (.int c0), (.int (4 : Int32))]))
    refine GoW.of (fun _ q => XS.iload X23.here hx rfl (hb hby at_74) rfl q) ?_
    refine callStatic GoW.of X23 hx hZ (y := (⟨"com/example/ddos_fee_ledger/ddosfeeledger/IndexRunHashPinLaw", "make", "(ICCCC)Ljava/lang/String;"⟩ : MethodName)) (argsL := [(.int (4 : Int32)), (.int c0), (.int c1), (.int c2), (.int c3)]) hown (hw _ (List.mem_of_getElem? (i := 1) rfl)) (hw _ (List.mem_of_getElem? (i := 2) rfl)) (hw _ (List.mem_of_getElem? (i := 3) rfl)) (hw _ (List.mem_of_getElem? (i := 4) rfl)) (by decide) 0 rfl (rm1_4 l Z a0 hw c0 c1 c2 c3 cs T23.heap n0 Zs Od hcc Scs hcs Sad Shi Slo) (by decide) (by decide) (by decide) (by decide) (g := (mkF m 76 #[.val (.int x1), .val (.int x2), .val (.int x3), .val (.int c0), .val (.int c1), .val (.int c2), .val (.int c3), .val (.int (3 : Int32)), .val (.ref s0), .val (.ref sS), .unset, .unset, .unset, .unset, .unset, .unset, .unset, .unset] [(.int c3), (.int c2), (.int c1), (.int c0), (.int (4 : Int32))])) rfl (by rw [hml]; rfl) (rest := []) (lenOf pd17 rfl) rfl (by show 2 * 0 + _ ≤ _; exact Nat.le_of_eq rfl) (hb hby at_76) ?_
    intro T24 v24 L24 X24 q24
    obtain ⟨sT, rfl, Nq24, K24, f24_0, f24_1, f24_2⟩ := q24
    have N24 := Fr.app N23 Nq24
    have g_sT : n0 ≤ sT := Nat.le_trans Zs f24_0
    have sz_sT : h0.size ≤ sT := Nat.le_trans Kp.1 f24_0
    have ne_s0_sT : s0 ≠ sT := Nat.ne_of_lt (Nat.lt_of_lt_of_le E_s0.lt f24_0)
    have ne_lb_sT : lb ≠ sT := Nat.ne_of_lt (Nat.lt_of_lt_of_le A_lb.lt f24_0)
    have ne_la_sT : la ≠ sT := Nat.ne_of_lt (Nat.lt_of_lt_of_le F_la_value.lt f24_0)
    have ne_sS_sT : sS ≠ sT := Nat.ne_of_lt (Nat.lt_of_lt_of_le E_sS.lt f24_0)
    have Zs := Nat.le_trans Zs K24.1
    have Kp := Kp.trans K24 all0
    have hk := Nat.le_trans hk K24.1
    have Od := Od.keep K24 all0
    have E_s0 := E_s0.keep K24
    have S_s0 := S_s0.keep0 K24
    have A_lb := A_lb.keep K24 nin0
    have F_la_value := F_la_value.keep K24 nin0
    have F_la_coder := F_la_coder.keep K24 nin0
    have E_sS := E_sS.keep K24
    have S_sS := S_sS.keep0 K24
    have E_sT := f24_1
    have S_sT := f24_2
    refine GoW.of (fun _ q => XS.astore X24.here hx rfl (hb hby at_79) rfl rfl (l' := #[.val (.int x1), .val (.int x2), .val (.int x3), .val (.int c0), .val (.int c1), .val (.int c2), .val (.int c3), .val (.int (3 : Int32)), .val (.ref s0), .val (.ref sS), .val (.ref sT), .unset, .unset, .unset, .unset, .unset, .unset, .unset]) rfl q) ?_
    show GoW _ _ _ _ _ _ _ (T24.setTop (mkF m 81 #[.val (.int x1), .val (.int x2), .val (.int x3), .val (.int c0), .val (.int c1), .val (.int c2), .val (.int c3), .val (.int (3 : Int32)), .val (.ref s0), .val (.ref sS), .val (.ref sT), .unset, .unset, .unset, .unset, .unset, .unset, .unset] []))
    refine GoW.of (fun _ q => XS.iload X24.here hx rfl (hb hby at_81) rfl q) ?_
    refine GoW.of (fun _ q => XS.iloadN X24.here hx rfl (hb hby at_83) rfl q) ?_
    refine GoW.of (fun _ q => XS.iload X24.here hx rfl (hb hby at_84) rfl q) ?_
    show GoW _ _ _ _ _ _ _ (T24.setTop (mkF m 86 #[.val (.int x1), .val (.int x2), .val (.int x3), .val (.int c0), .val (.int c1), .val (.int c2), .val (.int c3), .val (.int (3 : Int32)), .val (.ref s0), .val (.ref sS), .val (.ref sT), .unset, .unset, .unset, .unset, .unset, .unset, .unset] [(.int c1), (.int c0), (.int (3 : Int32))]))
    refine GoW.of (fun _ q => XS.iload X24.here hx rfl (hb hby at_86) rfl q) ?_
    refine GoW.of (fun _ q => XS.iload X24.here hx rfl (hb hby at_88) rfl q) ?_
    refine callStatic GoW.of X24 hx hZ (y := (⟨"com/example/ddos_fee_ledger/ddosfeeledger/IndexRunHashPinLaw", "pick", "(ICCCC)C"⟩ : MethodName)) (argsL := [(.int (3 : Int32)), (.int c0), (.int c1), (.int c2), (.int c3)]) hown (hw _ (List.mem_of_getElem? (i := 38) rfl)) (hw _ (List.mem_of_getElem? (i := 39) rfl)) (hw _ (List.mem_of_getElem? (i := 3) rfl)) (hw _ (List.mem_of_getElem? (i := 40) rfl)) (by decide) 0 rfl (rm8_3 l Z a0 hw c0 c1 c2 c3 T24.heap n0 Zs k3) (by decide) (by decide) (by decide) (by decide) (g := (mkF m 90 #[.val (.int x1), .val (.int x2), .val (.int x3), .val (.int c0), .val (.int c1), .val (.int c2), .val (.int c3), .val (.int (3 : Int32)), .val (.ref s0), .val (.ref sS), .val (.ref sT), .unset, .unset, .unset, .unset, .unset, .unset, .unset] [(.int c3), (.int c2), (.int c1), (.int c0), (.int (3 : Int32))])) rfl (by rw [hml]; rfl) (rest := []) (lenOf pd18 rfl) rfl (by show 2 * 0 + _ ≤ _; exact Nat.le_of_eq rfl) (hb hby at_90) ?_
    intro T25 v25 L25 X25 q25
    obtain ⟨rfl, Nq25, e25⟩ := q25
    have N25 := Fr.app N24 Nq25
    show GoW _ _ _ _ _ _ _ (T25.setTop (mkF m 93 #[.val (.int x1), .val (.int x2), .val (.int x3), .val (.int c0), .val (.int c1), .val (.int c2), .val (.int c3), .val (.int (3 : Int32)), .val (.ref s0), .val (.ref sS), .val (.ref sT), .unset, .unset, .unset, .unset, .unset, .unset, .unset] [(.int c3)]))
    refine GoW.of (fun _ q => XS.istore X25.here hx rfl (hb hby at_93) rfl (l' := #[.val (.int x1), .val (.int x2), .val (.int x3), .val (.int c0), .val (.int c1), .val (.int c2), .val (.int c3), .val (.int (3 : Int32)), .val (.ref s0), .val (.ref sS), .val (.ref sT), .val (.int c3), .unset, .unset, .unset, .unset, .unset, .unset]) rfl q) ?_
    refine GoW.of (fun _ q => XS.aload X25.here hx rfl (hb hby at_95) rfl rfl q) ?_
    refine callStatic GoW.of X25 hx hZ (y := (⟨"com/example/ddos_fee_ledger/ddosfeeledger/IndexRun", "hash", "(Ljava/lang/String;)J"⟩ : MethodName)) (argsL := [(.ref s0)]) hown (hw _ (List.mem_of_getElem? (i := 41) rfl)) (hw _ (List.mem_of_getElem? (i := 42) rfl)) (hw _ (List.mem_of_getElem? (i := 43) rfl)) (hw _ (List.mem_of_getElem? (i := 44) rfl)) (by decide) 0 e25 (rm9_0 l Z a0 hw s0 (own_c4 c0 c1 c2 c3) cs T24.heap n0 Zs Od E_s0 S_s0 Scs hcs) (by decide) (by decide) (by decide) (by decide) (g := (mkF m 97 #[.val (.int x1), .val (.int x2), .val (.int x3), .val (.int c0), .val (.int c1), .val (.int c2), .val (.int c3), .val (.int (3 : Int32)), .val (.ref s0), .val (.ref sS), .val (.ref sT), .val (.int c3), .unset, .unset, .unset, .unset, .unset, .unset] [(.ref s0)])) rfl (by rw [hml]; rfl) (rest := []) (lenOf pd19 rfl) rfl (by show 2 * 0 + _ ≤ _; exact Nat.le_of_eq rfl) (hb hby at_97) ?_
    intro T26 v26 L26 X26 q26
    obtain ⟨rfl, Nq26, e26⟩ := q26
    have N26 := Fr.app N25 Nq26
    show GoW _ _ _ _ _ _ _ (T26.setTop (mkF m 100 #[.val (.int x1), .val (.int x2), .val (.int x3), .val (.int c0), .val (.int c1), .val (.int c2), .val (.int c3), .val (.int (3 : Int32)), .val (.ref s0), .val (.ref sS), .val (.ref sT), .val (.int c3), .unset, .unset, .unset, .unset, .unset, .unset] [(.long (-3750763034362895579 : Int64))]))
    refine GoW.of (fun _ q => X26.ldc2Long hx hown (mvT hZ (hw _ (List.mem_of_getElem? (i := 56) rfl))) (g := (mkF m 100 #[.val (.int x1), .val (.int x2), .val (.int x3), .val (.int c0), .val (.int c1), .val (.int c2), .val (.int c3), .val (.int (3 : Int32)), .val (.ref s0), .val (.ref sS), .val (.ref sT), .val (.int c3), .unset, .unset, .unset, .unset, .unset, .unset] [(.long (-3750763034362895579 : Int64))])) rfl (hb hby at_100) _ q) ?_
    refine GoW.of (fun _ q => XS.lcmp X26.here hx rfl (hb hby at_103) rfl q) ?_
    refine GoW.of (fun _ q => XS.ifNo X26.here hx rfl (hb hby at_104) rfl ((if0 _ _).trans (teq ((lw_eq (-3750763034362895579 : Int64) (-3750763034362895579 : Int64)).mpr rfl)).2) q) ?_
    show GoW _ _ _ _ _ _ _ (T26.setTop (mkF m 107 #[.val (.int x1), .val (.int x2), .val (.int x3), .val (.int c0), .val (.int c1), .val (.int c2), .val (.int c3), .val (.int (3 : Int32)), .val (.ref s0), .val (.ref sS), .val (.ref sT), .val (.int c3), .unset, .unset, .unset, .unset, .unset, .unset] []))
    refine GoW.of (fun _ q => XS.iconst X26.here hx rfl (hb hby at_107) q) ?_
    refine GoW.of (fun _ q => XS.goto X26.here hx rfl (pc0 := 108) (pc' := 112) rfl (hb hby at_108) (by decide) (by decide) q) ?_
    refine GoW.of (fun _ q => XS.istore X26.here hx rfl (hb hby at_112) rfl (l' := #[.val (.int x1), .val (.int x2), .val (.int x3), .val (.int c0), .val (.int c1), .val (.int c2), .val (.int c3), .val (.int (3 : Int32)), .val (.ref s0), .val (.ref sS), .val (.ref sT), .val (.int c3), .val (.int (1 : Int32)), .unset, .unset, .unset, .unset, .unset]) rfl q) ?_
    show GoW _ _ _ _ _ _ _ (T26.setTop (mkF m 114 #[.val (.int x1), .val (.int x2), .val (.int x3), .val (.int c0), .val (.int c1), .val (.int c2), .val (.int c3), .val (.int (3 : Int32)), .val (.ref s0), .val (.ref sS), .val (.ref sT), .val (.int c3), .val (.int (1 : Int32)), .unset, .unset, .unset, .unset, .unset] []))
    refine GoW.of (fun _ q => XS.aload X26.here hx rfl (hb hby at_114) rfl rfl q) ?_
    refine callStatic GoW.of X26 hx hZ (y := (⟨"com/example/ddos_fee_ledger/ddosfeeledger/IndexRun", "hash", "(Ljava/lang/String;)J"⟩ : MethodName)) (argsL := [(.ref sS)]) hown (hw _ (List.mem_of_getElem? (i := 41) rfl)) (hw _ (List.mem_of_getElem? (i := 42) rfl)) (hw _ (List.mem_of_getElem? (i := 43) rfl)) (hw _ (List.mem_of_getElem? (i := 44) rfl)) (by decide) 0 e26 (rm9_3 l Z a0 hw sS (own_c4 c0 c1 c2 c3) fm hfm cs T24.heap n0 Zs Od E_sS S_sS Scs hcs Sfm Sad Shi Slo) (by decide) (by decide) (by decide) (by decide) (g := (mkF m 116 #[.val (.int x1), .val (.int x2), .val (.int x3), .val (.int c0), .val (.int c1), .val (.int c2), .val (.int c3), .val (.int (3 : Int32)), .val (.ref s0), .val (.ref sS), .val (.ref sT), .val (.int c3), .val (.int (1 : Int32)), .unset, .unset, .unset, .unset, .unset] [(.ref sS)])) rfl (by rw [hml]; rfl) (rest := []) (lenOf pd19 rfl) rfl (by show 2 * 0 + _ ≤ _; exact Nat.le_of_eq rfl) (hb hby at_116) ?_
    intro T27 v27 L27 X27 q27
    obtain ⟨rfl, Nq27, e27⟩ := q27
    have N27 := Fr.app N26 Nq27
    refine GoW.of (fun _ q => XS.lstore X27.here hx rfl (hb hby at_119) rfl (l' := #[.val (.int x1), .val (.int x2), .val (.int x3), .val (.int c0), .val (.int c1), .val (.int c2), .val (.int c3), .val (.int (3 : Int32)), .val (.ref s0), .val (.ref sS), .val (.ref sT), .val (.int c3), .val (.int (1 : Int32)), .val (.long (own_h [((own_c4 c0 c1 c2 c3) 0), ((own_c4 c0 c1 c2 c3) 1), ((own_c4 c0 c1 c2 c3) 2)])), .second, .unset, .unset, .unset]) rfl q) ?_
    show GoW _ _ _ _ _ _ _ (T27.setTop (mkF m 121 #[.val (.int x1), .val (.int x2), .val (.int x3), .val (.int c0), .val (.int c1), .val (.int c2), .val (.int c3), .val (.int (3 : Int32)), .val (.ref s0), .val (.ref sS), .val (.ref sT), .val (.int c3), .val (.int (1 : Int32)), .val (.long (own_h [((own_c4 c0 c1 c2 c3) 0), ((own_c4 c0 c1 c2 c3) 1), ((own_c4 c0 c1 c2 c3) 2)])), .second, .unset, .unset, .unset] []))
    refine GoW.of (fun _ q => XS.aload X27.here hx rfl (hb hby at_121) rfl rfl q) ?_
    refine callStatic GoW.of X27 hx hZ (y := (⟨"com/example/ddos_fee_ledger/ddosfeeledger/IndexRun", "hash", "(Ljava/lang/String;)J"⟩ : MethodName)) (argsL := [(.ref sT)]) hown (hw _ (List.mem_of_getElem? (i := 41) rfl)) (hw _ (List.mem_of_getElem? (i := 42) rfl)) (hw _ (List.mem_of_getElem? (i := 43) rfl)) (hw _ (List.mem_of_getElem? (i := 44) rfl)) (by decide) 0 e27 (rm9_4 l Z a0 hw sT (own_c4 c0 c1 c2 c3) fm hfm cs T24.heap n0 Zs Od E_sT S_sT Scs hcs Sfm Sad Shi Slo) (by decide) (by decide) (by decide) (by decide) (g := (mkF m 123 #[.val (.int x1), .val (.int x2), .val (.int x3), .val (.int c0), .val (.int c1), .val (.int c2), .val (.int c3), .val (.int (3 : Int32)), .val (.ref s0), .val (.ref sS), .val (.ref sT), .val (.int c3), .val (.int (1 : Int32)), .val (.long (own_h [((own_c4 c0 c1 c2 c3) 0), ((own_c4 c0 c1 c2 c3) 1), ((own_c4 c0 c1 c2 c3) 2)])), .second, .unset, .unset, .unset] [(.ref sT)])) rfl (by rw [hml]; rfl) (rest := []) (lenOf pd19 rfl) rfl (by show 2 * 0 + _ ≤ _; exact Nat.le_of_eq rfl) (hb hby at_123) ?_
    intro T28 v28 L28 X28 q28
    obtain ⟨rfl, Nq28, e28⟩ := q28
    have N28 := Fr.app N27 Nq28
    refine GoW.of (fun _ q => XS.lstore X28.here hx rfl (hb hby at_126) rfl (l' := #[.val (.int x1), .val (.int x2), .val (.int x3), .val (.int c0), .val (.int c1), .val (.int c2), .val (.int c3), .val (.int (3 : Int32)), .val (.ref s0), .val (.ref sS), .val (.ref sT), .val (.int c3), .val (.int (1 : Int32)), .val (.long (own_h [((own_c4 c0 c1 c2 c3) 0), ((own_c4 c0 c1 c2 c3) 1), ((own_c4 c0 c1 c2 c3) 2)])), .second, .val (.long (own_h [((own_c4 c0 c1 c2 c3) 0), ((own_c4 c0 c1 c2 c3) 1), ((own_c4 c0 c1 c2 c3) 2), ((own_c4 c0 c1 c2 c3) 3)])), .second, .unset]) rfl q) ?_
    show GoW _ _ _ _ _ _ _ (T28.setTop (mkF m 128 #[.val (.int x1), .val (.int x2), .val (.int x3), .val (.int c0), .val (.int c1), .val (.int c2), .val (.int c3), .val (.int (3 : Int32)), .val (.ref s0), .val (.ref sS), .val (.ref sT), .val (.int c3), .val (.int (1 : Int32)), .val (.long (own_h [((own_c4 c0 c1 c2 c3) 0), ((own_c4 c0 c1 c2 c3) 1), ((own_c4 c0 c1 c2 c3) 2)])), .second, .val (.long (own_h [((own_c4 c0 c1 c2 c3) 0), ((own_c4 c0 c1 c2 c3) 1), ((own_c4 c0 c1 c2 c3) 2), ((own_c4 c0 c1 c2 c3) 3)])), .second, .unset] []))
    refine GoW.of (fun _ q => XS.lload X28.here hx rfl (hb hby at_128) rfl q) ?_
    refine GoW.of (fun _ q => XS.lload X28.here hx rfl (hb hby at_130) rfl q) ?_
    refine GoW.of (fun _ q => XS.iload X28.here hx rfl (hb hby at_132) rfl q) ?_
    show GoW _ _ _ _ _ _ _ (T28.setTop (mkF m 134 #[.val (.int x1), .val (.int x2), .val (.int x3), .val (.int c0), .val (.int c1), .val (.int c2), .val (.int c3), .val (.int (3 : Int32)), .val (.ref s0), .val (.ref sS), .val (.ref sT), .val (.int c3), .val (.int (1 : Int32)), .val (.long (own_h [((own_c4 c0 c1 c2 c3) 0), ((own_c4 c0 c1 c2 c3) 1), ((own_c4 c0 c1 c2 c3) 2)])), .second, .val (.long (own_h [((own_c4 c0 c1 c2 c3) 0), ((own_c4 c0 c1 c2 c3) 1), ((own_c4 c0 c1 c2 c3) 2), ((own_c4 c0 c1 c2 c3) 3)])), .second, .unset] [(.int c3), (.long (own_h [((own_c4 c0 c1 c2 c3) 0), ((own_c4 c0 c1 c2 c3) 1), ((own_c4 c0 c1 c2 c3) 2)])), (.long (own_h [((own_c4 c0 c1 c2 c3) 0), ((own_c4 c0 c1 c2 c3) 1), ((own_c4 c0 c1 c2 c3) 2), ((own_c4 c0 c1 c2 c3) 3)]))]))
    refine GoW.of (fun _ q => XS.i2l X28.here hx rfl (hb hby at_134) rfl q) ?_
    refine GoW.of (fun _ q => XS.lxor X28.here hx rfl (hb hby at_135) rfl q) ?_
    refine GoW.of (fun _ q => X28.ldc2Long hx hown (mvT hZ (hw _ (List.mem_of_getElem? (i := 80) rfl))) (g := (mkF m 136 #[.val (.int x1), .val (.int x2), .val (.int x3), .val (.int c0), .val (.int c1), .val (.int c2), .val (.int c3), .val (.int (3 : Int32)), .val (.ref s0), .val (.ref sS), .val (.ref sT), .val (.int c3), .val (.int (1 : Int32)), .val (.long (own_h [((own_c4 c0 c1 c2 c3) 0), ((own_c4 c0 c1 c2 c3) 1), ((own_c4 c0 c1 c2 c3) 2)])), .second, .val (.long (own_h [((own_c4 c0 c1 c2 c3) 0), ((own_c4 c0 c1 c2 c3) 1), ((own_c4 c0 c1 c2 c3) 2), ((own_c4 c0 c1 c2 c3) 3)])), .second, .unset] [(.long ((own_h [((own_c4 c0 c1 c2 c3) 0), ((own_c4 c0 c1 c2 c3) 1), ((own_c4 c0 c1 c2 c3) 2)]) ^^^ (c3.toInt64))), (.long (own_h [((own_c4 c0 c1 c2 c3) 0), ((own_c4 c0 c1 c2 c3) 1), ((own_c4 c0 c1 c2 c3) 2), ((own_c4 c0 c1 c2 c3) 3)]))])) rfl (hb hby at_136) _ q) ?_
    show GoW _ _ _ _ _ _ _ (T28.setTop (mkF m 139 #[.val (.int x1), .val (.int x2), .val (.int x3), .val (.int c0), .val (.int c1), .val (.int c2), .val (.int c3), .val (.int (3 : Int32)), .val (.ref s0), .val (.ref sS), .val (.ref sT), .val (.int c3), .val (.int (1 : Int32)), .val (.long (own_h [((own_c4 c0 c1 c2 c3) 0), ((own_c4 c0 c1 c2 c3) 1), ((own_c4 c0 c1 c2 c3) 2)])), .second, .val (.long (own_h [((own_c4 c0 c1 c2 c3) 0), ((own_c4 c0 c1 c2 c3) 1), ((own_c4 c0 c1 c2 c3) 2), ((own_c4 c0 c1 c2 c3) 3)])), .second, .unset] [(.long (1099511628211 : Int64)), (.long ((own_h [((own_c4 c0 c1 c2 c3) 0), ((own_c4 c0 c1 c2 c3) 1), ((own_c4 c0 c1 c2 c3) 2)]) ^^^ (c3.toInt64))), (.long (own_h [((own_c4 c0 c1 c2 c3) 0), ((own_c4 c0 c1 c2 c3) 1), ((own_c4 c0 c1 c2 c3) 2), ((own_c4 c0 c1 c2 c3) 3)]))]))
    refine GoW.of (fun _ q => XS.lmul X28.here hx rfl (hb hby at_139) rfl q) ?_
    refine GoW.of (fun _ q => XS.lcmp X28.here hx rfl (hb hby at_140) rfl q) ?_
    refine GoW.of (fun _ q => XS.ifNo X28.here hx rfl (hb hby at_141) rfl ((if0 _ _).trans (teq ((lw_eq (own_h [((own_c4 c0 c1 c2 c3) 0), ((own_c4 c0 c1 c2 c3) 1), ((own_c4 c0 c1 c2 c3) 2), ((own_c4 c0 c1 c2 c3) 3)]) (((own_h [((own_c4 c0 c1 c2 c3) 0), ((own_c4 c0 c1 c2 c3) 1), ((own_c4 c0 c1 c2 c3) 2)]) ^^^ (c3.toInt64)) * (1099511628211 : Int64))).mpr rfl)).2) q) ?_
    show GoW _ _ _ _ _ _ _ (T28.setTop (mkF m 144 #[.val (.int x1), .val (.int x2), .val (.int x3), .val (.int c0), .val (.int c1), .val (.int c2), .val (.int c3), .val (.int (3 : Int32)), .val (.ref s0), .val (.ref sS), .val (.ref sT), .val (.int c3), .val (.int (1 : Int32)), .val (.long (own_h [((own_c4 c0 c1 c2 c3) 0), ((own_c4 c0 c1 c2 c3) 1), ((own_c4 c0 c1 c2 c3) 2)])), .second, .val (.long (own_h [((own_c4 c0 c1 c2 c3) 0), ((own_c4 c0 c1 c2 c3) 1), ((own_c4 c0 c1 c2 c3) 2), ((own_c4 c0 c1 c2 c3) 3)])), .second, .unset] []))
    refine GoW.of (fun _ q => XS.iconst X28.here hx rfl (hb hby at_144) q) ?_
    refine GoW.of (fun _ q => XS.goto X28.here hx rfl (pc0 := 145) (pc' := 149) rfl (hb hby at_145) (by decide) (by decide) q) ?_
    refine GoW.of (fun _ q => XS.istore X28.here hx rfl (hb hby at_149) rfl (l' := #[.val (.int x1), .val (.int x2), .val (.int x3), .val (.int c0), .val (.int c1), .val (.int c2), .val (.int c3), .val (.int (3 : Int32)), .val (.ref s0), .val (.ref sS), .val (.ref sT), .val (.int c3), .val (.int (1 : Int32)), .val (.long (own_h [((own_c4 c0 c1 c2 c3) 0), ((own_c4 c0 c1 c2 c3) 1), ((own_c4 c0 c1 c2 c3) 2)])), .second, .val (.long (own_h [((own_c4 c0 c1 c2 c3) 0), ((own_c4 c0 c1 c2 c3) 1), ((own_c4 c0 c1 c2 c3) 2), ((own_c4 c0 c1 c2 c3) 3)])), .second, .val (.int (1 : Int32))]) rfl q) ?_
    show GoW _ _ _ _ _ _ _ (T28.setTop (mkF m 151 #[.val (.int x1), .val (.int x2), .val (.int x3), .val (.int c0), .val (.int c1), .val (.int c2), .val (.int c3), .val (.int (3 : Int32)), .val (.ref s0), .val (.ref sS), .val (.ref sT), .val (.int c3), .val (.int (1 : Int32)), .val (.long (own_h [((own_c4 c0 c1 c2 c3) 0), ((own_c4 c0 c1 c2 c3) 1), ((own_c4 c0 c1 c2 c3) 2)])), .second, .val (.long (own_h [((own_c4 c0 c1 c2 c3) 0), ((own_c4 c0 c1 c2 c3) 1), ((own_c4 c0 c1 c2 c3) 2), ((own_c4 c0 c1 c2 c3) 3)])), .second, .val (.int (1 : Int32))] []))
    refine GoW.of (fun _ q => XS.iload X28.here hx rfl (hb hby at_151) rfl q) ?_
    refine GoW.of (fun _ q => XS.ifNo X28.here hx rfl (hb hby at_153) rfl ((if0 _ _).trans (feq (by decide)).1) q) ?_
    refine GoW.of (fun _ q => XS.iload X28.here hx rfl (hb hby at_156) rfl q) ?_
    show GoW _ _ _ _ _ _ _ (T28.setTop (mkF m 158 #[.val (.int x1), .val (.int x2), .val (.int x3), .val (.int c0), .val (.int c1), .val (.int c2), .val (.int c3), .val (.int (3 : Int32)), .val (.ref s0), .val (.ref sS), .val (.ref sT), .val (.int c3), .val (.int (1 : Int32)), .val (.long (own_h [((own_c4 c0 c1 c2 c3) 0), ((own_c4 c0 c1 c2 c3) 1), ((own_c4 c0 c1 c2 c3) 2)])), .second, .val (.long (own_h [((own_c4 c0 c1 c2 c3) 0), ((own_c4 c0 c1 c2 c3) 1), ((own_c4 c0 c1 c2 c3) 2), ((own_c4 c0 c1 c2 c3) 3)])), .second, .val (.int (1 : Int32))] [(.int (1 : Int32))]))
    refine GoW.of (fun _ q => XS.ifNo X28.here hx rfl (hb hby at_158) rfl ((if0 _ _).trans (feq (by decide)).1) q) ?_
    refine GoW.of (fun _ q => XS.iconst X28.here hx rfl (hb hby at_161) q) ?_
    refine GoW.of (fun _ q => XS.goto X28.here hx rfl (pc0 := 162) (pc' := 166) rfl (hb hby at_162) (by decide) (by decide) q) ?_
    show GoW _ _ _ _ _ _ _ (T28.setTop (mkF m 166 #[.val (.int x1), .val (.int x2), .val (.int x3), .val (.int c0), .val (.int c1), .val (.int c2), .val (.int c3), .val (.int (3 : Int32)), .val (.ref s0), .val (.ref sS), .val (.ref sT), .val (.int c3), .val (.int (1 : Int32)), .val (.long (own_h [((own_c4 c0 c1 c2 c3) 0), ((own_c4 c0 c1 c2 c3) 1), ((own_c4 c0 c1 c2 c3) 2)])), .second, .val (.long (own_h [((own_c4 c0 c1 c2 c3) 0), ((own_c4 c0 c1 c2 c3) 1), ((own_c4 c0 c1 c2 c3) 2), ((own_c4 c0 c1 c2 c3) 3)])), .second, .val (.int (1 : Int32))] [(.int (1 : Int32))]))
    refine GoW.retN X28 hS (by rw [e28]; exact hk) hx hlk (t := .boolean) hret (by simp) (hb hby at_166) rfl (by decide) (by decide) ?_
    rw [e28]
    exact ⟨rfl, N28⟩
set_option maxRecDepth 65536 in
set_option maxHeartbeats 40000000 in
theorem comes_1 {Post : Tables → Env → Array Value → State → Outcome → State → Prop} (hpost : ∀ tb e args s v u, (limb_1_1.after args s (.returned v) u = true ∧ limb_1_2.after args s (.returned v) u = true ∧ True) → ReturnedEndW s (.returned v) u (Jvm.fieldLocs frame_1_writes args s ++ Jvm.arrayLocs frame_1_arrays args s ++ Jvm.staticLocs frame_1_statics s) 32 1216 → Post tb e args s (.returned v) u) :
    ArmFor flags0 classFile x code maxLocals ret World_1 tables_1 room_1 Calls_1 rest_1 Pre_1 Post := by
  intro l hfl _ _ p e ha hc hk s m args below hf hA hF happ hP
  obtain ⟨hcalls, hrest, hpre⟩ := hP
  obtain ⟨-, -, -, hnamed, -, -, -, hat⟩ := (Spec.applies_iff hf).mp happ
  obtain ⟨hg, hn⟩ := and_e (Cond.before_iff.mp (show (Jvm.Cond.and given_1 narrow_1).before args s = true from hpre))
  obtain ⟨g1, g2⟩ := and_e hg
  obtain ⟨g3, g4⟩ := and_e g2
  obtain ⟨g5, g6⟩ := and_e g4
  obtain ⟨w0, w1, w2, rfl⟩ : ∃ w0 w1 w2 : Value, args = #[w0, w1, w2] := by
    have hs : args.size = 3 := by simpa [Cond.value, given_1] using g1
    obtain ⟨L⟩ := args
    match L, hs with
    | [w0, w1, w2], _ => exact ⟨w0, w1, w2, rfl⟩
  have hw := fun d (hd : d ∈ tables_1) => atoms_spec (ws := Jvm.Cond.code x code maxLocals ret :: tables_1) hat d (List.mem_cons_of_mem _ hd)
  have hfit : Fit s := fun {y c} hc i hi => by
    obtain ⟨ha, rfl⟩ := Array.getElem?_eq_some_iff.mp hc
    have q := List.all_eq_true.mp ((Array.all_eq_true_iff_forall_mem.mp hF) _ (Array.getElem_mem ha)) i (List.mem_range.mpr hi)
    simpa [Array.getElem?_eq_getElem hi] using q
  obtain ⟨hsets, hown0⟩ := atoms_of _ (rest_1_c_eq ▸ (show rest_1_c.before _ s = true from hrest))
  have hr0 := Cond.before_iff.mp hown0
  obtain ⟨i0, ei0⟩ := is_v g3
  obtain rfl : w0 = (.int i0) := Option.some.inj ei0
  obtain ⟨i1, ei1⟩ := is_v g5
  obtain rfl : w1 = (.int i1) := Option.some.inj ei1
  obtain ⟨i2, ei2⟩ := is_v g6
  obtain rfl : w2 = (.int i2) := Option.some.inj ei2
  obtain ⟨cs, ecs⟩ := is_v (Cond.before_iff.mp (hsets _ (List.mem_of_getElem? (i := 1) rfl)))
  have Scs := Sta.start ecs (Or.inl (hsets _ (List.mem_of_getElem? (i := 0) rfl)))
  have hcs := eqi_no (Cond.before_iff.mp (hsets _ (List.mem_of_getElem? (i := 2) rfl))) ecs
  obtain ⟨fm, efm, hfm⟩ := ref_v (Cond.before_iff.mp (hsets _ (List.mem_of_getElem? (i := 8) rfl)))
  have Sfm := Sta.start efm (Or.inl (hsets _ (List.mem_of_getElem? (i := 7) rfl)))
  have hheld : Jvm.Lit.constHeld s "java/lang/String" 7 := (show Jvm.Lit.constsHeld consts_1 s from hcalls.1) _ (List.Mem.head _)
  have Sad := Sta.start (eqi_v (Cond.before_iff.mp (hsets _ (List.mem_of_getElem? (i := 12) rfl)))) (Or.inl (hsets _ (List.mem_of_getElem? (i := 11) rfl)))
  have Shi := Sta.start (eqi_v (Cond.before_iff.mp (hsets _ (List.mem_of_getElem? (i := 15) rfl)))) (Or.inl (hsets _ (List.mem_of_getElem? (i := 14) rfl)))
  have Slo := Sta.start (eqi_v (Cond.before_iff.mp (hsets _ (List.mem_of_getElem? (i := 18) rfl)))) (Or.inl (hsets _ (List.mem_of_getElem? (i := 17) rfl)))
  obtain ⟨n, o, h1, h2, h3, _, L, rfl, ⟨rfl, N⟩, hq⟩ := rm0 l s _ hw i0 i1 i2 cs fm hfm s.heap s.heap.size (Nat.le_refl _) (Old.start s) Scs hcs Sfm Sad Shi Slo hheld (hsets _ (List.mem_of_getElem? (i := 2) rfl)) tables_1 p e ha hc hk s m _ below hf ((Spec.applies_iff_loose hf).mp happ).1 ⟨rfl, State.Warmed39.refl s, rfl, rfl⟩ trivial
  refine ⟨n, _, h1, h2, h3, hpost _ _ _ _ _ _ ⟨Cond.after_iff.mpr rfl, Cond.after_iff.mpr (eq_i res_at (Term.int_eval (1)) rfl), trivial⟩ ⟨hq.1, hq.2.1, hq.2.2.1, (hq.2.2.2.sift fun y hy => Or.inr (N y hy)).mono (by decide) (by decide)⟩⟩
theorem main_1_1 : Claimed_1_1 := comes_1 fun _ _ _ _ _ _ h hF => ⟨h.1, hF⟩
theorem main_1_2 : Claimed_1_2 := comes_1 fun _ _ _ _ _ _ h hF => ⟨h.2.1, hF⟩
end Jvm.Pilot.@@N@@
namespace Jvm.Pilot.@@N@@
open Jvm Jvm.ClassFile Sem Op Lib Jvm.Free Jvm.Stand Jvm.Pilot.@@N@@.Jvm.D
/-! MADE BY PROGRAM (witnessworld.py) out of the Statement's table words and the real class files: 20 classes; the members and pool entries that the words name. The judged class is class 1, her method 3. -/
namespace start1
open Jvm.ClassFile
def u (s : String) : CpInfo := .utf8 (stringToUtf16 s)
/-- a pool by its gaps: so many unusable entries, then the entry; so many at the end -/
def gap : Nat → List CpInfo → List CpInfo
  | 0, r => r
  | n + 1, r => .unusable :: gap n r
def poolList (es : List (Nat × CpInfo)) (last : Nat) : List CpInfo := es.foldr (fun e r => gap e.1 (e.2 :: r)) (gap last [])
def pool (es : List (Nat × CpInfo)) (last : Nat) : Array CpInfo := ⟨poolList es last⟩
def fileOf (pool : Array CpInfo) (this : Nat) (attrs : Array Attribute := #[]) (ms : Array MethodInfo := #[]) (fl : Nat := 33) (sup : Nat := 0) (ifs : Array Nat := #[]) (fds : Array FieldInfo := #[]) : ClassFile where
  minorVersion := 0
  majorVersion := 65
  constantPool := pool
  accessFlags := fl
  thisClass := this
  superClass := sup
  interfaces := ifs
  fields := fds
  methods := ms
  attributes := attrs
def plain (name : String) (sup : Option ClassId) : Class where
  name := name
  kind := .ordinary
  loader := none
  accessFlags := 33
  super := sup
  interfaces := #[]
  cf := none
  fields := #[]
  methods := #[]
  instanceTypes := #[]
  staticTypes := #[]
  resolved := #[]
  callSites := []
  init := .initialized
  statics := none
  mirror := none

def pool0 : Array CpInfo := pool [(5, u "<init>"), (0, u "()V"), (1, .class_ 10), (1, u "java/lang/Object")] 113

def k0c0 : Code := { maxStack := 0, maxLocals := 1, code := object_method_1_code, exceptionTable := #[], attributes := #[] }
def k0m0 : Method := { name := "<init>", desc := "()V", sig := { parameters := [], returnType := none }, accessFlags := 1, code := some k0c0 }
/-- java/lang/Object -/
def k0 : Class := { plain "java/lang/Object" none with
  accessFlags := 33
  interfaces := #[]
  cf := some (fileOf pool0 8 #[] #[{ accessFlags := 1, nameIndex := 5, descriptorIndex := 6, attributes := #[] }] 33 0 #[] #[])
  fields := #[]
  methods := #[k0m0]
  instanceTypes := #[]
  staticTypes := #[]
  resolved := Array.replicate 124 none
  statics := none }

def pool1 : Array CpInfo := pool [(2, .class_ 4), (1, u "java/lang/Object"), (0, u "<init>"), (0, u "()V"), (0, .class_ 8), (0, u "java/lang/String"), (0, .methodref 7 10), (0, .nameAndType 5 11), (0, u "([C)V"), (0, .integer 65535), (0, .methodref 14 15), (0, .class_ 16), (0, .nameAndType 17 18), (0, u "com/example/ddos_fee_ledger/ddosfeeledger/IndexRunHashPinLaw"), (0, u "make"), (0, u "(ICCCC)Ljava/lang/String;"), (0, .methodref 14 20), (0, .nameAndType 21 22), (0, u "pick"), (0, u "(ICCCC)C"), (0, .methodref 24 25), (0, .class_ 26), (0, .nameAndType 27 28), (0, u "com/example/ddos_fee_ledger/ddosfeeledger/IndexRun"), (0, u "hash"), (0, u "(Ljava/lang/String;)J"), (0, .long 14695981039346656037), (1, .long 1099511628211), (1, u "BASIS"), (0, u "J"), (1, u "PRIME"), (3, u "law"), (0, u "(III)Z")] 2

def k1m0 : Method := { name := "<init>", desc := "()V", sig := { parameters := [], returnType := none }, accessFlags := 2, code := none }
def k1c1 : Code := { maxStack := 6, maxLocals := 5, code := method_2_code, exceptionTable := #[], attributes := #[] }
def k1m1 : Method := { name := "make", desc := "(ICCCC)Ljava/lang/String;", sig := { parameters := [.int, .char, .char, .char, .char], returnType := some (.object "java/lang/String") }, accessFlags := 10, code := some k1c1 }
def k1c2 : Code := { maxStack := 2, maxLocals := 5, code := method_3_code, exceptionTable := #[], attributes := #[] }
def k1m2 : Method := { name := "pick", desc := "(ICCCC)C", sig := { parameters := [.int, .char, .char, .char, .char], returnType := some .char }, accessFlags := 10, code := some k1c2 }
def k1c3 : Code := { maxStack := 6, maxLocals := 18, code := code, exceptionTable := #[], attributes := #[] }
def k1m3 : Method := { name := "law", desc := "(III)Z", sig := { parameters := [.int, .int, .int], returnType := some .boolean }, accessFlags := 9, code := some k1c3 }
/-- com/example/ddos_fee_ledger/ddosfeeledger/IndexRunHashPinLaw -/
def k1 : Class := { plain "com/example/ddos_fee_ledger/ddosfeeledger/IndexRunHashPinLaw" (some 0) with
  accessFlags := 49
  interfaces := #[]
  cf := some (fileOf pool1 14 #[] #[{ accessFlags := 2, nameIndex := 5, descriptorIndex := 6, attributes := #[] }, { accessFlags := 10, nameIndex := 17, descriptorIndex := 18, attributes := #[] }, { accessFlags := 10, nameIndex := 21, descriptorIndex := 22, attributes := #[] }, { accessFlags := 9, nameIndex := 40, descriptorIndex := 41, attributes := #[] }] 49 2 #[] #[{ accessFlags := 26, nameIndex := 33, descriptorIndex := 34, attributes := #[] }, { accessFlags := 26, nameIndex := 36, descriptorIndex := 34, attributes := #[] }])
  fields := #[{ name := "BASIS", type := .long, accessFlags := 26, slot := 0, constantValue := 0 }, { name := "PRIME", type := .long, accessFlags := 26, slot := 1, constantValue := 0 }]
  methods := #[k1m0, k1m1, k1m2, k1m3]
  instanceTypes := #[]
  staticTypes := #[.long, .long]
  resolved := Array.replicate 44 none
  statics := none }

def pool2 : Array CpInfo := pool [(1, .class_ 2), (0, u "java/io/Serializable"), (0, .class_ 4), (0, u "java/lang/Object")] 2

/-- java/io/Serializable -/
def k2 : Class := { plain "java/io/Serializable" (some 0) with
  accessFlags := 1537
  interfaces := #[]
  cf := some (fileOf pool2 1 #[] #[] 1537 3 #[] #[])
  fields := #[]
  methods := #[]
  instanceTypes := #[]
  staticTypes := #[]
  resolved := Array.replicate 7 none
  statics := none }

def pool3 : Array CpInfo := pool [(1, .class_ 2), (0, u "java/lang/Comparable"), (0, .class_ 4), (0, u "java/lang/Object")] 7

/-- java/lang/Comparable -/
def k3 : Class := { plain "java/lang/Comparable" (some 0) with
  accessFlags := 1537
  interfaces := #[]
  cf := some (fileOf pool3 1 #[] #[] 1537 3 #[] #[])
  fields := #[]
  methods := #[]
  instanceTypes := #[]
  staticTypes := #[]
  resolved := Array.replicate 12 none
  statics := none }

def pool4 : Array CpInfo := pool [(2, .class_ 4), (1, u "java/lang/CharSequence"), (42, .class_ 48), (0, u "java/lang/CharSequence$1CodePointIterator"), (10, .class_ 60), (0, u "java/lang/CharSequence$1CharIterator"), (5, .class_ 67), (0, u "java/lang/Object")] 63

/-- java/lang/CharSequence -/
def k4 : Class := { plain "java/lang/CharSequence" (some 0) with
  accessFlags := 1537
  interfaces := #[]
  cf := some (fileOf pool4 2 #[.nestMembers #[47, 59]] #[] 1537 66 #[] #[])
  fields := #[]
  methods := #[]
  instanceTypes := #[]
  staticTypes := #[]
  resolved := Array.replicate 131 none
  statics := none }

def pool5 : Array CpInfo := pool [(1, .class_ 2), (0, u "java/lang/constant/Constable"), (0, .class_ 4), (0, u "java/lang/Object")] 6

/-- java/lang/constant/Constable -/
def k5 : Class := { plain "java/lang/constant/Constable" (some 0) with
  accessFlags := 1537
  interfaces := #[]
  cf := some (fileOf pool5 1 #[] #[] 1537 3 #[] #[])
  fields := #[]
  methods := #[]
  instanceTypes := #[]
  staticTypes := #[]
  resolved := Array.replicate 11 none
  statics := none }

def pool6 : Array CpInfo := pool [(1, .class_ 2), (0, u "java/lang/constant/ConstantDesc"), (0, .class_ 4), (0, u "java/lang/Object")] 32

/-- java/lang/constant/ConstantDesc -/
def k6 : Class := { plain "java/lang/constant/ConstantDesc" (some 0) with
  accessFlags := 1537
  interfaces := #[]
  cf := some (fileOf pool6 1 #[] #[] 1537 3 #[] #[])
  fields := #[]
  methods := #[]
  instanceTypes := #[]
  staticTypes := #[]
  resolved := Array.replicate 37 none
  statics := none }

def pool7 : Array CpInfo := pool [(1, .methodref 2 3), (0, .class_ 4), (0, .nameAndType 5 6), (0, u "java/lang/Object"), (0, u "<init>"), (0, u "()V"), (0, .string 8), (0, u ""), (0, .fieldref 10 11), (0, .class_ 12), (0, .nameAndType 13 14), (0, u "java/lang/String"), (0, u "value"), (0, u "[B"), (0, .fieldref 10 16), (0, .nameAndType 17 18), (0, u "coder"), (0, u "B"), (2, u "hash"), (0, u "I"), (2, u "hashIsZero"), (0, u "Z"), (0, .methodref 10 28), (0, .nameAndType 5 29), (0, u "([CIILjava/lang/Void;)V"), (8, .fieldref 10 39), (0, .nameAndType 40 26), (0, u "COMPACT_STRINGS"), (1, .class_ 44), (1, u "java/lang/StringUTF16"), (0, u "compress"), (1, .methodref 42 48), (0, .nameAndType 49 50), (0, u "coderFromArrayLen"), (0, u "([BI)B"), (56, .class_ 109), (1, u "java/lang/StringLatin1"), (32, u "()Z"), (34, .methodref 42 178), (0, .nameAndType 45 179), (0, u "([CII)[B"), (154, u "()I"), (0, .methodref 10 336), (0, .nameAndType 17 337), (0, u "()B"), (25, u "([BI)C"), (27, u "(II)V"), (35, u "(I)C"), (64, .methodref 10 493), (0, .nameAndType 494 142), (0, u "isLatin1"), (0, .methodref 107 496), (0, .nameAndType 497 363), (0, u "charAt"), (0, .methodref 42 496), (2, u "checkIndex"), (5, u "length"), (67, .class_ 576), (0, u "java/lang/CharSequence"), (22, u "CASE_INSENSITIVE_ORDER"), (0, u "Ljava/util/Comparator;"), (409, u "([C)V"), (42, .fieldref 1054 1055), (0, .class_ 1056), (0, .nameAndType 1057 1058), (0, u "jdk/internal/util/Preconditions"), (0, u "SIOOBE_FORMATTER"), (0, u "Ljava/util/function/BiFunction;"), (0, .methodref 1054 1060), (0, .nameAndType 501 1061), (0, u "(IILjava/util/function/BiFunction;)I"), (39, u "serialPersistentFields"), (0, u "[Ljava/io/ObjectStreamField;"), (0, .class_ 1104), (0, u "java/lang/String$CaseInsensitiveComparator"), (1, .class_ 1107), (0, u "java/io/Serializable"), (0, .class_ 1109), (0, u "java/lang/Comparable"), (0, .class_ 1111), (0, u "java/lang/constant/Constable"), (0, .class_ 1113), (0, u "java/lang/constant/ConstantDesc"), (2, u "serialVersionUID"), (0, u "J"), (3, u "REPL"), (0, u "C"), (2, u "LATIN1"), (1, u "UTF16")] 323

def k7m0 : Method := { name := "<init>", desc := "()V", sig := { parameters := [], returnType := none }, accessFlags := 1, code := none }
def k7c1 : Code := { maxStack := 5, maxLocals := 2, code := jdk_42_method_3_code, exceptionTable := #[], attributes := #[] }
def k7m1 : Method := { name := "<init>", desc := "([C)V", sig := { parameters := [(.array .char)], returnType := none }, accessFlags := 1, code := some k7c1 }
def k7c2 : Code := { maxStack := 2, maxLocals := 1, code := jdk_42_method_54_code, exceptionTable := #[], attributes := #[] }
def k7m2 : Method := { name := "length", desc := "()I", sig := { parameters := [], returnType := some .int }, accessFlags := 1, code := some k7c2 }
def k7c3 : Code := { maxStack := 2, maxLocals := 2, code := jdk_42_method_56_code, exceptionTable := #[], attributes := #[] }
def k7m3 : Method := { name := "charAt", desc := "(I)C", sig := { parameters := [.int], returnType := some .char }, accessFlags := 1, code := some k7c3 }
def k7c4 : Code := { maxStack := 4, maxLocals := 6, code := jdk_42_method_149_code, exceptionTable := #[], attributes := #[] }
def k7m4 : Method := { name := "<init>", desc := "([CIILjava/lang/Void;)V", sig := { parameters := [(.array .char), .int, .int, (.object "java/lang/Void")], returnType := none }, accessFlags := 2, code := some k7c4 }
def k7c5 : Code := { maxStack := 1, maxLocals := 1, code := jdk_42_method_152_code, exceptionTable := #[], attributes := #[] }
def k7m5 : Method := { name := "coder", desc := "()B", sig := { parameters := [], returnType := some .byte }, accessFlags := 0, code := some k7c5 }
def k7c6 : Code := { maxStack := 1, maxLocals := 1, code := jdk_42_method_154_code, exceptionTable := #[], attributes := #[] }
def k7m6 : Method := { name := "isLatin1", desc := "()Z", sig := { parameters := [], returnType := some .boolean }, accessFlags := 0, code := some k7c6 }
def k7c7 : Code := { maxStack := 3, maxLocals := 2, code := jdk_42_method_155_code, exceptionTable := #[], attributes := #[] }
def k7m7 : Method := { name := "checkIndex", desc := "(II)V", sig := { parameters := [.int, .int], returnType := none }, accessFlags := 8, code := some k7c7 }
/-- java/lang/String -/
def k7 : Class := { plain "java/lang/String" (some 0) with
  accessFlags := 49
  interfaces := #[2, 3, 4, 5, 6]
  cf := some (fileOf pool7 10 #[.nestMembers #[1103]] #[{ accessFlags := 1, nameIndex := 5, descriptorIndex := 6, attributes := #[] }, { accessFlags := 1, nameIndex := 5, descriptorIndex := 1010, attributes := #[] }, { accessFlags := 1, nameIndex := 507, descriptorIndex := 334, attributes := #[] }, { accessFlags := 1, nameIndex := 497, descriptorIndex := 427, attributes := #[] }, { accessFlags := 2, nameIndex := 5, descriptorIndex := 29, attributes := #[] }, { accessFlags := 0, nameIndex := 17, descriptorIndex := 337, attributes := #[] }, { accessFlags := 0, nameIndex := 494, descriptorIndex := 142, attributes := #[] }, { accessFlags := 8, nameIndex := 501, descriptorIndex := 391, attributes := #[] }] 49 2 #[1106, 1108, 575, 1110, 1112] #[{ accessFlags := 18, nameIndex := 13, descriptorIndex := 14, attributes := #[] }, { accessFlags := 18, nameIndex := 17, descriptorIndex := 18, attributes := #[] }, { accessFlags := 2, nameIndex := 21, descriptorIndex := 22, attributes := #[] }, { accessFlags := 2, nameIndex := 25, descriptorIndex := 26, attributes := #[] }, { accessFlags := 26, nameIndex := 1116, descriptorIndex := 1117, attributes := #[] }, { accessFlags := 24, nameIndex := 40, descriptorIndex := 26, attributes := #[] }, { accessFlags := 26, nameIndex := 1101, descriptorIndex := 1102, attributes := #[] }, { accessFlags := 26, nameIndex := 1121, descriptorIndex := 1122, attributes := #[] }, { accessFlags := 25, nameIndex := 599, descriptorIndex := 600, attributes := #[] }, { accessFlags := 24, nameIndex := 1125, descriptorIndex := 18, attributes := #[] }, { accessFlags := 24, nameIndex := 1127, descriptorIndex := 18, attributes := #[] }])
  fields := #[{ name := "value", type := (.array .byte), accessFlags := 18, slot := 0, constantValue := 0 }, { name := "coder", type := .byte, accessFlags := 18, slot := 1, constantValue := 0 }, { name := "hash", type := .int, accessFlags := 2, slot := 2, constantValue := 0 }, { name := "hashIsZero", type := .boolean, accessFlags := 2, slot := 3, constantValue := 0 }, { name := "serialVersionUID", type := .long, accessFlags := 26, slot := 0, constantValue := 0 }, { name := "COMPACT_STRINGS", type := .boolean, accessFlags := 24, slot := 1, constantValue := 0 }, { name := "serialPersistentFields", type := (.array (.object "java/io/ObjectStreamField")), accessFlags := 26, slot := 2, constantValue := 0 }, { name := "REPL", type := .char, accessFlags := 26, slot := 3, constantValue := 0 }, { name := "CASE_INSENSITIVE_ORDER", type := (.object "java/util/Comparator"), accessFlags := 25, slot := 4, constantValue := 0 }, { name := "LATIN1", type := .byte, accessFlags := 24, slot := 5, constantValue := 0 }, { name := "UTF16", type := .byte, accessFlags := 24, slot := 6, constantValue := 0 }]
  methods := #[k7m0, k7m1, k7m2, k7m3, k7m4, k7m5, k7m6, k7m7]
  instanceTypes := #[(.array .byte), .byte, .int, .boolean]
  staticTypes := #[.long, .boolean, (.array (.object "java/io/ObjectStreamField")), .char, (.object "java/util/Comparator"), .byte, .byte]
  resolved := Array.replicate 1451 none
  statics := some 0 }

def pool8 : Array CpInfo := pool [(3, .class_ 4), (0, u "java/lang/String"), (1, .class_ 8), (1, u "java/lang/Object"), (0, u "<init>"), (0, u "()V"), (0, .methodref 12 13), (0, .class_ 14), (0, .nameAndType 15 16), (0, u "java/lang/StringUTF16"), (0, u "newBytesLength"), (0, u "(I)I"), (3, .integer 1073741823), (23, .fieldref 12 45), (0, .nameAndType 46 47), (0, u "$assertionsDisabled"), (0, u "Z"), (0, .methodref 12 49), (0, .nameAndType 50 51), (0, u "length"), (0, u "([B)I"), (7, .fieldref 12 60), (0, .nameAndType 61 62), (0, u "HI_BYTE_SHIFT"), (0, u "I"), (0, .fieldref 12 64), (0, .nameAndType 65 62), (0, u "LO_BYTE_SHIFT"), (1, .methodref 12 68), (0, .nameAndType 69 70), (0, u "checkIndex"), (0, u "(I[B)V"), (0, .methodref 12 72), (0, .nameAndType 73 74), (0, u "getChar"), (0, u "([BI)C"), (32, .methodref 12 108), (0, .nameAndType 109 110), (0, u "newBytesFor"), (0, u "(I)[B"), (0, .methodref 12 112), (0, .nameAndType 113 114), (0, u "putChar"), (0, u "([BII)V"), (0, .methodref 12 116), (0, .nameAndType 117 118), (0, u "compress"), (0, u "([CI[BII)I"), (0, .methodref 12 120), (0, .nameAndType 121 122), (0, u "toBytes"), (0, u "([CII)[B"), (138, u "coderFromArrayLen"), (0, u "([BI)B"), (106, .class_ 371), (1, u "java/lang/StringUTF16$LinesSpliterator"), (20, u "charAt"), (21, .methodref 3 415), (0, .nameAndType 69 416), (0, u "(II)V"), (13, u "MAX_LENGTH"), (196, .class_ 628), (0, u "java/lang/StringUTF16$CodePointsSpliterator"), (0, .class_ 630), (0, u "java/lang/StringUTF16$CharsSpliterator")] 4

def k8m0 : Method := { name := "<init>", desc := "()V", sig := { parameters := [], returnType := none }, accessFlags := 0, code := none }
def k8c1 : Code := { maxStack := 1, maxLocals := 1, code := jdk_52_method_2_code, exceptionTable := #[], attributes := #[] }
def k8m1 : Method := { name := "newBytesFor", desc := "(I)[B", sig := { parameters := [.int], returnType := some (.array .byte) }, accessFlags := 9, code := some k8c1 }
def k8c2 : Code := { maxStack := 4, maxLocals := 1, code := jdk_52_method_3_code, exceptionTable := #[], attributes := #[] }
def k8m2 : Method := { name := "newBytesLength", desc := "(I)I", sig := { parameters := [.int], returnType := some .int }, accessFlags := 9, code := some k8c2 }
def k8c3 : Code := { maxStack := 4, maxLocals := 3, code := jdk_52_method_4_code, exceptionTable := #[], attributes := #[] }
def k8m3 : Method := { name := "putChar", desc := "([BII)V", sig := { parameters := [(.array .byte), .int, .int], returnType := none }, accessFlags := 8, code := some k8c3 }
def k8c4 : Code := { maxStack := 3, maxLocals := 2, code := jdk_52_method_5_code, exceptionTable := #[], attributes := #[] }
def k8m4 : Method := { name := "getChar", desc := "([BI)C", sig := { parameters := [(.array .byte), .int], returnType := some .char }, accessFlags := 8, code := some k8c4 }
def k8c5 : Code := { maxStack := 2, maxLocals := 1, code := jdk_52_method_6_code, exceptionTable := #[], attributes := #[] }
def k8m5 : Method := { name := "length", desc := "([B)I", sig := { parameters := [(.array .byte)], returnType := some .int }, accessFlags := 9, code := some k8c5 }
def k8c6 : Code := { maxStack := 4, maxLocals := 5, code := jdk_52_method_14_code, exceptionTable := #[], attributes := #[] }
def k8m6 : Method := { name := "toBytes", desc := "([CII)[B", sig := { parameters := [(.array .char), .int, .int], returnType := some (.array .byte) }, accessFlags := 9, code := some k8c6 }
def k8c7 : Code := { maxStack := 2, maxLocals := 2, code := jdk_52_method_15_code, exceptionTable := #[], attributes := #[] }
def k8m7 : Method := { name := "coderFromArrayLen", desc := "([BI)B", sig := { parameters := [(.array .byte), .int], returnType := some .byte }, accessFlags := 8, code := some k8c7 }
def k8c8 : Code := { maxStack := 5, maxLocals := 6, code := jdk_52_method_16_code, exceptionTable := #[], attributes := #[] }
def k8m8 : Method := { name := "compress", desc := "([CII)[B", sig := { parameters := [(.array .char), .int, .int], returnType := some (.array .byte) }, accessFlags := 9, code := some k8c8 }
def k8c9 : Code := { maxStack := 3, maxLocals := 7, code := jdk_52_method_21_code, exceptionTable := #[], attributes := #[] }
def k8m9 : Method := { name := "compress", desc := "([CI[BII)I", sig := { parameters := [(.array .char), .int, (.array .byte), .int, .int], returnType := some .int }, accessFlags := 9, code := some k8c9 }
def k8c10 : Code := { maxStack := 2, maxLocals := 2, code := jdk_52_method_83_code, exceptionTable := #[], attributes := #[] }
def k8m10 : Method := { name := "charAt", desc := "([BI)C", sig := { parameters := [(.array .byte), .int], returnType := some .char }, accessFlags := 9, code := some k8c10 }
def k8c11 : Code := { maxStack := 2, maxLocals := 2, code := jdk_52_method_91_code, exceptionTable := #[], attributes := #[] }
def k8m11 : Method := { name := "checkIndex", desc := "(I[B)V", sig := { parameters := [.int, (.array .byte)], returnType := none }, accessFlags := 9, code := some k8c11 }
/-- java/lang/StringUTF16 -/
def k8 : Class := { plain "java/lang/StringUTF16" (some 0) with
  accessFlags := 48
  interfaces := #[]
  cf := some (fileOf pool8 12 #[.nestMembers #[627, 629, 369]] #[{ accessFlags := 0, nameIndex := 9, descriptorIndex := 10, attributes := #[] }, { accessFlags := 9, nameIndex := 109, descriptorIndex := 110, attributes := #[] }, { accessFlags := 9, nameIndex := 15, descriptorIndex := 16, attributes := #[] }, { accessFlags := 8, nameIndex := 113, descriptorIndex := 114, attributes := #[] }, { accessFlags := 8, nameIndex := 73, descriptorIndex := 74, attributes := #[] }, { accessFlags := 9, nameIndex := 50, descriptorIndex := 51, attributes := #[] }, { accessFlags := 9, nameIndex := 121, descriptorIndex := 122, attributes := #[] }, { accessFlags := 8, nameIndex := 261, descriptorIndex := 262, attributes := #[] }, { accessFlags := 9, nameIndex := 117, descriptorIndex := 122, attributes := #[] }, { accessFlags := 9, nameIndex := 117, descriptorIndex := 118, attributes := #[] }, { accessFlags := 9, nameIndex := 392, descriptorIndex := 74, attributes := #[] }, { accessFlags := 9, nameIndex := 69, descriptorIndex := 70, attributes := #[] }] 48 6 #[] #[{ accessFlags := 26, nameIndex := 61, descriptorIndex := 62, attributes := #[] }, { accessFlags := 26, nameIndex := 65, descriptorIndex := 62, attributes := #[] }, { accessFlags := 24, nameIndex := 430, descriptorIndex := 62, attributes := #[] }, { accessFlags := 4120, nameIndex := 46, descriptorIndex := 47, attributes := #[] }])
  fields := #[{ name := "HI_BYTE_SHIFT", type := .int, accessFlags := 26, slot := 0, constantValue := 0 }, { name := "LO_BYTE_SHIFT", type := .int, accessFlags := 26, slot := 1, constantValue := 0 }, { name := "MAX_LENGTH", type := .int, accessFlags := 24, slot := 2, constantValue := 0 }, { name := "$assertionsDisabled", type := .boolean, accessFlags := 4120, slot := 3, constantValue := 0 }]
  methods := #[k8m0, k8m1, k8m2, k8m3, k8m4, k8m5, k8m6, k8m7, k8m8, k8m9, k8m10, k8m11]
  instanceTypes := #[]
  staticTypes := #[.int, .int, .int, .boolean]
  resolved := Array.replicate 635 none
  statics := some 1 }

def pool9 : Array CpInfo := pool [(3, .class_ 4), (0, u "com/example/ddos_fee_ledger/ddosfeeledger/IndexRun"), (1, .class_ 8), (1, u "java/lang/Object"), (4, u "file"), (0, u "Ljava/nio/file/Path;"), (2, u "first"), (0, u "J"), (2, u "last"), (2, u "stamps"), (0, u "Ljava/util/List;"), (2, u "sections"), (0, u "[Lcom/example/ddos_fee_ledger/ddosfeeledger/IndexRun$Rows;"), (2, u "filter"), (0, u "Ljava/nio/LongBuffer;"), (1, .class_ 37), (1, u "com/example/ddos_fee_ledger/ddosfeeledger/IndexRun$Rows"), (8, .class_ 48), (1, u "java/lang/String"), (4, u "NAME"), (0, u "Ljava/util/regex/Pattern;"), (29, u "(Ljava/lang/String;)J"), (41, u "SECTIONS"), (0, u "[Lcom/example/ddos_fee_ledger/ddosfeeledger/IndexRun$Section;"), (15, u "()I"), (20, .class_ 165), (0, u "com/example/ddos_fee_ledger/ddosfeeledger/IndexRun$Stamp"), (44, .class_ 211), (0, u "com/example/ddos_fee_ledger/ddosfeeledger/IndexRun$Place"), (46, .class_ 260), (1, u "com/example/ddos_fee_ledger/ddosfeeledger/IndexRun$Section"), (53, .class_ 315), (0, u "com/example/ddos_fee_ledger/ddosfeeledger/IndexRun$RowWriter"), (41, .long 14695981039346656037), (1, .methodref 46 360), (0, .nameAndType 361 143), (0, u "length"), (0, .methodref 46 363), (0, .nameAndType 364 365), (0, u "charAt"), (0, u "(I)C"), (0, .long 1099511628211), (41, u "FORM"), (0, u "I"), (1, u "LINE_BITS"), (1, u "MAX_BATCHES"), (0, u "FIELDS"), (1, u "ROW_BYTES"), (1, u "FILTER_BITS_PER_ID"), (1, u "FILTER_PROBES"), (1, u "MAX_FILTER_LONGS"), (0, u "DIGIT_BITS"), (1, u "PIECE_SHIFT"), (1, u "BATCH_FILE"), (1, u "ENTRY_FILE"), (35, u "hash"), (12, .class_ 479), (0, u "com/example/ddos_fee_ledger/ddosfeeledger/IndexRun$Sorted"), (0, .class_ 481), (0, u "com/example/ddos_fee_ledger/ddosfeeledger/IndexRun$Builder")] 40

def k9c0 : Code := { maxStack := 4, maxLocals := 4, code := prog_25_method_22_code, exceptionTable := #[], attributes := #[] }
def k9m0 : Method := { name := "hash", desc := "(Ljava/lang/String;)J", sig := { parameters := [(.object "java/lang/String")], returnType := some .long }, accessFlags := 8, code := some k9c0 }
/-- com/example/ddos_fee_ledger/ddosfeeledger/IndexRun -/
def k9 : Class := { plain "com/example/ddos_fee_ledger/ddosfeeledger/IndexRun" (some 0) with
  accessFlags := 32
  interfaces := #[]
  cf := some (fileOf pool9 3 #[.nestMembers #[314, 478, 480, 35, 164, 210, 258]] #[{ accessFlags := 8, nameIndex := 465, descriptorIndex := 84, attributes := #[] }] 32 6 #[] #[{ accessFlags := 24, nameIndex := 53, descriptorIndex := 54, attributes := #[] }, { accessFlags := 26, nameIndex := 408, descriptorIndex := 409, attributes := #[] }, { accessFlags := 26, nameIndex := 411, descriptorIndex := 409, attributes := #[] }, { accessFlags := 24, nameIndex := 413, descriptorIndex := 18, attributes := #[] }, { accessFlags := 26, nameIndex := 414, descriptorIndex := 409, attributes := #[] }, { accessFlags := 26, nameIndex := 416, descriptorIndex := 409, attributes := #[] }, { accessFlags := 26, nameIndex := 418, descriptorIndex := 409, attributes := #[] }, { accessFlags := 26, nameIndex := 420, descriptorIndex := 409, attributes := #[] }, { accessFlags := 26, nameIndex := 422, descriptorIndex := 18, attributes := #[] }, { accessFlags := 26, nameIndex := 423, descriptorIndex := 409, attributes := #[] }, { accessFlags := 26, nameIndex := 425, descriptorIndex := 409, attributes := #[] }, { accessFlags := 24, nameIndex := 427, descriptorIndex := 409, attributes := #[] }, { accessFlags := 24, nameIndex := 429, descriptorIndex := 409, attributes := #[] }, { accessFlags := 26, nameIndex := 126, descriptorIndex := 127, attributes := #[] }, { accessFlags := 18, nameIndex := 13, descriptorIndex := 14, attributes := #[] }, { accessFlags := 18, nameIndex := 17, descriptorIndex := 18, attributes := #[] }, { accessFlags := 18, nameIndex := 21, descriptorIndex := 18, attributes := #[] }, { accessFlags := 18, nameIndex := 24, descriptorIndex := 25, attributes := #[] }, { accessFlags := 18, nameIndex := 28, descriptorIndex := 29, attributes := #[] }, { accessFlags := 18, nameIndex := 32, descriptorIndex := 33, attributes := #[] }])
  fields := #[{ name := "NAME", type := (.object "java/util/regex/Pattern"), accessFlags := 24, slot := 0, constantValue := 0 }, { name := "FORM", type := .int, accessFlags := 26, slot := 1, constantValue := 0 }, { name := "LINE_BITS", type := .int, accessFlags := 26, slot := 2, constantValue := 0 }, { name := "MAX_BATCHES", type := .long, accessFlags := 24, slot := 3, constantValue := 0 }, { name := "FIELDS", type := .int, accessFlags := 26, slot := 4, constantValue := 0 }, { name := "ROW_BYTES", type := .int, accessFlags := 26, slot := 5, constantValue := 0 }, { name := "FILTER_BITS_PER_ID", type := .int, accessFlags := 26, slot := 6, constantValue := 0 }, { name := "FILTER_PROBES", type := .int, accessFlags := 26, slot := 7, constantValue := 0 }, { name := "MAX_FILTER_LONGS", type := .long, accessFlags := 26, slot := 8, constantValue := 0 }, { name := "DIGIT_BITS", type := .int, accessFlags := 26, slot := 9, constantValue := 0 }, { name := "PIECE_SHIFT", type := .int, accessFlags := 26, slot := 10, constantValue := 0 }, { name := "BATCH_FILE", type := .int, accessFlags := 24, slot := 11, constantValue := 0 }, { name := "ENTRY_FILE", type := .int, accessFlags := 24, slot := 12, constantValue := 0 }, { name := "SECTIONS", type := (.array (.object "com/example/ddos_fee_ledger/ddosfeeledger/IndexRun$Section")), accessFlags := 26, slot := 13, constantValue := 0 }, { name := "file", type := (.object "java/nio/file/Path"), accessFlags := 18, slot := 0, constantValue := 0 }, { name := "first", type := .long, accessFlags := 18, slot := 1, constantValue := 0 }, { name := "last", type := .long, accessFlags := 18, slot := 2, constantValue := 0 }, { name := "stamps", type := (.object "java/util/List"), accessFlags := 18, slot := 3, constantValue := 0 }, { name := "sections", type := (.array (.object "com/example/ddos_fee_ledger/ddosfeeledger/IndexRun$Rows")), accessFlags := 18, slot := 4, constantValue := 0 }, { name := "filter", type := (.object "java/nio/LongBuffer"), accessFlags := 18, slot := 5, constantValue := 0 }]
  methods := #[k9m0]
  instanceTypes := #[(.object "java/nio/file/Path"), .long, .long, (.object "java/util/List"), (.array (.object "com/example/ddos_fee_ledger/ddosfeeledger/IndexRun$Rows")), (.object "java/nio/LongBuffer")]
  staticTypes := #[(.object "java/util/regex/Pattern"), .int, .int, .long, .int, .int, .int, .int, .long, .int, .int, .int, .int, (.array (.object "com/example/ddos_fee_ledger/ddosfeeledger/IndexRun$Section"))]
  resolved := Array.replicate 522 none
  statics := none }

def pool10 : Array CpInfo := pool [(1, .class_ 2), (0, u "java/lang/String"), (1, .class_ 6), (1, u "java/lang/Object"), (0, u "<init>"), (0, u "()V"), (0, .methodref 1 10), (0, .nameAndType 11 12), (0, u "checkIndex"), (0, u "(II)V"), (1, .class_ 16), (1, u "java/lang/StringLatin1"), (36, u "([BI)C"), (67, u "$assertionsDisabled"), (0, u "Z"), (98, .class_ 223), (1, u "java/lang/StringLatin1$LinesSpliterator"), (28, u "charAt"), (137, .class_ 391), (0, u "java/lang/StringLatin1$CharsSpliterator")] 3

def k10m0 : Method := { name := "<init>", desc := "()V", sig := { parameters := [], returnType := none }, accessFlags := 0, code := none }
def k10c1 : Code := { maxStack := 2, maxLocals := 2, code := jdk_43_method_2_code, exceptionTable := #[], attributes := #[] }
def k10m1 : Method := { name := "charAt", desc := "([BI)C", sig := { parameters := [(.array .byte), .int], returnType := some .char }, accessFlags := 9, code := some k10c1 }
/-- java/lang/StringLatin1 -/
def k10 : Class := { plain "java/lang/StringLatin1" (some 0) with
  accessFlags := 48
  interfaces := #[]
  cf := some (fileOf pool10 14 #[.nestMembers #[390, 221]] #[{ accessFlags := 0, nameIndex := 7, descriptorIndex := 8, attributes := #[] }, { accessFlags := 9, nameIndex := 252, descriptorIndex := 53, attributes := #[] }] 48 4 #[] #[{ accessFlags := 4120, nameIndex := 121, descriptorIndex := 122, attributes := #[] }])
  fields := #[{ name := "$assertionsDisabled", type := .boolean, accessFlags := 4120, slot := 0, constantValue := 0 }]
  methods := #[k10m0, k10m1]
  instanceTypes := #[]
  staticTypes := #[.boolean]
  resolved := Array.replicate 395 none
  statics := none }

def pool11 : Array CpInfo := pool [(2, .class_ 4), (1, u "java/lang/Object"), (0, u "<init>"), (0, u "()V"), (17, .class_ 26), (1, u "jdk/internal/util/Preconditions"), (6, u "checkIndex"), (21, .class_ 56), (0, u "jdk/internal/util/Preconditions$4"), (57, .class_ 115), (0, u "jdk/internal/util/Preconditions$1"), (7, u "SIOOBE_FORMATTER"), (0, u "Ljava/util/function/BiFunction;"), (0, .class_ 126), (0, u "jdk/internal/util/Preconditions$2"), (3, u "AIOOBE_FORMATTER"), (0, .class_ 132), (0, u "jdk/internal/util/Preconditions$3"), (3, u "IOOBE_FORMATTER"), (41, u "(IILjava/util/function/BiFunction;)I")] 15

def k11m0 : Method := { name := "<init>", desc := "()V", sig := { parameters := [], returnType := none }, accessFlags := 1, code := none }
def k11c1 : Code := { maxStack := 3, maxLocals := 3, code := jdk_41_method_11_code, exceptionTable := #[], attributes := #[] }
def k11m1 : Method := { name := "checkIndex", desc := "(IILjava/util/function/BiFunction;)I", sig := { parameters := [.int, .int, (.object "java/util/function/BiFunction")], returnType := some .int }, accessFlags := 9, code := some k11c1 }
/-- jdk/internal/util/Preconditions -/
def k11 : Class := { plain "jdk/internal/util/Preconditions" (some 0) with
  accessFlags := 33
  interfaces := #[]
  cf := some (fileOf pool11 24 #[.nestMembers #[55, 131, 125, 114]] #[{ accessFlags := 1, nameIndex := 5, descriptorIndex := 6, attributes := #[] }, { accessFlags := 9, nameIndex := 33, descriptorIndex := 178, attributes := #[] }] 33 2 #[] #[{ accessFlags := 25, nameIndex := 123, descriptorIndex := 124, attributes := #[] }, { accessFlags := 25, nameIndex := 130, descriptorIndex := 124, attributes := #[] }, { accessFlags := 25, nameIndex := 136, descriptorIndex := 124, attributes := #[] }])
  fields := #[{ name := "SIOOBE_FORMATTER", type := (.object "java/util/function/BiFunction"), accessFlags := 25, slot := 0, constantValue := 0 }, { name := "AIOOBE_FORMATTER", type := (.object "java/util/function/BiFunction"), accessFlags := 25, slot := 1, constantValue := 0 }, { name := "IOOBE_FORMATTER", type := (.object "java/util/function/BiFunction"), accessFlags := 25, slot := 2, constantValue := 0 }]
  methods := #[k11m0, k11m1]
  instanceTypes := #[]
  staticTypes := #[(.object "java/util/function/BiFunction"), (.object "java/util/function/BiFunction"), (.object "java/util/function/BiFunction")]
  resolved := Array.replicate 194 none
  statics := some 2 }

def pool12 : Array CpInfo := pool [(9, u "<init>"), (6, .class_ 18), (1, u "java/lang/Object"), (0, u "()V"), (1, .class_ 23), (1, u "jdk/internal/util/ArraysSupport"), (0, u "LOG2_ARRAY_LONG_INDEX_SCALE"), (0, u "I"), (2, u "U"), (0, u "Ljdk/internal/misc/Unsafe;"), (8, u "BIG_ENDIAN"), (0, u "Z"), (8, u "LOG2_BYTE_BIT_SIZE"), (4, u "LOG2_ARRAY_INT_INDEX_SCALE"), (54, u "JLA"), (0, u "Ljdk/internal/access/JavaLangAccess;"), (11, u "LOG2_ARRAY_BOOLEAN_INDEX_SCALE"), (9, u "LOG2_ARRAY_BYTE_INDEX_SCALE"), (5, u "LOG2_ARRAY_CHAR_INDEX_SCALE"), (5, u "LOG2_ARRAY_SHORT_INDEX_SCALE"), (18, u "LOG2_ARRAY_FLOAT_INDEX_SCALE"), (24, u "LOG2_ARRAY_DOUBLE_INDEX_SCALE"), (89, u "T_BOOLEAN"), (2, u "T_CHAR"), (1, u "T_FLOAT"), (1, u "T_DOUBLE"), (1, u "T_BYTE"), (1, u "T_SHORT"), (1, u "T_INT"), (1, u "T_LONG"), (1, u "SOFT_MAX_ARRAY_LENGTH")] 83

def k12m0 : Method := { name := "<init>", desc := "()V", sig := { parameters := [], returnType := none }, accessFlags := 2, code := none }
/-- jdk/internal/util/ArraysSupport -/
def k12 : Class := { plain "jdk/internal/util/ArraysSupport" (some 0) with
  accessFlags := 33
  interfaces := #[]
  cf := some (fileOf pool12 21 #[] #[{ accessFlags := 2, nameIndex := 9, descriptorIndex := 19, attributes := #[] }] 33 16 #[] #[{ accessFlags := 24, nameIndex := 28, descriptorIndex := 29, attributes := #[] }, { accessFlags := 26, nameIndex := 38, descriptorIndex := 39, attributes := #[] }, { accessFlags := 25, nameIndex := 121, descriptorIndex := 25, attributes := #[] }, { accessFlags := 25, nameIndex := 131, descriptorIndex := 25, attributes := #[] }, { accessFlags := 25, nameIndex := 137, descriptorIndex := 25, attributes := #[] }, { accessFlags := 25, nameIndex := 143, descriptorIndex := 25, attributes := #[] }, { accessFlags := 25, nameIndex := 53, descriptorIndex := 25, attributes := #[] }, { accessFlags := 25, nameIndex := 24, descriptorIndex := 25, attributes := #[] }, { accessFlags := 25, nameIndex := 162, descriptorIndex := 25, attributes := #[] }, { accessFlags := 25, nameIndex := 187, descriptorIndex := 25, attributes := #[] }, { accessFlags := 26, nameIndex := 48, descriptorIndex := 25, attributes := #[] }, { accessFlags := 25, nameIndex := 277, descriptorIndex := 25, attributes := #[] }, { accessFlags := 25, nameIndex := 280, descriptorIndex := 25, attributes := #[] }, { accessFlags := 25, nameIndex := 282, descriptorIndex := 25, attributes := #[] }, { accessFlags := 25, nameIndex := 284, descriptorIndex := 25, attributes := #[] }, { accessFlags := 25, nameIndex := 286, descriptorIndex := 25, attributes := #[] }, { accessFlags := 25, nameIndex := 288, descriptorIndex := 25, attributes := #[] }, { accessFlags := 25, nameIndex := 290, descriptorIndex := 25, attributes := #[] }, { accessFlags := 25, nameIndex := 292, descriptorIndex := 25, attributes := #[] }, { accessFlags := 26, nameIndex := 108, descriptorIndex := 109, attributes := #[] }, { accessFlags := 25, nameIndex := 294, descriptorIndex := 25, attributes := #[] }])
  fields := #[{ name := "U", type := (.object "jdk/internal/misc/Unsafe"), accessFlags := 24, slot := 0, constantValue := 0 }, { name := "BIG_ENDIAN", type := .boolean, accessFlags := 26, slot := 1, constantValue := 0 }, { name := "LOG2_ARRAY_BOOLEAN_INDEX_SCALE", type := .int, accessFlags := 25, slot := 2, constantValue := 0 }, { name := "LOG2_ARRAY_BYTE_INDEX_SCALE", type := .int, accessFlags := 25, slot := 3, constantValue := 0 }, { name := "LOG2_ARRAY_CHAR_INDEX_SCALE", type := .int, accessFlags := 25, slot := 4, constantValue := 0 }, { name := "LOG2_ARRAY_SHORT_INDEX_SCALE", type := .int, accessFlags := 25, slot := 5, constantValue := 0 }, { name := "LOG2_ARRAY_INT_INDEX_SCALE", type := .int, accessFlags := 25, slot := 6, constantValue := 0 }, { name := "LOG2_ARRAY_LONG_INDEX_SCALE", type := .int, accessFlags := 25, slot := 7, constantValue := 0 }, { name := "LOG2_ARRAY_FLOAT_INDEX_SCALE", type := .int, accessFlags := 25, slot := 8, constantValue := 0 }, { name := "LOG2_ARRAY_DOUBLE_INDEX_SCALE", type := .int, accessFlags := 25, slot := 9, constantValue := 0 }, { name := "LOG2_BYTE_BIT_SIZE", type := .int, accessFlags := 26, slot := 10, constantValue := 0 }, { name := "T_BOOLEAN", type := .int, accessFlags := 25, slot := 11, constantValue := 0 }, { name := "T_CHAR", type := .int, accessFlags := 25, slot := 12, constantValue := 0 }, { name := "T_FLOAT", type := .int, accessFlags := 25, slot := 13, constantValue := 0 }, { name := "T_DOUBLE", type := .int, accessFlags := 25, slot := 14, constantValue := 0 }, { name := "T_BYTE", type := .int, accessFlags := 25, slot := 15, constantValue := 0 }, { name := "T_SHORT", type := .int, accessFlags := 25, slot := 16, constantValue := 0 }, { name := "T_INT", type := .int, accessFlags := 25, slot := 17, constantValue := 0 }, { name := "T_LONG", type := .int, accessFlags := 25, slot := 18, constantValue := 0 }, { name := "JLA", type := (.object "jdk/internal/access/JavaLangAccess"), accessFlags := 26, slot := 19, constantValue := 0 }, { name := "SOFT_MAX_ARRAY_LENGTH", type := .int, accessFlags := 25, slot := 20, constantValue := 0 }]
  methods := #[k12m0]
  instanceTypes := #[]
  staticTypes := #[(.object "jdk/internal/misc/Unsafe"), .boolean, .int, .int, .int, .int, .int, .int, .int, .int, .int, .int, .int, .int, .int, .int, .int, .int, .int, (.object "jdk/internal/access/JavaLangAccess"), .int]
  resolved := Array.replicate 378 none
  statics := none }

def pool13 : Array CpInfo := pool [(1, u "java/lang/Cloneable"), (0, .class_ 1), (0, u "java/lang/Object"), (0, .class_ 3)] 3

/-- java/lang/Cloneable -/
def k13 : Class := { plain "java/lang/Cloneable" (some 0) with
  accessFlags := 1537
  interfaces := #[]
  cf := some (fileOf pool13 2 #[] #[] 1537 4 #[] #[])
  fields := #[]
  methods := #[]
  instanceTypes := #[]
  staticTypes := #[]
  resolved := Array.replicate 8 none
  statics := none }

/-- the primitive byte -/
def k14 : Class := { plain "byte" none with kind := .primitive 'B', accessFlags := 0x411 }
/-- [B -/
def k15 : Class := { plain "[B" (some 0) with kind := .array 14 .byte, interfaces := #[13, 2], accessFlags := 1041 }

/-- the primitive char -/
def k16 : Class := { plain "char" none with kind := .primitive 'C', accessFlags := 0x411 }
/-- [C -/
def k17 : Class := { plain "[C" (some 0) with kind := .array 16 .char, interfaces := #[13, 2], accessFlags := 1041 }

/-- the primitive int -/
def k18 : Class := { plain "int" none with kind := .primitive 'I', accessFlags := 0x411 }
/-- [I -/
def k19 : Class := { plain "[I" (some 0) with kind := .array 18 .int, interfaces := #[13, 2], accessFlags := 1041 }

def heap : Heap := #[{ cls := 7, slots := #[.long 0, .int 1, .null, .int 0, .null, .int 0, .int 0], vm := .statics 7 },
  { cls := 8, slots := #[.int 0, .int 8, .int 0, .int 1], vm := .statics 8 },
  { cls := 11, slots := #[.null, .null, .null], vm := .statics 11 }]
def classes : Array Class := #[k0, k1, k2, k3, k4, k5, k6, k7, k8, k9, k10, k11, k12, k13, k14, k15, k16, k17, k18, k19]
def interned : List (Array UInt16 × Addr) := []
def slotsUsed : Nat := 14
def theMethod : MethodId := ⟨1, 3⟩
def args0 : Array Value := #[.int 5, .int 5, .int 5]
def aboutOver (below : List Frame) : State where
  vm := { classes := classes, interned := interned.toArray }
  heap := heap
  slotsUsed := slotsUsed
  threads := #[{ frames := .invoking theMethod args0 :: below }]
def below0 : List Frame := [.native { method := ⟨0, 0⟩, args := #[] }]
def about1 : State := aboutOver below0
def p0 : Program := .bare "" "" ""
def e0 : Env := launch0.env 0 0 0
theorem w_frames : about1.frames = Frame.invoking theMethod args0 :: below0 := rfl
set_option maxRecDepth 65536 in
theorem w_args : argsFit about1.vm theMethod args0 = true := by decide +kernel
set_option maxRecDepth 65536 in
theorem w_heap : heapFits about1 = true := by decide +kernel
set_option maxRecDepth 65536 in
theorem w_runnable : about1.curStatus? = some .runnable := by decide +kernel
set_option maxRecDepth 65536 in
theorem w_alone : about1.alone = true := by decide +kernel
set_option maxRecDepth 65536 in
theorem w_named : about1.methodNamed? x = some theMethod := by decide +kernel
set_option maxRecDepth 65536 in
theorem w_hears : about1.hears theMethod below0 = true := by decide +kernel
set_option maxRecDepth 65536 in
theorem w_ripe : about1.ripe theMethod args0 below0 = true := by decide +kernel
theorem w_running : about1.status = .running := rfl
set_option maxRecDepth 65536 in
theorem w_room : about1.hasRoom e0.platform room_1 = true :=
  launch0.hasRoom_least _ room_1 (by decide +kernel) (by decide +kernel) (by decide +kernel) (by decide +kernel) (by decide +kernel) (by decide +kernel)
theorem allAtoms_all (ts : List Jvm.Cond) (a : Array Jvm.Value) (st : Jvm.State) : (allAtoms ts).before a st = ts.all (fun c => c.before a st) := by
  induction ts with
  | nil => rfl
  | cons c t ih =>
    show (Jvm.Cond.and c (allAtoms t)).before a st = _
    rw [Jvm.Cond.before_and, ih, List.all_cons]
def words1 : List Jvm.Cond := Jvm.Cond.code x code maxLocals ret :: tables_1
/-- a 'code' word, met by the world's own term for the bytes: nothing is compared byte by byte -/
theorem code_word {y : MethodName} {bytes : ByteArray} {mx : Nat} {rt : Option FieldType} {a : Array Value} {s : State} {m : MethodId} {meth : Method} {c : Code} (h1 : s.methodNamed? y = some m) (h2 : s.vm.method? m = some meth) (h3 : meth.code = some c) (h4 : c.code = bytes)
    (h5 : (c.maxLocals == mx && c.exceptionTable.isEmpty && decide (c.maxStack ≤ mostOperands) && decide (meth.sig.returnType = rt) && !meth.locks && decide (parseMethodDescriptor y.desc = some meth.sig)) = true) : (Jvm.Cond.code y bytes mx rt).before a s = true := by
  simp only [Bool.and_eq_true, beq_iff_eq, Bool.not_eq_true', decide_eq_true_eq] at h5
  obtain ⟨⟨⟨⟨⟨g1, g2⟩, g3⟩, g4⟩, g5⟩, g6⟩ := h5
  simp [Cond.before, Cond.holds, Cond.value, h1, h2, h3, h4, g1, g2, g3, g4, g5, g6]
def isCode : Jvm.Cond → Bool
  | .code _ _ _ _ => true
  | _ => false
theorem all_split {L : List Jvm.Cond} {P : Jvm.Cond → Bool} (h1 : L.all (fun c => isCode c || P c) = true) (h2 : ∀ c ∈ L.filter isCode, P c = true) : L.all P = true := by
  refine List.all_eq_true.mpr fun c hc => ?_
  have h := List.all_eq_true.mp h1 c hc
  rcases Bool.eq_false_or_eq_true (isCode c) with hi | hi
  · exact h2 c (List.mem_filter.mpr ⟨hc, hi⟩)
  · simpa [hi] using h
set_option maxRecDepth 65536 in
theorem w_c0 : (Jvm.Cond.code x code maxLocals ret).before args0 about1 = true := code_word (m := ⟨1, 3⟩) (meth := k1m3) (c := k1c3) (by decide +kernel) rfl rfl rfl (by decide +kernel)
set_option maxRecDepth 65536 in
theorem w_c1 : (Jvm.Cond.code ({ cls := "com/example/ddos_fee_ledger/ddosfeeledger/IndexRunHashPinLaw", name := "make", desc := "(ICCCC)Ljava/lang/String;" } : Jvm.MethodName) method_2_code (5 : Nat) (Option.some (Jvm.ClassFile.FieldType.object "java/lang/String"))).before args0 about1 = true := code_word (m := ⟨1, 1⟩) (meth := k1m1) (c := k1c1) (by decide +kernel) rfl rfl rfl (by decide +kernel)
set_option maxRecDepth 65536 in
theorem w_c2 : (Jvm.Cond.code ({ cls := "java/lang/String", name := "<init>", desc := "([C)V" } : Jvm.MethodName) jdk_42_method_3_code (2 : Nat) (Option.none : Option Jvm.ClassFile.FieldType)).before args0 about1 = true := code_word (m := ⟨7, 1⟩) (meth := k7m1) (c := k7c1) (by decide +kernel) rfl rfl rfl (by decide +kernel)
set_option maxRecDepth 65536 in
theorem w_c3 : (Jvm.Cond.code ({ cls := "java/lang/String", name := "<init>", desc := "([CIILjava/lang/Void;)V" } : Jvm.MethodName) jdk_42_method_149_code (6 : Nat) (Option.none : Option Jvm.ClassFile.FieldType)).before args0 about1 = true := code_word (m := ⟨7, 4⟩) (meth := k7m4) (c := k7c4) (by decide +kernel) rfl rfl rfl (by decide +kernel)
set_option maxRecDepth 65536 in
theorem w_c4 : (Jvm.Cond.code ({ cls := "java/lang/Object", name := "<init>", desc := "()V" } : Jvm.MethodName) object_method_1_code (1 : Nat) (Option.none : Option Jvm.ClassFile.FieldType)).before args0 about1 = true := code_word (m := ⟨0, 0⟩) (meth := k0m0) (c := k0c0) (by decide +kernel) rfl rfl rfl (by decide +kernel)
set_option maxRecDepth 65536 in
theorem w_c5 : (Jvm.Cond.code ({ cls := "java/lang/StringUTF16", name := "compress", desc := "([CII)[B" } : Jvm.MethodName) jdk_52_method_16_code (6 : Nat) (Option.some (Jvm.ClassFile.FieldType.array Jvm.ClassFile.FieldType.byte))).before args0 about1 = true := code_word (m := ⟨8, 8⟩) (meth := k8m8) (c := k8c8) (by decide +kernel) rfl rfl rfl (by decide +kernel)
set_option maxRecDepth 65536 in
theorem w_c6 : (Jvm.Cond.code ({ cls := "java/lang/StringUTF16", name := "compress", desc := "([CI[BII)I" } : Jvm.MethodName) jdk_52_method_21_code (7 : Nat) (Option.some Jvm.ClassFile.FieldType.int)).before args0 about1 = true := code_word (m := ⟨8, 9⟩) (meth := k8m9) (c := k8c9) (by decide +kernel) rfl rfl rfl (by decide +kernel)
set_option maxRecDepth 65536 in
theorem w_c7 : (Jvm.Cond.code ({ cls := "java/lang/StringUTF16", name := "coderFromArrayLen", desc := "([BI)B" } : Jvm.MethodName) jdk_52_method_15_code (2 : Nat) (Option.some Jvm.ClassFile.FieldType.byte)).before args0 about1 = true := code_word (m := ⟨8, 7⟩) (meth := k8m7) (c := k8c7) (by decide +kernel) rfl rfl rfl (by decide +kernel)
set_option maxRecDepth 65536 in
theorem w_c8 : (Jvm.Cond.code ({ cls := "com/example/ddos_fee_ledger/ddosfeeledger/IndexRunHashPinLaw", name := "pick", desc := "(ICCCC)C" } : Jvm.MethodName) method_3_code (5 : Nat) (Option.some Jvm.ClassFile.FieldType.char)).before args0 about1 = true := code_word (m := ⟨1, 2⟩) (meth := k1m2) (c := k1c2) (by decide +kernel) rfl rfl rfl (by decide +kernel)
set_option maxRecDepth 65536 in
theorem w_c9 : (Jvm.Cond.code ({ cls := "com/example/ddos_fee_ledger/ddosfeeledger/IndexRun", name := "hash", desc := "(Ljava/lang/String;)J" } : Jvm.MethodName) prog_25_method_22_code (4 : Nat) (Option.some Jvm.ClassFile.FieldType.long)).before args0 about1 = true := code_word (m := ⟨9, 0⟩) (meth := k9m0) (c := k9c0) (by decide +kernel) rfl rfl rfl (by decide +kernel)
set_option maxRecDepth 65536 in
theorem w_c10 : (Jvm.Cond.code ({ cls := "java/lang/String", name := "length", desc := "()I" } : Jvm.MethodName) jdk_42_method_54_code (1 : Nat) (Option.some Jvm.ClassFile.FieldType.int)).before args0 about1 = true := code_word (m := ⟨7, 2⟩) (meth := k7m2) (c := k7c2) (by decide +kernel) rfl rfl rfl (by decide +kernel)
set_option maxRecDepth 65536 in
theorem w_c11 : (Jvm.Cond.code ({ cls := "java/lang/String", name := "coder", desc := "()B" } : Jvm.MethodName) jdk_42_method_152_code (1 : Nat) (Option.some Jvm.ClassFile.FieldType.byte)).before args0 about1 = true := code_word (m := ⟨7, 5⟩) (meth := k7m5) (c := k7c5) (by decide +kernel) rfl rfl rfl (by decide +kernel)
set_option maxRecDepth 65536 in
theorem w_c12 : (Jvm.Cond.code ({ cls := "java/lang/String", name := "charAt", desc := "(I)C" } : Jvm.MethodName) jdk_42_method_56_code (2 : Nat) (Option.some Jvm.ClassFile.FieldType.char)).before args0 about1 = true := code_word (m := ⟨7, 3⟩) (meth := k7m3) (c := k7c3) (by decide +kernel) rfl rfl rfl (by decide +kernel)
set_option maxRecDepth 65536 in
theorem w_c13 : (Jvm.Cond.code ({ cls := "java/lang/String", name := "isLatin1", desc := "()Z" } : Jvm.MethodName) jdk_42_method_154_code (1 : Nat) (Option.some Jvm.ClassFile.FieldType.boolean)).before args0 about1 = true := code_word (m := ⟨7, 6⟩) (meth := k7m6) (c := k7c6) (by decide +kernel) rfl rfl rfl (by decide +kernel)
set_option maxRecDepth 65536 in
theorem w_c14 : (Jvm.Cond.code ({ cls := "java/lang/StringLatin1", name := "charAt", desc := "([BI)C" } : Jvm.MethodName) jdk_43_method_2_code (2 : Nat) (Option.some Jvm.ClassFile.FieldType.char)).before args0 about1 = true := code_word (m := ⟨10, 1⟩) (meth := k10m1) (c := k10c1) (by decide +kernel) rfl rfl rfl (by decide +kernel)
set_option maxRecDepth 65536 in
theorem w_c15 : (Jvm.Cond.code ({ cls := "java/lang/String", name := "checkIndex", desc := "(II)V" } : Jvm.MethodName) jdk_42_method_155_code (2 : Nat) (Option.none : Option Jvm.ClassFile.FieldType)).before args0 about1 = true := code_word (m := ⟨7, 7⟩) (meth := k7m7) (c := k7c7) (by decide +kernel) rfl rfl rfl (by decide +kernel)
set_option maxRecDepth 65536 in
theorem w_c16 : (Jvm.Cond.code ({ cls := "jdk/internal/util/Preconditions", name := "checkIndex", desc := "(IILjava/util/function/BiFunction;)I" } : Jvm.MethodName) jdk_41_method_11_code (3 : Nat) (Option.some Jvm.ClassFile.FieldType.int)).before args0 about1 = true := code_word (m := ⟨11, 1⟩) (meth := k11m1) (c := k11c1) (by decide +kernel) rfl rfl rfl (by decide +kernel)
set_option maxRecDepth 65536 in
theorem w_c17 : (Jvm.Cond.code ({ cls := "java/lang/StringUTF16", name := "toBytes", desc := "([CII)[B" } : Jvm.MethodName) jdk_52_method_14_code (5 : Nat) (Option.some (Jvm.ClassFile.FieldType.array Jvm.ClassFile.FieldType.byte))).before args0 about1 = true := code_word (m := ⟨8, 6⟩) (meth := k8m6) (c := k8c6) (by decide +kernel) rfl rfl rfl (by decide +kernel)
set_option maxRecDepth 65536 in
theorem w_c18 : (Jvm.Cond.code ({ cls := "java/lang/StringUTF16", name := "newBytesFor", desc := "(I)[B" } : Jvm.MethodName) jdk_52_method_2_code (1 : Nat) (Option.some (Jvm.ClassFile.FieldType.array Jvm.ClassFile.FieldType.byte))).before args0 about1 = true := code_word (m := ⟨8, 1⟩) (meth := k8m1) (c := k8c1) (by decide +kernel) rfl rfl rfl (by decide +kernel)
set_option maxRecDepth 65536 in
theorem w_c19 : (Jvm.Cond.code ({ cls := "java/lang/StringUTF16", name := "newBytesLength", desc := "(I)I" } : Jvm.MethodName) jdk_52_method_3_code (1 : Nat) (Option.some Jvm.ClassFile.FieldType.int)).before args0 about1 = true := code_word (m := ⟨8, 2⟩) (meth := k8m2) (c := k8c2) (by decide +kernel) rfl rfl rfl (by decide +kernel)
set_option maxRecDepth 65536 in
theorem w_c20 : (Jvm.Cond.code ({ cls := "java/lang/StringUTF16", name := "putChar", desc := "([BII)V" } : Jvm.MethodName) jdk_52_method_4_code (3 : Nat) (Option.none : Option Jvm.ClassFile.FieldType)).before args0 about1 = true := code_word (m := ⟨8, 3⟩) (meth := k8m3) (c := k8c3) (by decide +kernel) rfl rfl rfl (by decide +kernel)
set_option maxRecDepth 65536 in
theorem w_c21 : (Jvm.Cond.code ({ cls := "java/lang/StringUTF16", name := "getChar", desc := "([BI)C" } : Jvm.MethodName) jdk_52_method_5_code (2 : Nat) (Option.some Jvm.ClassFile.FieldType.char)).before args0 about1 = true := code_word (m := ⟨8, 4⟩) (meth := k8m4) (c := k8c4) (by decide +kernel) rfl rfl rfl (by decide +kernel)
set_option maxRecDepth 65536 in
theorem w_c22 : (Jvm.Cond.code ({ cls := "java/lang/StringUTF16", name := "charAt", desc := "([BI)C" } : Jvm.MethodName) jdk_52_method_83_code (2 : Nat) (Option.some Jvm.ClassFile.FieldType.char)).before args0 about1 = true := code_word (m := ⟨8, 10⟩) (meth := k8m10) (c := k8c10) (by decide +kernel) rfl rfl rfl (by decide +kernel)
set_option maxRecDepth 65536 in
theorem w_c23 : (Jvm.Cond.code ({ cls := "java/lang/StringUTF16", name := "checkIndex", desc := "(I[B)V" } : Jvm.MethodName) jdk_52_method_91_code (2 : Nat) (Option.none : Option Jvm.ClassFile.FieldType)).before args0 about1 = true := code_word (m := ⟨8, 11⟩) (meth := k8m11) (c := k8c11) (by decide +kernel) rfl rfl rfl (by decide +kernel)
set_option maxRecDepth 65536 in
theorem w_c24 : (Jvm.Cond.code ({ cls := "java/lang/StringUTF16", name := "length", desc := "([B)I" } : Jvm.MethodName) jdk_52_method_6_code (1 : Nat) (Option.some Jvm.ClassFile.FieldType.int)).before args0 about1 = true := code_word (m := ⟨8, 5⟩) (meth := k8m5) (c := k8c5) (by decide +kernel) rfl rfl rfl (by decide +kernel)
def codes1 : List Jvm.Cond := [Jvm.Cond.code x code maxLocals ret, Jvm.Cond.code ({ cls := "com/example/ddos_fee_ledger/ddosfeeledger/IndexRunHashPinLaw", name := "make", desc := "(ICCCC)Ljava/lang/String;" } : Jvm.MethodName) method_2_code (5 : Nat) (Option.some (Jvm.ClassFile.FieldType.object "java/lang/String")), Jvm.Cond.code ({ cls := "java/lang/String", name := "<init>", desc := "([C)V" } : Jvm.MethodName) jdk_42_method_3_code (2 : Nat) (Option.none : Option Jvm.ClassFile.FieldType), Jvm.Cond.code ({ cls := "java/lang/String", name := "<init>", desc := "([CIILjava/lang/Void;)V" } : Jvm.MethodName) jdk_42_method_149_code (6 : Nat) (Option.none : Option Jvm.ClassFile.FieldType), Jvm.Cond.code ({ cls := "java/lang/Object", name := "<init>", desc := "()V" } : Jvm.MethodName) object_method_1_code (1 : Nat) (Option.none : Option Jvm.ClassFile.FieldType), Jvm.Cond.code ({ cls := "java/lang/StringUTF16", name := "compress", desc := "([CII)[B" } : Jvm.MethodName) jdk_52_method_16_code (6 : Nat) (Option.some (Jvm.ClassFile.FieldType.array Jvm.ClassFile.FieldType.byte)), Jvm.Cond.code ({ cls := "java/lang/StringUTF16", name := "compress", desc := "([CI[BII)I" } : Jvm.MethodName) jdk_52_method_21_code (7 : Nat) (Option.some Jvm.ClassFile.FieldType.int), Jvm.Cond.code ({ cls := "java/lang/StringUTF16", name := "coderFromArrayLen", desc := "([BI)B" } : Jvm.MethodName) jdk_52_method_15_code (2 : Nat) (Option.some Jvm.ClassFile.FieldType.byte), Jvm.Cond.code ({ cls := "com/example/ddos_fee_ledger/ddosfeeledger/IndexRunHashPinLaw", name := "pick", desc := "(ICCCC)C" } : Jvm.MethodName) method_3_code (5 : Nat) (Option.some Jvm.ClassFile.FieldType.char), Jvm.Cond.code ({ cls := "com/example/ddos_fee_ledger/ddosfeeledger/IndexRun", name := "hash", desc := "(Ljava/lang/String;)J" } : Jvm.MethodName) prog_25_method_22_code (4 : Nat) (Option.some Jvm.ClassFile.FieldType.long), Jvm.Cond.code ({ cls := "java/lang/String", name := "length", desc := "()I" } : Jvm.MethodName) jdk_42_method_54_code (1 : Nat) (Option.some Jvm.ClassFile.FieldType.int), Jvm.Cond.code ({ cls := "java/lang/String", name := "coder", desc := "()B" } : Jvm.MethodName) jdk_42_method_152_code (1 : Nat) (Option.some Jvm.ClassFile.FieldType.byte), Jvm.Cond.code ({ cls := "java/lang/String", name := "charAt", desc := "(I)C" } : Jvm.MethodName) jdk_42_method_56_code (2 : Nat) (Option.some Jvm.ClassFile.FieldType.char), Jvm.Cond.code ({ cls := "java/lang/String", name := "isLatin1", desc := "()Z" } : Jvm.MethodName) jdk_42_method_154_code (1 : Nat) (Option.some Jvm.ClassFile.FieldType.boolean), Jvm.Cond.code ({ cls := "java/lang/StringLatin1", name := "charAt", desc := "([BI)C" } : Jvm.MethodName) jdk_43_method_2_code (2 : Nat) (Option.some Jvm.ClassFile.FieldType.char), Jvm.Cond.code ({ cls := "java/lang/String", name := "checkIndex", desc := "(II)V" } : Jvm.MethodName) jdk_42_method_155_code (2 : Nat) (Option.none : Option Jvm.ClassFile.FieldType), Jvm.Cond.code ({ cls := "jdk/internal/util/Preconditions", name := "checkIndex", desc := "(IILjava/util/function/BiFunction;)I" } : Jvm.MethodName) jdk_41_method_11_code (3 : Nat) (Option.some Jvm.ClassFile.FieldType.int), Jvm.Cond.code ({ cls := "java/lang/StringUTF16", name := "toBytes", desc := "([CII)[B" } : Jvm.MethodName) jdk_52_method_14_code (5 : Nat) (Option.some (Jvm.ClassFile.FieldType.array Jvm.ClassFile.FieldType.byte)), Jvm.Cond.code ({ cls := "java/lang/StringUTF16", name := "newBytesFor", desc := "(I)[B" } : Jvm.MethodName) jdk_52_method_2_code (1 : Nat) (Option.some (Jvm.ClassFile.FieldType.array Jvm.ClassFile.FieldType.byte)), Jvm.Cond.code ({ cls := "java/lang/StringUTF16", name := "newBytesLength", desc := "(I)I" } : Jvm.MethodName) jdk_52_method_3_code (1 : Nat) (Option.some Jvm.ClassFile.FieldType.int), Jvm.Cond.code ({ cls := "java/lang/StringUTF16", name := "putChar", desc := "([BII)V" } : Jvm.MethodName) jdk_52_method_4_code (3 : Nat) (Option.none : Option Jvm.ClassFile.FieldType), Jvm.Cond.code ({ cls := "java/lang/StringUTF16", name := "getChar", desc := "([BI)C" } : Jvm.MethodName) jdk_52_method_5_code (2 : Nat) (Option.some Jvm.ClassFile.FieldType.char), Jvm.Cond.code ({ cls := "java/lang/StringUTF16", name := "charAt", desc := "([BI)C" } : Jvm.MethodName) jdk_52_method_83_code (2 : Nat) (Option.some Jvm.ClassFile.FieldType.char), Jvm.Cond.code ({ cls := "java/lang/StringUTF16", name := "checkIndex", desc := "(I[B)V" } : Jvm.MethodName) jdk_52_method_91_code (2 : Nat) (Option.none : Option Jvm.ClassFile.FieldType), Jvm.Cond.code ({ cls := "java/lang/StringUTF16", name := "length", desc := "([B)I" } : Jvm.MethodName) jdk_52_method_6_code (1 : Nat) (Option.some Jvm.ClassFile.FieldType.int)]
set_option maxRecDepth 65536 in
theorem codes_eq : words1.filter isCode = codes1 := rfl
theorem w_codes : ∀ c ∈ words1.filter isCode, c.before args0 about1 = true := by
  rw [codes_eq]
  intro c hc
  simp only [codes1, List.mem_cons, List.not_mem_nil, or_false] at hc
  rcases hc with rfl | rfl | rfl | rfl | rfl | rfl | rfl | rfl | rfl | rfl | rfl | rfl | rfl | rfl | rfl | rfl | rfl | rfl | rfl | rfl | rfl | rfl | rfl | rfl | rfl
  · exact w_c0
  · exact w_c1
  · exact w_c2
  · exact w_c3
  · exact w_c4
  · exact w_c5
  · exact w_c6
  · exact w_c7
  · exact w_c8
  · exact w_c9
  · exact w_c10
  · exact w_c11
  · exact w_c12
  · exact w_c13
  · exact w_c14
  · exact w_c15
  · exact w_c16
  · exact w_c17
  · exact w_c18
  · exact w_c19
  · exact w_c20
  · exact w_c21
  · exact w_c22
  · exact w_c23
  · exact w_c24
set_option maxRecDepth 65536 in
theorem w_t1 : (words1.take 24).all (fun c => isCode c || c.before args0 about1) = true := by decide +kernel
set_option maxRecDepth 65536 in
theorem w_t2 : ((words1.drop 24).take 24).all (fun c => isCode c || c.before args0 about1) = true := by decide +kernel
set_option maxRecDepth 65536 in
theorem w_t3 : (((words1.drop 24).drop 24).take 24).all (fun c => isCode c || c.before args0 about1) = true := by decide +kernel
set_option maxRecDepth 65536 in
theorem w_t4 : ((((words1.drop 24).drop 24).drop 24).take 24).all (fun c => isCode c || c.before args0 about1) = true := by decide +kernel
set_option maxRecDepth 65536 in
theorem w_t5 : ((((words1.drop 24).drop 24).drop 24).drop 24).all (fun c => isCode c || c.before args0 about1) = true := by decide +kernel
theorem w_tables : (allAtoms (Jvm.Cond.code x code maxLocals ret :: tables_1)).before args0 about1 = true := by
  rw [allAtoms_all]
  show words1.all (fun c => c.before args0 about1) = true
  refine all_split ?_ w_codes
  rw [← List.take_append_drop 24 words1, List.all_append, w_t1, ← List.take_append_drop 24 (words1.drop 24), List.all_append, w_t2, ← List.take_append_drop 24 ((words1.drop 24).drop 24), List.all_append, w_t3, ← List.take_append_drop 24 (((words1.drop 24).drop 24).drop 24), List.all_append, w_t4, w_t5]
  rfl
set_option maxRecDepth 65536 in
theorem w_rest : rest_1_c.before args0 about1 = true := by decide +kernel
set_option maxRecDepth 65536 in
theorem w_case : (Jvm.Cond.and given_1 narrow_1).before args0 about1 = true := by decide +kernel
set_option maxRecDepth 65536 in
theorem w_consts : constsHeld consts_1 about1 := Jvm.Lit.constsHeldB_iff.mp (by decide +kernel)
theorem w_applies : (headSpec (Jvm.Cond.code x code maxLocals ret :: tables_1) room_1).applies x e0.platform about1 = true :=
  (Spec.applies_iff w_frames).mpr ⟨w_running, w_runnable, w_alone, w_named, w_hears, w_ripe, w_room, w_tables⟩
theorem atStart : AtStart classFile x code maxLocals ret World_1 tables_1 room_1 Calls_1 rest_1 Pre_1 launch0 p0 e0 about1 theMethod args0 below0 :=
  ⟨lists_1, trivial, launch0.admits_env _ _ _, launch0.least_env, fairChoices_fair.cas, fairChoices_fair.clock, w_frames, w_args, w_heap, w_applies, ⟨w_consts, trivial⟩, w_rest, w_case⟩
end start1
theorem witness_1 : WitnessClaimed_1 := ⟨start1.p0, start1.e0, start1.about1, start1.theMethod, start1.args0, start1.below0, start1.atStart⟩
end Jvm.Pilot.@@N@@
