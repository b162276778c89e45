import JvmDerived
import JvmDerived.Pilot.@@N@@Statement
import JvmDerived.Pilot.@@N@@Code
set_option linter.unusedVariables false
set_option linter.unusedSimpArgs false
namespace Jvm.OwnKit
open Sem ClassFile Op Lib Jvm.Stand Jvm.Free Jvm.LawKit Jvm.RoadKit
section Kit
variable {p : Program} {l : Launch} {e : Env} {R : Room} {s : State} {m : MethodId} {args : Array Value} {below : List Frame} {meth : Method} {c : Code} {T : State} {locs : List Loc} {cells slots : Nat} {Z : State} {a0 : Array Value} {h h0 : Heap} {kc ks : Nat} {Q : Option Value → Heap → List Loc → Prop}
/-- from this state the body comes to its end, and Q holds of what it returns, of the heap there and of the places written -/
def Go (p : Program) (e : Env) (below : List Frame) (s : State) (kc ks : Nat) (Q : Option Value → Heap → List Loc → Prop) (a : State) : Prop :=
  ∃ (t : State) (o : Outcome), Steps p.tables e below a t ∧ t.status = .running ∧ Ended t below o ∧ ∃ v L, o = .returned v ∧ Q v t.heap L ∧ FrameEnd s o t L kc ks
theorem Go.of {a b : State} (st : ∀ t, Steps p.tables e below b t → Steps p.tables e below a t) (k : Go p e below s kc ks Q b) : Go p e below s kc ks Q a := by
  obtain ⟨t, o, h, r⟩ := k
  exact ⟨t, o, st t h, r⟩
theorem pad (X : Stand p l e R s m args below meth c T locs cells slots) {cells' slots' : Nat} (hc : cells ≤ cells') (hs : slots ≤ slots') : Stand p l e R s m args below meth c T locs cells' slots' :=
  ⟨X.admits, X.cas, X.clock, X.frames, X.room, X.hears, X.method, X.code, X.here, X.tail, X.warmed, X.limits, X.bytes, X.same.mono hc hs⟩
theorem Go.leave (X : Stand p l e R s m args below meth c T locs cells slots) (hlk : meth.locks = false) {v : Option Value} (hv : meth.sig.returnType = none → v = none) {g : JFrame}
    (st : ∀ fs, (∀ (f : JFrame) (acts : List Action), f.method = m → f.locked = none → f.entered = [] → (doReturn e (T.setTop f) acts v).1 = T.setFrames fs) → Steps p.tables e below (T.setTop g) (T.setFrames fs))
    (hc : cells ≤ kc) (hs : slots ≤ ks) (q : Q v T.heap locs) : Go p e below s kc ks Q (T.setTop g) := by
  obtain ⟨fs, hr, hrun, hended, hW, hsame⟩ := X.leave hv hlk
  exact ⟨_, _, st fs hr, hrun, hended, v, locs, rfl, q, ⟨_, rfl⟩, hW, hsame.mono hc hs⟩
theorem Go.retI (X : Stand p l e R s m args below meth c T locs cells slots) (hx : p.tables.exec = Jvm.exec) (hlk : meth.locks = false) (hret : meth.sig.returnType = some .int) {pc : Nat} {Ls : Array Slot} {z : Int32} {rest : List Value}
    (hd : decode c.code pc = .ok (.ireturn, 1)) (hc : cells ≤ kc) (hs : slots ≤ ks) (q : Q (some (.int z)) T.heap locs) : Go p e below s kc ks Q (T.setTop (mkF m pc Ls (.int z :: rest))) :=
  Go.leave X hlk (fun h => by rw [hret] at h; cases h) (fun fs hr => retOut X hx hret rfl (Or.inl ⟨rfl, Or.inl rfl, z, rfl⟩) hd hr) hc hs q
theorem Go.retN (X : Stand p l e R s m args below meth c T locs cells slots) (hx : p.tables.exec = Jvm.exec) (hlk : meth.locks = false) {t : FieldType} (hret : meth.sig.returnType = some t) (ht : t = .boolean ∨ t = .byte ∨ t = .char ∨ t = .short) {pc : Nat} {Ls : Array Slot} {z : Int32} {rest : List Value}
    (hd : decode c.code pc = .ok (.ireturn, 1)) (hz : nar t z = z) (hc : cells ≤ kc) (hs : slots ≤ ks) (q : Q (some (.int z)) T.heap locs) : Go p e below s kc ks Q (T.setTop (mkF m pc Ls (.int z :: rest))) :=
  Go.leave X hlk (fun h => by rw [hret] at h; cases h) (fun fs hr => RoadKit.retN X hx hret ht hd (by rw [hz]; exact hr)) hc hs q
theorem Go.retJ (X : Stand p l e R s m args below meth c T locs cells slots) (hx : p.tables.exec = Jvm.exec) (hlk : meth.locks = false) (hret : meth.sig.returnType = some .long) {pc : Nat} {Ls : Array Slot} {z : Int64} {rest : List Value}
    (hd : decode c.code pc = .ok (.lreturn, 1)) (hc : cells ≤ kc) (hs : slots ≤ ks) (q : Q (some (.long z)) T.heap locs) : Go p e below s kc ks Q (T.setTop (mkF m pc Ls (.long z :: rest))) :=
  Go.leave X hlk (fun h => by rw [hret] at h; cases h) (fun fs hr => retOut X hx hret rfl (Or.inr (Or.inl ⟨rfl, rfl, z, rfl⟩)) hd hr) hc hs q
theorem Go.retA (X : Stand p l e R s m args below meth c T locs cells slots) (hx : p.tables.exec = Jvm.exec) (hlk : meth.locks = false) {t : FieldType} (hret : meth.sig.returnType = some t) (ht : t.isReference = true) {pc : Nat} {Ls : Array Slot} {z : Value} {rest : List Value} (hz : z.isRef = true)
    (hd : decode c.code pc = .ok (.areturn, 1)) (hc : cells ≤ kc) (hs : slots ≤ ks) (q : Q (some z) T.heap locs) : Go p e below s kc ks Q (T.setTop (mkF m pc Ls (z :: rest))) :=
  Go.leave X hlk (fun h => by rw [hret] at h; cases h) (fun fs hr => retOut X hx hret (by cases t <;> first | rfl | (simp [FieldType.isReference] at ht; done)) (Or.inr (Or.inr (Or.inr (Or.inr ⟨rfl, ht, hz⟩)))) hd hr) hc hs q
theorem Go.retV (X : Stand p l e R s m args below meth c T locs cells slots) (hx : p.tables.exec = Jvm.exec) (hlk : meth.locks = false) (hret : meth.sig.returnType = none) {pc : Nat} {Ls : Array Slot}
    (hd : decode c.code pc = .ok (.return_, 1)) (hc : cells ≤ kc) (hs : slots ≤ ks) (q : Q none T.heap locs) : Go p e below s kc ks Q (T.setTop (mkF m pc Ls [])) :=
  Go.leave X hlk (fun _ => rfl) (fun fs hr => X.returnOut hx hret hd hr) hc hs q
/-- a body's contract: called with these arguments over this heap it returns, and Q holds -/
def Con (l : Launch) (Z : State) (y : MethodName) (bytes : ByteArray) (maxL : Nat) (ret : Option FieldType) (rm : Room) (as' : Array Value) (h0 : Heap) (Q : Option Value → Heap → List Loc → Prop) : Prop :=
  ∀ ws : List Cond, MetFree l y (head1 (Cond.code y bytes maxL ret :: ws) rm) (fun a U => a = as' ∧ Z.Warmed39 U.vm ∧ U.heap = h0) (fun _ _ _ _ _ => True) (fun _ U o U' => ∃ v L, o = .returned v ∧ Q v U'.heap L ∧ FrameEnd U o U' L rm.cells rm.slots)
theorem Con.intro {y : MethodName} {bytes : ByteArray} {maxL : Nat} {ret : Option FieldType} {rm : Room} {as' : Array Value} {gf : MethodId → JFrame} (hpl : plainFor y = true) (hef : ∀ m, entryFrame m as' maxL = gf m)
    (body : ∀ (p : Program) (e : Env) (s : State) (m : MethodId) (below : List Frame) (meth : Method) (c : Code) (s₁ : State), p.tables.exec = Jvm.exec → c.code = bytes → c.maxLocals = maxL → Z.Warmed39 s.vm → s.vm.findClass y.cls = some m.cls → meth.name = y.name → meth.sig.returnType = ret → meth.locks = false →
      Stand p l e rm s m as' below meth c s₁ [] 0 0 → s₁.heap = h0 → Go p e below s rm.cells rm.slots Q (s₁.setTop (gf m))) : Con l Z y bytes maxL ret rm as' h0 Q := by
  intro ws
  refine MetFree.of_bodySF hpl hisR ?_
  intro p e s m args below meth c s₁ Bd hml hP hK
  obtain ⟨rfl, hZ, hh⟩ := hP
  have k := body p e s m below meth c s₁ Bd.exec Bd.bytes hml hZ (findClass_of_methodNamed Bd.named) (name_of_methodNamed Bd.named Bd.method).1 Bd.returns Bd.notSynchronized (Stand.of_body Bd) (by rw [← hh, Bd.state]; rfl)
  rw [← hef m] at k
  exact k
theorem Go.static (X : Stand p l e R s m args below meth c T locs cells slots) (hx : p.tables.exec = Jvm.exec) (hZ : Z.Warmed39 s.vm) {own : String} {index : Nat} {y : MethodName} {bytes : ByteArray} {maxL : Nat} {ret : Option FieldType} {rm : Room} {Q' : Option Value → Heap → List Loc → Prop} {argsL : List Value}
    (hown : s.vm.findClass own = some m.cls) (w1 : (Cond.methodLink own index y).before a0 Z = true) (w2 : (Cond.static y).before a0 Z = true) (w3 : (Cond.initialized y.cls).before a0 Z = true) (w4 : (Cond.code y bytes maxL ret).before a0 Z = true)
    (hy : y.cls ≠ "java/lang/invoke/MethodHandle" ∧ y.cls ≠ "java/lang/invoke/VarHandle") (W : Nat) (eT : T.heap = h) (K : Con l Z y bytes maxL ret rm argsL.toArray h Q') (hf : rm.frames + 1 ≤ R.frames) (hlo : W + (maxL + 11) + rm.locals ≤ R.locals) (hc : cells + rm.cells ≤ R.cells) (hs : slots + rm.slots ≤ R.slots)
    {g : JFrame} (hg : g.method = m) (hsize : g.locals.size = c.maxLocals) {rest : List Value} (hlen : ∀ sig, parseMethodDescriptor y.desc = some sig → argsL.length = sig.parameters.length) (hstack : g.stack = argsL.reverse ++ rest) (hW : 2 * g.monitorRoom + (rest.map fun v => v.category).sum ≤ W)
    (hd : decode c.code g.pc = .ok (.invokestatic index, 3))
    (k : ∀ (T' : State) (v : Option Value) (L : List Loc), Stand p l e R s m args below meth c T' (locs ++ L) (cells + rm.cells) (slots + rm.slots) → Q' v T'.heap L → Go p e below s kc ks Q (T'.setTop { g with pc := g.pc + 3, stack := v.toList ++ rest })) : Go p e below s kc ks Q (T.setTop g) := by
  obtain ⟨v, _, ⟨T', L', k', n'⟩, -, X', ⟨Lc, hQ, l1, l2, l3⟩, st⟩ := Jvm.LawKit.callS X hx hown (mvT hZ w1) (mvT hZ w2) (mvT hZ w3) (mvT hZ w4) hy (backOf (W := W) (K []) hZ w4 w3 hf hlo) hg hsize hlen hstack hW hd (fun _ _ => ⟨rfl, eT, hc, hs⟩)
  dsimp only [Pt.U, Pt.locs, Pt.cells, Pt.slots] at X' l1 l2 l3 st hQ
  subst l1 l2 l3
  exact Go.of st (k T' v Lc X' hQ)
theorem Go.special (X : Stand p l e R s m args below meth c T locs cells slots) (hx : p.tables.exec = Jvm.exec) (hZ : Z.Warmed39 s.vm) {own : String} {index : Nat} {y : MethodName} {bytes : ByteArray} {maxL : Nat} {rm : Room} {Q' : Option Value → Heap → List Loc → Prop} {a : Addr} {argsL : List Value} (hy1 : y.name = "<init>")
    (hown : s.vm.findClass own = some m.cls) (w1 : (Cond.methodLink own index y).before a0 Z = true) (w2 : (Cond.instanceMethod y).before a0 Z = true) (w3 : (Cond.initialized y.cls).before a0 Z = true) (w4 : (Cond.code y bytes maxL none).before a0 Z = true)
    (hy : y.cls ≠ "java/lang/invoke/MethodHandle" ∧ y.cls ≠ "java/lang/invoke/VarHandle") (W : Nat) (eT : T.heap = h) (K : Con l Z y bytes maxL none rm (Value.ref a :: argsL).toArray h Q') (hf : rm.frames + 1 ≤ R.frames) (hlo : W + (maxL + 11) + rm.locals ≤ R.locals) (hc : cells + rm.cells ≤ R.cells) (hs : slots + rm.slots ≤ R.slots)
    {g : JFrame} (hg : g.method = m) (hsize : g.locals.size = c.maxLocals) {rest : List Value} (hlen : ∀ sig, parseMethodDescriptor y.desc = some sig → argsL.length = sig.parameters.length) (hstack : g.stack = argsL.reverse ++ .ref a :: rest) (hW : 2 * g.monitorRoom + (rest.map fun v => v.category).sum ≤ W)
    (hd : decode c.code g.pc = .ok (.invokespecial index, 3))
    (k : ∀ (T' : State) (v : Option Value) (L : List Loc), Stand p l e R s m args below meth c T' (locs ++ L) (cells + rm.cells) (slots + rm.slots) → Q' v T'.heap L → Go p e below s kc ks Q (T'.setTop { g with pc := g.pc + 3, stack := v.toList ++ rest })) : Go p e below s kc ks Q (T.setTop g) := by
  obtain ⟨v, _, ⟨T', L', k', n'⟩, -, X', ⟨Lc, hQ, l1, l2, l3⟩, st⟩ := X.specialBack hx hy1 hown (mvT hZ w1) (mvT hZ w2) (mvT hZ w4) hy (backOf (W := W) (K []) hZ w4 w3 hf hlo) hg hsize (Steps.refl _) hlen hstack hW hd (fun _ _ => ⟨rfl, eT, hc, hs⟩)
  dsimp only [Pt.U, Pt.locs, Pt.cells, Pt.slots] at X' l1 l2 l3 st hQ
  subst l1 l2 l3
  exact Go.of (fun _ q => st.trans q) (k T' v Lc X' hQ)
theorem Go.virtual (X : Stand p l e R s m args below meth c T locs cells slots) (hx : p.tables.exec = Jvm.exec) (hZ : Z.Warmed39 s.vm) {own C : String} {index : Nat} {y z : MethodName} {bytes : ByteArray} {maxL : Nat} {ret : Option FieldType} {rm : Room} {Q' : Option Value → Heap → List Loc → Prop} {a : Addr} {argsL : List Value}
    (hown : s.vm.findClass own = some m.cls) (w1 : (Cond.methodLink own index y).before a0 Z = true) (w2 : (Cond.declares y).before a0 Z = true) (hnf : NotFace s y) (w5 : (Cond.selects C y z).before a0 Z = true) (w6 : (Cond.instanceMethod z).before a0 Z = true) (w3 : (Cond.initialized z.cls).before a0 Z = true) (w4 : (Cond.code z bytes maxL ret).before a0 Z = true)
    (hy : y.cls ≠ "java/lang/invoke/MethodHandle" ∧ y.cls ≠ "java/lang/invoke/VarHandle") (W : Nat) (eT : T.heap = h) (E : Exa Z h a C) (K : Con l Z z bytes maxL ret rm (Value.ref a :: argsL).toArray h Q') (hf : rm.frames + 1 ≤ R.frames) (hlo : W + (maxL + 11) + rm.locals ≤ R.locals) (hc : cells + rm.cells ≤ R.cells) (hs : slots + rm.slots ≤ R.slots)
    {g : JFrame} (hg : g.method = m) (hsize : g.locals.size = c.maxLocals) {rest : List Value} (hlen : ∀ sig, parseMethodDescriptor y.desc = some sig → argsL.length = sig.parameters.length) (hstack : g.stack = argsL.reverse ++ .ref a :: rest) (hW : 2 * g.monitorRoom + (rest.map fun v => v.category).sum ≤ W)
    (hd : decode c.code g.pc = .ok (.invokevirtual index, 3))
    (k : ∀ (T' : State) (v : Option Value) (L : List Loc), Stand p l e R s m args below meth c T' (locs ++ L) (cells + rm.cells) (slots + rm.slots) → Q' v T'.heap L → Go p e below s kc ks Q (T'.setTop { g with pc := g.pc + 3, stack := v.toList ++ rest })) : Go p e below s kc ks Q (T.setTop g) := by
  obtain ⟨cq, kq, qa, -, qc⟩ := isOf hZ eT E
  obtain ⟨v, _, ⟨T', L', k', n'⟩, -, X', ⟨Lc, hQ, l1, l2, l3⟩, st⟩ := X.virtualBack hx hown (mvT hZ w1) (mvT hZ w2) hnf (mvT hZ w5) (mvT hZ w6) hy (backOf (W := W) (K []) hZ w4 w3 hf hlo) qa qc hg hsize (Steps.refl _) hlen hstack hW hd (fun _ _ => ⟨rfl, eT, hc, hs⟩)
  dsimp only [Pt.U, Pt.locs, Pt.cells, Pt.slots] at X' l1 l2 l3 st hQ
  subst l1 l2 l3
  exact Go.of (fun _ q => st.trans q) (k T' v Lc X' hQ)
theorem Go.virtualUp (X : Stand p l e R s m args below meth c T locs cells slots) (hx : p.tables.exec = Jvm.exec) (hZ : Z.Warmed39 s.vm) {own C owner : String} {index : Nat} {y z : MethodName} {bytes : ByteArray} {maxL : Nat} {ret : Option FieldType} {rm : Room} {Q' : Option Value → Heap → List Loc → Prop} {a : Addr} {argsL : List Value}
    (hown : s.vm.findClass own = some m.cls) (w1 : (Cond.methodLink own index y).before a0 Z = true) (w2 : (Cond.sameMethod y.cls owner y.name y.desc).before a0 Z = true) (w7 : (Cond.declares ⟨owner, y.name, y.desc⟩).before a0 Z = true) (w5 : (Cond.selects C y z).before a0 Z = true) (w6 : (Cond.instanceMethod z).before a0 Z = true) (w3 : (Cond.initialized z.cls).before a0 Z = true) (w4 : (Cond.code z bytes maxL ret).before a0 Z = true)
    (hy : owner ≠ "java/lang/invoke/MethodHandle" ∧ owner ≠ "java/lang/invoke/VarHandle") (W : Nat) (eT : T.heap = h) (E : Exa Z h a C) (K : Con l Z z bytes maxL ret rm (Value.ref a :: argsL).toArray h Q') (hf : rm.frames + 1 ≤ R.frames) (hlo : W + (maxL + 11) + rm.locals ≤ R.locals) (hc : cells + rm.cells ≤ R.cells) (hs : slots + rm.slots ≤ R.slots)
    {g : JFrame} (hg : g.method = m) (hsize : g.locals.size = c.maxLocals) {rest : List Value} (hlen : ∀ sig, parseMethodDescriptor y.desc = some sig → argsL.length = sig.parameters.length) (hstack : g.stack = argsL.reverse ++ .ref a :: rest) (hW : 2 * g.monitorRoom + (rest.map fun v => v.category).sum ≤ W)
    (hd : decode c.code g.pc = .ok (.invokevirtual index, 3))
    (k : ∀ (T' : State) (v : Option Value) (L : List Loc), Stand p l e R s m args below meth c T' (locs ++ L) (cells + rm.cells) (slots + rm.slots) → Q' v T'.heap L → Go p e below s kc ks Q (T'.setTop { g with pc := g.pc + 3, stack := v.toList ++ rest })) : Go p e below s kc ks Q (T.setTop g) := by
  obtain ⟨cq, kq, qa, -, qc⟩ := isOf hZ eT E
  obtain ⟨v, _, ⟨T', L', k', n'⟩, -, X', ⟨Lc, hQ, l1, l2, l3⟩, st⟩ := X.virtualBackUp hx hown (mvT hZ w1) (mvT hZ w2) (mvT hZ w7) hy (mvT hZ w5) (mvT hZ w6) (backOf (W := W) (K []) hZ w4 w3 hf hlo) qa qc hg hsize (Steps.refl _) hlen hstack hW hd (fun _ _ => ⟨rfl, eT, hc, hs⟩)
  dsimp only [Pt.U, Pt.locs, Pt.cells, Pt.slots] at X' l1 l2 l3 st hQ
  subst l1 l2 l3
  exact Go.of (fun _ q => st.trans q) (k T' v Lc X' hQ)
/-- a cast of what may be null -/
theorem castV (X : Stand p l e R s m args below meth c T locs cells slots) (hx : p.tables.exec = Jvm.exec) (hZ : Z.Warmed39 s.vm) {own K : String} {index : Nat} (hown : s.vm.findClass own = some m.cls) (w : (Cond.classLink own index K).before a0 Z = true) (eT : T.heap = h) {v : Value} (F : v = .null ∨ ∃ a, v = .ref a ∧ Ins Z h a K true)
    {g : JFrame} (hg : g.method = m) {rest : List Value} (hs : g.stack = v :: rest) (hd : decode c.code g.pc = .ok (.checkcast index, 3)) : ∃ T', Stand p l e R s m args below meth c T' locs cells slots ∧ T'.heap = h ∧ ∀ target, Steps p.tables e below (T'.setTop { g with pc := g.pc + 3 }) target → Steps p.tables e below (T.setTop g) target := by
  rcases F with rfl | ⟨a, rfl, I⟩
  · exact ⟨T, X, eT, fun target q => X.checkcastNull hx hg hs hd target q⟩
  · exact castY X hx hZ hown w eT I hg hs hd
end Kit
end Jvm.OwnKit
namespace Jvm.Pilot.@@N@@
open Jvm Jvm.ClassFile Sem Op Lib Jvm.Free Jvm.Stand Jvm.LawKit Jvm.RoadKit Jvm.OwnKit Bundle Jvm.Pilot.@@N@@.Jvm.D
theorem own_two (x : Int32) (k : Nat) (mk : Int32) (hk : k ≤ 30) (hm : mk.toBitVec.toNat = 2 ^ k - 1) (y z : Int32) (hy : y.toInt = 2 * z.toInt) : (y < (x &&& mk) * (2 : Int32)) ↔ z < x &&& mk := by
  have a := c_mask x mk k (by omega) hm
  have b := c_imul (x &&& mk) 2
  have r := rng32 ((x &&& mk) * 2)
  have e2 : (2 : Int32).toInt = 2 := by decide
  rw [e2] at b
  have p0 : (0 : Int) < ((2 ^ k : Nat) : Int) := by exact_mod_cast Nat.two_pow_pos k
  have p1 : ((2 ^ k : Nat) : Int) ≤ 1073741824 := by
    have := Nat.pow_le_pow_right (n := 2) (by decide) hk
    have h : (2 : Nat) ^ 30 = 1073741824 := rfl
    omega
  have q0 := Int.emod_nonneg x.toInt (Int.ne_of_gt p0)
  have q1 := Int.emod_lt_of_pos x.toInt p0
  rw [Int32.lt_iff_toInt_lt, Int32.lt_iff_toInt_lt]
  omega
theorem own_plain (x3 x4 : Int32) : (if (4096 : Int32) < ((x3 &&& (8191 : Int32)) * (2 : Int32)) then (1 : Int32) else (if (262144 : Int32) < ((x4 &&& (1073741823 : Int32)) * (2 : Int32)) then (1 : Int32) else (0 : Int32))) = (if (2048 : Int32) < (x3 &&& (8191 : Int32)) then (1 : Int32) else (if (131072 : Int32) < (x4 &&& (1073741823 : Int32)) then (1 : Int32) else (0 : Int32))) := by
  have h1 := own_two x3 13 8191 (by decide) (by decide) 4096 2048 (by decide)
  have h2 := own_two x4 30 1073741823 (by decide) (by decide) 262144 131072 (by decide)
  simp only [h1, h2]
theorem d2_0 : decode jdk_30_method_1_code 0 = .ok (.aload_n 0, 1) := by decide +kernel
theorem d2_1 : decode jdk_30_method_1_code 1 = .ok (.invokespecial 1, 3) := by decide +kernel
theorem d2_4 : decode jdk_30_method_1_code 4 = .ok (.return_, 1) := by decide +kernel
theorem pn0 : plainName "java/lang/Record" = true := by first | (simp [plainName, overriddenIn]; done) | decide +kernel
theorem ef_2 (m : MethodId) (a : Addr) : entryFrame m #[(.ref a)] 1 = mkF m 0 #[.val (.ref a)] [] := by first | (simp [entryFrame, mkF, argsToLocals, Value.category]; done) | rfl
def Q2 (Z : State) (a : Addr) (h0 : Heap) (n0 : Nat) (v : Option Value) (h : Heap) (L : List Loc) : Prop := v = none ∧ Fr n0 L ∧ h = h0
set_option maxRecDepth 65536 in
set_option maxHeartbeats 40000000 in
theorem rm2 (l : Launch) (Z : State) (a0 : Array Value) (hw : ∀ d ∈ tables_1, d.before a0 Z = true) (a : Addr) (h0 : Heap) (n0 : Nat) (Zs : n0 ≤ h0.size)  :
    Con l Z (⟨"java/lang/Record", "<init>", "()V"⟩ : MethodName) jdk_30_method_1_code 1 none ({ frames := 1, cells := 0, slots := 0, locals := 12 } : Room) #[(.ref a)] h0 (Q2 Z a h0 n0) := by
  refine Con.intro (plainFor_of_name pn0) (fun m => ef_2 m a) ?_
  intro p e s m below meth c s₁ hx hby hml0 hZ hown hnm hret hlk X0 e0
  have hml : c.maxLocals = 1 := hml0
  have N0 := Fr.nil n0
  have Kp : Keep h0 h0 [] := Keep.refl h0 _
  show Go _ _ _ _ _ _ _ (s₁.setTop (mkF m 0 #[.val (.ref a)] []))
  refine Go.of (fun _ q => XS.aloadN X0.here hx rfl (hb hby d2_0) rfl rfl q) ?_
  show Go _ _ _ _ _ _ _ (s₁.setTop (mkF m 1 #[.val (.ref a)] [(.ref a)]))
  obtain ⟨T1, X1, e1, st1⟩ := initO X0 hx hZ hown (hw _ (List.mem_of_getElem? (i := 13) rfl)) (hw _ (List.mem_of_getElem? (i := 14) rfl)) (hw _ (List.mem_of_getElem? (i := 15) rfl)) e0 (g := (mkF m 1 #[.val (.ref a)] [(.ref a)])) rfl (by rw [hml]; rfl) rfl (hb hby d2_1) (by decide) (W := 0) (by show 2 * 0 + _ ≤ _; exact Nat.le_of_eq rfl) (by decide)
  refine Go.of st1 ?_
  show Go _ _ _ _ _ _ _ (T1.setTop (mkF m 4 #[.val (.ref a)] []))
  refine Go.retV X1 hx hlk hret (hb hby d2_4) (by decide) (by decide) ?_
  rw [e1]
  exact ⟨rfl, N0, rfl⟩
theorem pd0 : parseMethodDescriptor "()V" = some ⟨[], none⟩ := by decide +kernel
theorem d1_0 : decode prog_48_method_1_code 0 = .ok (.aload_n 0, 1) := by decide +kernel
theorem d1_1 : decode prog_48_method_1_code 1 = .ok (.invokespecial 1, 3) := by decide +kernel
theorem d1_4 : decode prog_48_method_1_code 4 = .ok (.aload_n 0, 1) := by decide +kernel
theorem d1_5 : decode prog_48_method_1_code 5 = .ok (.lload_n 1, 1) := by decide +kernel
theorem d1_6 : decode prog_48_method_1_code 6 = .ok (.putfield 7, 3) := by decide +kernel
theorem d1_9 : decode prog_48_method_1_code 9 = .ok (.aload_n 0, 1) := by decide +kernel
theorem d1_10 : decode prog_48_method_1_code 10 = .ok (.lload_n 3, 1) := by decide +kernel
theorem d1_11 : decode prog_48_method_1_code 11 = .ok (.putfield 13, 3) := by decide +kernel
theorem d1_14 : decode prog_48_method_1_code 14 = .ok (.aload_n 0, 1) := by decide +kernel
theorem d1_15 : decode prog_48_method_1_code 15 = .ok (.iload 5, 2) := by decide +kernel
theorem d1_17 : decode prog_48_method_1_code 17 = .ok (.putfield 16, 3) := by decide +kernel
theorem d1_20 : decode prog_48_method_1_code 20 = .ok (.aload_n 0, 1) := by decide +kernel
theorem d1_21 : decode prog_48_method_1_code 21 = .ok (.iload 6, 2) := by decide +kernel
theorem d1_23 : decode prog_48_method_1_code 23 = .ok (.putfield 20, 3) := by decide +kernel
theorem d1_26 : decode prog_48_method_1_code 26 = .ok (.return_, 1) := by decide +kernel
theorem pn1 : plainName "com/example/linger/linger/postgres/Batches$Outline" = true := by first | (simp [plainName, overriddenIn]; done) | decide +kernel
theorem ef_1 (m : MethodId) (a : Addr) (f1 : Int64) (l1 : Int64) (c1 : Int32) (g1 : Int32) : entryFrame m #[(.ref a), (.long f1), (.long l1), (.int c1), (.int g1)] 7 = mkF m 0 #[.val (.ref a), .val (.long f1), .second, .val (.long l1), .second, .val (.int c1), .val (.int g1)] [] := by first | (simp [entryFrame, mkF, argsToLocals, Value.category]; done) | rfl
def Q1 (Z : State) (a : Addr) (f1 : Int64) (l1 : Int64) (c1 : Int32) (g1 : Int32) (u1 : Int64) (u2 : Int64) (u3 : Int32) (u4 : Int32) (h0 : Heap) (n0 : Nat) (v : Option Value) (h : Heap) (L : List Loc) : Prop := v = none ∧ Fr n0 L ∧ Keep h0 h [a] ∧ Exa Z h a "com/example/linger/linger/postgres/Batches$Outline" ∧ Fld Z h a "com/example/linger/linger/postgres/Batches$Outline" "count" "I" (.int c1) ∧ Fld Z h a "com/example/linger/linger/postgres/Batches$Outline" "length" "I" (.int g1)
set_option maxRecDepth 65536 in
set_option maxHeartbeats 40000000 in
theorem rm1 (l : Launch) (Z : State) (a0 : Array Value) (hw : ∀ d ∈ tables_1, d.before a0 Z = true) (a : Addr) (f1 : Int64) (l1 : Int64) (c1 : Int32) (g1 : Int32) (u1 : Int64) (u2 : Int64) (u3 : Int32) (u4 : Int32) (h0 : Heap) (n0 : Nat) (Zs : n0 ≤ h0.size) (E_a : Exa Z h0 a "com/example/linger/linger/postgres/Batches$Outline") (F_a_first : Fld Z h0 a "com/example/linger/linger/postgres/Batches$Outline" "first" "J" (.long u1)) (F_a_last : Fld Z h0 a "com/example/linger/linger/postgres/Batches$Outline" "last" "J" (.long u2)) (F_a_count : Fld Z h0 a "com/example/linger/linger/postgres/Batches$Outline" "count" "I" (.int u3)) (F_a_length : Fld Z h0 a "com/example/linger/linger/postgres/Batches$Outline" "length" "I" (.int u4)) (g_a : n0 ≤ a) :
    Con l Z (⟨"com/example/linger/linger/postgres/Batches$Outline", "<init>", "(JJII)V"⟩ : MethodName) prog_48_method_1_code 7 none ({ frames := 2, cells := 0, slots := 0, locals := 24 } : Room) #[(.ref a), (.long f1), (.long l1), (.int c1), (.int g1)] h0 (Q1 Z a f1 l1 c1 g1 u1 u2 u3 u4 h0 n0) := by
  refine Con.intro (plainFor_of_name pn1) (fun m => ef_1 m a f1 l1 c1 g1) ?_
  intro p e s m below meth c s₁ hx hby hml0 hZ hown hnm hret hlk X0 e0
  have hml : c.maxLocals = 7 := hml0
  have N0 := Fr.nil n0
  have Kp : Keep h0 h0 [a] := Keep.refl h0 _
  show Go _ _ _ _ _ _ _ (s₁.setTop (mkF m 0 #[.val (.ref a), .val (.long f1), .second, .val (.long l1), .second, .val (.int c1), .val (.int g1)] []))
  refine Go.of (fun _ q => XS.aloadN X0.here hx rfl (hb hby d1_0) rfl rfl q) ?_
  show Go _ _ _ _ _ _ _ (s₁.setTop (mkF m 1 #[.val (.ref a), .val (.long f1), .second, .val (.long l1), .second, .val (.int c1), .val (.int g1)] [(.ref a)]))
  refine Go.special X0 hx hZ (y := (⟨"java/lang/Record", "<init>", "()V"⟩ : MethodName)) (a := a) (argsL := []) rfl hown (hw _ (List.mem_of_getElem? (i := 8) rfl)) (hw _ (List.mem_of_getElem? (i := 9) rfl)) (hw _ (List.mem_of_getElem? (i := 11) rfl)) (hw _ (List.mem_of_getElem? (i := 12) rfl)) (by decide) 0 e0 (rm2 l Z a0 hw a h0 n0 Zs ) (by decide) (by decide) (by decide) (by decide) (g := (mkF m 1 #[.val (.ref a), .val (.long f1), .second, .val (.long l1), .second, .val (.int c1), .val (.int g1)] [(.ref a)])) rfl (by rw [hml]; rfl) (rest := []) (lenOf pd0 rfl) rfl (by show 2 * 0 + _ ≤ _; exact Nat.le_of_eq rfl) (hb hby d1_1) ?_
  intro T1 v1 L1 X1 q1
  obtain ⟨rfl, Nq1, e1⟩ := q1
  have N1 := Fr.app N0 Nq1
  show Go _ _ _ _ _ _ _ (T1.setTop (mkF m 4 #[.val (.ref a), .val (.long f1), .second, .val (.long l1), .second, .val (.int c1), .val (.int g1)] []))
  refine Go.of (fun _ q => XS.aloadN X1.here hx rfl (hb hby d1_4) rfl rfl q) ?_
  show Go _ _ _ _ _ _ _ (T1.setTop (mkF m 5 #[.val (.ref a), .val (.long f1), .second, .val (.long l1), .second, .val (.int c1), .val (.int g1)] [(.ref a)]))
  refine Go.of (fun _ q => XS.lloadN X1.here hx rfl (hb hby d1_5) rfl q) ?_
  show Go _ _ _ _ _ _ _ (T1.setTop (mkF m 6 #[.val (.ref a), .val (.long f1), .second, .val (.long l1), .second, .val (.int c1), .val (.int g1)] [(.long f1), (.ref a)]))
  obtain ⟨T2, h2, X2, e2, W2, st2⟩ := putF X1 hx hZ hown (host := "") (Or.inl (hw _ (List.mem_of_getElem? (i := 16) rfl))) Via.refl e1 F_a_first E_a (Or.inr ⟨(hw _ (List.mem_of_getElem? (i := 17) rfl)), rfl, hnm⟩) (hw _ (List.mem_of_getElem? (i := 3) rfl)) (ty := .long) (by decide) rfl rfl (g := (mkF m 6 #[.val (.ref a), .val (.long f1), .second, .val (.long l1), .second, .val (.int c1), .val (.int g1)] [(.long f1), (.ref a)])) rfl rfl (hb hby d1_6)
  refine Go.of st2 ?_
  have Zs := Nat.le_trans Zs (Nat.le_of_eq W2.size.symm)
  have Kp := Kp.wr W2 (Or.inl (List.mem_of_getElem? (i := 0) rfl))
  have E_a := E_a.wr W2
  have F_a_first := F_a_first.same W2
  have F_a_last := F_a_last.other W2 (Or.inr (slot_ne (Or.inr (hw _ (List.mem_of_getElem? (i := 19) rfl))) (Or.inr (hw _ (List.mem_of_getElem? (i := 17) rfl))) (by decide) (t := .long) (t' := .long) (by decide) (by decide)))
  have F_a_count := F_a_count.other W2 (Or.inr (slot_ne (Or.inr (hw _ (List.mem_of_getElem? (i := 21) rfl))) (Or.inr (hw _ (List.mem_of_getElem? (i := 17) rfl))) (by decide) (t := .int) (t' := .long) (by decide) (by decide)))
  have F_a_length := F_a_length.other W2 (Or.inr (slot_ne (Or.inr (hw _ (List.mem_of_getElem? (i := 23) rfl))) (Or.inr (hw _ (List.mem_of_getElem? (i := 17) rfl))) (by decide) (t := .int) (t' := .long) (by decide) (by decide)))
  have N2 := Fr.snoc X2 N1 g_a
  show Go _ _ _ _ _ _ _ (T2.setTop (mkF m 9 #[.val (.ref a), .val (.long f1), .second, .val (.long l1), .second, .val (.int c1), .val (.int g1)] []))
  refine Go.of (fun _ q => XS.aloadN X2.here hx rfl (hb hby d1_9) rfl rfl q) ?_
  show Go _ _ _ _ _ _ _ (T2.setTop (mkF m 10 #[.val (.ref a), .val (.long f1), .second, .val (.long l1), .second, .val (.int c1), .val (.int g1)] [(.ref a)]))
  refine Go.of (fun _ q => XS.lloadN X2.here hx rfl (hb hby d1_10) rfl q) ?_
  show Go _ _ _ _ _ _ _ (T2.setTop (mkF m 11 #[.val (.ref a), .val (.long f1), .second, .val (.long l1), .second, .val (.int c1), .val (.int g1)] [(.long l1), (.ref a)]))
  obtain ⟨T3, h3, X3, e3, W3, st3⟩ := putF X2 hx hZ hown (host := "") (Or.inl (hw _ (List.mem_of_getElem? (i := 18) rfl))) Via.refl e2 F_a_last E_a (Or.inr ⟨(hw _ (List.mem_of_getElem? (i := 19) rfl)), rfl, hnm⟩) (hw _ (List.mem_of_getElem? (i := 3) rfl)) (ty := .long) (by decide) rfl rfl (g := (mkF m 11 #[.val (.ref a), .val (.long f1), .second, .val (.long l1), .second, .val (.int c1), .val (.int g1)] [(.long l1), (.ref a)])) rfl rfl (hb hby d1_11)
  refine Go.of st3 ?_
  have Zs := Nat.le_trans Zs (Nat.le_of_eq W3.size.symm)
  have Kp := Kp.wr W3 (Or.inl (List.mem_of_getElem? (i := 0) rfl))
  have E_a := E_a.wr W3
  have F_a_first := F_a_first.other W3 (Or.inr (slot_ne (Or.inr (hw _ (List.mem_of_getElem? (i := 17) rfl))) (Or.inr (hw _ (List.mem_of_getElem? (i := 19) rfl))) (by decide) (t := .long) (t' := .long) (by decide) (by decide)))
  have F_a_last := F_a_last.same W3
  have F_a_count := F_a_count.other W3 (Or.inr (slot_ne (Or.inr (hw _ (List.mem_of_getElem? (i := 21) rfl))) (Or.inr (hw _ (List.mem_of_getElem? (i := 19) rfl))) (by decide) (t := .int) (t' := .long) (by decide) (by decide)))
  have F_a_length := F_a_length.other W3 (Or.inr (slot_ne (Or.inr (hw _ (List.mem_of_getElem? (i := 23) rfl))) (Or.inr (hw _ (List.mem_of_getElem? (i := 19) rfl))) (by decide) (t := .int) (t' := .long) (by decide) (by decide)))
  have N3 := Fr.snoc X3 N2 g_a
  show Go _ _ _ _ _ _ _ (T3.setTop (mkF m 14 #[.val (.ref a), .val (.long f1), .second, .val (.long l1), .second, .val (.int c1), .val (.int g1)] []))
  refine Go.of (fun _ q => XS.aloadN X3.here hx rfl (hb hby d1_14) rfl rfl q) ?_
  show Go _ _ _ _ _ _ _ (T3.setTop (mkF m 15 #[.val (.ref a), .val (.long f1), .second, .val (.long l1), .second, .val (.int c1), .val (.int g1)] [(.ref a)]))
  refine Go.of (fun _ q => XS.iload X3.here hx rfl (hb hby d1_15) rfl q) ?_
  show Go _ _ _ _ _ _ _ (T3.setTop (mkF m 17 #[.val (.ref a), .val (.long f1), .second, .val (.long l1), .second, .val (.int c1), .val (.int g1)] [(.int c1), (.ref a)]))
  obtain ⟨T4, h4, X4, e4, W4, st4⟩ := putF X3 hx hZ hown (host := "") (Or.inl (hw _ (List.mem_of_getElem? (i := 20) rfl))) Via.refl e3 F_a_count E_a (Or.inr ⟨(hw _ (List.mem_of_getElem? (i := 21) rfl)), rfl, hnm⟩) (hw _ (List.mem_of_getElem? (i := 3) rfl)) (ty := .int) (by decide) rfl rfl (g := (mkF m 17 #[.val (.ref a), .val (.long f1), .second, .val (.long l1), .second, .val (.int c1), .val (.int g1)] [(.int c1), (.ref a)])) rfl rfl (hb hby d1_17)
  refine Go.of st4 ?_
  have Zs := Nat.le_trans Zs (Nat.le_of_eq W4.size.symm)
  have Kp := Kp.wr W4 (Or.inl (List.mem_of_getElem? (i := 0) rfl))
  have E_a := E_a.wr W4
  have F_a_first := F_a_first.other W4 (Or.inr (slot_ne (Or.inr (hw _ (List.mem_of_getElem? (i := 17) rfl))) (Or.inr (hw _ (List.mem_of_getElem? (i := 21) rfl))) (by decide) (t := .long) (t' := .int) (by decide) (by decide)))
  have F_a_last := F_a_last.other W4 (Or.inr (slot_ne (Or.inr (hw _ (List.mem_of_getElem? (i := 19) rfl))) (Or.inr (hw _ (List.mem_of_getElem? (i := 21) rfl))) (by decide) (t := .long) (t' := .int) (by decide) (by decide)))
  have F_a_count := F_a_count.same W4
  have F_a_length := F_a_length.other W4 (Or.inr (slot_ne (Or.inr (hw _ (List.mem_of_getElem? (i := 23) rfl))) (Or.inr (hw _ (List.mem_of_getElem? (i := 21) rfl))) (by decide) (t := .int) (t' := .int) (by decide) (by decide)))
  have N4 := Fr.snoc X4 N3 g_a
  show Go _ _ _ _ _ _ _ (T4.setTop (mkF m 20 #[.val (.ref a), .val (.long f1), .second, .val (.long l1), .second, .val (.int c1), .val (.int g1)] []))
  refine Go.of (fun _ q => XS.aloadN X4.here hx rfl (hb hby d1_20) rfl rfl q) ?_
  show Go _ _ _ _ _ _ _ (T4.setTop (mkF m 21 #[.val (.ref a), .val (.long f1), .second, .val (.long l1), .second, .val (.int c1), .val (.int g1)] [(.ref a)]))
  refine Go.of (fun _ q => XS.iload X4.here hx rfl (hb hby d1_21) rfl q) ?_
  show Go _ _ _ _ _ _ _ (T4.setTop (mkF m 23 #[.val (.ref a), .val (.long f1), .second, .val (.long l1), .second, .val (.int c1), .val (.int g1)] [(.int g1), (.ref a)]))
  obtain ⟨T5, h5, X5, e5, W5, st5⟩ := putF X4 hx hZ hown (host := "") (Or.inl (hw _ (List.mem_of_getElem? (i := 22) rfl))) Via.refl e4 F_a_length E_a (Or.inr ⟨(hw _ (List.mem_of_getElem? (i := 23) rfl)), rfl, hnm⟩) (hw _ (List.mem_of_getElem? (i := 3) rfl)) (ty := .int) (by decide) rfl rfl (g := (mkF m 23 #[.val (.ref a), .val (.long f1), .second, .val (.long l1), .second, .val (.int c1), .val (.int g1)] [(.int g1), (.ref a)])) rfl rfl (hb hby d1_23)
  refine Go.of st5 ?_
  have Zs := Nat.le_trans Zs (Nat.le_of_eq W5.size.symm)
  have Kp := Kp.wr W5 (Or.inl (List.mem_of_getElem? (i := 0) rfl))
  have E_a := E_a.wr W5
  have F_a_first := F_a_first.other W5 (Or.inr (slot_ne (Or.inr (hw _ (List.mem_of_getElem? (i := 17) rfl))) (Or.inr (hw _ (List.mem_of_getElem? (i := 23) rfl))) (by decide) (t := .long) (t' := .int) (by decide) (by decide)))
  have F_a_last := F_a_last.other W5 (Or.inr (slot_ne (Or.inr (hw _ (List.mem_of_getElem? (i := 19) rfl))) (Or.inr (hw _ (List.mem_of_getElem? (i := 23) rfl))) (by decide) (t := .long) (t' := .int) (by decide) (by decide)))
  have F_a_count := F_a_count.other W5 (Or.inr (slot_ne (Or.inr (hw _ (List.mem_of_getElem? (i := 21) rfl))) (Or.inr (hw _ (List.mem_of_getElem? (i := 23) rfl))) (by decide) (t := .int) (t' := .int) (by decide) (by decide)))
  have F_a_length := F_a_length.same W5
  have N5 := Fr.snoc X5 N4 g_a
  show Go _ _ _ _ _ _ _ (T5.setTop (mkF m 26 #[.val (.ref a), .val (.long f1), .second, .val (.long l1), .second, .val (.int c1), .val (.int g1)] []))
  refine Go.retV X5 hx hlk hret (hb hby d1_26) (by decide) (by decide) ?_
  rw [e5]
  exact ⟨rfl, N5, Kp, E_a, F_a_count, F_a_length⟩
theorem d5_0 : decode prog_48_method_7_code 0 = .ok (.aload_n 0, 1) := by decide +kernel
theorem d5_1 : decode prog_48_method_7_code 1 = .ok (.getfield 16, 3) := by decide +kernel
theorem d5_4 : decode prog_48_method_7_code 4 = .ok (.ireturn, 1) := by decide +kernel
theorem ef_5 (m : MethodId) (a : Addr) : entryFrame m #[(.ref a)] 1 = mkF m 0 #[.val (.ref a)] [] := by first | (simp [entryFrame, mkF, argsToLocals, Value.category]; done) | rfl
def Q5 (Z : State) (a : Addr) (u3 : Int32) (h0 : Heap) (n0 : Nat) (v : Option Value) (h : Heap) (L : List Loc) : Prop := v = some (.int u3) ∧ Fr n0 L ∧ h = h0
set_option maxRecDepth 65536 in
set_option maxHeartbeats 40000000 in
theorem rm5 (l : Launch) (Z : State) (a0 : Array Value) (hw : ∀ d ∈ tables_1, d.before a0 Z = true) (a : Addr) (u3 : Int32) (h0 : Heap) (n0 : Nat) (Zs : n0 ≤ h0.size) (F_a_count : Fld Z h0 a "com/example/linger/linger/postgres/Batches$Outline" "count" "I" (.int u3)) :
    Con l Z (⟨"com/example/linger/linger/postgres/Batches$Outline", "count", "()I"⟩ : MethodName) prog_48_method_7_code 1 (some .int) ({ frames := 0, cells := 0, slots := 0, locals := 0 } : Room) #[(.ref a)] h0 (Q5 Z a u3 h0 n0) := by
  refine Con.intro (plainFor_of_name pn1) (fun m => ef_5 m a) ?_
  intro p e s m below meth c s₁ hx hby hml0 hZ hown hnm hret hlk X0 e0
  have hml : c.maxLocals = 1 := hml0
  have N0 := Fr.nil n0
  have Kp : Keep h0 h0 [] := Keep.refl h0 _
  show Go _ _ _ _ _ _ _ (s₁.setTop (mkF m 0 #[.val (.ref a)] []))
  refine Go.of (fun _ q => XS.aloadN X0.here hx rfl (hb hby d5_0) rfl rfl q) ?_
  show Go _ _ _ _ _ _ _ (s₁.setTop (mkF m 1 #[.val (.ref a)] [(.ref a)]))
  obtain ⟨T1, X1, e1, st1⟩ := getF X0 hx hZ hown (host := "") (Or.inl (hw _ (List.mem_of_getElem? (i := 20) rfl))) Via.refl e0 F_a_count (g := (mkF m 1 #[.val (.ref a)] [(.ref a)])) rfl rfl (hb hby d5_1)
  refine Go.of st1 ?_
  show Go _ _ _ _ _ _ _ (T1.setTop (mkF m 4 #[.val (.ref a)] [(.int u3)]))
  refine Go.retI X1 hx hlk hret (hb hby d5_4) (by decide) (by decide) ?_
  rw [e1]
  exact ⟨rfl, N0, rfl⟩
theorem d6_0 : decode prog_48_method_8_code 0 = .ok (.aload_n 0, 1) := by decide +kernel
theorem d6_1 : decode prog_48_method_8_code 1 = .ok (.getfield 20, 3) := by decide +kernel
theorem d6_4 : decode prog_48_method_8_code 4 = .ok (.ireturn, 1) := by decide +kernel
theorem ef_6 (m : MethodId) (a : Addr) : entryFrame m #[(.ref a)] 1 = mkF m 0 #[.val (.ref a)] [] := by first | (simp [entryFrame, mkF, argsToLocals, Value.category]; done) | rfl
def Q6 (Z : State) (a : Addr) (u4 : Int32) (h0 : Heap) (n0 : Nat) (v : Option Value) (h : Heap) (L : List Loc) : Prop := v = some (.int u4) ∧ Fr n0 L ∧ h = h0
set_option maxRecDepth 65536 in
set_option maxHeartbeats 40000000 in
theorem rm6 (l : Launch) (Z : State) (a0 : Array Value) (hw : ∀ d ∈ tables_1, d.before a0 Z = true) (a : Addr) (u4 : Int32) (h0 : Heap) (n0 : Nat) (Zs : n0 ≤ h0.size) (F_a_length : Fld Z h0 a "com/example/linger/linger/postgres/Batches$Outline" "length" "I" (.int u4)) :
    Con l Z (⟨"com/example/linger/linger/postgres/Batches$Outline", "length", "()I"⟩ : MethodName) prog_48_method_8_code 1 (some .int) ({ frames := 0, cells := 0, slots := 0, locals := 0 } : Room) #[(.ref a)] h0 (Q6 Z a u4 h0 n0) := by
  refine Con.intro (plainFor_of_name pn1) (fun m => ef_6 m a) ?_
  intro p e s m below meth c s₁ hx hby hml0 hZ hown hnm hret hlk X0 e0
  have hml : c.maxLocals = 1 := hml0
  have N0 := Fr.nil n0
  have Kp : Keep h0 h0 [] := Keep.refl h0 _
  show Go _ _ _ _ _ _ _ (s₁.setTop (mkF m 0 #[.val (.ref a)] []))
  refine Go.of (fun _ q => XS.aloadN X0.here hx rfl (hb hby d6_0) rfl rfl q) ?_
  show Go _ _ _ _ _ _ _ (s₁.setTop (mkF m 1 #[.val (.ref a)] [(.ref a)]))
  obtain ⟨T1, X1, e1, st1⟩ := getF X0 hx hZ hown (host := "") (Or.inl (hw _ (List.mem_of_getElem? (i := 22) rfl))) Via.refl e0 F_a_length (g := (mkF m 1 #[.val (.ref a)] [(.ref a)])) rfl rfl (hb hby d6_1)
  refine Go.of st1 ?_
  show Go _ _ _ _ _ _ _ (T1.setTop (mkF m 4 #[.val (.ref a)] [(.int u4)]))
  refine Go.retI X1 hx hlk hret (hb hby d6_4) (by decide) (by decide) ?_
  rw [e1]
  exact ⟨rfl, N0, rfl⟩
theorem d7_0 : decode prog_46_method_9_code 0 = .ok (.iload_n 0, 1) := by decide +kernel
theorem d7_1 : decode prog_46_method_9_code 1 = .ok (.iconst 2, 1) := by decide +kernel
theorem d7_2 : decode prog_46_method_9_code 2 = .ok (.imul, 1) := by decide +kernel
theorem d7_3 : decode prog_46_method_9_code 3 = .ok (.sipush 4096, 3) := by decide +kernel
theorem d7_6 : decode prog_46_method_9_code 6 = .ok (.if_icmp .gt 11, 3) := by decide +kernel
theorem d7_9 : decode prog_46_method_9_code 9 = .ok (.iload_n 1, 1) := by decide +kernel
theorem d7_10 : decode prog_46_method_9_code 10 = .ok (.iconst 2, 1) := by decide +kernel
theorem d7_11 : decode prog_46_method_9_code 11 = .ok (.imul, 1) := by decide +kernel
theorem d7_12 : decode prog_46_method_9_code 12 = .ok (.ldc 54, 2) := by decide +kernel
theorem d7_14 : decode prog_46_method_9_code 14 = .ok (.if_icmp .le 7, 3) := by decide +kernel
theorem d7_17 : decode prog_46_method_9_code 17 = .ok (.iconst 1, 1) := by decide +kernel
theorem d7_18 : decode prog_46_method_9_code 18 = .ok (.goto 4, 3) := by decide +kernel
theorem d7_21 : decode prog_46_method_9_code 21 = .ok (.iconst 0, 1) := by decide +kernel
theorem d7_22 : decode prog_46_method_9_code 22 = .ok (.ireturn, 1) := by decide +kernel
theorem pn2 : plainName "com/example/linger/linger/postgres/Batches" = true := by first | (simp [plainName, overriddenIn]; done) | decide +kernel
theorem ef_7 (m : MethodId) (u : Int32) (w : Int32) : entryFrame m #[(.int u), (.int w)] 2 = mkF m 0 #[.val (.int u), .val (.int w)] [] := by first | (simp [entryFrame, mkF, argsToLocals, Value.category]; done) | rfl
def Q7 (Z : State) (u : Int32) (w : Int32) (h0 : Heap) (n0 : Nat) (v : Option Value) (h : Heap) (L : List Loc) : Prop := v = some (.int (if (4096 : Int32) < (u * (2 : Int32)) then (1 : Int32) else (if (262144 : Int32) < (w * (2 : Int32)) then (1 : Int32) else (0 : Int32)))) ∧ Fr n0 L ∧ h = h0
set_option maxRecDepth 65536 in
set_option maxHeartbeats 40000000 in
theorem rm7 (l : Launch) (Z : State) (a0 : Array Value) (hw : ∀ d ∈ tables_1, d.before a0 Z = true) (u : Int32) (w : Int32) (h0 : Heap) (n0 : Nat) (Zs : n0 ≤ h0.size)  :
    Con l Z (⟨"com/example/linger/linger/postgres/Batches", "moreThanHalfFull", "(II)Z"⟩ : MethodName) prog_46_method_9_code 2 (some .boolean) ({ frames := 0, cells := 0, slots := 0, locals := 0 } : Room) #[(.int u), (.int w)] h0 (Q7 Z u w h0 n0) := by
  refine Con.intro (plainFor_of_name pn2) (fun m => ef_7 m u w) ?_
  intro p e s m below meth c s₁ hx hby hml0 hZ hown hnm hret hlk X0 e0
  have hml : c.maxLocals = 2 := hml0
  have N0 := Fr.nil n0
  have Kp : Keep h0 h0 [] := Keep.refl h0 _
  show Go _ _ _ _ _ _ _ (s₁.setTop (mkF m 0 #[.val (.int u), .val (.int w)] []))
  refine Go.of (fun _ q => XS.iloadN X0.here hx rfl (hb hby d7_0) rfl q) ?_
  show Go _ _ _ _ _ _ _ (s₁.setTop (mkF m 1 #[.val (.int u), .val (.int w)] [(.int u)]))
  refine Go.of (fun _ q => XS.iconst X0.here hx rfl (hb hby d7_1) q) ?_
  show Go _ _ _ _ _ _ _ (s₁.setTop (mkF m 2 #[.val (.int u), .val (.int w)] [(.int (2 : Int32)), (.int u)]))
  refine Go.of (fun _ q => XS.imul X0.here hx rfl (hb hby d7_2) rfl q) ?_
  show Go _ _ _ _ _ _ _ (s₁.setTop (mkF m 3 #[.val (.int u), .val (.int w)] [(.int (u * (2 : Int32)))]))
  refine Go.of (fun _ q => XS.sipush X0.here hx rfl (hb hby d7_3) q) ?_
  show Go _ _ _ _ _ _ _ (s₁.setTop (mkF m 6 #[.val (.int u), .val (.int w)] [(.int (4096 : Int32)), (.int (u * (2 : Int32)))]))
  by_cases c6 : (4096 : Int32) < (u * (2 : Int32))
  · refine Go.of (fun _ q => XS.icmpYes X0.here hx rfl (pc0 := 6) (pc' := 17) rfl (hb hby d7_6) rfl (tlt c6).2.2.1 (by decide) (by decide) q) ?_
    show Go _ _ _ _ _ _ _ (s₁.setTop (mkF m 17 #[.val (.int u), .val (.int w)] []))
    refine Go.of (fun _ q => XS.iconst X0.here hx rfl (hb hby d7_17) q) ?_
    show Go _ _ _ _ _ _ _ (s₁.setTop (mkF m 18 #[.val (.int u), .val (.int w)] [(.int (1 : Int32))]))
    refine Go.of (fun _ q => XS.goto X0.here hx rfl (pc0 := 18) (pc' := 22) rfl (hb hby d7_18) (by decide) (by decide) q) ?_
    show Go _ _ _ _ _ _ _ (s₁.setTop (mkF m 22 #[.val (.int u), .val (.int w)] [(.int (1 : Int32))]))
    refine Go.retN X0 hx hlk (t := .boolean) hret (by simp) (hb hby d7_22) rfl (by decide) (by decide) ?_
    rw [e0]
    exact ⟨(by rw [if_pos c6]), N0, rfl⟩
  · refine Go.of (fun _ q => XS.icmpNo X0.here hx rfl (hb hby d7_6) rfl (flt c6).2.2.1 q) ?_
    show Go _ _ _ _ _ _ _ (s₁.setTop (mkF m 9 #[.val (.int u), .val (.int w)] []))
    refine Go.of (fun _ q => XS.iloadN X0.here hx rfl (hb hby d7_9) rfl q) ?_
    show Go _ _ _ _ _ _ _ (s₁.setTop (mkF m 10 #[.val (.int u), .val (.int w)] [(.int w)]))
    refine Go.of (fun _ q => XS.iconst X0.here hx rfl (hb hby d7_10) q) ?_
    show Go _ _ _ _ _ _ _ (s₁.setTop (mkF m 11 #[.val (.int u), .val (.int w)] [(.int (2 : Int32)), (.int w)]))
    refine Go.of (fun _ q => XS.imul X0.here hx rfl (hb hby d7_11) rfl q) ?_
    show Go _ _ _ _ _ _ _ (s₁.setTop (mkF m 12 #[.val (.int u), .val (.int w)] [(.int (w * (2 : Int32)))]))
    refine Go.of (fun _ q => X0.ldcInt hx hown (mvT hZ (hw _ (List.mem_of_getElem? (i := 41) rfl))) (g := (mkF m 12 #[.val (.int u), .val (.int w)] [(.int (w * (2 : Int32)))])) rfl (hb hby d7_12) _ q) ?_
    show Go _ _ _ _ _ _ _ (s₁.setTop (mkF m 14 #[.val (.int u), .val (.int w)] [(.int (262144 : Int32)), (.int (w * (2 : Int32)))]))
    by_cases c14 : (262144 : Int32) < (w * (2 : Int32))
    · refine Go.of (fun _ q => XS.icmpNo X0.here hx rfl (hb hby d7_14) rfl (tlt c14).2.2.2 q) ?_
      show Go _ _ _ _ _ _ _ (s₁.setTop (mkF m 17 #[.val (.int u), .val (.int w)] []))
      refine Go.of (fun _ q => XS.iconst X0.here hx rfl (hb hby d7_17) q) ?_
      show Go _ _ _ _ _ _ _ (s₁.setTop (mkF m 18 #[.val (.int u), .val (.int w)] [(.int (1 : Int32))]))
      refine Go.of (fun _ q => XS.goto X0.here hx rfl (pc0 := 18) (pc' := 22) rfl (hb hby d7_18) (by decide) (by decide) q) ?_
      show Go _ _ _ _ _ _ _ (s₁.setTop (mkF m 22 #[.val (.int u), .val (.int w)] [(.int (1 : Int32))]))
      refine Go.retN X0 hx hlk (t := .boolean) hret (by simp) (hb hby d7_22) rfl (by decide) (by decide) ?_
      rw [e0]
      exact ⟨(by rw [if_neg c6, if_pos c14]), N0, rfl⟩
    · refine Go.of (fun _ q => XS.icmpYes X0.here hx rfl (pc0 := 14) (pc' := 21) rfl (hb hby d7_14) rfl (flt c14).2.2.2 (by decide) (by decide) q) ?_
      show Go _ _ _ _ _ _ _ (s₁.setTop (mkF m 21 #[.val (.int u), .val (.int w)] []))
      refine Go.of (fun _ q => XS.iconst X0.here hx rfl (hb hby d7_21) q) ?_
      show Go _ _ _ _ _ _ _ (s₁.setTop (mkF m 22 #[.val (.int u), .val (.int w)] [(.int (0 : Int32))]))
      refine Go.retN X0 hx hlk (t := .boolean) hret (by simp) (hb hby d7_22) rfl (by decide) (by decide) ?_
      rw [e0]
      exact ⟨(by rw [if_neg c6, if_neg c14]), N0, rfl⟩
theorem pd1 : parseMethodDescriptor "()I" = some ⟨[], some .int⟩ := by decide +kernel
theorem pd2 : parseMethodDescriptor "(II)Z" = some ⟨[.int, .int], some .boolean⟩ := by decide +kernel
theorem d4_0 : decode prog_46_method_6_code 0 = .ok (.aload_n 0, 1) := by decide +kernel
theorem d4_1 : decode prog_46_method_6_code 1 = .ok (.invokevirtual 96, 3) := by decide +kernel
theorem d4_4 : decode prog_46_method_6_code 4 = .ok (.aload_n 0, 1) := by decide +kernel
theorem d4_5 : decode prog_46_method_6_code 5 = .ok (.invokevirtual 97, 3) := by decide +kernel
theorem d4_8 : decode prog_46_method_6_code 8 = .ok (.invokestatic 150, 3) := by decide +kernel
theorem d4_11 : decode prog_46_method_6_code 11 = .ok (.ireturn, 1) := by decide +kernel
theorem ef_4 (m : MethodId) (a : Addr) : entryFrame m #[(.ref a)] 1 = mkF m 0 #[.val (.ref a)] [] := by first | (simp [entryFrame, mkF, argsToLocals, Value.category]; done) | rfl
def Q4 (Z : State) (a : Addr) (u3 : Int32) (u4 : Int32) (h0 : Heap) (n0 : Nat) (v : Option Value) (h : Heap) (L : List Loc) : Prop := v = some (.int (if (4096 : Int32) < (u3 * (2 : Int32)) then (1 : Int32) else (if (262144 : Int32) < (u4 * (2 : Int32)) then (1 : Int32) else (0 : Int32)))) ∧ Fr n0 L ∧ h = h0
set_option maxRecDepth 65536 in
set_option maxHeartbeats 40000000 in
theorem rm4 (l : Launch) (Z : State) (a0 : Array Value) (hw : ∀ d ∈ tables_1, d.before a0 Z = true) (a : Addr) (u3 : Int32) (u4 : Int32) (h0 : Heap) (n0 : Nat) (Zs : n0 ≤ h0.size) (E_a : Exa Z h0 a "com/example/linger/linger/postgres/Batches$Outline") (F_a_count : Fld Z h0 a "com/example/linger/linger/postgres/Batches$Outline" "count" "I" (.int u3)) (F_a_length : Fld Z h0 a "com/example/linger/linger/postgres/Batches$Outline" "length" "I" (.int u4)) :
    Con l Z (⟨"com/example/linger/linger/postgres/Batches", "settled", "(Lcom/example/linger/linger/postgres/Batches$Outline;)Z"⟩ : MethodName) prog_46_method_6_code 1 (some .boolean) ({ frames := 1, cells := 0, slots := 0, locals := 13 } : Room) #[(.ref a)] h0 (Q4 Z a u3 u4 h0 n0) := by
  refine Con.intro (plainFor_of_name pn2) (fun m => ef_4 m a) ?_
  intro p e s m below meth c s₁ hx hby hml0 hZ hown hnm hret hlk X0 e0
  have hml : c.maxLocals = 1 := hml0
  have N0 := Fr.nil n0
  have Kp : Keep h0 h0 [] := Keep.refl h0 _
  show Go _ _ _ _ _ _ _ (s₁.setTop (mkF m 0 #[.val (.ref a)] []))
  refine Go.of (fun _ q => XS.aloadN X0.here hx rfl (hb hby d4_0) rfl rfl q) ?_
  show Go _ _ _ _ _ _ _ (s₁.setTop (mkF m 1 #[.val (.ref a)] [(.ref a)]))
  refine Go.virtual X0 hx hZ (y := (⟨"com/example/linger/linger/postgres/Batches$Outline", "count", "()I"⟩ : MethodName)) (z := (⟨"com/example/linger/linger/postgres/Batches$Outline", "count", "()I"⟩ : MethodName)) (a := a) (argsL := []) hown (hw _ (List.mem_of_getElem? (i := 28) rfl)) (hw _ (List.mem_of_getElem? (i := 29) rfl)) (notFace_of_selects (args := #[]) (mvT hZ (hw _ (List.mem_of_getElem? (i := 31) rfl)))) (hw _ (List.mem_of_getElem? (i := 31) rfl)) (hw _ (List.mem_of_getElem? (i := 30) rfl)) (hw _ (List.mem_of_getElem? (i := 4) rfl)) (hw _ (List.mem_of_getElem? (i := 32) rfl)) (by decide) 0 e0 E_a (rm5 l Z a0 hw a u3 h0 n0 Zs F_a_count) (by decide) (by decide) (by decide) (by decide) (g := (mkF m 1 #[.val (.ref a)] [(.ref a)])) rfl (by rw [hml]; rfl) (rest := []) (lenOf pd1 rfl) rfl (by show 2 * 0 + _ ≤ _; exact Nat.le_of_eq rfl) (hb hby d4_1) ?_
  intro T1 v1 L1 X1 q1
  obtain ⟨rfl, Nq1, e1⟩ := q1
  have N1 := Fr.app N0 Nq1
  show Go _ _ _ _ _ _ _ (T1.setTop (mkF m 4 #[.val (.ref a)] [(.int u3)]))
  refine Go.of (fun _ q => XS.aloadN X1.here hx rfl (hb hby d4_4) rfl rfl q) ?_
  show Go _ _ _ _ _ _ _ (T1.setTop (mkF m 5 #[.val (.ref a)] [(.ref a), (.int u3)]))
  refine Go.virtual X1 hx hZ (y := (⟨"com/example/linger/linger/postgres/Batches$Outline", "length", "()I"⟩ : MethodName)) (z := (⟨"com/example/linger/linger/postgres/Batches$Outline", "length", "()I"⟩ : MethodName)) (a := a) (argsL := []) hown (hw _ (List.mem_of_getElem? (i := 33) rfl)) (hw _ (List.mem_of_getElem? (i := 34) rfl)) (notFace_of_selects (args := #[]) (mvT hZ (hw _ (List.mem_of_getElem? (i := 36) rfl)))) (hw _ (List.mem_of_getElem? (i := 36) rfl)) (hw _ (List.mem_of_getElem? (i := 35) rfl)) (hw _ (List.mem_of_getElem? (i := 4) rfl)) (hw _ (List.mem_of_getElem? (i := 37) rfl)) (by decide) 1 e1 E_a (rm6 l Z a0 hw a u4 h0 n0 Zs F_a_length) (by decide) (by decide) (by decide) (by decide) (g := (mkF m 5 #[.val (.ref a)] [(.ref a), (.int u3)])) rfl (by rw [hml]; rfl) (rest := [(.int u3)]) (lenOf pd1 rfl) rfl (by show 2 * 0 + _ ≤ _; exact Nat.le_of_eq rfl) (hb hby d4_5) ?_
  intro T2 v2 L2 X2 q2
  obtain ⟨rfl, Nq2, e2⟩ := q2
  have N2 := Fr.app N1 Nq2
  show Go _ _ _ _ _ _ _ (T2.setTop (mkF m 8 #[.val (.ref a)] [(.int u4), (.int u3)]))
  refine Go.static X2 hx hZ (y := (⟨"com/example/linger/linger/postgres/Batches", "moreThanHalfFull", "(II)Z"⟩ : MethodName)) (argsL := [(.int u3), (.int u4)]) hown (hw _ (List.mem_of_getElem? (i := 38) rfl)) (hw _ (List.mem_of_getElem? (i := 39) rfl)) (hw _ (List.mem_of_getElem? (i := 26) rfl)) (hw _ (List.mem_of_getElem? (i := 40) rfl)) (by decide) 0 e2 (rm7 l Z a0 hw u3 u4 h0 n0 Zs ) (by decide) (by decide) (by decide) (by decide) (g := (mkF m 8 #[.val (.ref a)] [(.int u4), (.int u3)])) rfl (by rw [hml]; rfl) (rest := []) (lenOf pd2 rfl) rfl (by show 2 * 0 + _ ≤ _; exact Nat.le_of_eq rfl) (hb hby d4_8) ?_
  intro T3 v3 L3 X3 q3
  obtain ⟨rfl, Nq3, e3⟩ := q3
  have N3 := Fr.app N2 Nq3
  show Go _ _ _ _ _ _ _ (T3.setTop (mkF m 11 #[.val (.ref a)] [(.int (if (4096 : Int32) < (u3 * (2 : Int32)) then (1 : Int32) else (if (262144 : Int32) < (u4 * (2 : Int32)) then (1 : Int32) else (0 : Int32))))]))
  refine Go.retN X3 hx hlk (t := .boolean) hret (by simp) (hb hby d4_11) (by first | rfl | (split <;> rfl) | (repeat' split) <;> rfl) (by decide) (by decide) ?_
  rw [e3]
  exact ⟨rfl, N3, rfl⟩
theorem pd3 : parseMethodDescriptor "(JJII)V" = some ⟨[.long, .long, .int, .int], none⟩ := by decide +kernel
theorem pd4 : parseMethodDescriptor "(Lcom/example/linger/linger/postgres/Batches$Outline;)Z" = some ⟨[(.object "com/example/linger/linger/postgres/Batches$Outline")], some .boolean⟩ := by decide +kernel
theorem pn3 : plainName "com/example/linger/linger/postgres/BatchesSettledPinLaw" = true := by first | (simp [plainName, overriddenIn]; done) | decide +kernel
theorem ef_0 (m : MethodId) (x1 : Int64) (x2 : Int64) (x3 : Int32) (x4 : Int32) : entryFrame m #[(.long x1), (.long x2), (.int x3), (.int x4)] maxLocals = mkF m 0 #[.val (.long x1), .second, .val (.long x2), .second, .val (.int x3), .val (.int x4), .unset, .unset, .unset, .unset, .unset, .unset] [] := by first | (simp [entryFrame, mkF, argsToLocals, Value.category, maxLocals]; done) | rfl
def Q0 (Z : State) (x1 : Int64) (x2 : Int64) (x3 : Int32) (x4 : Int32) (h0 : Heap) (n0 : Nat) (v : Option Value) (h : Heap) (L : List Loc) : Prop := v = some (.int (1 : Int32)) ∧ Fr n0 L
set_option maxRecDepth 65536 in
set_option maxHeartbeats 40000000 in
theorem rm0 (l : Launch) (Z : State) (a0 : Array Value) (hw : ∀ d ∈ tables_1, d.before a0 Z = true) (x1 : Int64) (x2 : Int64) (x3 : Int32) (x4 : Int32) (h0 : Heap) (n0 : Nat) (Zs : n0 ≤ h0.size)  :
    Con l Z x code maxLocals ret room_1 #[(.long x1), (.long x2), (.int x3), (.int x4)] h0 (Q0 Z x1 x2 x3 x4 h0 n0) := by
  refine Con.intro (plainFor_of_name pn3) (fun m => ef_0 m x1 x2 x3 x4) ?_
  intro p e s m below meth c s₁ hx hby hml0 hZ hown hnm hret hlk X0 e0
  have hml : c.maxLocals = 12 := hml0
  have N0 := Fr.nil n0
  have Kp : Keep h0 h0 [] := Keep.refl h0 _
  show Go _ _ _ _ _ _ _ (s₁.setTop (mkF m 0 #[.val (.long x1), .second, .val (.long x2), .second, .val (.int x3), .val (.int x4), .unset, .unset, .unset, .unset, .unset, .unset] []))
  refine Go.of (fun _ q => XS.iload X0.here hx rfl (hb hby at_0) rfl q) ?_
  show Go _ _ _ _ _ _ _ (s₁.setTop (mkF m 2 #[.val (.long x1), .second, .val (.long x2), .second, .val (.int x3), .val (.int x4), .unset, .unset, .unset, .unset, .unset, .unset] [(.int x3)]))
  refine Go.of (fun _ q => XS.sipush X0.here hx rfl (hb hby at_2) q) ?_
  show Go _ _ _ _ _ _ _ (s₁.setTop (mkF m 5 #[.val (.long x1), .second, .val (.long x2), .second, .val (.int x3), .val (.int x4), .unset, .unset, .unset, .unset, .unset, .unset] [(.int (8191 : Int32)), (.int x3)]))
  refine Go.of (fun _ q => XS.iand X0.here hx rfl (hb hby at_5) rfl q) ?_
  show Go _ _ _ _ _ _ _ (s₁.setTop (mkF m 6 #[.val (.long x1), .second, .val (.long x2), .second, .val (.int x3), .val (.int x4), .unset, .unset, .unset, .unset, .unset, .unset] [(.int (x3 &&& (8191 : Int32)))]))
  refine Go.of (fun _ q => XS.istore X0.here hx rfl (hb hby at_6) rfl (l' := #[.val (.long x1), .second, .val (.long x2), .second, .val (.int x3), .val (.int x4), .val (.int (x3 &&& (8191 : Int32))), .unset, .unset, .unset, .unset, .unset]) rfl q) ?_
  show Go _ _ _ _ _ _ _ (s₁.setTop (mkF m 8 #[.val (.long x1), .second, .val (.long x2), .second, .val (.int x3), .val (.int x4), .val (.int (x3 &&& (8191 : Int32))), .unset, .unset, .unset, .unset, .unset] []))
  refine Go.of (fun _ q => XS.iload X0.here hx rfl (hb hby at_8) rfl q) ?_
  show Go _ _ _ _ _ _ _ (s₁.setTop (mkF m 10 #[.val (.long x1), .second, .val (.long x2), .second, .val (.int x3), .val (.int x4), .val (.int (x3 &&& (8191 : Int32))), .unset, .unset, .unset, .unset, .unset] [(.int x4)]))
  refine Go.of (fun _ q => X0.ldcInt hx hown (mvT hZ (hw _ (List.mem_of_getElem? (i := 0) rfl))) (g := (mkF m 10 #[.val (.long x1), .second, .val (.long x2), .second, .val (.int x3), .val (.int x4), .val (.int (x3 &&& (8191 : Int32))), .unset, .unset, .unset, .unset, .unset] [(.int x4)])) rfl (hb hby at_10) _ q) ?_
  show Go _ _ _ _ _ _ _ (s₁.setTop (mkF m 12 #[.val (.long x1), .second, .val (.long x2), .second, .val (.int x3), .val (.int x4), .val (.int (x3 &&& (8191 : Int32))), .unset, .unset, .unset, .unset, .unset] [(.int (1073741823 : Int32)), (.int x4)]))
  refine Go.of (fun _ q => XS.iand X0.here hx rfl (hb hby at_12) rfl q) ?_
  show Go _ _ _ _ _ _ _ (s₁.setTop (mkF m 13 #[.val (.long x1), .second, .val (.long x2), .second, .val (.int x3), .val (.int x4), .val (.int (x3 &&& (8191 : Int32))), .unset, .unset, .unset, .unset, .unset] [(.int (x4 &&& (1073741823 : Int32)))]))
  refine Go.of (fun _ q => XS.istore X0.here hx rfl (hb hby at_13) rfl (l' := #[.val (.long x1), .second, .val (.long x2), .second, .val (.int x3), .val (.int x4), .val (.int (x3 &&& (8191 : Int32))), .val (.int (x4 &&& (1073741823 : Int32))), .unset, .unset, .unset, .unset]) rfl q) ?_
  show Go _ _ _ _ _ _ _ (s₁.setTop (mkF m 15 #[.val (.long x1), .second, .val (.long x2), .second, .val (.int x3), .val (.int x4), .val (.int (x3 &&& (8191 : Int32))), .val (.int (x4 &&& (1073741823 : Int32))), .unset, .unset, .unset, .unset] []))
  refine Go.of (fun _ q => XS.iload X0.here hx rfl (hb hby at_15) rfl q) ?_
  show Go _ _ _ _ _ _ _ (s₁.setTop (mkF m 17 #[.val (.long x1), .second, .val (.long x2), .second, .val (.int x3), .val (.int x4), .val (.int (x3 &&& (8191 : Int32))), .val (.int (x4 &&& (1073741823 : Int32))), .unset, .unset, .unset, .unset] [(.int (x3 &&& (8191 : Int32)))]))
  refine Go.of (fun _ q => XS.sipush X0.here hx rfl (hb hby at_17) q) ?_
  show Go _ _ _ _ _ _ _ (s₁.setTop (mkF m 20 #[.val (.long x1), .second, .val (.long x2), .second, .val (.int x3), .val (.int x4), .val (.int (x3 &&& (8191 : Int32))), .val (.int (x4 &&& (1073741823 : Int32))), .unset, .unset, .unset, .unset] [(.int (2048 : Int32)), (.int (x3 &&& (8191 : Int32)))]))
  have J1 : ∀ (zJ1_0 : Int32), zJ1_0 = (if (2048 : Int32) < (x3 &&& (8191 : Int32)) then (1 : Int32) else (0 : Int32)) → Go p e below s room_1.cells room_1.slots (Q0 Z x1 x2 x3 x4 h0 n0) (s₁.setTop (mkF m 28 #[.val (.long x1), .second, .val (.long x2), .second, .val (.int x3), .val (.int x4), .val (.int (x3 &&& (8191 : Int32))), .val (.int (x4 &&& (1073741823 : Int32))), .unset, .unset, .unset, .unset] [(.int zJ1_0)])) := by
    intro zJ1_0 hzJ1_0
    subst hzJ1_0
    show Go _ _ _ _ _ _ _ (s₁.setTop (mkF m 28 #[.val (.long x1), .second, .val (.long x2), .second, .val (.int x3), .val (.int x4), .val (.int (x3 &&& (8191 : Int32))), .val (.int (x4 &&& (1073741823 : Int32))), .unset, .unset, .unset, .unset] [(.int (if (2048 : Int32) < (x3 &&& (8191 : Int32)) then (1 : Int32) else (0 : Int32)))]))
    refine Go.of (fun _ q => XS.istore X0.here hx rfl (hb hby at_28) rfl (l' := #[.val (.long x1), .second, .val (.long x2), .second, .val (.int x3), .val (.int x4), .val (.int (x3 &&& (8191 : Int32))), .val (.int (x4 &&& (1073741823 : Int32))), .val (.int (if (2048 : Int32) < (x3 &&& (8191 : Int32)) then (1 : Int32) else (0 : Int32))), .unset, .unset, .unset]) rfl q) ?_
    show Go _ _ _ _ _ _ _ (s₁.setTop (mkF m 30 #[.val (.long x1), .second, .val (.long x2), .second, .val (.int x3), .val (.int x4), .val (.int (x3 &&& (8191 : Int32))), .val (.int (x4 &&& (1073741823 : Int32))), .val (.int (if (2048 : Int32) < (x3 &&& (8191 : Int32)) then (1 : Int32) else (0 : Int32))), .unset, .unset, .unset] []))
    refine Go.of (fun _ q => XS.iload X0.here hx rfl (hb hby at_30) rfl q) ?_
    show Go _ _ _ _ _ _ _ (s₁.setTop (mkF m 32 #[.val (.long x1), .second, .val (.long x2), .second, .val (.int x3), .val (.int x4), .val (.int (x3 &&& (8191 : Int32))), .val (.int (x4 &&& (1073741823 : Int32))), .val (.int (if (2048 : Int32) < (x3 &&& (8191 : Int32)) then (1 : Int32) else (0 : Int32))), .unset, .unset, .unset] [(.int (x4 &&& (1073741823 : Int32)))]))
    refine Go.of (fun _ q => X0.ldcInt hx hown (mvT hZ (hw _ (List.mem_of_getElem? (i := 1) rfl))) (g := (mkF m 32 #[.val (.long x1), .second, .val (.long x2), .second, .val (.int x3), .val (.int x4), .val (.int (x3 &&& (8191 : Int32))), .val (.int (x4 &&& (1073741823 : Int32))), .val (.int (if (2048 : Int32) < (x3 &&& (8191 : Int32)) then (1 : Int32) else (0 : Int32))), .unset, .unset, .unset] [(.int (x4 &&& (1073741823 : Int32)))])) rfl (hb hby at_32) _ q) ?_
    show Go _ _ _ _ _ _ _ (s₁.setTop (mkF m 34 #[.val (.long x1), .second, .val (.long x2), .second, .val (.int x3), .val (.int x4), .val (.int (x3 &&& (8191 : Int32))), .val (.int (x4 &&& (1073741823 : Int32))), .val (.int (if (2048 : Int32) < (x3 &&& (8191 : Int32)) then (1 : Int32) else (0 : Int32))), .unset, .unset, .unset] [(.int (131072 : Int32)), (.int (x4 &&& (1073741823 : Int32)))]))
    have J2 : ∀ (zJ2_0 : Int32), zJ2_0 = (if (131072 : Int32) < (x4 &&& (1073741823 : Int32)) then (1 : Int32) else (0 : Int32)) → Go p e below s room_1.cells room_1.slots (Q0 Z x1 x2 x3 x4 h0 n0) (s₁.setTop (mkF m 42 #[.val (.long x1), .second, .val (.long x2), .second, .val (.int x3), .val (.int x4), .val (.int (x3 &&& (8191 : Int32))), .val (.int (x4 &&& (1073741823 : Int32))), .val (.int (if (2048 : Int32) < (x3 &&& (8191 : Int32)) then (1 : Int32) else (0 : Int32))), .unset, .unset, .unset] [(.int zJ2_0)])) := by
      intro zJ2_0 hzJ2_0
      subst hzJ2_0
      show Go _ _ _ _ _ _ _ (s₁.setTop (mkF m 42 #[.val (.long x1), .second, .val (.long x2), .second, .val (.int x3), .val (.int x4), .val (.int (x3 &&& (8191 : Int32))), .val (.int (x4 &&& (1073741823 : Int32))), .val (.int (if (2048 : Int32) < (x3 &&& (8191 : Int32)) then (1 : Int32) else (0 : Int32))), .unset, .unset, .unset] [(.int (if (131072 : Int32) < (x4 &&& (1073741823 : Int32)) then (1 : Int32) else (0 : Int32)))]))
      refine Go.of (fun _ q => XS.istore X0.here hx rfl (hb hby at_42) rfl (l' := #[.val (.long x1), .second, .val (.long x2), .second, .val (.int x3), .val (.int x4), .val (.int (x3 &&& (8191 : Int32))), .val (.int (x4 &&& (1073741823 : Int32))), .val (.int (if (2048 : Int32) < (x3 &&& (8191 : Int32)) then (1 : Int32) else (0 : Int32))), .val (.int (if (131072 : Int32) < (x4 &&& (1073741823 : Int32)) then (1 : Int32) else (0 : Int32))), .unset, .unset]) rfl q) ?_
      show Go _ _ _ _ _ _ _ (s₁.setTop (mkF m 44 #[.val (.long x1), .second, .val (.long x2), .second, .val (.int x3), .val (.int x4), .val (.int (x3 &&& (8191 : Int32))), .val (.int (x4 &&& (1073741823 : Int32))), .val (.int (if (2048 : Int32) < (x3 &&& (8191 : Int32)) then (1 : Int32) else (0 : Int32))), .val (.int (if (131072 : Int32) < (x4 &&& (1073741823 : Int32)) then (1 : Int32) else (0 : Int32))), .unset, .unset] []))
      refine Go.of (fun _ q => XS.iload X0.here hx rfl (hb hby at_44) rfl q) ?_
      show Go _ _ _ _ _ _ _ (s₁.setTop (mkF m 46 #[.val (.long x1), .second, .val (.long x2), .second, .val (.int x3), .val (.int x4), .val (.int (x3 &&& (8191 : Int32))), .val (.int (x4 &&& (1073741823 : Int32))), .val (.int (if (2048 : Int32) < (x3 &&& (8191 : Int32)) then (1 : Int32) else (0 : Int32))), .val (.int (if (131072 : Int32) < (x4 &&& (1073741823 : Int32)) then (1 : Int32) else (0 : Int32))), .unset, .unset] [(.int (if (2048 : Int32) < (x3 &&& (8191 : Int32)) then (1 : Int32) else (0 : Int32)))]))
      have J3 : ∀ (zJ3_0 : Int32), zJ3_0 = (if (2048 : Int32) < (x3 &&& (8191 : Int32)) then (1 : Int32) else (if (131072 : Int32) < (x4 &&& (1073741823 : Int32)) then (1 : Int32) else (0 : Int32))) → Go p e below s room_1.cells room_1.slots (Q0 Z x1 x2 x3 x4 h0 n0) (s₁.setTop (mkF m 59 #[.val (.long x1), .second, .val (.long x2), .second, .val (.int x3), .val (.int x4), .val (.int (x3 &&& (8191 : Int32))), .val (.int (x4 &&& (1073741823 : Int32))), .val (.int (if (2048 : Int32) < (x3 &&& (8191 : Int32)) then (1 : Int32) else (0 : Int32))), .val (.int (if (131072 : Int32) < (x4 &&& (1073741823 : Int32)) then (1 : Int32) else (0 : Int32))), .unset, .unset] [(.int zJ3_0)])) := by
        intro zJ3_0 hzJ3_0
        subst hzJ3_0
        show Go _ _ _ _ _ _ _ (s₁.setTop (mkF m 59 #[.val (.long x1), .second, .val (.long x2), .second, .val (.int x3), .val (.int x4), .val (.int (x3 &&& (8191 : Int32))), .val (.int (x4 &&& (1073741823 : Int32))), .val (.int (if (2048 : Int32) < (x3 &&& (8191 : Int32)) then (1 : Int32) else (0 : Int32))), .val (.int (if (131072 : Int32) < (x4 &&& (1073741823 : Int32)) then (1 : Int32) else (0 : Int32))), .unset, .unset] [(.int (if (2048 : Int32) < (x3 &&& (8191 : Int32)) then (1 : Int32) else (if (131072 : Int32) < (x4 &&& (1073741823 : Int32)) then (1 : Int32) else (0 : Int32))))]))
        refine Go.of (fun _ q => XS.istore X0.here hx rfl (hb hby at_59) rfl (l' := #[.val (.long x1), .second, .val (.long x2), .second, .val (.int x3), .val (.int x4), .val (.int (x3 &&& (8191 : Int32))), .val (.int (x4 &&& (1073741823 : Int32))), .val (.int (if (2048 : Int32) < (x3 &&& (8191 : Int32)) then (1 : Int32) else (0 : Int32))), .val (.int (if (131072 : Int32) < (x4 &&& (1073741823 : Int32)) then (1 : Int32) else (0 : Int32))), .val (.int (if (2048 : Int32) < (x3 &&& (8191 : Int32)) then (1 : Int32) else (if (131072 : Int32) < (x4 &&& (1073741823 : Int32)) then (1 : Int32) else (0 : Int32)))), .unset]) rfl q) ?_
        show Go _ _ _ _ _ _ _ (s₁.setTop (mkF m 61 #[.val (.long x1), .second, .val (.long x2), .second, .val (.int x3), .val (.int x4), .val (.int (x3 &&& (8191 : Int32))), .val (.int (x4 &&& (1073741823 : Int32))), .val (.int (if (2048 : Int32) < (x3 &&& (8191 : Int32)) then (1 : Int32) else (0 : Int32))), .val (.int (if (131072 : Int32) < (x4 &&& (1073741823 : Int32)) then (1 : Int32) else (0 : Int32))), .val (.int (if (2048 : Int32) < (x3 &&& (8191 : Int32)) then (1 : Int32) else (if (131072 : Int32) < (x4 &&& (1073741823 : Int32)) then (1 : Int32) else (0 : Int32)))), .unset] []))
        obtain ⟨T4, h4, X4, e4, E4, A4, D4, -, st4⟩ := newO X0 hx hZ hown (hw _ (List.mem_of_getElem? (i := 2) rfl)) (hw _ (List.mem_of_getElem? (i := 3) rfl)) (hw _ (List.mem_of_getElem? (i := 4) rfl)) e0 (g := (mkF m 61 #[.val (.long x1), .second, .val (.long x2), .second, .val (.int x3), .val (.int x4), .val (.int (x3 &&& (8191 : Int32))), .val (.int (x4 &&& (1073741823 : Int32))), .val (.int (if (2048 : Int32) < (x3 &&& (8191 : Int32)) then (1 : Int32) else (0 : Int32))), .val (.int (if (131072 : Int32) < (x4 &&& (1073741823 : Int32)) then (1 : Int32) else (0 : Int32))), .val (.int (if (2048 : Int32) < (x3 &&& (8191 : Int32)) then (1 : Int32) else (if (131072 : Int32) < (x4 &&& (1073741823 : Int32)) then (1 : Int32) else (0 : Int32)))), .unset] [])) rfl (hb hby at_61) (by decide) (by decide)
        obtain ⟨b4, g4⟩ : ∃ z, z = h0.size := ⟨_, rfl⟩
        rw [← g4] at A4 D4 st4
        refine Go.of st4 ?_
        have g_b4 : n0 ≤ b4 := Nat.le_trans Zs (Nat.le_of_eq g4.symm)
        have sz_b4 : h0.size ≤ b4 := Nat.le_trans Kp.1 (Nat.le_of_eq g4.symm)
        have Zs := Nat.le_trans Zs E4.1
        have Kp := Kp.ext E4
        have E_b4 := A4
        have F_b4_first : Fld Z h4 b4 "com/example/linger/linger/postgres/Batches$Outline" "first" "J" (.long (0 : Int64)) := D4 (Or.inr (hw _ (List.mem_of_getElem? (i := 17) rfl))) (ty := .long) (by decide)
        have F_b4_last : Fld Z h4 b4 "com/example/linger/linger/postgres/Batches$Outline" "last" "J" (.long (0 : Int64)) := D4 (Or.inr (hw _ (List.mem_of_getElem? (i := 19) rfl))) (ty := .long) (by decide)
        have F_b4_count : Fld Z h4 b4 "com/example/linger/linger/postgres/Batches$Outline" "count" "I" (.int (0 : Int32)) := D4 (Or.inr (hw _ (List.mem_of_getElem? (i := 21) rfl))) (ty := .int) (by decide)
        have F_b4_length : Fld Z h4 b4 "com/example/linger/linger/postgres/Batches$Outline" "length" "I" (.int (0 : Int32)) := D4 (Or.inr (hw _ (List.mem_of_getElem? (i := 23) rfl))) (ty := .int) (by decide)
        show Go _ _ _ _ _ _ _ (T4.setTop (mkF m 64 #[.val (.long x1), .second, .val (.long x2), .second, .val (.int x3), .val (.int x4), .val (.int (x3 &&& (8191 : Int32))), .val (.int (x4 &&& (1073741823 : Int32))), .val (.int (if (2048 : Int32) < (x3 &&& (8191 : Int32)) then (1 : Int32) else (0 : Int32))), .val (.int (if (131072 : Int32) < (x4 &&& (1073741823 : Int32)) then (1 : Int32) else (0 : Int32))), .val (.int (if (2048 : Int32) < (x3 &&& (8191 : Int32)) then (1 : Int32) else (if (131072 : Int32) < (x4 &&& (1073741823 : Int32)) then (1 : Int32) else (0 : Int32)))), .unset] [(.ref b4)]))
        refine Go.of (fun _ q => XS.dup X4.here hx rfl (hb hby at_64) rfl rfl q) ?_
        show Go _ _ _ _ _ _ _ (T4.setTop (mkF m 65 #[.val (.long x1), .second, .val (.long x2), .second, .val (.int x3), .val (.int x4), .val (.int (x3 &&& (8191 : Int32))), .val (.int (x4 &&& (1073741823 : Int32))), .val (.int (if (2048 : Int32) < (x3 &&& (8191 : Int32)) then (1 : Int32) else (0 : Int32))), .val (.int (if (131072 : Int32) < (x4 &&& (1073741823 : Int32)) then (1 : Int32) else (0 : Int32))), .val (.int (if (2048 : Int32) < (x3 &&& (8191 : Int32)) then (1 : Int32) else (if (131072 : Int32) < (x4 &&& (1073741823 : Int32)) then (1 : Int32) else (0 : Int32)))), .unset] [(.ref b4), (.ref b4)]))
        refine Go.of (fun _ q => XS.lloadN X4.here hx rfl (hb hby at_65) rfl q) ?_
        show Go _ _ _ _ _ _ _ (T4.setTop (mkF m 66 #[.val (.long x1), .second, .val (.long x2), .second, .val (.int x3), .val (.int x4), .val (.int (x3 &&& (8191 : Int32))), .val (.int (x4 &&& (1073741823 : Int32))), .val (.int (if (2048 : Int32) < (x3 &&& (8191 : Int32)) then (1 : Int32) else (0 : Int32))), .val (.int (if (131072 : Int32) < (x4 &&& (1073741823 : Int32)) then (1 : Int32) else (0 : Int32))), .val (.int (if (2048 : Int32) < (x3 &&& (8191 : Int32)) then (1 : Int32) else (if (131072 : Int32) < (x4 &&& (1073741823 : Int32)) then (1 : Int32) else (0 : Int32)))), .unset] [(.long x1), (.ref b4), (.ref b4)]))
        refine Go.of (fun _ q => XS.lloadN X4.here hx rfl (hb hby at_66) rfl q) ?_
        show Go _ _ _ _ _ _ _ (T4.setTop (mkF m 67 #[.val (.long x1), .second, .val (.long x2), .second, .val (.int x3), .val (.int x4), .val (.int (x3 &&& (8191 : Int32))), .val (.int (x4 &&& (1073741823 : Int32))), .val (.int (if (2048 : Int32) < (x3 &&& (8191 : Int32)) then (1 : Int32) else (0 : Int32))), .val (.int (if (131072 : Int32) < (x4 &&& (1073741823 : Int32)) then (1 : Int32) else (0 : Int32))), .val (.int (if (2048 : Int32) < (x3 &&& (8191 : Int32)) then (1 : Int32) else (if (131072 : Int32) < (x4 &&& (1073741823 : Int32)) then (1 : Int32) else (0 : Int32)))), .unset] [(.long x2), (.long x1), (.ref b4), (.ref b4)]))
        refine Go.of (fun _ q => XS.iload X4.here hx rfl (hb hby at_67) rfl q) ?_
        show Go _ _ _ _ _ _ _ (T4.setTop (mkF m 69 #[.val (.long x1), .second, .val (.long x2), .second, .val (.int x3), .val (.int x4), .val (.int (x3 &&& (8191 : Int32))), .val (.int (x4 &&& (1073741823 : Int32))), .val (.int (if (2048 : Int32) < (x3 &&& (8191 : Int32)) then (1 : Int32) else (0 : Int32))), .val (.int (if (131072 : Int32) < (x4 &&& (1073741823 : Int32)) then (1 : Int32) else (0 : Int32))), .val (.int (if (2048 : Int32) < (x3 &&& (8191 : Int32)) then (1 : Int32) else (if (131072 : Int32) < (x4 &&& (1073741823 : Int32)) then (1 : Int32) else (0 : Int32)))), .unset] [(.int (x3 &&& (8191 : Int32))), (.long x2), (.long x1), (.ref b4), (.ref b4)]))
        refine Go.of (fun _ q => XS.iload X4.here hx rfl (hb hby at_69) rfl q) ?_
        show Go _ _ _ _ _ _ _ (T4.setTop (mkF m 71 #[.val (.long x1), .second, .val (.long x2), .second, .val (.int x3), .val (.int x4), .val (.int (x3 &&& (8191 : Int32))), .val (.int (x4 &&& (1073741823 : Int32))), .val (.int (if (2048 : Int32) < (x3 &&& (8191 : Int32)) then (1 : Int32) else (0 : Int32))), .val (.int (if (131072 : Int32) < (x4 &&& (1073741823 : Int32)) then (1 : Int32) else (0 : Int32))), .val (.int (if (2048 : Int32) < (x3 &&& (8191 : Int32)) then (1 : Int32) else (if (131072 : Int32) < (x4 &&& (1073741823 : Int32)) then (1 : Int32) else (0 : Int32)))), .unset] [(.int (x4 &&& (1073741823 : Int32))), (.int (x3 &&& (8191 : Int32))), (.long x2), (.long x1), (.ref b4), (.ref b4)]))
        refine Go.special X4 hx hZ (y := (⟨"com/example/linger/linger/postgres/Batches$Outline", "<init>", "(JJII)V"⟩ : MethodName)) (a := b4) (argsL := [(.long x1), (.long x2), (.int (x3 &&& (8191 : Int32))), (.int (x4 &&& (1073741823 : Int32)))]) rfl hown (hw _ (List.mem_of_getElem? (i := 5) rfl)) (hw _ (List.mem_of_getElem? (i := 6) rfl)) (hw _ (List.mem_of_getElem? (i := 4) rfl)) (hw _ (List.mem_of_getElem? (i := 7) rfl)) (by decide) 1 e4 (rm1 l Z a0 hw b4 x1 x2 (x3 &&& (8191 : Int32)) (x4 &&& (1073741823 : Int32)) (0 : Int64) (0 : Int64) (0 : Int32) (0 : Int32) h4 n0 Zs E_b4 F_b4_first F_b4_last F_b4_count F_b4_length g_b4) (by decide) (by decide) (by decide) (by decide) (g := (mkF m 71 #[.val (.long x1), .second, .val (.long x2), .second, .val (.int x3), .val (.int x4), .val (.int (x3 &&& (8191 : Int32))), .val (.int (x4 &&& (1073741823 : Int32))), .val (.int (if (2048 : Int32) < (x3 &&& (8191 : Int32)) then (1 : Int32) else (0 : Int32))), .val (.int (if (131072 : Int32) < (x4 &&& (1073741823 : Int32)) then (1 : Int32) else (0 : Int32))), .val (.int (if (2048 : Int32) < (x3 &&& (8191 : Int32)) then (1 : Int32) else (if (131072 : Int32) < (x4 &&& (1073741823 : Int32)) then (1 : Int32) else (0 : Int32)))), .unset] [(.int (x4 &&& (1073741823 : Int32))), (.int (x3 &&& (8191 : Int32))), (.long x2), (.long x1), (.ref b4), (.ref b4)])) rfl (by rw [hml]; rfl) (rest := [(.ref b4)]) (lenOf pd3 rfl) rfl (by show 2 * 0 + _ ≤ _; exact Nat.le_of_eq rfl) (hb hby at_71) ?_
        intro T5 v5 L5 X5 q5
        obtain ⟨rfl, Nq5, K5, f5_0, f5_1, f5_2⟩ := q5
        have N5 := Fr.app N0 Nq5
        have Zs := Nat.le_trans Zs K5.1
        have Kp := Kp.trans K5 (allS (P := fun x => x ∈ [] ∨ h0.size ≤ x) (Or.inr sz_b4) all0)
        have E_b4 := E_b4.keep K5
        have F_b4_count := f5_1
        have F_b4_length := f5_2
        show Go _ _ _ _ _ _ _ (T5.setTop (mkF m 74 #[.val (.long x1), .second, .val (.long x2), .second, .val (.int x3), .val (.int x4), .val (.int (x3 &&& (8191 : Int32))), .val (.int (x4 &&& (1073741823 : Int32))), .val (.int (if (2048 : Int32) < (x3 &&& (8191 : Int32)) then (1 : Int32) else (0 : Int32))), .val (.int (if (131072 : Int32) < (x4 &&& (1073741823 : Int32)) then (1 : Int32) else (0 : Int32))), .val (.int (if (2048 : Int32) < (x3 &&& (8191 : Int32)) then (1 : Int32) else (if (131072 : Int32) < (x4 &&& (1073741823 : Int32)) then (1 : Int32) else (0 : Int32)))), .unset] [(.ref b4)]))
        refine Go.of (fun _ q => XS.astore X5.here hx rfl (hb hby at_74) rfl rfl (l' := #[.val (.long x1), .second, .val (.long x2), .second, .val (.int x3), .val (.int x4), .val (.int (x3 &&& (8191 : Int32))), .val (.int (x4 &&& (1073741823 : Int32))), .val (.int (if (2048 : Int32) < (x3 &&& (8191 : Int32)) then (1 : Int32) else (0 : Int32))), .val (.int (if (131072 : Int32) < (x4 &&& (1073741823 : Int32)) then (1 : Int32) else (0 : Int32))), .val (.int (if (2048 : Int32) < (x3 &&& (8191 : Int32)) then (1 : Int32) else (if (131072 : Int32) < (x4 &&& (1073741823 : Int32)) then (1 : Int32) else (0 : Int32)))), .val (.ref b4)]) rfl q) ?_
        show Go _ _ _ _ _ _ _ (T5.setTop (mkF m 76 #[.val (.long x1), .second, .val (.long x2), .second, .val (.int x3), .val (.int x4), .val (.int (x3 &&& (8191 : Int32))), .val (.int (x4 &&& (1073741823 : Int32))), .val (.int (if (2048 : Int32) < (x3 &&& (8191 : Int32)) then (1 : Int32) else (0 : Int32))), .val (.int (if (131072 : Int32) < (x4 &&& (1073741823 : Int32)) then (1 : Int32) else (0 : Int32))), .val (.int (if (2048 : Int32) < (x3 &&& (8191 : Int32)) then (1 : Int32) else (if (131072 : Int32) < (x4 &&& (1073741823 : Int32)) then (1 : Int32) else (0 : Int32)))), .val (.ref b4)] []))
        refine Go.of (fun _ q => XS.aload X5.here hx rfl (hb hby at_76) rfl rfl q) ?_
        show Go _ _ _ _ _ _ _ (T5.setTop (mkF m 78 #[.val (.long x1), .second, .val (.long x2), .second, .val (.int x3), .val (.int x4), .val (.int (x3 &&& (8191 : Int32))), .val (.int (x4 &&& (1073741823 : Int32))), .val (.int (if (2048 : Int32) < (x3 &&& (8191 : Int32)) then (1 : Int32) else (0 : Int32))), .val (.int (if (131072 : Int32) < (x4 &&& (1073741823 : Int32)) then (1 : Int32) else (0 : Int32))), .val (.int (if (2048 : Int32) < (x3 &&& (8191 : Int32)) then (1 : Int32) else (if (131072 : Int32) < (x4 &&& (1073741823 : Int32)) then (1 : Int32) else (0 : Int32)))), .val (.ref b4)] [(.ref b4)]))
        refine Go.static X5 hx hZ (y := (⟨"com/example/linger/linger/postgres/Batches", "settled", "(Lcom/example/linger/linger/postgres/Batches$Outline;)Z"⟩ : MethodName)) (argsL := [(.ref b4)]) hown (hw _ (List.mem_of_getElem? (i := 24) rfl)) (hw _ (List.mem_of_getElem? (i := 25) rfl)) (hw _ (List.mem_of_getElem? (i := 26) rfl)) (hw _ (List.mem_of_getElem? (i := 27) rfl)) (by decide) 0 rfl (rm4 l Z a0 hw b4 (x3 &&& (8191 : Int32)) (x4 &&& (1073741823 : Int32)) T5.heap n0 Zs E_b4 F_b4_count F_b4_length) (by decide) (by decide) (by decide) (by decide) (g := (mkF m 78 #[.val (.long x1), .second, .val (.long x2), .second, .val (.int x3), .val (.int x4), .val (.int (x3 &&& (8191 : Int32))), .val (.int (x4 &&& (1073741823 : Int32))), .val (.int (if (2048 : Int32) < (x3 &&& (8191 : Int32)) then (1 : Int32) else (0 : Int32))), .val (.int (if (131072 : Int32) < (x4 &&& (1073741823 : Int32)) then (1 : Int32) else (0 : Int32))), .val (.int (if (2048 : Int32) < (x3 &&& (8191 : Int32)) then (1 : Int32) else (if (131072 : Int32) < (x4 &&& (1073741823 : Int32)) then (1 : Int32) else (0 : Int32)))), .val (.ref b4)] [(.ref b4)])) rfl (by rw [hml]; rfl) (rest := []) (lenOf pd4 rfl) rfl (by show 2 * 0 + _ ≤ _; exact Nat.le_of_eq rfl) (hb hby at_78) ?_
        intro T6 v6 L6 X6 q6
        obtain ⟨rfl, Nq6, e6⟩ := q6
        have N6 := Fr.app N5 Nq6
        show Go _ _ _ _ _ _ _ (T6.setTop (mkF m 81 #[.val (.long x1), .second, .val (.long x2), .second, .val (.int x3), .val (.int x4), .val (.int (x3 &&& (8191 : Int32))), .val (.int (x4 &&& (1073741823 : Int32))), .val (.int (if (2048 : Int32) < (x3 &&& (8191 : Int32)) then (1 : Int32) else (0 : Int32))), .val (.int (if (131072 : Int32) < (x4 &&& (1073741823 : Int32)) then (1 : Int32) else (0 : Int32))), .val (.int (if (2048 : Int32) < (x3 &&& (8191 : Int32)) then (1 : Int32) else (if (131072 : Int32) < (x4 &&& (1073741823 : Int32)) then (1 : Int32) else (0 : Int32)))), .val (.ref b4)] [(.int (if (4096 : Int32) < ((x3 &&& (8191 : Int32)) * (2 : Int32)) then (1 : Int32) else (if (262144 : Int32) < ((x4 &&& (1073741823 : Int32)) * (2 : Int32)) then (1 : Int32) else (0 : Int32))))]))
        refine Go.of (fun _ q => XS.iload X6.here hx rfl (hb hby at_81) rfl q) ?_
        show Go _ _ _ _ _ _ _ (T6.setTop (mkF m 83 #[.val (.long x1), .second, .val (.long x2), .second, .val (.int x3), .val (.int x4), .val (.int (x3 &&& (8191 : Int32))), .val (.int (x4 &&& (1073741823 : Int32))), .val (.int (if (2048 : Int32) < (x3 &&& (8191 : Int32)) then (1 : Int32) else (0 : Int32))), .val (.int (if (131072 : Int32) < (x4 &&& (1073741823 : Int32)) then (1 : Int32) else (0 : Int32))), .val (.int (if (2048 : Int32) < (x3 &&& (8191 : Int32)) then (1 : Int32) else (if (131072 : Int32) < (x4 &&& (1073741823 : Int32)) then (1 : Int32) else (0 : Int32)))), .val (.ref b4)] [(.int (if (2048 : Int32) < (x3 &&& (8191 : Int32)) then (1 : Int32) else (if (131072 : Int32) < (x4 &&& (1073741823 : Int32)) then (1 : Int32) else (0 : Int32)))), (.int (if (4096 : Int32) < ((x3 &&& (8191 : Int32)) * (2 : Int32)) then (1 : Int32) else (if (262144 : Int32) < ((x4 &&& (1073741823 : Int32)) * (2 : Int32)) then (1 : Int32) else (0 : Int32))))]))
        refine Go.of (fun _ q => XS.icmpNo X6.here hx rfl (hb hby at_83) rfl (teq (own_plain x3 x4)).2 q) ?_
        show Go _ _ _ _ _ _ _ (T6.setTop (mkF m 86 #[.val (.long x1), .second, .val (.long x2), .second, .val (.int x3), .val (.int x4), .val (.int (x3 &&& (8191 : Int32))), .val (.int (x4 &&& (1073741823 : Int32))), .val (.int (if (2048 : Int32) < (x3 &&& (8191 : Int32)) then (1 : Int32) else (0 : Int32))), .val (.int (if (131072 : Int32) < (x4 &&& (1073741823 : Int32)) then (1 : Int32) else (0 : Int32))), .val (.int (if (2048 : Int32) < (x3 &&& (8191 : Int32)) then (1 : Int32) else (if (131072 : Int32) < (x4 &&& (1073741823 : Int32)) then (1 : Int32) else (0 : Int32)))), .val (.ref b4)] []))
        refine Go.of (fun _ q => XS.iconst X6.here hx rfl (hb hby at_86) q) ?_
        show Go _ _ _ _ _ _ _ (T6.setTop (mkF m 87 #[.val (.long x1), .second, .val (.long x2), .second, .val (.int x3), .val (.int x4), .val (.int (x3 &&& (8191 : Int32))), .val (.int (x4 &&& (1073741823 : Int32))), .val (.int (if (2048 : Int32) < (x3 &&& (8191 : Int32)) then (1 : Int32) else (0 : Int32))), .val (.int (if (131072 : Int32) < (x4 &&& (1073741823 : Int32)) then (1 : Int32) else (0 : Int32))), .val (.int (if (2048 : Int32) < (x3 &&& (8191 : Int32)) then (1 : Int32) else (if (131072 : Int32) < (x4 &&& (1073741823 : Int32)) then (1 : Int32) else (0 : Int32)))), .val (.ref b4)] [(.int (1 : Int32))]))
        refine Go.of (fun _ q => XS.goto X6.here hx rfl (pc0 := 87) (pc' := 91) rfl (hb hby at_87) (by decide) (by decide) q) ?_
        show Go _ _ _ _ _ _ _ (T6.setTop (mkF m 91 #[.val (.long x1), .second, .val (.long x2), .second, .val (.int x3), .val (.int x4), .val (.int (x3 &&& (8191 : Int32))), .val (.int (x4 &&& (1073741823 : Int32))), .val (.int (if (2048 : Int32) < (x3 &&& (8191 : Int32)) then (1 : Int32) else (0 : Int32))), .val (.int (if (131072 : Int32) < (x4 &&& (1073741823 : Int32)) then (1 : Int32) else (0 : Int32))), .val (.int (if (2048 : Int32) < (x3 &&& (8191 : Int32)) then (1 : Int32) else (if (131072 : Int32) < (x4 &&& (1073741823 : Int32)) then (1 : Int32) else (0 : Int32)))), .val (.ref b4)] [(.int (1 : Int32))]))
        refine Go.retN X6 hx hlk (t := .boolean) hret (by simp) (hb hby at_91) rfl (by decide) (by decide) ?_
        rw [e6]
        exact ⟨rfl, N6⟩
      by_cases c46 : (2048 : Int32) < (x3 &&& (8191 : Int32))
      · refine Go.of (fun _ q => XS.ifYes X0.here hx rfl (pc0 := 46) (pc' := 54) rfl (hb hby at_46) rfl ((if0 _ _).trans (feq (by rw [if_pos c46]; decide)).2) (by decide) (by decide) q) ?_
        show Go _ _ _ _ _ _ _ (s₁.setTop (mkF m 54 #[.val (.long x1), .second, .val (.long x2), .second, .val (.int x3), .val (.int x4), .val (.int (x3 &&& (8191 : Int32))), .val (.int (x4 &&& (1073741823 : Int32))), .val (.int (if (2048 : Int32) < (x3 &&& (8191 : Int32)) then (1 : Int32) else (0 : Int32))), .val (.int (if (131072 : Int32) < (x4 &&& (1073741823 : Int32)) then (1 : Int32) else (0 : Int32))), .unset, .unset] []))
        refine Go.of (fun _ q => XS.iconst X0.here hx rfl (hb hby at_54) q) ?_
        show Go _ _ _ _ _ _ _ (s₁.setTop (mkF m 55 #[.val (.long x1), .second, .val (.long x2), .second, .val (.int x3), .val (.int x4), .val (.int (x3 &&& (8191 : Int32))), .val (.int (x4 &&& (1073741823 : Int32))), .val (.int (if (2048 : Int32) < (x3 &&& (8191 : Int32)) then (1 : Int32) else (0 : Int32))), .val (.int (if (131072 : Int32) < (x4 &&& (1073741823 : Int32)) then (1 : Int32) else (0 : Int32))), .unset, .unset] [(.int (1 : Int32))]))
        refine Go.of (fun _ q => XS.goto X0.here hx rfl (pc0 := 55) (pc' := 59) rfl (hb hby at_55) (by decide) (by decide) q) ?_
        show Go _ _ _ _ _ _ _ (s₁.setTop (mkF m 59 #[.val (.long x1), .second, .val (.long x2), .second, .val (.int x3), .val (.int x4), .val (.int (x3 &&& (8191 : Int32))), .val (.int (x4 &&& (1073741823 : Int32))), .val (.int (if (2048 : Int32) < (x3 &&& (8191 : Int32)) then (1 : Int32) else (0 : Int32))), .val (.int (if (131072 : Int32) < (x4 &&& (1073741823 : Int32)) then (1 : Int32) else (0 : Int32))), .unset, .unset] [(.int (1 : Int32))]))
        exact J3 _ (by rw [if_pos c46])
      · refine Go.of (fun _ q => XS.ifNo X0.here hx rfl (hb hby at_46) rfl ((if0 _ _).trans (teq (if_neg c46)).2) q) ?_
        show Go _ _ _ _ _ _ _ (s₁.setTop (mkF m 49 #[.val (.long x1), .second, .val (.long x2), .second, .val (.int x3), .val (.int x4), .val (.int (x3 &&& (8191 : Int32))), .val (.int (x4 &&& (1073741823 : Int32))), .val (.int (if (2048 : Int32) < (x3 &&& (8191 : Int32)) then (1 : Int32) else (0 : Int32))), .val (.int (if (131072 : Int32) < (x4 &&& (1073741823 : Int32)) then (1 : Int32) else (0 : Int32))), .unset, .unset] []))
        refine Go.of (fun _ q => XS.iload X0.here hx rfl (hb hby at_49) rfl q) ?_
        show Go _ _ _ _ _ _ _ (s₁.setTop (mkF m 51 #[.val (.long x1), .second, .val (.long x2), .second, .val (.int x3), .val (.int x4), .val (.int (x3 &&& (8191 : Int32))), .val (.int (x4 &&& (1073741823 : Int32))), .val (.int (if (2048 : Int32) < (x3 &&& (8191 : Int32)) then (1 : Int32) else (0 : Int32))), .val (.int (if (131072 : Int32) < (x4 &&& (1073741823 : Int32)) then (1 : Int32) else (0 : Int32))), .unset, .unset] [(.int (if (131072 : Int32) < (x4 &&& (1073741823 : Int32)) then (1 : Int32) else (0 : Int32)))]))
        by_cases c51 : (131072 : Int32) < (x4 &&& (1073741823 : Int32))
        · refine Go.of (fun _ q => XS.ifNo X0.here hx rfl (hb hby at_51) rfl ((if0 _ _).trans (feq (by rw [if_pos c51]; decide)).1) q) ?_
          show Go _ _ _ _ _ _ _ (s₁.setTop (mkF m 54 #[.val (.long x1), .second, .val (.long x2), .second, .val (.int x3), .val (.int x4), .val (.int (x3 &&& (8191 : Int32))), .val (.int (x4 &&& (1073741823 : Int32))), .val (.int (if (2048 : Int32) < (x3 &&& (8191 : Int32)) then (1 : Int32) else (0 : Int32))), .val (.int (if (131072 : Int32) < (x4 &&& (1073741823 : Int32)) then (1 : Int32) else (0 : Int32))), .unset, .unset] []))
          refine Go.of (fun _ q => XS.iconst X0.here hx rfl (hb hby at_54) q) ?_
          show Go _ _ _ _ _ _ _ (s₁.setTop (mkF m 55 #[.val (.long x1), .second, .val (.long x2), .second, .val (.int x3), .val (.int x4), .val (.int (x3 &&& (8191 : Int32))), .val (.int (x4 &&& (1073741823 : Int32))), .val (.int (if (2048 : Int32) < (x3 &&& (8191 : Int32)) then (1 : Int32) else (0 : Int32))), .val (.int (if (131072 : Int32) < (x4 &&& (1073741823 : Int32)) then (1 : Int32) else (0 : Int32))), .unset, .unset] [(.int (1 : Int32))]))
          refine Go.of (fun _ q => XS.goto X0.here hx rfl (pc0 := 55) (pc' := 59) rfl (hb hby at_55) (by decide) (by decide) q) ?_
          show Go _ _ _ _ _ _ _ (s₁.setTop (mkF m 59 #[.val (.long x1), .second, .val (.long x2), .second, .val (.int x3), .val (.int x4), .val (.int (x3 &&& (8191 : Int32))), .val (.int (x4 &&& (1073741823 : Int32))), .val (.int (if (2048 : Int32) < (x3 &&& (8191 : Int32)) then (1 : Int32) else (0 : Int32))), .val (.int (if (131072 : Int32) < (x4 &&& (1073741823 : Int32)) then (1 : Int32) else (0 : Int32))), .unset, .unset] [(.int (1 : Int32))]))
          exact J3 _ (by rw [if_neg c46, if_pos c51])
        · refine Go.of (fun _ q => XS.ifYes X0.here hx rfl (pc0 := 51) (pc' := 58) rfl (hb hby at_51) rfl ((if0 _ _).trans (teq (if_neg c51)).1) (by decide) (by decide) q) ?_
          show Go _ _ _ _ _ _ _ (s₁.setTop (mkF m 58 #[.val (.long x1), .second, .val (.long x2), .second, .val (.int x3), .val (.int x4), .val (.int (x3 &&& (8191 : Int32))), .val (.int (x4 &&& (1073741823 : Int32))), .val (.int (if (2048 : Int32) < (x3 &&& (8191 : Int32)) then (1 : Int32) else (0 : Int32))), .val (.int (if (131072 : Int32) < (x4 &&& (1073741823 : Int32)) then (1 : Int32) else (0 : Int32))), .unset, .unset] []))
          refine Go.of (fun _ q => XS.iconst X0.here hx rfl (hb hby at_58) q) ?_
          show Go _ _ _ _ _ _ _ (s₁.setTop (mkF m 59 #[.val (.long x1), .second, .val (.long x2), .second, .val (.int x3), .val (.int x4), .val (.int (x3 &&& (8191 : Int32))), .val (.int (x4 &&& (1073741823 : Int32))), .val (.int (if (2048 : Int32) < (x3 &&& (8191 : Int32)) then (1 : Int32) else (0 : Int32))), .val (.int (if (131072 : Int32) < (x4 &&& (1073741823 : Int32)) then (1 : Int32) else (0 : Int32))), .unset, .unset] [(.int (0 : Int32))]))
          exact J3 _ (by rw [if_neg c46, if_neg c51])
    by_cases c34 : (131072 : Int32) < (x4 &&& (1073741823 : Int32))
    · refine Go.of (fun _ q => XS.icmpNo X0.here hx rfl (hb hby at_34) rfl (tlt c34).2.2.2 q) ?_
      show Go _ _ _ _ _ _ _ (s₁.setTop (mkF m 37 #[.val (.long x1), .second, .val (.long x2), .second, .val (.int x3), .val (.int x4), .val (.int (x3 &&& (8191 : Int32))), .val (.int (x4 &&& (1073741823 : Int32))), .val (.int (if (2048 : Int32) < (x3 &&& (8191 : Int32)) then (1 : Int32) else (0 : Int32))), .unset, .unset, .unset] []))
      refine Go.of (fun _ q => XS.iconst X0.here hx rfl (hb hby at_37) q) ?_
      show Go _ _ _ _ _ _ _ (s₁.setTop (mkF m 38 #[.val (.long x1), .second, .val (.long x2), .second, .val (.int x3), .val (.int x4), .val (.int (x3 &&& (8191 : Int32))), .val (.int (x4 &&& (1073741823 : Int32))), .val (.int (if (2048 : Int32) < (x3 &&& (8191 : Int32)) then (1 : Int32) else (0 : Int32))), .unset, .unset, .unset] [(.int (1 : Int32))]))
      refine Go.of (fun _ q => XS.goto X0.here hx rfl (pc0 := 38) (pc' := 42) rfl (hb hby at_38) (by decide) (by decide) q) ?_
      show Go _ _ _ _ _ _ _ (s₁.setTop (mkF m 42 #[.val (.long x1), .second, .val (.long x2), .second, .val (.int x3), .val (.int x4), .val (.int (x3 &&& (8191 : Int32))), .val (.int (x4 &&& (1073741823 : Int32))), .val (.int (if (2048 : Int32) < (x3 &&& (8191 : Int32)) then (1 : Int32) else (0 : Int32))), .unset, .unset, .unset] [(.int (1 : Int32))]))
      exact J2 _ (by rw [if_pos c34])
    · refine Go.of (fun _ q => XS.icmpYes X0.here hx rfl (pc0 := 34) (pc' := 41) rfl (hb hby at_34) rfl (flt c34).2.2.2 (by decide) (by decide) q) ?_
      show Go _ _ _ _ _ _ _ (s₁.setTop (mkF m 41 #[.val (.long x1), .second, .val (.long x2), .second, .val (.int x3), .val (.int x4), .val (.int (x3 &&& (8191 : Int32))), .val (.int (x4 &&& (1073741823 : Int32))), .val (.int (if (2048 : Int32) < (x3 &&& (8191 : Int32)) then (1 : Int32) else (0 : Int32))), .unset, .unset, .unset] []))
      refine Go.of (fun _ q => XS.iconst X0.here hx rfl (hb hby at_41) q) ?_
      show Go _ _ _ _ _ _ _ (s₁.setTop (mkF m 42 #[.val (.long x1), .second, .val (.long x2), .second, .val (.int x3), .val (.int x4), .val (.int (x3 &&& (8191 : Int32))), .val (.int (x4 &&& (1073741823 : Int32))), .val (.int (if (2048 : Int32) < (x3 &&& (8191 : Int32)) then (1 : Int32) else (0 : Int32))), .unset, .unset, .unset] [(.int (0 : Int32))]))
      exact J2 _ (by rw [if_neg c34])
  by_cases c20 : (2048 : Int32) < (x3 &&& (8191 : Int32))
  · refine Go.of (fun _ q => XS.icmpNo X0.here hx rfl (hb hby at_20) rfl (tlt c20).2.2.2 q) ?_
    show Go _ _ _ _ _ _ _ (s₁.setTop (mkF m 23 #[.val (.long x1), .second, .val (.long x2), .second, .val (.int x3), .val (.int x4), .val (.int (x3 &&& (8191 : Int32))), .val (.int (x4 &&& (1073741823 : Int32))), .unset, .unset, .unset, .unset] []))
    refine Go.of (fun _ q => XS.iconst X0.here hx rfl (hb hby at_23) q) ?_
    show Go _ _ _ _ _ _ _ (s₁.setTop (mkF m 24 #[.val (.long x1), .second, .val (.long x2), .second, .val (.int x3), .val (.int x4), .val (.int (x3 &&& (8191 : Int32))), .val (.int (x4 &&& (1073741823 : Int32))), .unset, .unset, .unset, .unset] [(.int (1 : Int32))]))
    refine Go.of (fun _ q => XS.goto X0.here hx rfl (pc0 := 24) (pc' := 28) rfl (hb hby at_24) (by decide) (by decide) q) ?_
    show Go _ _ _ _ _ _ _ (s₁.setTop (mkF m 28 #[.val (.long x1), .second, .val (.long x2), .second, .val (.int x3), .val (.int x4), .val (.int (x3 &&& (8191 : Int32))), .val (.int (x4 &&& (1073741823 : Int32))), .unset, .unset, .unset, .unset] [(.int (1 : Int32))]))
    exact J1 _ (by rw [if_pos c20])
  · refine Go.of (fun _ q => XS.icmpYes X0.here hx rfl (pc0 := 20) (pc' := 27) rfl (hb hby at_20) rfl (flt c20).2.2.2 (by decide) (by decide) q) ?_
    show Go _ _ _ _ _ _ _ (s₁.setTop (mkF m 27 #[.val (.long x1), .second, .val (.long x2), .second, .val (.int x3), .val (.int x4), .val (.int (x3 &&& (8191 : Int32))), .val (.int (x4 &&& (1073741823 : Int32))), .unset, .unset, .unset, .unset] []))
    refine Go.of (fun _ q => XS.iconst X0.here hx rfl (hb hby at_27) q) ?_
    show Go _ _ _ _ _ _ _ (s₁.setTop (mkF m 28 #[.val (.long x1), .second, .val (.long x2), .second, .val (.int x3), .val (.int x4), .val (.int (x3 &&& (8191 : Int32))), .val (.int (x4 &&& (1073741823 : Int32))), .unset, .unset, .unset, .unset] [(.int (0 : Int32))]))
    exact J1 _ (by rw [if_neg c20])
set_option maxRecDepth 65536 in
set_option maxHeartbeats 40000000 in
theorem comes_1 {Post : Tables → Env → Array Value → State → Outcome → State → Prop} (hpost : ∀ tb e args s v u, (limb_1_1.after args s (.returned v) u = true ∧ limb_1_2.after args s (.returned v) u = true ∧ True) → FrameEnd s (.returned v) u (Jvm.fieldLocs frame_1_writes args s ++ Jvm.arrayLocs frame_1_arrays args s ++ Jvm.staticLocs frame_1_statics s) 16 128 → Post tb e args s (.returned v) u) :
    ArmFor flags0 classFile x code maxLocals ret World_1 tables_1 room_1 Calls_1 rest_1 Pre_1 Post := by
  intro l hfl _ _ p e ha hc hk s m args below hf hA hF happ hP
  obtain ⟨hcalls, hrest, hpre⟩ := hP
  obtain ⟨-, -, -, hnamed, -, -, -, hat⟩ := (Spec.applies_iff hf).mp happ
  obtain ⟨hg, hn⟩ := and_e (Cond.before_iff.mp (show (Jvm.Cond.and given_1 narrow_1).before args s = true from hpre))
  obtain ⟨g1, g2⟩ := and_e hg
  obtain ⟨g3, g4⟩ := and_e g2
  obtain ⟨g5, g6⟩ := and_e g4
  obtain ⟨g7, g8⟩ := and_e g6
  obtain ⟨w0, w1, w2, w3, rfl⟩ : ∃ w0 w1 w2 w3 : Value, args = #[w0, w1, w2, w3] := by
    have hs : args.size = 4 := by simpa [Cond.value, given_1] using g1
    obtain ⟨L⟩ := args
    match L, hs with
    | [w0, w1, w2, w3], _ => exact ⟨w0, w1, w2, w3, rfl⟩
  have hw := fun d (hd : d ∈ tables_1) => atoms_spec (ws := Jvm.Cond.code x code maxLocals ret :: tables_1) hat d (List.mem_cons_of_mem _ hd)
  have hfit : Fit s := fun {y c} hc i hi => by
    obtain ⟨ha, rfl⟩ := Array.getElem?_eq_some_iff.mp hc
    have q := List.all_eq_true.mp ((Array.all_eq_true_iff_forall_mem.mp hF) _ (Array.getElem_mem ha)) i (List.mem_range.mpr hi)
    simpa [Array.getElem?_eq_getElem hi] using q
  obtain ⟨i0, ei0⟩ := isL_v g3
  obtain rfl : w0 = (.long i0) := Option.some.inj ei0
  obtain ⟨i1, ei1⟩ := isL_v g5
  obtain rfl : w1 = (.long i1) := Option.some.inj ei1
  obtain ⟨i2, ei2⟩ := is_v g7
  obtain rfl : w2 = (.int i2) := Option.some.inj ei2
  obtain ⟨i3, ei3⟩ := is_v g8
  obtain rfl : w3 = (.int i3) := Option.some.inj ei3
  obtain ⟨n, o, h1, h2, h3, _, L, rfl, ⟨rfl, N⟩, hq⟩ := rm0 l s _ hw i0 i1 i2 i3 s.heap s.heap.size (Nat.le_refl _)  tables_1 p e ha hc hk s m _ below hf ((Spec.applies_iff_loose hf).mp happ).1 ⟨rfl, State.Warmed39.refl s, rfl⟩ trivial
  refine ⟨n, _, h1, h2, h3, hpost _ _ _ _ _ _ ⟨Cond.after_iff.mpr rfl, Cond.after_iff.mpr (eq_i res_at (Term.int_eval (1)) rfl), trivial⟩ ⟨hq.1, hq.2.1, (hq.2.2.sift fun y hy => Or.inr (N y hy)).mono (by decide) (by decide)⟩⟩
theorem main_1_1 : Claimed_1_1 := comes_1 fun _ _ _ _ _ _ h hF => ⟨h.1, hF⟩
theorem main_1_2 : Claimed_1_2 := comes_1 fun _ _ _ _ _ _ h hF => ⟨h.2.1, hF⟩
end Jvm.Pilot.@@N@@
namespace Jvm.Pilot.@@N@@
open Jvm Jvm.ClassFile Sem Op Lib Jvm.Free Jvm.Stand Jvm.Pilot.@@N@@.Jvm.D
/-! MADE BY PROGRAM (witnessworld.py) out of the Statement's table words and the real class files: 11 classes; the members and pool entries that the words name. The judged class is class 1, her method 1. -/
namespace start1
open Jvm.ClassFile
def u (s : String) : CpInfo := .utf8 (stringToUtf16 s)
/-- a pool by its gaps: so many unusable entries, then the entry; so many at the end -/
def gap : Nat → List CpInfo → List CpInfo
  | 0, r => r
  | n + 1, r => .unusable :: gap n r
def poolList (es : List (Nat × CpInfo)) (last : Nat) : List CpInfo := es.foldr (fun e r => gap e.1 (e.2 :: r)) (gap last [])
def pool (es : List (Nat × CpInfo)) (last : Nat) : Array CpInfo := ⟨poolList es last⟩
def fileOf (pool : Array CpInfo) (this : Nat) (attrs : Array Attribute := #[]) (ms : Array MethodInfo := #[]) (fl : Nat := 33) (sup : Nat := 0) (ifs : Array Nat := #[]) (fds : Array FieldInfo := #[]) : ClassFile where
  minorVersion := 0
  majorVersion := 65
  constantPool := pool
  accessFlags := fl
  thisClass := this
  superClass := sup
  interfaces := ifs
  fields := fds
  methods := ms
  attributes := attrs
def plain (name : String) (sup : Option ClassId) : Class where
  name := name
  kind := .ordinary
  loader := none
  accessFlags := 33
  super := sup
  interfaces := #[]
  cf := none
  fields := #[]
  methods := #[]
  instanceTypes := #[]
  staticTypes := #[]
  resolved := #[]
  callSites := []
  init := .initialized
  statics := none
  mirror := none

def pool0 : Array CpInfo := pool [(5, u "<init>"), (0, u "()V"), (1, .class_ 10), (1, u "java/lang/Object")] 113

def k0c0 : Code := { maxStack := 0, maxLocals := 1, code := object_method_1_code, exceptionTable := #[], attributes := #[] }
def k0m0 : Method := { name := "<init>", desc := "()V", sig := { parameters := [], returnType := none }, accessFlags := 1, code := some k0c0 }
/-- java/lang/Object -/
def k0 : Class := { plain "java/lang/Object" none with
  accessFlags := 33
  interfaces := #[]
  cf := some (fileOf pool0 8 #[] #[{ accessFlags := 1, nameIndex := 5, descriptorIndex := 6, attributes := #[] }] 33 0 #[] #[])
  fields := #[]
  methods := #[k0m0]
  instanceTypes := #[]
  staticTypes := #[]
  resolved := Array.replicate 124 none
  statics := none }

def pool1 : Array CpInfo := pool [(2, .class_ 4), (1, u "java/lang/Object"), (0, u "<init>"), (0, u "()V"), (0, .integer 1073741823), (0, .integer 131072), (0, .class_ 10), (0, u "com/example/linger/linger/postgres/Batches$Outline"), (0, .methodref 9 12), (0, .nameAndType 5 13), (0, u "(JJII)V"), (0, .methodref 15 16), (0, .class_ 17), (0, .nameAndType 18 19), (0, u "com/example/linger/linger/postgres/Batches"), (0, u "settled"), (0, u "(Lcom/example/linger/linger/postgres/Batches$Outline;)Z"), (0, .class_ 21), (0, u "com/example/linger/linger/postgres/BatchesSettledPinLaw"), (2, u "law"), (0, u "(JJII)Z")] 5

def k1m0 : Method := { name := "<init>", desc := "()V", sig := { parameters := [], returnType := none }, accessFlags := 2, code := none }
def k1c1 : Code := { maxStack := 8, maxLocals := 12, code := code, exceptionTable := #[], attributes := #[] }
def k1m1 : Method := { name := "law", desc := "(JJII)Z", sig := { parameters := [.long, .long, .int, .int], returnType := some .boolean }, accessFlags := 9, code := some k1c1 }
/-- com/example/linger/linger/postgres/BatchesSettledPinLaw -/
def k1 : Class := { plain "com/example/linger/linger/postgres/BatchesSettledPinLaw" (some 0) with
  accessFlags := 49
  interfaces := #[]
  cf := some (fileOf pool1 20 #[] #[{ accessFlags := 2, nameIndex := 5, descriptorIndex := 6, attributes := #[] }, { accessFlags := 9, nameIndex := 24, descriptorIndex := 25, attributes := #[] }] 49 2 #[] #[])
  fields := #[]
  methods := #[k1m0, k1m1]
  instanceTypes := #[]
  staticTypes := #[]
  resolved := Array.replicate 31 none
  statics := none }

def pool2 : Array CpInfo := pool [(1, .methodref 2 3), (0, .class_ 4), (0, .nameAndType 5 6), (0, u "java/lang/Object"), (0, u "<init>"), (0, u "()V"), (0, .class_ 8), (0, u "java/lang/Record")] 13

def k2c0 : Code := { maxStack := 1, maxLocals := 1, code := jdk_30_method_1_code, exceptionTable := #[], attributes := #[] }
def k2m0 : Method := { name := "<init>", desc := "()V", sig := { parameters := [], returnType := none }, accessFlags := 4, code := some k2c0 }
/-- java/lang/Record -/
def k2 : Class := { plain "java/lang/Record" (some 0) with
  accessFlags := 1057
  interfaces := #[]
  cf := some (fileOf pool2 7 #[] #[{ accessFlags := 4, nameIndex := 5, descriptorIndex := 6, attributes := #[] }] 1057 2 #[] #[])
  fields := #[]
  methods := #[k2m0]
  instanceTypes := #[]
  staticTypes := #[]
  resolved := Array.replicate 22 none
  statics := none }

def pool3 : Array CpInfo := pool [(1, .methodref 2 3), (0, .class_ 4), (0, .nameAndType 5 6), (0, u "java/lang/Record"), (0, u "<init>"), (0, u "()V"), (0, .fieldref 8 9), (0, .class_ 10), (0, .nameAndType 11 12), (0, u "com/example/linger/linger/postgres/Batches$Outline"), (0, u "first"), (0, u "J"), (0, .fieldref 8 14), (0, .nameAndType 15 12), (0, u "last"), (0, .fieldref 8 17), (0, .nameAndType 18 19), (0, u "count"), (0, u "I"), (0, .fieldref 8 21), (0, .nameAndType 22 19), (0, u "length"), (12, u "(JJII)V"), (4, u "()I"), (5, .class_ 47), (0, u "com/example/linger/linger/postgres/Batches")] 22

def k3c0 : Code := { maxStack := 3, maxLocals := 7, code := prog_48_method_1_code, exceptionTable := #[], attributes := #[] }
def k3m0 : Method := { name := "<init>", desc := "(JJII)V", sig := { parameters := [.long, .long, .int, .int], returnType := none }, accessFlags := 0, code := some k3c0 }
def k3c1 : Code := { maxStack := 1, maxLocals := 1, code := prog_48_method_7_code, exceptionTable := #[], attributes := #[] }
def k3m1 : Method := { name := "count", desc := "()I", sig := { parameters := [], returnType := some .int }, accessFlags := 1, code := some k3c1 }
def k3c2 : Code := { maxStack := 1, maxLocals := 1, code := prog_48_method_8_code, exceptionTable := #[], attributes := #[] }
def k3m2 : Method := { name := "length", desc := "()I", sig := { parameters := [], returnType := some .int }, accessFlags := 1, code := some k3c2 }
/-- com/example/linger/linger/postgres/Batches$Outline -/
def k3 : Class := { plain "com/example/linger/linger/postgres/Batches$Outline" (some 2) with
  accessFlags := 48
  interfaces := #[]
  cf := some (fileOf pool3 8 #[.nestHost 46] #[{ accessFlags := 0, nameIndex := 5, descriptorIndex := 35, attributes := #[] }, { accessFlags := 1, nameIndex := 18, descriptorIndex := 40, attributes := #[] }, { accessFlags := 1, nameIndex := 22, descriptorIndex := 40, attributes := #[] }] 48 2 #[] #[{ accessFlags := 18, nameIndex := 11, descriptorIndex := 12, attributes := #[] }, { accessFlags := 18, nameIndex := 15, descriptorIndex := 12, attributes := #[] }, { accessFlags := 18, nameIndex := 18, descriptorIndex := 19, attributes := #[] }, { accessFlags := 18, nameIndex := 22, descriptorIndex := 19, attributes := #[] }])
  fields := #[{ name := "first", type := .long, accessFlags := 18, slot := 0, constantValue := 0 }, { name := "last", type := .long, accessFlags := 18, slot := 1, constantValue := 0 }, { name := "count", type := .int, accessFlags := 18, slot := 2, constantValue := 0 }, { name := "length", type := .int, accessFlags := 18, slot := 3, constantValue := 0 }]
  methods := #[k3m0, k3m1, k3m2]
  instanceTypes := #[.long, .long, .int, .int]
  staticTypes := #[]
  resolved := Array.replicate 70 none
  statics := none }

def pool4 : Array CpInfo := pool [(2, .class_ 4), (1, u "java/lang/Object"), (0, u "<init>"), (0, u "()V"), (8, u "()I"), (4, .class_ 21), (0, u "com/example/linger/linger/postgres/Batches$Placed"), (0, .class_ 23), (0, u "com/example/linger/linger/postgres/Batches$Packing"), (23, .nameAndType 48 15), (0, u "count"), (0, .class_ 50), (0, u "com/example/linger/linger/postgres/Batches"), (1, .nameAndType 53 15), (0, u "length"), (0, .integer 262144), (33, .class_ 89), (0, u "com/example/linger/linger/postgres/Batches$Outline"), (0, .class_ 91), (0, u "com/example/linger/linger/postgres/Batches$Run"), (4, .methodref 88 47), (0, .methodref 88 52), (52, .methodref 49 151), (0, .nameAndType 152 153), (0, u "moreThanHalfFull"), (0, u "(II)Z"), (0, .class_ 155), (0, u "com/example/linger/linger/postgres/Batches$Batch"), (37, .class_ 195), (1, u "com/example/linger/linger/postgres/Batches$Walker"), (32, u "FORM"), (0, u "B"), (2, u "WHOLE_POSITIONS"), (1, u "MOST_EVENTS"), (0, u "I"), (1, u "MOST_BYTES"), (12, u "settled"), (0, u "(Lcom/example/linger/linger/postgres/Batches$Outline;)Z")] 64

def k4m0 : Method := { name := "<init>", desc := "()V", sig := { parameters := [], returnType := none }, accessFlags := 2, code := none }
def k4c1 : Code := { maxStack := 2, maxLocals := 1, code := prog_46_method_6_code, exceptionTable := #[], attributes := #[] }
def k4m1 : Method := { name := "settled", desc := "(Lcom/example/linger/linger/postgres/Batches$Outline;)Z", sig := { parameters := [(.object "com/example/linger/linger/postgres/Batches$Outline")], returnType := some .boolean }, accessFlags := 8, code := some k4c1 }
def k4c2 : Code := { maxStack := 2, maxLocals := 2, code := prog_46_method_9_code, exceptionTable := #[], attributes := #[] }
def k4m2 : Method := { name := "moreThanHalfFull", desc := "(II)Z", sig := { parameters := [.int, .int], returnType := some .boolean }, accessFlags := 10, code := some k4c2 }
/-- com/example/linger/linger/postgres/Batches -/
def k4 : Class := { plain "com/example/linger/linger/postgres/Batches" (some 0) with
  accessFlags := 32
  interfaces := #[]
  cf := some (fileOf pool4 49 #[.nestMembers #[90, 22, 88, 154, 20, 193]] #[{ accessFlags := 2, nameIndex := 5, descriptorIndex := 6, attributes := #[] }, { accessFlags := 8, nameIndex := 250, descriptorIndex := 251, attributes := #[] }, { accessFlags := 10, nameIndex := 152, descriptorIndex := 153, attributes := #[] }] 32 2 #[] #[{ accessFlags := 26, nameIndex := 228, descriptorIndex := 229, attributes := #[] }, { accessFlags := 26, nameIndex := 232, descriptorIndex := 229, attributes := #[] }, { accessFlags := 24, nameIndex := 234, descriptorIndex := 235, attributes := #[] }, { accessFlags := 26, nameIndex := 237, descriptorIndex := 235, attributes := #[] }])
  fields := #[{ name := "FORM", type := .byte, accessFlags := 26, slot := 0, constantValue := 0 }, { name := "WHOLE_POSITIONS", type := .byte, accessFlags := 26, slot := 1, constantValue := 0 }, { name := "MOST_EVENTS", type := .int, accessFlags := 24, slot := 2, constantValue := 0 }, { name := "MOST_BYTES", type := .int, accessFlags := 26, slot := 3, constantValue := 0 }]
  methods := #[k4m0, k4m1, k4m2]
  instanceTypes := #[]
  staticTypes := #[.byte, .byte, .int, .int]
  resolved := Array.replicate 316 none
  statics := none }

def pool5 : Array CpInfo := pool [(1, u "java/lang/Cloneable"), (0, .class_ 1), (0, u "java/lang/Object"), (0, .class_ 3)] 3

/-- java/lang/Cloneable -/
def k5 : Class := { plain "java/lang/Cloneable" (some 0) with
  accessFlags := 1537
  interfaces := #[]
  cf := some (fileOf pool5 2 #[] #[] 1537 4 #[] #[])
  fields := #[]
  methods := #[]
  instanceTypes := #[]
  staticTypes := #[]
  resolved := Array.replicate 8 none
  statics := none }

def pool6 : Array CpInfo := pool [(1, u "java/io/Serializable"), (0, .class_ 1), (0, u "java/lang/Object"), (0, .class_ 3)] 3

/-- java/io/Serializable -/
def k6 : Class := { plain "java/io/Serializable" (some 0) with
  accessFlags := 1537
  interfaces := #[]
  cf := some (fileOf pool6 2 #[] #[] 1537 4 #[] #[])
  fields := #[]
  methods := #[]
  instanceTypes := #[]
  staticTypes := #[]
  resolved := Array.replicate 8 none
  statics := none }

/-- the primitive byte -/
def k7 : Class := { plain "byte" none with kind := .primitive 'B', accessFlags := 0x411 }
/-- [B -/
def k8 : Class := { plain "[B" (some 0) with kind := .array 7 .byte, interfaces := #[5, 6], accessFlags := 1041 }

/-- the primitive int -/
def k9 : Class := { plain "int" none with kind := .primitive 'I', accessFlags := 0x411 }
/-- [I -/
def k10 : Class := { plain "[I" (some 0) with kind := .array 9 .int, interfaces := #[5, 6], accessFlags := 1041 }

def heap : Heap := #[]
def classes : Array Class := #[k0, k1, k2, k3, k4, k5, k6, k7, k8, k9, k10]
def interned : List (Array UInt16 × Addr) := []
def slotsUsed : Nat := 0
def theMethod : MethodId := ⟨1, 1⟩
def args0 : Array Value := #[.long 5, .long 6, .int 7, .int 8]
def aboutOver (below : List Frame) : State where
  vm := { classes := classes, interned := interned.toArray }
  heap := heap
  slotsUsed := slotsUsed
  threads := #[{ frames := .invoking theMethod args0 :: below }]
def below0 : List Frame := [.native { method := ⟨0, 0⟩, args := #[] }]
def about1 : State := aboutOver below0
def p0 : Program := .bare "" "" ""
def e0 : Env := launch0.env 0 0 0
theorem w_frames : about1.frames = Frame.invoking theMethod args0 :: below0 := rfl
set_option maxRecDepth 65536 in
theorem w_args : argsFit about1.vm theMethod args0 = true := by decide +kernel
set_option maxRecDepth 65536 in
theorem w_heap : heapFits about1 = true := by decide +kernel
set_option maxRecDepth 65536 in
theorem w_runnable : about1.curStatus? = some .runnable := by decide +kernel
set_option maxRecDepth 65536 in
theorem w_alone : about1.alone = true := by decide +kernel
set_option maxRecDepth 65536 in
theorem w_named : about1.methodNamed? x = some theMethod := by decide +kernel
set_option maxRecDepth 65536 in
theorem w_hears : about1.hears theMethod below0 = true := by decide +kernel
set_option maxRecDepth 65536 in
theorem w_ripe : about1.ripe theMethod args0 below0 = true := by decide +kernel
theorem w_running : about1.status = .running := rfl
set_option maxRecDepth 65536 in
theorem w_room : about1.hasRoom e0.platform room_1 = true :=
  launch0.hasRoom_least _ room_1 (by decide +kernel) (by decide +kernel) (by decide +kernel) (by decide +kernel) (by decide +kernel) (by decide +kernel)
theorem allAtoms_all (ts : List Jvm.Cond) (a : Array Jvm.Value) (st : Jvm.State) : (allAtoms ts).before a st = ts.all (fun c => c.before a st) := by
  induction ts with
  | nil => rfl
  | cons c t ih =>
    show (Jvm.Cond.and c (allAtoms t)).before a st = _
    rw [Jvm.Cond.before_and, ih, List.all_cons]
def words1 : List Jvm.Cond := Jvm.Cond.code x code maxLocals ret :: tables_1
/-- a 'code' word, met by the world's own term for the bytes: nothing is compared byte by byte -/
theorem code_word {y : MethodName} {bytes : ByteArray} {mx : Nat} {rt : Option FieldType} {a : Array Value} {s : State} {m : MethodId} {meth : Method} {c : Code} (h1 : s.methodNamed? y = some m) (h2 : s.vm.method? m = some meth) (h3 : meth.code = some c) (h4 : c.code = bytes)
    (h5 : (c.maxLocals == mx && c.exceptionTable.isEmpty && decide (c.maxStack ≤ mostOperands) && decide (meth.sig.returnType = rt) && !meth.locks && decide (parseMethodDescriptor y.desc = some meth.sig)) = true) : (Jvm.Cond.code y bytes mx rt).before a s = true := by
  simp only [Bool.and_eq_true, beq_iff_eq, Bool.not_eq_true', decide_eq_true_eq] at h5
  obtain ⟨⟨⟨⟨⟨g1, g2⟩, g3⟩, g4⟩, g5⟩, g6⟩ := h5
  simp [Cond.before, Cond.holds, Cond.value, h1, h2, h3, h4, g1, g2, g3, g4, g5, g6]
def isCode : Jvm.Cond → Bool
  | .code _ _ _ _ => true
  | _ => false
theorem all_split {L : List Jvm.Cond} {P : Jvm.Cond → Bool} (h1 : L.all (fun c => isCode c || P c) = true) (h2 : ∀ c ∈ L.filter isCode, P c = true) : L.all P = true := by
  refine List.all_eq_true.mpr fun c hc => ?_
  have h := List.all_eq_true.mp h1 c hc
  rcases Bool.eq_false_or_eq_true (isCode c) with hi | hi
  · exact h2 c (List.mem_filter.mpr ⟨hc, hi⟩)
  · simpa [hi] using h
set_option maxRecDepth 65536 in
theorem w_c0 : (Jvm.Cond.code x code maxLocals ret).before args0 about1 = true := code_word (m := ⟨1, 1⟩) (meth := k1m1) (c := k1c1) (by decide +kernel) rfl rfl rfl (by decide +kernel)
set_option maxRecDepth 65536 in
theorem w_c1 : (Jvm.Cond.code ({ cls := "com/example/linger/linger/postgres/Batches$Outline", name := "<init>", desc := "(JJII)V" } : Jvm.MethodName) prog_48_method_1_code (7 : Nat) (Option.none : Option Jvm.ClassFile.FieldType)).before args0 about1 = true := code_word (m := ⟨3, 0⟩) (meth := k3m0) (c := k3c0) (by decide +kernel) rfl rfl rfl (by decide +kernel)
set_option maxRecDepth 65536 in
theorem w_c2 : (Jvm.Cond.code ({ cls := "java/lang/Record", name := "<init>", desc := "()V" } : Jvm.MethodName) jdk_30_method_1_code (1 : Nat) (Option.none : Option Jvm.ClassFile.FieldType)).before args0 about1 = true := code_word (m := ⟨2, 0⟩) (meth := k2m0) (c := k2c0) (by decide +kernel) rfl rfl rfl (by decide +kernel)
set_option maxRecDepth 65536 in
theorem w_c3 : (Jvm.Cond.code ({ cls := "java/lang/Object", name := "<init>", desc := "()V" } : Jvm.MethodName) object_method_1_code (1 : Nat) (Option.none : Option Jvm.ClassFile.FieldType)).before args0 about1 = true := code_word (m := ⟨0, 0⟩) (meth := k0m0) (c := k0c0) (by decide +kernel) rfl rfl rfl (by decide +kernel)
set_option maxRecDepth 65536 in
theorem w_c4 : (Jvm.Cond.code ({ cls := "com/example/linger/linger/postgres/Batches", name := "settled", desc := "(Lcom/example/linger/linger/postgres/Batches$Outline;)Z" } : Jvm.MethodName) prog_46_method_6_code (1 : Nat) (Option.some Jvm.ClassFile.FieldType.boolean)).before args0 about1 = true := code_word (m := ⟨4, 1⟩) (meth := k4m1) (c := k4c1) (by decide +kernel) rfl rfl rfl (by decide +kernel)
set_option maxRecDepth 65536 in
theorem w_c5 : (Jvm.Cond.code ({ cls := "com/example/linger/linger/postgres/Batches$Outline", name := "count", desc := "()I" } : Jvm.MethodName) prog_48_method_7_code (1 : Nat) (Option.some Jvm.ClassFile.FieldType.int)).before args0 about1 = true := code_word (m := ⟨3, 1⟩) (meth := k3m1) (c := k3c1) (by decide +kernel) rfl rfl rfl (by decide +kernel)
set_option maxRecDepth 65536 in
theorem w_c6 : (Jvm.Cond.code ({ cls := "com/example/linger/linger/postgres/Batches$Outline", name := "length", desc := "()I" } : Jvm.MethodName) prog_48_method_8_code (1 : Nat) (Option.some Jvm.ClassFile.FieldType.int)).before args0 about1 = true := code_word (m := ⟨3, 2⟩) (meth := k3m2) (c := k3c2) (by decide +kernel) rfl rfl rfl (by decide +kernel)
set_option maxRecDepth 65536 in
theorem w_c7 : (Jvm.Cond.code ({ cls := "com/example/linger/linger/postgres/Batches", name := "moreThanHalfFull", desc := "(II)Z" } : Jvm.MethodName) prog_46_method_9_code (2 : Nat) (Option.some Jvm.ClassFile.FieldType.boolean)).before args0 about1 = true := code_word (m := ⟨4, 2⟩) (meth := k4m2) (c := k4c2) (by decide +kernel) rfl rfl rfl (by decide +kernel)
def codes1 : List Jvm.Cond := [Jvm.Cond.code x code maxLocals ret, Jvm.Cond.code ({ cls := "com/example/linger/linger/postgres/Batches$Outline", name := "<init>", desc := "(JJII)V" } : Jvm.MethodName) prog_48_method_1_code (7 : Nat) (Option.none : Option Jvm.ClassFile.FieldType), Jvm.Cond.code ({ cls := "java/lang/Record", name := "<init>", desc := "()V" } : Jvm.MethodName) jdk_30_method_1_code (1 : Nat) (Option.none : Option Jvm.ClassFile.FieldType), Jvm.Cond.code ({ cls := "java/lang/Object", name := "<init>", desc := "()V" } : Jvm.MethodName) object_method_1_code (1 : Nat) (Option.none : Option Jvm.ClassFile.FieldType), Jvm.Cond.code ({ cls := "com/example/linger/linger/postgres/Batches", name := "settled", desc := "(Lcom/example/linger/linger/postgres/Batches$Outline;)Z" } : Jvm.MethodName) prog_46_method_6_code (1 : Nat) (Option.some Jvm.ClassFile.FieldType.boolean), Jvm.Cond.code ({ cls := "com/example/linger/linger/postgres/Batches$Outline", name := "count", desc := "()I" } : Jvm.MethodName) prog_48_method_7_code (1 : Nat) (Option.some Jvm.ClassFile.FieldType.int), Jvm.Cond.code ({ cls := "com/example/linger/linger/postgres/Batches$Outline", name := "length", desc := "()I" } : Jvm.MethodName) prog_48_method_8_code (1 : Nat) (Option.some Jvm.ClassFile.FieldType.int), Jvm.Cond.code ({ cls := "com/example/linger/linger/postgres/Batches", name := "moreThanHalfFull", desc := "(II)Z" } : Jvm.MethodName) prog_46_method_9_code (2 : Nat) (Option.some Jvm.ClassFile.FieldType.boolean)]
set_option maxRecDepth 65536 in
theorem codes_eq : words1.filter isCode = codes1 := rfl
theorem w_codes : ∀ c ∈ words1.filter isCode, c.before args0 about1 = true := by
  rw [codes_eq]
  intro c hc
  simp only [codes1, List.mem_cons, List.not_mem_nil, or_false] at hc
  rcases hc with rfl | rfl | rfl | rfl | rfl | rfl | rfl | rfl
  · exact w_c0
  · exact w_c1
  · exact w_c2
  · exact w_c3
  · exact w_c4
  · exact w_c5
  · exact w_c6
  · exact w_c7
set_option maxRecDepth 65536 in
theorem w_t1 : (words1.take 24).all (fun c => isCode c || c.before args0 about1) = true := by decide +kernel
set_option maxRecDepth 65536 in
theorem w_t2 : (words1.drop 24).all (fun c => isCode c || c.before args0 about1) = true := by decide +kernel
theorem w_tables : (allAtoms (Jvm.Cond.code x code maxLocals ret :: tables_1)).before args0 about1 = true := by
  rw [allAtoms_all]
  show words1.all (fun c => c.before args0 about1) = true
  refine all_split ?_ w_codes
  rw [← List.take_append_drop 24 words1, List.all_append, w_t1, w_t2]
  rfl
set_option maxRecDepth 65536 in
theorem w_case : (Jvm.Cond.and given_1 narrow_1).before args0 about1 = true := by decide +kernel
theorem w_applies : (headSpec (Jvm.Cond.code x code maxLocals ret :: tables_1) room_1).applies x e0.platform about1 = true :=
  (Spec.applies_iff w_frames).mpr ⟨w_running, w_runnable, w_alone, w_named, w_hears, w_ripe, w_room, w_tables⟩
theorem atStart : AtStart classFile x code maxLocals ret World_1 tables_1 room_1 Calls_1 rest_1 Pre_1 launch0 p0 e0 about1 theMethod args0 below0 :=
  ⟨lists_1, trivial, launch0.admits_env _ _ _, launch0.least_env, fairChoices_fair.cas, fairChoices_fair.clock, w_frames, w_args, w_heap, w_applies, trivial, trivial, w_case⟩
end start1
theorem witness_1 : WitnessClaimed_1 := ⟨start1.p0, start1.e0, start1.about1, start1.theMethod, start1.args0, start1.below0, start1.atStart⟩
end Jvm.Pilot.@@N@@
