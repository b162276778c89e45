import JvmDerived
import JvmDerived.Pilot.@@N@@Statement
import JvmDerived.Pilot.@@N@@Code
set_option linter.unusedVariables false
set_option linter.unusedSimpArgs false
namespace Jvm.OwnKit
open Sem ClassFile Op Lib Jvm.Stand Jvm.Free Jvm.LawKit Jvm.RoadKit
section Kit
variable {p : Program} {l : Launch} {e : Env} {R : Room} {s : State} {m : MethodId} {args : Array Value} {below : List Frame} {meth : Method} {c : Code} {T : State} {locs : List Loc} {cells slots : Nat} {Z : State} {a0 : Array Value} {h h0 : Heap} {kc ks : Nat} {Q : Option Value → Heap → List Loc → Prop}
/-- from this state the body comes to its end, and Q holds of what it returns, of the heap there and of the places written -/
def Go (p : Program) (e : Env) (below : List Frame) (s : State) (kc ks : Nat) (Q : Option Value → Heap → List Loc → Prop) (a : State) : Prop :=
  ∃ (t : State) (o : Outcome), Steps p.tables e below a t ∧ t.status = .running ∧ Ended t below o ∧ ∃ v L, o = .returned v ∧ Q v t.heap L ∧ FrameEnd s o t L kc ks
theorem Go.of {a b : State} (st : ∀ t, Steps p.tables e below b t → Steps p.tables e below a t) (k : Go p e below s kc ks Q b) : Go p e below s kc ks Q a := by
  obtain ⟨t, o, h, r⟩ := k
  exact ⟨t, o, st t h, r⟩
theorem pad (X : Stand p l e R s m args below meth c T locs cells slots) {cells' slots' : Nat} (hc : cells ≤ cells') (hs : slots ≤ slots') : Stand p l e R s m args below meth c T locs cells' slots' :=
  ⟨X.admits, X.cas, X.clock, X.frames, X.room, X.hears, X.method, X.code, X.here, X.tail, X.warmed, X.limits, X.bytes, X.same.mono hc hs⟩
theorem Go.leave (X : Stand p l e R s m args below meth c T locs cells slots) (hlk : meth.locks = false) {v : Option Value} (hv : meth.sig.returnType = none → v = none) {g : JFrame}
    (st : ∀ fs, (∀ (f : JFrame) (acts : List Action), f.method = m → f.locked = none → f.entered = [] → (doReturn e (T.setTop f) acts v).1 = T.setFrames fs) → Steps p.tables e below (T.setTop g) (T.setFrames fs))
    (hc : cells ≤ kc) (hs : slots ≤ ks) (q : Q v T.heap locs) : Go p e below s kc ks Q (T.setTop g) := by
  obtain ⟨fs, hr, hrun, hended, hW, hsame⟩ := X.leave hv hlk
  exact ⟨_, _, st fs hr, hrun, hended, v, locs, rfl, q, ⟨_, rfl⟩, hW, hsame.mono hc hs⟩
theorem Go.retI (X : Stand p l e R s m args below meth c T locs cells slots) (hx : p.tables.exec = Jvm.exec) (hlk : meth.locks = false) (hret : meth.sig.returnType = some .int) {pc : Nat} {Ls : Array Slot} {z : Int32} {rest : List Value}
    (hd : decode c.code pc = .ok (.ireturn, 1)) (hc : cells ≤ kc) (hs : slots ≤ ks) (q : Q (some (.int z)) T.heap locs) : Go p e below s kc ks Q (T.setTop (mkF m pc Ls (.int z :: rest))) :=
  Go.leave X hlk (fun h => by rw [hret] at h; cases h) (fun fs hr => retOut X hx hret rfl (Or.inl ⟨rfl, Or.inl rfl, z, rfl⟩) hd hr) hc hs q
theorem Go.retN (X : Stand p l e R s m args below meth c T locs cells slots) (hx : p.tables.exec = Jvm.exec) (hlk : meth.locks = false) {t : FieldType} (hret : meth.sig.returnType = some t) (ht : t = .boolean ∨ t = .byte ∨ t = .char ∨ t = .short) {pc : Nat} {Ls : Array Slot} {z : Int32} {rest : List Value}
    (hd : decode c.code pc = .ok (.ireturn, 1)) (hz : nar t z = z) (hc : cells ≤ kc) (hs : slots ≤ ks) (q : Q (some (.int z)) T.heap locs) : Go p e below s kc ks Q (T.setTop (mkF m pc Ls (.int z :: rest))) :=
  Go.leave X hlk (fun h => by rw [hret] at h; cases h) (fun fs hr => RoadKit.retN X hx hret ht hd (by rw [hz]; exact hr)) hc hs q
theorem Go.retJ (X : Stand p l e R s m args below meth c T locs cells slots) (hx : p.tables.exec = Jvm.exec) (hlk : meth.locks = false) (hret : meth.sig.returnType = some .long) {pc : Nat} {Ls : Array Slot} {z : Int64} {rest : List Value}
    (hd : decode c.code pc = .ok (.lreturn, 1)) (hc : cells ≤ kc) (hs : slots ≤ ks) (q : Q (some (.long z)) T.heap locs) : Go p e below s kc ks Q (T.setTop (mkF m pc Ls (.long z :: rest))) :=
  Go.leave X hlk (fun h => by rw [hret] at h; cases h) (fun fs hr => retOut X hx hret rfl (Or.inr (Or.inl ⟨rfl, rfl, z, rfl⟩)) hd hr) hc hs q
theorem Go.retA (X : Stand p l e R s m args below meth c T locs cells slots) (hx : p.tables.exec = Jvm.exec) (hlk : meth.locks = false) {t : FieldType} (hret : meth.sig.returnType = some t) (ht : t.isReference = true) {pc : Nat} {Ls : Array Slot} {z : Value} {rest : List Value} (hz : z.isRef = true)
    (hd : decode c.code pc = .ok (.areturn, 1)) (hc : cells ≤ kc) (hs : slots ≤ ks) (q : Q (some z) T.heap locs) : Go p e below s kc ks Q (T.setTop (mkF m pc Ls (z :: rest))) :=
  Go.leave X hlk (fun h => by rw [hret] at h; cases h) (fun fs hr => retOut X hx hret (by cases t <;> first | rfl | (simp [FieldType.isReference] at ht; done)) (Or.inr (Or.inr (Or.inr (Or.inr ⟨rfl, ht, hz⟩)))) hd hr) hc hs q
theorem Go.retV (X : Stand p l e R s m args below meth c T locs cells slots) (hx : p.tables.exec = Jvm.exec) (hlk : meth.locks = false) (hret : meth.sig.returnType = none) {pc : Nat} {Ls : Array Slot}
    (hd : decode c.code pc = .ok (.return_, 1)) (hc : cells ≤ kc) (hs : slots ≤ ks) (q : Q none T.heap locs) : Go p e below s kc ks Q (T.setTop (mkF m pc Ls [])) :=
  Go.leave X hlk (fun _ => rfl) (fun fs hr => X.returnOut hx hret hd hr) hc hs q
/-- a body's contract: called with these arguments over this heap it returns, and Q holds -/
def Con (l : Launch) (Z : State) (y : MethodName) (bytes : ByteArray) (maxL : Nat) (ret : Option FieldType) (rm : Room) (as' : Array Value) (h0 : Heap) (Q : Option Value → Heap → List Loc → Prop) : Prop :=
  ∀ ws : List Cond, MetFree l y (head1 (Cond.code y bytes maxL ret :: ws) rm) (fun a U => a = as' ∧ Z.Warmed39 U.vm ∧ U.heap = h0) (fun _ _ _ _ _ => True) (fun _ U o U' => ∃ v L, o = .returned v ∧ Q v U'.heap L ∧ FrameEnd U o U' L rm.cells rm.slots)
theorem Con.intro {y : MethodName} {bytes : ByteArray} {maxL : Nat} {ret : Option FieldType} {rm : Room} {as' : Array Value} {gf : MethodId → JFrame} (hpl : plainFor y = true) (hef : ∀ m, entryFrame m as' maxL = gf m)
    (body : ∀ (p : Program) (e : Env) (s : State) (m : MethodId) (below : List Frame) (meth : Method) (c : Code) (s₁ : State), p.tables.exec = Jvm.exec → c.code = bytes → c.maxLocals = maxL → Z.Warmed39 s.vm → s.vm.findClass y.cls = some m.cls → meth.name = y.name → meth.sig.returnType = ret → meth.locks = false →
      Stand p l e rm s m as' below meth c s₁ [] 0 0 → s₁.heap = h0 → Go p e below s rm.cells rm.slots Q (s₁.setTop (gf m))) : Con l Z y bytes maxL ret rm as' h0 Q := by
  intro ws
  refine MetFree.of_bodySF hpl hisR ?_
  intro p e s m args below meth c s₁ Bd hml hP hK
  obtain ⟨rfl, hZ, hh⟩ := hP
  have k := body p e s m below meth c s₁ Bd.exec Bd.bytes hml hZ (findClass_of_methodNamed Bd.named) (name_of_methodNamed Bd.named Bd.method).1 Bd.returns Bd.notSynchronized (Stand.of_body Bd) (by rw [← hh, Bd.state]; rfl)
  rw [← hef m] at k
  exact k
theorem Go.static (X : Stand p l e R s m args below meth c T locs cells slots) (hx : p.tables.exec = Jvm.exec) (hZ : Z.Warmed39 s.vm) {own : String} {index : Nat} {y : MethodName} {bytes : ByteArray} {maxL : Nat} {ret : Option FieldType} {rm : Room} {Q' : Option Value → Heap → List Loc → Prop} {argsL : List Value}
    (hown : s.vm.findClass own = some m.cls) (w1 : (Cond.methodLink own index y).before a0 Z = true) (w2 : (Cond.static y).before a0 Z = true) (w3 : (Cond.initialized y.cls).before a0 Z = true) (w4 : (Cond.code y bytes maxL ret).before a0 Z = true)
    (hy : y.cls ≠ "java/lang/invoke/MethodHandle" ∧ y.cls ≠ "java/lang/invoke/VarHandle") (W : Nat) (eT : T.heap = h) (K : Con l Z y bytes maxL ret rm argsL.toArray h Q') (hf : rm.frames + 1 ≤ R.frames) (hlo : W + (maxL + 11) + rm.locals ≤ R.locals) (hc : cells + rm.cells ≤ R.cells) (hs : slots + rm.slots ≤ R.slots)
    {g : JFrame} (hg : g.method = m) (hsize : g.locals.size = c.maxLocals) {rest : List Value} (hlen : ∀ sig, parseMethodDescriptor y.desc = some sig → argsL.length = sig.parameters.length) (hstack : g.stack = argsL.reverse ++ rest) (hW : 2 * g.monitorRoom + (rest.map fun v => v.category).sum ≤ W)
    (hd : decode c.code g.pc = .ok (.invokestatic index, 3))
    (k : ∀ (T' : State) (v : Option Value) (L : List Loc), Stand p l e R s m args below meth c T' (locs ++ L) (cells + rm.cells) (slots + rm.slots) → Q' v T'.heap L → Go p e below s kc ks Q (T'.setTop { g with pc := g.pc + 3, stack := v.toList ++ rest })) : Go p e below s kc ks Q (T.setTop g) := by
  obtain ⟨v, _, ⟨T', L', k', n'⟩, -, X', ⟨Lc, hQ, l1, l2, l3⟩, st⟩ := Jvm.LawKit.callS X hx hown (mvT hZ w1) (mvT hZ w2) (mvT hZ w3) (mvT hZ w4) hy (backOf (W := W) (K []) hZ w4 w3 hf hlo) hg hsize hlen hstack hW hd (fun _ _ => ⟨rfl, eT, hc, hs⟩)
  dsimp only [Pt.U, Pt.locs, Pt.cells, Pt.slots] at X' l1 l2 l3 st hQ
  subst l1 l2 l3
  exact Go.of st (k T' v Lc X' hQ)
theorem Go.special (X : Stand p l e R s m args below meth c T locs cells slots) (hx : p.tables.exec = Jvm.exec) (hZ : Z.Warmed39 s.vm) {own : String} {index : Nat} {y : MethodName} {bytes : ByteArray} {maxL : Nat} {rm : Room} {Q' : Option Value → Heap → List Loc → Prop} {a : Addr} {argsL : List Value} (hy1 : y.name = "<init>")
    (hown : s.vm.findClass own = some m.cls) (w1 : (Cond.methodLink own index y).before a0 Z = true) (w2 : (Cond.instanceMethod y).before a0 Z = true) (w3 : (Cond.initialized y.cls).before a0 Z = true) (w4 : (Cond.code y bytes maxL none).before a0 Z = true)
    (hy : y.cls ≠ "java/lang/invoke/MethodHandle" ∧ y.cls ≠ "java/lang/invoke/VarHandle") (W : Nat) (eT : T.heap = h) (K : Con l Z y bytes maxL none rm (Value.ref a :: argsL).toArray h Q') (hf : rm.frames + 1 ≤ R.frames) (hlo : W + (maxL + 11) + rm.locals ≤ R.locals) (hc : cells + rm.cells ≤ R.cells) (hs : slots + rm.slots ≤ R.slots)
    {g : JFrame} (hg : g.method = m) (hsize : g.locals.size = c.maxLocals) {rest : List Value} (hlen : ∀ sig, parseMethodDescriptor y.desc = some sig → argsL.length = sig.parameters.length) (hstack : g.stack = argsL.reverse ++ .ref a :: rest) (hW : 2 * g.monitorRoom + (rest.map fun v => v.category).sum ≤ W)
    (hd : decode c.code g.pc = .ok (.invokespecial index, 3))
    (k : ∀ (T' : State) (v : Option Value) (L : List Loc), Stand p l e R s m args below meth c T' (locs ++ L) (cells + rm.cells) (slots + rm.slots) → Q' v T'.heap L → Go p e below s kc ks Q (T'.setTop { g with pc := g.pc + 3, stack := v.toList ++ rest })) : Go p e below s kc ks Q (T.setTop g) := by
  obtain ⟨v, _, ⟨T', L', k', n'⟩, -, X', ⟨Lc, hQ, l1, l2, l3⟩, st⟩ := X.specialBack hx hy1 hown (mvT hZ w1) (mvT hZ w2) (mvT hZ w4) hy (backOf (W := W) (K []) hZ w4 w3 hf hlo) hg hsize (Steps.refl _) hlen hstack hW hd (fun _ _ => ⟨rfl, eT, hc, hs⟩)
  dsimp only [Pt.U, Pt.locs, Pt.cells, Pt.slots] at X' l1 l2 l3 st hQ
  subst l1 l2 l3
  exact Go.of (fun _ q => st.trans q) (k T' v Lc X' hQ)
theorem Go.virtual (X : Stand p l e R s m args below meth c T locs cells slots) (hx : p.tables.exec = Jvm.exec) (hZ : Z.Warmed39 s.vm) {own C : String} {index : Nat} {y z : MethodName} {bytes : ByteArray} {maxL : Nat} {ret : Option FieldType} {rm : Room} {Q' : Option Value → Heap → List Loc → Prop} {a : Addr} {argsL : List Value}
    (hown : s.vm.findClass own = some m.cls) (w1 : (Cond.methodLink own index y).before a0 Z = true) (w2 : (Cond.declares y).before a0 Z = true) (hnf : NotFace s y) (w5 : (Cond.selects C y z).before a0 Z = true) (w6 : (Cond.instanceMethod z).before a0 Z = true) (w3 : (Cond.initialized z.cls).before a0 Z = true) (w4 : (Cond.code z bytes maxL ret).before a0 Z = true)
    (hy : y.cls ≠ "java/lang/invoke/MethodHandle" ∧ y.cls ≠ "java/lang/invoke/VarHandle") (W : Nat) (eT : T.heap = h) (E : Exa Z h a C) (K : Con l Z z bytes maxL ret rm (Value.ref a :: argsL).toArray h Q') (hf : rm.frames + 1 ≤ R.frames) (hlo : W + (maxL + 11) + rm.locals ≤ R.locals) (hc : cells + rm.cells ≤ R.cells) (hs : slots + rm.slots ≤ R.slots)
    {g : JFrame} (hg : g.method = m) (hsize : g.locals.size = c.maxLocals) {rest : List Value} (hlen : ∀ sig, parseMethodDescriptor y.desc = some sig → argsL.length = sig.parameters.length) (hstack : g.stack = argsL.reverse ++ .ref a :: rest) (hW : 2 * g.monitorRoom + (rest.map fun v => v.category).sum ≤ W)
    (hd : decode c.code g.pc = .ok (.invokevirtual index, 3))
    (k : ∀ (T' : State) (v : Option Value) (L : List Loc), Stand p l e R s m args below meth c T' (locs ++ L) (cells + rm.cells) (slots + rm.slots) → Q' v T'.heap L → Go p e below s kc ks Q (T'.setTop { g with pc := g.pc + 3, stack := v.toList ++ rest })) : Go p e below s kc ks Q (T.setTop g) := by
  obtain ⟨cq, kq, qa, -, qc⟩ := isOf hZ eT E
  obtain ⟨v, _, ⟨T', L', k', n'⟩, -, X', ⟨Lc, hQ, l1, l2, l3⟩, st⟩ := X.virtualBack hx hown (mvT hZ w1) (mvT hZ w2) hnf (mvT hZ w5) (mvT hZ w6) hy (backOf (W := W) (K []) hZ w4 w3 hf hlo) qa qc hg hsize (Steps.refl _) hlen hstack hW hd (fun _ _ => ⟨rfl, eT, hc, hs⟩)
  dsimp only [Pt.U, Pt.locs, Pt.cells, Pt.slots] at X' l1 l2 l3 st hQ
  subst l1 l2 l3
  exact Go.of (fun _ q => st.trans q) (k T' v Lc X' hQ)
theorem Go.virtualUp (X : Stand p l e R s m args below meth c T locs cells slots) (hx : p.tables.exec = Jvm.exec) (hZ : Z.Warmed39 s.vm) {own C owner : String} {index : Nat} {y z : MethodName} {bytes : ByteArray} {maxL : Nat} {ret : Option FieldType} {rm : Room} {Q' : Option Value → Heap → List Loc → Prop} {a : Addr} {argsL : List Value}
    (hown : s.vm.findClass own = some m.cls) (w1 : (Cond.methodLink own index y).before a0 Z = true) (w2 : (Cond.sameMethod y.cls owner y.name y.desc).before a0 Z = true) (w7 : (Cond.declares ⟨owner, y.name, y.desc⟩).before a0 Z = true) (w5 : (Cond.selects C y z).before a0 Z = true) (w6 : (Cond.instanceMethod z).before a0 Z = true) (w3 : (Cond.initialized z.cls).before a0 Z = true) (w4 : (Cond.code z bytes maxL ret).before a0 Z = true)
    (hy : owner ≠ "java/lang/invoke/MethodHandle" ∧ owner ≠ "java/lang/invoke/VarHandle") (W : Nat) (eT : T.heap = h) (E : Exa Z h a C) (K : Con l Z z bytes maxL ret rm (Value.ref a :: argsL).toArray h Q') (hf : rm.frames + 1 ≤ R.frames) (hlo : W + (maxL + 11) + rm.locals ≤ R.locals) (hc : cells + rm.cells ≤ R.cells) (hs : slots + rm.slots ≤ R.slots)
    {g : JFrame} (hg : g.method = m) (hsize : g.locals.size = c.maxLocals) {rest : List Value} (hlen : ∀ sig, parseMethodDescriptor y.desc = some sig → argsL.length = sig.parameters.length) (hstack : g.stack = argsL.reverse ++ .ref a :: rest) (hW : 2 * g.monitorRoom + (rest.map fun v => v.category).sum ≤ W)
    (hd : decode c.code g.pc = .ok (.invokevirtual index, 3))
    (k : ∀ (T' : State) (v : Option Value) (L : List Loc), Stand p l e R s m args below meth c T' (locs ++ L) (cells + rm.cells) (slots + rm.slots) → Q' v T'.heap L → Go p e below s kc ks Q (T'.setTop { g with pc := g.pc + 3, stack := v.toList ++ rest })) : Go p e below s kc ks Q (T.setTop g) := by
  obtain ⟨cq, kq, qa, -, qc⟩ := isOf hZ eT E
  obtain ⟨v, _, ⟨T', L', k', n'⟩, -, X', ⟨Lc, hQ, l1, l2, l3⟩, st⟩ := X.virtualBackUp hx hown (mvT hZ w1) (mvT hZ w2) (mvT hZ w7) hy (mvT hZ w5) (mvT hZ w6) (backOf (W := W) (K []) hZ w4 w3 hf hlo) qa qc hg hsize (Steps.refl _) hlen hstack hW hd (fun _ _ => ⟨rfl, eT, hc, hs⟩)
  dsimp only [Pt.U, Pt.locs, Pt.cells, Pt.slots] at X' l1 l2 l3 st hQ
  subst l1 l2 l3
  exact Go.of (fun _ q => st.trans q) (k T' v Lc X' hQ)
/-- a cast of what may be null -/
theorem castV (X : Stand p l e R s m args below meth c T locs cells slots) (hx : p.tables.exec = Jvm.exec) (hZ : Z.Warmed39 s.vm) {own K : String} {index : Nat} (hown : s.vm.findClass own = some m.cls) (w : (Cond.classLink own index K).before a0 Z = true) (eT : T.heap = h) {v : Value} (F : v = .null ∨ ∃ a, v = .ref a ∧ Ins Z h a K true)
    {g : JFrame} (hg : g.method = m) {rest : List Value} (hs : g.stack = v :: rest) (hd : decode c.code g.pc = .ok (.checkcast index, 3)) : ∃ T', Stand p l e R s m args below meth c T' locs cells slots ∧ T'.heap = h ∧ ∀ target, Steps p.tables e below (T'.setTop { g with pc := g.pc + 3 }) target → Steps p.tables e below (T.setTop g) target := by
  rcases F with rfl | ⟨a, rfl, I⟩
  · exact ⟨T, X, eT, fun target q => X.checkcastNull hx hg hs hd target q⟩
  · exact castY X hx hZ hown w eT I hg hs hd
end Kit
end Jvm.OwnKit
namespace Jvm.Pilot.@@N@@
open Jvm Jvm.ClassFile Sem Op Lib Jvm.Free Jvm.Stand Jvm.LawKit Jvm.RoadKit Jvm.OwnKit Bundle Jvm.Pilot.@@N@@.Jvm.D
def own_cmp (x y : Int64) : Int32 := if x < y then (-1 : Int32) else if x = y then (0 : Int32) else (1 : Int32)
def own_sgn (x : Int32) : Int32 := if x < (0 : Int32) then (-1 : Int32) else if (0 : Int32) < x then (1 : Int32) else (0 : Int32)
theorem own_cmp3 (x y : Int64) : (x < y ∧ ¬ y < x ∧ own_cmp x y = -1 ∧ own_cmp y x = 1) ∨ (¬ x < y ∧ y < x ∧ own_cmp x y = 1 ∧ own_cmp y x = -1) ∨ (¬ x < y ∧ ¬ y < x ∧ own_cmp x y = 0 ∧ own_cmp y x = 0) := by
  unfold own_cmp
  simp only [Int64.lt_iff_toInt_lt, ← Int64.toInt_inj]
  rcases Int.lt_trichotomy x.toInt y.toInt with h | h | h
  · left
    have h1 : ¬ y.toInt < x.toInt := by omega
    have h2 : ¬ y.toInt = x.toInt := by omega
    simp [h, h1, h2]
  · right; right
    simp [h]
  · right; left
    have h1 : ¬ x.toInt < y.toInt := by omega
    have h2 : ¬ x.toInt = y.toInt := by omega
    simp [h, h1, h2]
theorem own_plain1 (a b c d : Int64) (z : Int32) (hz : z = (if a < b then (-1 : Int32) else (if b < a then (1 : Int32) else (if c < d then (-1 : Int32) else (if d < c then (1 : Int32) else (0 : Int32)))))) :
    own_sgn (if (own_cmp a b) = (0 : Int32) then (own_cmp c d) else (own_cmp a b)) = z ∧ own_sgn (if (own_cmp b a) = (0 : Int32) then (own_cmp d c) else (own_cmp b a)) = -z := by
  subst hz
  rcases own_cmp3 a b with ⟨h1, h2, h3, h4⟩ | ⟨h1, h2, h3, h4⟩ | ⟨h1, h2, h3, h4⟩ <;> rcases own_cmp3 c d with ⟨g1, g2, g3, g4⟩ | ⟨g1, g2, g3, g4⟩ | ⟨g1, g2, g3, g4⟩ <;> simp only [h1, h2, h3, h4, g1, g2, g3, g4, if_true, if_false] <;> decide
theorem d2_0 : decode jdk_30_method_1_code 0 = .ok (.aload_n 0, 1) := by decide +kernel
theorem d2_1 : decode jdk_30_method_1_code 1 = .ok (.invokespecial 1, 3) := by decide +kernel
theorem d2_4 : decode jdk_30_method_1_code 4 = .ok (.return_, 1) := by decide +kernel
theorem pn0 : plainName "java/lang/Record" = true := by first | (simp [plainName, overriddenIn]; done) | decide +kernel
theorem ef_2 (m : MethodId) (a : Addr) : entryFrame m #[(.ref a)] 1 = mkF m 0 #[.val (.ref a)] [] := by first | (simp [entryFrame, mkF, argsToLocals, Value.category]; done) | rfl
def Q2 (Z : State) (a : Addr) (h0 : Heap) (n0 : Nat) (v : Option Value) (h : Heap) (L : List Loc) : Prop := v = none ∧ Fr n0 L ∧ h = h0
set_option maxRecDepth 65536 in
set_option maxHeartbeats 40000000 in
theorem rm2 (l : Launch) (Z : State) (a0 : Array Value) (hw : ∀ d ∈ tables_1, d.before a0 Z = true) (a : Addr) (h0 : Heap) (n0 : Nat) (Zs : n0 ≤ h0.size)  :
    Con l Z (⟨"java/lang/Record", "<init>", "()V"⟩ : MethodName) jdk_30_method_1_code 1 none ({ frames := 1, cells := 0, slots := 0, locals := 12 } : Room) #[(.ref a)] h0 (Q2 Z a h0 n0) := by
  refine Con.intro (plainFor_of_name pn0) (fun m => ef_2 m a) ?_
  intro p e s m below meth c s₁ hx hby hml0 hZ hown hnm hret hlk X0 e0
  have hml : c.maxLocals = 1 := hml0
  have N0 := Fr.nil n0
  have Kp : Keep h0 h0 [] := Keep.refl h0 _
  show Go _ _ _ _ _ _ _ (s₁.setTop (mkF m 0 #[.val (.ref a)] []))
  refine Go.of (fun _ q => XS.aloadN X0.here hx rfl (hb hby d2_0) rfl rfl q) ?_
  show Go _ _ _ _ _ _ _ (s₁.setTop (mkF m 1 #[.val (.ref a)] [(.ref a)]))
  obtain ⟨T1, X1, e1, st1⟩ := initO X0 hx hZ hown (hw _ (List.mem_of_getElem? (i := 11) rfl)) (hw _ (List.mem_of_getElem? (i := 12) rfl)) (hw _ (List.mem_of_getElem? (i := 13) rfl)) e0 (g := (mkF m 1 #[.val (.ref a)] [(.ref a)])) rfl (by rw [hml]; rfl) rfl (hb hby d2_1) (by decide) (W := 0) (by show 2 * 0 + _ ≤ _; exact Nat.le_of_eq rfl) (by decide)
  refine Go.of st1 ?_
  show Go _ _ _ _ _ _ _ (T1.setTop (mkF m 4 #[.val (.ref a)] []))
  refine Go.retV X1 hx hlk hret (hb hby d2_4) (by decide) (by decide) ?_
  rw [e1]
  exact ⟨rfl, N0, rfl⟩
theorem pd0 : parseMethodDescriptor "()V" = some ⟨[], none⟩ := by decide +kernel
theorem d1_0 : decode prog_27_method_1_code 0 = .ok (.aload_n 0, 1) := by decide +kernel
theorem d1_1 : decode prog_27_method_1_code 1 = .ok (.invokespecial 1, 3) := by decide +kernel
theorem d1_4 : decode prog_27_method_1_code 4 = .ok (.aload_n 0, 1) := by decide +kernel
theorem d1_5 : decode prog_27_method_1_code 5 = .ok (.lload_n 1, 1) := by decide +kernel
theorem d1_6 : decode prog_27_method_1_code 6 = .ok (.putfield 7, 3) := by decide +kernel
theorem d1_9 : decode prog_27_method_1_code 9 = .ok (.aload_n 0, 1) := by decide +kernel
theorem d1_10 : decode prog_27_method_1_code 10 = .ok (.lload_n 3, 1) := by decide +kernel
theorem d1_11 : decode prog_27_method_1_code 11 = .ok (.putfield 13, 3) := by decide +kernel
theorem d1_14 : decode prog_27_method_1_code 14 = .ok (.return_, 1) := by decide +kernel
theorem pn1 : plainName "com/example/ddos_fee_ledger/ddosfeeledger/IndexRun$Place" = true := by first | (simp [plainName, overriddenIn]; done) | decide +kernel
theorem ef_1 (m : MethodId) (a : Addr) (f1 : Int64) (l1 : Int64) : entryFrame m #[(.ref a), (.long f1), (.long l1)] 5 = mkF m 0 #[.val (.ref a), .val (.long f1), .second, .val (.long l1), .second] [] := by first | (simp [entryFrame, mkF, argsToLocals, Value.category]; done) | rfl
def Q1 (Z : State) (a : Addr) (f1 : Int64) (l1 : Int64) (u1 : Int64) (u2 : Int64) (h0 : Heap) (n0 : Nat) (v : Option Value) (h : Heap) (L : List Loc) : Prop := v = none ∧ Fr n0 L ∧ Keep h0 h [a] ∧ Exa Z h a "com/example/ddos_fee_ledger/ddosfeeledger/IndexRun$Place" ∧ Fld Z h a "com/example/ddos_fee_ledger/ddosfeeledger/IndexRun$Place" "batch" "J" (.long f1) ∧ Fld Z h a "com/example/ddos_fee_ledger/ddosfeeledger/IndexRun$Place" "line" "J" (.long l1)
set_option maxRecDepth 65536 in
set_option maxHeartbeats 40000000 in
theorem rm1 (l : Launch) (Z : State) (a0 : Array Value) (hw : ∀ d ∈ tables_1, d.before a0 Z = true) (a : Addr) (f1 : Int64) (l1 : Int64) (u1 : Int64) (u2 : Int64) (h0 : Heap) (n0 : Nat) (Zs : n0 ≤ h0.size) (E_a : Exa Z h0 a "com/example/ddos_fee_ledger/ddosfeeledger/IndexRun$Place") (F_a_batch : Fld Z h0 a "com/example/ddos_fee_ledger/ddosfeeledger/IndexRun$Place" "batch" "J" (.long u1)) (F_a_line : Fld Z h0 a "com/example/ddos_fee_ledger/ddosfeeledger/IndexRun$Place" "line" "J" (.long u2)) (g_a : n0 ≤ a) :
    Con l Z (⟨"com/example/ddos_fee_ledger/ddosfeeledger/IndexRun$Place", "<init>", "(JJ)V"⟩ : MethodName) prog_27_method_1_code 5 none ({ frames := 2, cells := 0, slots := 0, locals := 24 } : Room) #[(.ref a), (.long f1), (.long l1)] h0 (Q1 Z a f1 l1 u1 u2 h0 n0) := by
  refine Con.intro (plainFor_of_name pn1) (fun m => ef_1 m a f1 l1) ?_
  intro p e s m below meth c s₁ hx hby hml0 hZ hown hnm hret hlk X0 e0
  have hml : c.maxLocals = 5 := hml0
  have N0 := Fr.nil n0
  have Kp : Keep h0 h0 [a] := Keep.refl h0 _
  show Go _ _ _ _ _ _ _ (s₁.setTop (mkF m 0 #[.val (.ref a), .val (.long f1), .second, .val (.long l1), .second] []))
  refine Go.of (fun _ q => XS.aloadN X0.here hx rfl (hb hby d1_0) rfl rfl q) ?_
  show Go _ _ _ _ _ _ _ (s₁.setTop (mkF m 1 #[.val (.ref a), .val (.long f1), .second, .val (.long l1), .second] [(.ref a)]))
  refine Go.special X0 hx hZ (y := (⟨"java/lang/Record", "<init>", "()V"⟩ : MethodName)) (a := a) (argsL := []) rfl hown (hw _ (List.mem_of_getElem? (i := 6) rfl)) (hw _ (List.mem_of_getElem? (i := 7) rfl)) (hw _ (List.mem_of_getElem? (i := 9) rfl)) (hw _ (List.mem_of_getElem? (i := 10) rfl)) (by decide) 0 e0 (rm2 l Z a0 hw a h0 n0 Zs ) (by decide) (by decide) (by decide) (by decide) (g := (mkF m 1 #[.val (.ref a), .val (.long f1), .second, .val (.long l1), .second] [(.ref a)])) rfl (by rw [hml]; rfl) (rest := []) (lenOf pd0 rfl) rfl (by show 2 * 0 + _ ≤ _; exact Nat.le_of_eq rfl) (hb hby d1_1) ?_
  intro T1 v1 L1 X1 q1
  obtain ⟨rfl, Nq1, e1⟩ := q1
  have N1 := Fr.app N0 Nq1
  show Go _ _ _ _ _ _ _ (T1.setTop (mkF m 4 #[.val (.ref a), .val (.long f1), .second, .val (.long l1), .second] []))
  refine Go.of (fun _ q => XS.aloadN X1.here hx rfl (hb hby d1_4) rfl rfl q) ?_
  show Go _ _ _ _ _ _ _ (T1.setTop (mkF m 5 #[.val (.ref a), .val (.long f1), .second, .val (.long l1), .second] [(.ref a)]))
  refine Go.of (fun _ q => XS.lloadN X1.here hx rfl (hb hby d1_5) rfl q) ?_
  show Go _ _ _ _ _ _ _ (T1.setTop (mkF m 6 #[.val (.ref a), .val (.long f1), .second, .val (.long l1), .second] [(.long f1), (.ref a)]))
  obtain ⟨T2, h2, X2, e2, W2, st2⟩ := putF X1 hx hZ hown (host := "") (Or.inl (hw _ (List.mem_of_getElem? (i := 14) rfl))) Via.refl e1 F_a_batch E_a (Or.inr ⟨(hw _ (List.mem_of_getElem? (i := 15) rfl)), rfl, hnm⟩) (hw _ (List.mem_of_getElem? (i := 1) rfl)) (ty := .long) (by decide) rfl rfl (g := (mkF m 6 #[.val (.ref a), .val (.long f1), .second, .val (.long l1), .second] [(.long f1), (.ref a)])) rfl rfl (hb hby d1_6)
  refine Go.of st2 ?_
  have Zs := Nat.le_trans Zs (Nat.le_of_eq W2.size.symm)
  have Kp := Kp.wr W2 (Or.inl (List.mem_of_getElem? (i := 0) rfl))
  have E_a := E_a.wr W2
  have F_a_batch := F_a_batch.same W2
  have F_a_line := F_a_line.other W2 (Or.inr (slot_ne (Or.inr (hw _ (List.mem_of_getElem? (i := 17) rfl))) (Or.inr (hw _ (List.mem_of_getElem? (i := 15) rfl))) (by decide) (t := .long) (t' := .long) (by decide) (by decide)))
  have N2 := Fr.snoc X2 N1 g_a
  show Go _ _ _ _ _ _ _ (T2.setTop (mkF m 9 #[.val (.ref a), .val (.long f1), .second, .val (.long l1), .second] []))
  refine Go.of (fun _ q => XS.aloadN X2.here hx rfl (hb hby d1_9) rfl rfl q) ?_
  show Go _ _ _ _ _ _ _ (T2.setTop (mkF m 10 #[.val (.ref a), .val (.long f1), .second, .val (.long l1), .second] [(.ref a)]))
  refine Go.of (fun _ q => XS.lloadN X2.here hx rfl (hb hby d1_10) rfl q) ?_
  show Go _ _ _ _ _ _ _ (T2.setTop (mkF m 11 #[.val (.ref a), .val (.long f1), .second, .val (.long l1), .second] [(.long l1), (.ref a)]))
  obtain ⟨T3, h3, X3, e3, W3, st3⟩ := putF X2 hx hZ hown (host := "") (Or.inl (hw _ (List.mem_of_getElem? (i := 16) rfl))) Via.refl e2 F_a_line E_a (Or.inr ⟨(hw _ (List.mem_of_getElem? (i := 17) rfl)), rfl, hnm⟩) (hw _ (List.mem_of_getElem? (i := 1) rfl)) (ty := .long) (by decide) rfl rfl (g := (mkF m 11 #[.val (.ref a), .val (.long f1), .second, .val (.long l1), .second] [(.long l1), (.ref a)])) rfl rfl (hb hby d1_11)
  refine Go.of st3 ?_
  have Zs := Nat.le_trans Zs (Nat.le_of_eq W3.size.symm)
  have Kp := Kp.wr W3 (Or.inl (List.mem_of_getElem? (i := 0) rfl))
  have E_a := E_a.wr W3
  have F_a_batch := F_a_batch.other W3 (Or.inr (slot_ne (Or.inr (hw _ (List.mem_of_getElem? (i := 15) rfl))) (Or.inr (hw _ (List.mem_of_getElem? (i := 17) rfl))) (by decide) (t := .long) (t' := .long) (by decide) (by decide)))
  have F_a_line := F_a_line.same W3
  have N3 := Fr.snoc X3 N2 g_a
  show Go _ _ _ _ _ _ _ (T3.setTop (mkF m 14 #[.val (.ref a), .val (.long f1), .second, .val (.long l1), .second] []))
  refine Go.retV X3 hx hlk hret (hb hby d1_14) (by decide) (by decide) ?_
  rw [e3]
  exact ⟨rfl, N3, Kp, E_a, F_a_batch, F_a_line⟩
theorem d5_0 : decode jdk_35_method_42_code 0 = .ok (.lload_n 0, 1) := by decide +kernel
theorem d5_1 : decode jdk_35_method_42_code 1 = .ok (.lload_n 2, 1) := by decide +kernel
theorem d5_2 : decode jdk_35_method_42_code 2 = .ok (.lcmp, 1) := by decide +kernel
theorem d5_3 : decode jdk_35_method_42_code 3 = .ok (.ifCond .ge 7, 3) := by decide +kernel
theorem d5_6 : decode jdk_35_method_42_code 6 = .ok (.iconst (-1), 1) := by decide +kernel
theorem d5_7 : decode jdk_35_method_42_code 7 = .ok (.goto 14, 3) := by decide +kernel
theorem d5_10 : decode jdk_35_method_42_code 10 = .ok (.lload_n 0, 1) := by decide +kernel
theorem d5_11 : decode jdk_35_method_42_code 11 = .ok (.lload_n 2, 1) := by decide +kernel
theorem d5_12 : decode jdk_35_method_42_code 12 = .ok (.lcmp, 1) := by decide +kernel
theorem d5_13 : decode jdk_35_method_42_code 13 = .ok (.ifCond .ne 7, 3) := by decide +kernel
theorem d5_16 : decode jdk_35_method_42_code 16 = .ok (.iconst 0, 1) := by decide +kernel
theorem d5_17 : decode jdk_35_method_42_code 17 = .ok (.goto 4, 3) := by decide +kernel
theorem d5_20 : decode jdk_35_method_42_code 20 = .ok (.iconst 1, 1) := by decide +kernel
theorem d5_21 : decode jdk_35_method_42_code 21 = .ok (.ireturn, 1) := by decide +kernel
theorem pn2 : plainName "java/lang/Long" = true := by first | (simp [plainName, overriddenIn]; done) | decide +kernel
theorem ef_5 (m : MethodId) (x : Int64) (y : Int64) : entryFrame m #[(.long x), (.long y)] 4 = mkF m 0 #[.val (.long x), .second, .val (.long y), .second] [] := by first | (simp [entryFrame, mkF, argsToLocals, Value.category]; done) | rfl
def Q5 (Z : State) (x : Int64) (y : Int64) (h0 : Heap) (n0 : Nat) (v : Option Value) (h : Heap) (L : List Loc) : Prop := v = some (.int (own_cmp x y)) ∧ Fr n0 L ∧ h = h0
set_option maxRecDepth 65536 in
set_option maxHeartbeats 40000000 in
theorem rm5 (l : Launch) (Z : State) (a0 : Array Value) (hw : ∀ d ∈ tables_1, d.before a0 Z = true) (x : Int64) (y : Int64) (h0 : Heap) (n0 : Nat) (Zs : n0 ≤ h0.size)  :
    Con l Z (⟨"java/lang/Long", "compare", "(JJ)I"⟩ : MethodName) jdk_35_method_42_code 4 (some .int) ({ frames := 0, cells := 0, slots := 0, locals := 0 } : Room) #[(.long x), (.long y)] h0 (Q5 Z x y h0 n0) := by
  refine Con.intro (plainFor_of_name pn2) (fun m => ef_5 m x y) ?_
  intro p e s m below meth c s₁ hx hby hml0 hZ hown hnm hret hlk X0 e0
  have hml : c.maxLocals = 4 := hml0
  have N0 := Fr.nil n0
  have Kp : Keep h0 h0 [] := Keep.refl h0 _
  show Go _ _ _ _ _ _ _ (s₁.setTop (mkF m 0 #[.val (.long x), .second, .val (.long y), .second] []))
  refine Go.of (fun _ q => XS.lloadN X0.here hx rfl (hb hby d5_0) rfl q) ?_
  show Go _ _ _ _ _ _ _ (s₁.setTop (mkF m 1 #[.val (.long x), .second, .val (.long y), .second] [(.long x)]))
  refine Go.of (fun _ q => XS.lloadN X0.here hx rfl (hb hby d5_1) rfl q) ?_
  show Go _ _ _ _ _ _ _ (s₁.setTop (mkF m 2 #[.val (.long x), .second, .val (.long y), .second] [(.long y), (.long x)]))
  refine Go.of (fun _ q => XS.lcmp X0.here hx rfl (hb hby d5_2) rfl q) ?_
  show Go _ _ _ _ _ _ _ (s₁.setTop (mkF m 3 #[.val (.long x), .second, .val (.long y), .second] [(.int (lcmpW x y))]))
  by_cases c3 : x < y
  · refine Go.of (fun _ q => XS.ifNo X0.here hx rfl (hb hby d5_3) rfl ((if0 _ _).trans (tlt ((lw_lt x y).mpr c3)).2.1) q) ?_
    show Go _ _ _ _ _ _ _ (s₁.setTop (mkF m 6 #[.val (.long x), .second, .val (.long y), .second] []))
    refine Go.of (fun _ q => XS.iconst X0.here hx rfl (hb hby d5_6) q) ?_
    show Go _ _ _ _ _ _ _ (s₁.setTop (mkF m 7 #[.val (.long x), .second, .val (.long y), .second] [(.int (-1 : Int32))]))
    refine Go.of (fun _ q => XS.goto X0.here hx rfl (pc0 := 7) (pc' := 21) rfl (hb hby d5_7) (by decide) (by decide) q) ?_
    show Go _ _ _ _ _ _ _ (s₁.setTop (mkF m 21 #[.val (.long x), .second, .val (.long y), .second] [(.int (-1 : Int32))]))
    refine Go.retI X0 hx hlk hret (hb hby d5_21) (by decide) (by decide) ?_
    rw [e0]
    exact ⟨(by unfold own_cmp; rw [if_pos c3]), N0, rfl⟩
  · refine Go.of (fun _ q => XS.ifYes X0.here hx rfl (pc0 := 3) (pc' := 10) rfl (hb hby d5_3) rfl ((if0 _ _).trans (flt (mt (lw_lt x y).mp c3)).2.1) (by decide) (by decide) q) ?_
    show Go _ _ _ _ _ _ _ (s₁.setTop (mkF m 10 #[.val (.long x), .second, .val (.long y), .second] []))
    refine Go.of (fun _ q => XS.lloadN X0.here hx rfl (hb hby d5_10) rfl q) ?_
    show Go _ _ _ _ _ _ _ (s₁.setTop (mkF m 11 #[.val (.long x), .second, .val (.long y), .second] [(.long x)]))
    refine Go.of (fun _ q => XS.lloadN X0.here hx rfl (hb hby d5_11) rfl q) ?_
    show Go _ _ _ _ _ _ _ (s₁.setTop (mkF m 12 #[.val (.long x), .second, .val (.long y), .second] [(.long y), (.long x)]))
    refine Go.of (fun _ q => XS.lcmp X0.here hx rfl (hb hby d5_12) rfl q) ?_
    show Go _ _ _ _ _ _ _ (s₁.setTop (mkF m 13 #[.val (.long x), .second, .val (.long y), .second] [(.int (lcmpW x y))]))
    by_cases c13 : x = y
    · refine Go.of (fun _ q => XS.ifNo X0.here hx rfl (hb hby d5_13) rfl ((if0 _ _).trans (teq ((lw_eq x y).mpr c13)).2) q) ?_
      show Go _ _ _ _ _ _ _ (s₁.setTop (mkF m 16 #[.val (.long x), .second, .val (.long y), .second] []))
      refine Go.of (fun _ q => XS.iconst X0.here hx rfl (hb hby d5_16) q) ?_
      show Go _ _ _ _ _ _ _ (s₁.setTop (mkF m 17 #[.val (.long x), .second, .val (.long y), .second] [(.int (0 : Int32))]))
      refine Go.of (fun _ q => XS.goto X0.here hx rfl (pc0 := 17) (pc' := 21) rfl (hb hby d5_17) (by decide) (by decide) q) ?_
      show Go _ _ _ _ _ _ _ (s₁.setTop (mkF m 21 #[.val (.long x), .second, .val (.long y), .second] [(.int (0 : Int32))]))
      refine Go.retI X0 hx hlk hret (hb hby d5_21) (by decide) (by decide) ?_
      rw [e0]
      exact ⟨(by unfold own_cmp; rw [if_neg c3, if_pos c13]), N0, rfl⟩
    · refine Go.of (fun _ q => XS.ifYes X0.here hx rfl (pc0 := 13) (pc' := 20) rfl (hb hby d5_13) rfl ((if0 _ _).trans (feq (mt (lw_eq x y).mp c13)).2) (by decide) (by decide) q) ?_
      show Go _ _ _ _ _ _ _ (s₁.setTop (mkF m 20 #[.val (.long x), .second, .val (.long y), .second] []))
      refine Go.of (fun _ q => XS.iconst X0.here hx rfl (hb hby d5_20) q) ?_
      show Go _ _ _ _ _ _ _ (s₁.setTop (mkF m 21 #[.val (.long x), .second, .val (.long y), .second] [(.int (1 : Int32))]))
      refine Go.retI X0 hx hlk hret (hb hby d5_21) (by decide) (by decide) ?_
      rw [e0]
      exact ⟨(by unfold own_cmp; rw [if_neg c3, if_neg c13]), N0, rfl⟩
theorem pd1 : parseMethodDescriptor "(JJ)I" = some ⟨[.long, .long], some .int⟩ := by decide +kernel
theorem d4_0 : decode prog_27_method_2_code 0 = .ok (.aload_n 0, 1) := by decide +kernel
theorem d4_1 : decode prog_27_method_2_code 1 = .ok (.getfield 7, 3) := by decide +kernel
theorem d4_4 : decode prog_27_method_2_code 4 = .ok (.aload_n 1, 1) := by decide +kernel
theorem d4_5 : decode prog_27_method_2_code 5 = .ok (.getfield 7, 3) := by decide +kernel
theorem d4_8 : decode prog_27_method_2_code 8 = .ok (.invokestatic 16, 3) := by decide +kernel
theorem d4_11 : decode prog_27_method_2_code 11 = .ok (.istore_n 2, 1) := by decide +kernel
theorem d4_12 : decode prog_27_method_2_code 12 = .ok (.iload_n 2, 1) := by decide +kernel
theorem d4_13 : decode prog_27_method_2_code 13 = .ok (.ifCond .ne 15, 3) := by decide +kernel
theorem d4_16 : decode prog_27_method_2_code 16 = .ok (.aload_n 0, 1) := by decide +kernel
theorem d4_17 : decode prog_27_method_2_code 17 = .ok (.getfield 13, 3) := by decide +kernel
theorem d4_20 : decode prog_27_method_2_code 20 = .ok (.aload_n 1, 1) := by decide +kernel
theorem d4_21 : decode prog_27_method_2_code 21 = .ok (.getfield 13, 3) := by decide +kernel
theorem d4_24 : decode prog_27_method_2_code 24 = .ok (.invokestatic 16, 3) := by decide +kernel
theorem d4_27 : decode prog_27_method_2_code 27 = .ok (.istore_n 2, 1) := by decide +kernel
theorem d4_28 : decode prog_27_method_2_code 28 = .ok (.iload_n 2, 1) := by decide +kernel
theorem d4_29 : decode prog_27_method_2_code 29 = .ok (.ireturn, 1) := by decide +kernel
theorem ef_4 (m : MethodId) (a : Addr) (b : Addr) : entryFrame m #[(.ref a), (.ref b)] 3 = mkF m 0 #[.val (.ref a), .val (.ref b), .unset] [] := by first | (simp [entryFrame, mkF, argsToLocals, Value.category]; done) | rfl
def Q4 (Z : State) (a : Addr) (b : Addr) (u1 : Int64) (u2 : Int64) (w1 : Int64) (w2 : Int64) (h0 : Heap) (n0 : Nat) (v : Option Value) (h : Heap) (L : List Loc) : Prop := v = some (.int (if (own_cmp u1 w1) = (0 : Int32) then (own_cmp u2 w2) else (own_cmp u1 w1))) ∧ Fr n0 L ∧ h = h0
set_option maxRecDepth 65536 in
set_option maxHeartbeats 40000000 in
theorem rm4 (l : Launch) (Z : State) (a0 : Array Value) (hw : ∀ d ∈ tables_1, d.before a0 Z = true) (a : Addr) (b : Addr) (u1 : Int64) (u2 : Int64) (w1 : Int64) (w2 : Int64) (h0 : Heap) (n0 : Nat) (Zs : n0 ≤ h0.size) (F_a_batch : Fld Z h0 a "com/example/ddos_fee_ledger/ddosfeeledger/IndexRun$Place" "batch" "J" (.long u1)) (F_a_line : Fld Z h0 a "com/example/ddos_fee_ledger/ddosfeeledger/IndexRun$Place" "line" "J" (.long u2)) (F_b_batch : Fld Z h0 b "com/example/ddos_fee_ledger/ddosfeeledger/IndexRun$Place" "batch" "J" (.long w1)) (F_b_line : Fld Z h0 b "com/example/ddos_fee_ledger/ddosfeeledger/IndexRun$Place" "line" "J" (.long w2)) :
    Con l Z (⟨"com/example/ddos_fee_ledger/ddosfeeledger/IndexRun$Place", "compareTo", "(Lcom/example/ddos_fee_ledger/ddosfeeledger/IndexRun$Place;)I"⟩ : MethodName) prog_27_method_2_code 3 (some .int) ({ frames := 1, cells := 0, slots := 0, locals := 15 } : Room) #[(.ref a), (.ref b)] h0 (Q4 Z a b u1 u2 w1 w2 h0 n0) := by
  refine Con.intro (plainFor_of_name pn1) (fun m => ef_4 m a b) ?_
  intro p e s m below meth c s₁ hx hby hml0 hZ hown hnm hret hlk X0 e0
  have hml : c.maxLocals = 3 := hml0
  have N0 := Fr.nil n0
  have Kp : Keep h0 h0 [] := Keep.refl h0 _
  show Go _ _ _ _ _ _ _ (s₁.setTop (mkF m 0 #[.val (.ref a), .val (.ref b), .unset] []))
  refine Go.of (fun _ q => XS.aloadN X0.here hx rfl (hb hby d4_0) rfl rfl q) ?_
  show Go _ _ _ _ _ _ _ (s₁.setTop (mkF m 1 #[.val (.ref a), .val (.ref b), .unset] [(.ref a)]))
  obtain ⟨T1, X1, e1, st1⟩ := getF X0 hx hZ hown (host := "") (Or.inl (hw _ (List.mem_of_getElem? (i := 14) rfl))) Via.refl e0 F_a_batch (g := (mkF m 1 #[.val (.ref a), .val (.ref b), .unset] [(.ref a)])) rfl rfl (hb hby d4_1)
  refine Go.of st1 ?_
  show Go _ _ _ _ _ _ _ (T1.setTop (mkF m 4 #[.val (.ref a), .val (.ref b), .unset] [(.long u1)]))
  refine Go.of (fun _ q => XS.aloadN X1.here hx rfl (hb hby d4_4) rfl rfl q) ?_
  show Go _ _ _ _ _ _ _ (T1.setTop (mkF m 5 #[.val (.ref a), .val (.ref b), .unset] [(.ref b), (.long u1)]))
  obtain ⟨T2, X2, e2, st2⟩ := getF X1 hx hZ hown (host := "") (Or.inl (hw _ (List.mem_of_getElem? (i := 14) rfl))) Via.refl e1 F_b_batch (g := (mkF m 5 #[.val (.ref a), .val (.ref b), .unset] [(.ref b), (.long u1)])) rfl rfl (hb hby d4_5)
  refine Go.of st2 ?_
  show Go _ _ _ _ _ _ _ (T2.setTop (mkF m 8 #[.val (.ref a), .val (.ref b), .unset] [(.long w1), (.long u1)]))
  refine Go.static X2 hx hZ (y := (⟨"java/lang/Long", "compare", "(JJ)I"⟩ : MethodName)) (argsL := [(.long u1), (.long w1)]) hown (hw _ (List.mem_of_getElem? (i := 23) rfl)) (hw _ (List.mem_of_getElem? (i := 24) rfl)) (hw _ (List.mem_of_getElem? (i := 25) rfl)) (hw _ (List.mem_of_getElem? (i := 26) rfl)) (by decide) 0 e2 (rm5 l Z a0 hw u1 w1 h0 n0 Zs ) (by decide) (by decide) (by decide) (by decide) (g := (mkF m 8 #[.val (.ref a), .val (.ref b), .unset] [(.long w1), (.long u1)])) rfl (by rw [hml]; rfl) (rest := []) (lenOf pd1 rfl) rfl (by show 2 * 0 + _ ≤ _; exact Nat.le_of_eq rfl) (hb hby d4_8) ?_
  intro T3 v3 L3 X3 q3
  obtain ⟨rfl, Nq3, e3⟩ := q3
  have N3 := Fr.app N0 Nq3
  show Go _ _ _ _ _ _ _ (T3.setTop (mkF m 11 #[.val (.ref a), .val (.ref b), .unset] [(.int (own_cmp u1 w1))]))
  refine Go.of (fun _ q => XS.istoreN X3.here hx rfl (hb hby d4_11) rfl (l' := #[.val (.ref a), .val (.ref b), .val (.int (own_cmp u1 w1))]) rfl q) ?_
  show Go _ _ _ _ _ _ _ (T3.setTop (mkF m 12 #[.val (.ref a), .val (.ref b), .val (.int (own_cmp u1 w1))] []))
  refine Go.of (fun _ q => XS.iloadN X3.here hx rfl (hb hby d4_12) rfl q) ?_
  show Go _ _ _ _ _ _ _ (T3.setTop (mkF m 13 #[.val (.ref a), .val (.ref b), .val (.int (own_cmp u1 w1))] [(.int (own_cmp u1 w1))]))
  have J7 : ∀ (TJ7 : State) (lJ7 : List Loc) (zJ7_0 : Int32), Stand p l e ({ frames := 1, cells := 0, slots := 0, locals := 15 } : Room) s m #[(.ref a), (.ref b)] below meth c TJ7 lJ7 0 0 → TJ7.heap = h0 → Fr n0 lJ7 → zJ7_0 = (if (own_cmp u1 w1) = (0 : Int32) then (own_cmp u2 w2) else (own_cmp u1 w1)) → Go p e below s ({ frames := 1, cells := 0, slots := 0, locals := 15 } : Room).cells ({ frames := 1, cells := 0, slots := 0, locals := 15 } : Room).slots (Q4 Z a b u1 u2 w1 w2 h0 n0) (TJ7.setTop (mkF m 28 #[.val (.ref a), .val (.ref b), .val (.int zJ7_0)] [])) := by
    intro TJ7 lJ7 zJ7_0 XJ7 eJ7 NJ7 hzJ7_0
    subst hzJ7_0
    show Go _ _ _ _ _ _ _ (TJ7.setTop (mkF m 28 #[.val (.ref a), .val (.ref b), .val (.int (if (own_cmp u1 w1) = (0 : Int32) then (own_cmp u2 w2) else (own_cmp u1 w1)))] []))
    refine Go.of (fun _ q => XS.iloadN XJ7.here hx rfl (hb hby d4_28) rfl q) ?_
    show Go _ _ _ _ _ _ _ (TJ7.setTop (mkF m 29 #[.val (.ref a), .val (.ref b), .val (.int (if (own_cmp u1 w1) = (0 : Int32) then (own_cmp u2 w2) else (own_cmp u1 w1)))] [(.int (if (own_cmp u1 w1) = (0 : Int32) then (own_cmp u2 w2) else (own_cmp u1 w1)))]))
    refine Go.retI XJ7 hx hlk hret (hb hby d4_29) (by decide) (by decide) ?_
    rw [eJ7]
    exact ⟨rfl, NJ7, rfl⟩
  by_cases c13 : (own_cmp u1 w1) = (0 : Int32)
  · refine Go.of (fun _ q => XS.ifNo X3.here hx rfl (hb hby d4_13) rfl ((if0 _ _).trans (teq c13).2) q) ?_
    show Go _ _ _ _ _ _ _ (T3.setTop (mkF m 16 #[.val (.ref a), .val (.ref b), .val (.int (own_cmp u1 w1))] []))
    refine Go.of (fun _ q => XS.aloadN X3.here hx rfl (hb hby d4_16) rfl rfl q) ?_
    show Go _ _ _ _ _ _ _ (T3.setTop (mkF m 17 #[.val (.ref a), .val (.ref b), .val (.int (own_cmp u1 w1))] [(.ref a)]))
    obtain ⟨T4, X4, e4, st4⟩ := getF X3 hx hZ hown (host := "") (Or.inl (hw _ (List.mem_of_getElem? (i := 16) rfl))) Via.refl e3 F_a_line (g := (mkF m 17 #[.val (.ref a), .val (.ref b), .val (.int (own_cmp u1 w1))] [(.ref a)])) rfl rfl (hb hby d4_17)
    refine Go.of st4 ?_
    show Go _ _ _ _ _ _ _ (T4.setTop (mkF m 20 #[.val (.ref a), .val (.ref b), .val (.int (own_cmp u1 w1))] [(.long u2)]))
    refine Go.of (fun _ q => XS.aloadN X4.here hx rfl (hb hby d4_20) rfl rfl q) ?_
    show Go _ _ _ _ _ _ _ (T4.setTop (mkF m 21 #[.val (.ref a), .val (.ref b), .val (.int (own_cmp u1 w1))] [(.ref b), (.long u2)]))
    obtain ⟨T5, X5, e5, st5⟩ := getF X4 hx hZ hown (host := "") (Or.inl (hw _ (List.mem_of_getElem? (i := 16) rfl))) Via.refl e4 F_b_line (g := (mkF m 21 #[.val (.ref a), .val (.ref b), .val (.int (own_cmp u1 w1))] [(.ref b), (.long u2)])) rfl rfl (hb hby d4_21)
    refine Go.of st5 ?_
    show Go _ _ _ _ _ _ _ (T5.setTop (mkF m 24 #[.val (.ref a), .val (.ref b), .val (.int (own_cmp u1 w1))] [(.long w2), (.long u2)]))
    refine Go.static X5 hx hZ (y := (⟨"java/lang/Long", "compare", "(JJ)I"⟩ : MethodName)) (argsL := [(.long u2), (.long w2)]) hown (hw _ (List.mem_of_getElem? (i := 23) rfl)) (hw _ (List.mem_of_getElem? (i := 24) rfl)) (hw _ (List.mem_of_getElem? (i := 25) rfl)) (hw _ (List.mem_of_getElem? (i := 26) rfl)) (by decide) 0 e5 (rm5 l Z a0 hw u2 w2 h0 n0 Zs ) (by decide) (by decide) (by decide) (by decide) (g := (mkF m 24 #[.val (.ref a), .val (.ref b), .val (.int (own_cmp u1 w1))] [(.long w2), (.long u2)])) rfl (by rw [hml]; rfl) (rest := []) (lenOf pd1 rfl) rfl (by show 2 * 0 + _ ≤ _; exact Nat.le_of_eq rfl) (hb hby d4_24) ?_
    intro T6 v6 L6 X6 q6
    obtain ⟨rfl, Nq6, e6⟩ := q6
    have N6 := Fr.app N3 Nq6
    show Go _ _ _ _ _ _ _ (T6.setTop (mkF m 27 #[.val (.ref a), .val (.ref b), .val (.int (own_cmp u1 w1))] [(.int (own_cmp u2 w2))]))
    refine Go.of (fun _ q => XS.istoreN X6.here hx rfl (hb hby d4_27) rfl (l' := #[.val (.ref a), .val (.ref b), .val (.int (own_cmp u2 w2))]) rfl q) ?_
    show Go _ _ _ _ _ _ _ (T6.setTop (mkF m 28 #[.val (.ref a), .val (.ref b), .val (.int (own_cmp u2 w2))] []))
    exact J7 T6 _ _ (pad X6 (by decide) (by decide)) e6 N6 (by rw [if_pos c13])
  · refine Go.of (fun _ q => XS.ifYes X3.here hx rfl (pc0 := 13) (pc' := 28) rfl (hb hby d4_13) rfl ((if0 _ _).trans (feq c13).2) (by decide) (by decide) q) ?_
    show Go _ _ _ _ _ _ _ (T3.setTop (mkF m 28 #[.val (.ref a), .val (.ref b), .val (.int (own_cmp u1 w1))] []))
    exact J7 T3 _ _ (pad X3 (by decide) (by decide)) e3 N3 (by rw [if_neg c13])
theorem d6_0 : decode method_3_code 0 = .ok (.iload_n 0, 1) := by decide +kernel
theorem d6_1 : decode method_3_code 1 = .ok (.ifCond .ge 5, 3) := by decide +kernel
theorem d6_4 : decode method_3_code 4 = .ok (.iconst (-1), 1) := by decide +kernel
theorem d6_5 : decode method_3_code 5 = .ok (.ireturn, 1) := by decide +kernel
theorem d6_6 : decode method_3_code 6 = .ok (.iload_n 0, 1) := by decide +kernel
theorem d6_7 : decode method_3_code 7 = .ok (.ifCond .le 5, 3) := by decide +kernel
theorem d6_10 : decode method_3_code 10 = .ok (.iconst 1, 1) := by decide +kernel
theorem d6_11 : decode method_3_code 11 = .ok (.ireturn, 1) := by decide +kernel
theorem d6_12 : decode method_3_code 12 = .ok (.iconst 0, 1) := by decide +kernel
theorem d6_13 : decode method_3_code 13 = .ok (.ireturn, 1) := by decide +kernel
theorem pn3 : plainName "com/example/ddos_fee_ledger/ddosfeeledger/PlaceCompareToPinLaw" = true := by first | (simp [plainName, overriddenIn]; done) | decide +kernel
theorem ef_6 (m : MethodId) (z1 : Int32) : entryFrame m #[(.int z1)] 1 = mkF m 0 #[.val (.int z1)] [] := by first | (simp [entryFrame, mkF, argsToLocals, Value.category]; done) | rfl
def Q6 (Z : State) (z1 : Int32) (h0 : Heap) (n0 : Nat) (v : Option Value) (h : Heap) (L : List Loc) : Prop := v = some (.int (own_sgn z1)) ∧ Fr n0 L ∧ h = h0
set_option maxRecDepth 65536 in
set_option maxHeartbeats 40000000 in
theorem rm6 (l : Launch) (Z : State) (a0 : Array Value) (hw : ∀ d ∈ tables_1, d.before a0 Z = true) (z1 : Int32) (h0 : Heap) (n0 : Nat) (Zs : n0 ≤ h0.size)  :
    Con l Z (⟨"com/example/ddos_fee_ledger/ddosfeeledger/PlaceCompareToPinLaw", "sign", "(I)I"⟩ : MethodName) method_3_code 1 (some .int) ({ frames := 0, cells := 0, slots := 0, locals := 0 } : Room) #[(.int z1)] h0 (Q6 Z z1 h0 n0) := by
  refine Con.intro (plainFor_of_name pn3) (fun m => ef_6 m z1) ?_
  intro p e s m below meth c s₁ hx hby hml0 hZ hown hnm hret hlk X0 e0
  have hml : c.maxLocals = 1 := hml0
  have N0 := Fr.nil n0
  have Kp : Keep h0 h0 [] := Keep.refl h0 _
  show Go _ _ _ _ _ _ _ (s₁.setTop (mkF m 0 #[.val (.int z1)] []))
  refine Go.of (fun _ q => XS.iloadN X0.here hx rfl (hb hby d6_0) rfl q) ?_
  show Go _ _ _ _ _ _ _ (s₁.setTop (mkF m 1 #[.val (.int z1)] [(.int z1)]))
  by_cases c1 : z1 < (0 : Int32)
  · refine Go.of (fun _ q => XS.ifNo X0.here hx rfl (hb hby d6_1) rfl ((if0 _ _).trans (tlt c1).2.1) q) ?_
    show Go _ _ _ _ _ _ _ (s₁.setTop (mkF m 4 #[.val (.int z1)] []))
    refine Go.of (fun _ q => XS.iconst X0.here hx rfl (hb hby d6_4) q) ?_
    show Go _ _ _ _ _ _ _ (s₁.setTop (mkF m 5 #[.val (.int z1)] [(.int (-1 : Int32))]))
    refine Go.retI X0 hx hlk hret (hb hby d6_5) (by decide) (by decide) ?_
    rw [e0]
    exact ⟨(by unfold own_sgn; rw [if_pos c1]), N0, rfl⟩
  · refine Go.of (fun _ q => XS.ifYes X0.here hx rfl (pc0 := 1) (pc' := 6) rfl (hb hby d6_1) rfl ((if0 _ _).trans (flt c1).2.1) (by decide) (by decide) q) ?_
    show Go _ _ _ _ _ _ _ (s₁.setTop (mkF m 6 #[.val (.int z1)] []))
    refine Go.of (fun _ q => XS.iloadN X0.here hx rfl (hb hby d6_6) rfl q) ?_
    show Go _ _ _ _ _ _ _ (s₁.setTop (mkF m 7 #[.val (.int z1)] [(.int z1)]))
    by_cases c7 : (0 : Int32) < z1
    · refine Go.of (fun _ q => XS.ifNo X0.here hx rfl (hb hby d6_7) rfl ((if0 _ _).trans (tlt c7).2.2.2) q) ?_
      show Go _ _ _ _ _ _ _ (s₁.setTop (mkF m 10 #[.val (.int z1)] []))
      refine Go.of (fun _ q => XS.iconst X0.here hx rfl (hb hby d6_10) q) ?_
      show Go _ _ _ _ _ _ _ (s₁.setTop (mkF m 11 #[.val (.int z1)] [(.int (1 : Int32))]))
      refine Go.retI X0 hx hlk hret (hb hby d6_11) (by decide) (by decide) ?_
      rw [e0]
      exact ⟨(by unfold own_sgn; rw [if_neg c1, if_pos c7]), N0, rfl⟩
    · refine Go.of (fun _ q => XS.ifYes X0.here hx rfl (pc0 := 7) (pc' := 12) rfl (hb hby d6_7) rfl ((if0 _ _).trans (flt c7).2.2.2) (by decide) (by decide) q) ?_
      show Go _ _ _ _ _ _ _ (s₁.setTop (mkF m 12 #[.val (.int z1)] []))
      refine Go.of (fun _ q => XS.iconst X0.here hx rfl (hb hby d6_12) q) ?_
      show Go _ _ _ _ _ _ _ (s₁.setTop (mkF m 13 #[.val (.int z1)] [(.int (0 : Int32))]))
      refine Go.retI X0 hx hlk hret (hb hby d6_13) (by decide) (by decide) ?_
      rw [e0]
      exact ⟨(by unfold own_sgn; rw [if_neg c1, if_neg c7]), N0, rfl⟩
theorem pd2 : parseMethodDescriptor "(JJ)V" = some ⟨[.long, .long], none⟩ := by decide +kernel
theorem pd3 : parseMethodDescriptor "(Lcom/example/ddos_fee_ledger/ddosfeeledger/IndexRun$Place;)I" = some ⟨[(.object "com/example/ddos_fee_ledger/ddosfeeledger/IndexRun$Place")], some .int⟩ := by decide +kernel
theorem pd4 : parseMethodDescriptor "(I)I" = some ⟨[.int], some .int⟩ := by decide +kernel
theorem ef_0 (m : MethodId) (x1 : Int64) (x2 : Int64) (x3 : Int64) (x4 : Int64) (x5 : Int32) : entryFrame m #[(.long x1), (.long x2), (.long x3), (.long x4), (.int x5)] maxLocals = mkF m 0 #[.val (.long x1), .second, .val (.long x2), .second, .val (.long x3), .second, .val (.long x4), .second, .val (.int x5), .unset, .unset, .unset, .unset, .unset, .unset, .unset, .unset, .unset] [] := by first | (simp [entryFrame, mkF, argsToLocals, Value.category, maxLocals]; done) | rfl
def Q0 (Z : State) (x1 : Int64) (x2 : Int64) (x3 : Int64) (x4 : Int64) (x5 : Int32) (h0 : Heap) (n0 : Nat) (v : Option Value) (h : Heap) (L : List Loc) : Prop := v = some (.int (1 : Int32)) ∧ Fr n0 L
set_option maxRecDepth 65536 in
set_option maxHeartbeats 40000000 in
theorem rm0 (l : Launch) (Z : State) (a0 : Array Value) (hw : ∀ d ∈ tables_1, d.before a0 Z = true) (x1 : Int64) (x2 : Int64) (x3 : Int64) (x4 : Int64) (x5 : Int32) (h0 : Heap) (n0 : Nat) (Zs : n0 ≤ h0.size)  :
    Con l Z x code maxLocals ret room_1 #[(.long x1), (.long x2), (.long x3), (.long x4), (.int x5)] h0 (Q0 Z x1 x2 x3 x4 x5 h0 n0) := by
  refine Con.intro (plainFor_of_name pn3) (fun m => ef_0 m x1 x2 x3 x4 x5) ?_
  intro p e s m below meth c s₁ hx hby hml0 hZ hown hnm hret hlk X0 e0
  have hml : c.maxLocals = 18 := hml0
  have N0 := Fr.nil n0
  have Kp : Keep h0 h0 [] := Keep.refl h0 _
  show Go _ _ _ _ _ _ _ (s₁.setTop (mkF m 0 #[.val (.long x1), .second, .val (.long x2), .second, .val (.long x3), .second, .val (.long x4), .second, .val (.int x5), .unset, .unset, .unset, .unset, .unset, .unset, .unset, .unset, .unset] []))
  refine Go.of (fun _ q => XS.iload X0.here hx rfl (hb hby at_0) rfl q) ?_
  show Go _ _ _ _ _ _ _ (s₁.setTop (mkF m 2 #[.val (.long x1), .second, .val (.long x2), .second, .val (.long x3), .second, .val (.long x4), .second, .val (.int x5), .unset, .unset, .unset, .unset, .unset, .unset, .unset, .unset, .unset] [(.int x5)]))
  refine Go.of (fun _ q => XS.iconst X0.here hx rfl (hb hby at_2) q) ?_
  show Go _ _ _ _ _ _ _ (s₁.setTop (mkF m 3 #[.val (.long x1), .second, .val (.long x2), .second, .val (.long x3), .second, .val (.long x4), .second, .val (.int x5), .unset, .unset, .unset, .unset, .unset, .unset, .unset, .unset, .unset] [(.int (1 : Int32)), (.int x5)]))
  refine Go.of (fun _ q => XS.iand X0.here hx rfl (hb hby at_3) rfl q) ?_
  show Go _ _ _ _ _ _ _ (s₁.setTop (mkF m 4 #[.val (.long x1), .second, .val (.long x2), .second, .val (.long x3), .second, .val (.long x4), .second, .val (.int x5), .unset, .unset, .unset, .unset, .unset, .unset, .unset, .unset, .unset] [(.int (x5 &&& (1 : Int32)))]))
  have J1 : ∀ (zJ1_0 : Int64), zJ1_0 = (if (x5 &&& (1 : Int32)) = (0 : Int32) then x3 else x1) → Go p e below s room_1.cells room_1.slots (Q0 Z x1 x2 x3 x4 x5 h0 n0) (s₁.setTop (mkF m 13 #[.val (.long x1), .second, .val (.long x2), .second, .val (.long x3), .second, .val (.long x4), .second, .val (.int x5), .unset, .unset, .unset, .unset, .unset, .unset, .unset, .unset, .unset] [(.long zJ1_0)])) := by
    intro zJ1_0 hzJ1_0
    show Go _ _ _ _ _ _ _ (s₁.setTop (mkF m 13 #[.val (.long x1), .second, .val (.long x2), .second, .val (.long x3), .second, .val (.long x4), .second, .val (.int x5), .unset, .unset, .unset, .unset, .unset, .unset, .unset, .unset, .unset] [(.long zJ1_0)]))
    refine Go.of (fun _ q => XS.lstore X0.here hx rfl (hb hby at_13) rfl (l' := #[.val (.long x1), .second, .val (.long x2), .second, .val (.long x3), .second, .val (.long x4), .second, .val (.int x5), .val (.long zJ1_0), .second, .unset, .unset, .unset, .unset, .unset, .unset, .unset]) rfl q) ?_
    show Go _ _ _ _ _ _ _ (s₁.setTop (mkF m 15 #[.val (.long x1), .second, .val (.long x2), .second, .val (.long x3), .second, .val (.long x4), .second, .val (.int x5), .val (.long zJ1_0), .second, .unset, .unset, .unset, .unset, .unset, .unset, .unset] []))
    refine Go.of (fun _ q => XS.iload X0.here hx rfl (hb hby at_15) rfl q) ?_
    show Go _ _ _ _ _ _ _ (s₁.setTop (mkF m 17 #[.val (.long x1), .second, .val (.long x2), .second, .val (.long x3), .second, .val (.long x4), .second, .val (.int x5), .val (.long zJ1_0), .second, .unset, .unset, .unset, .unset, .unset, .unset, .unset] [(.int x5)]))
    refine Go.of (fun _ q => XS.iconst X0.here hx rfl (hb hby at_17) q) ?_
    show Go _ _ _ _ _ _ _ (s₁.setTop (mkF m 18 #[.val (.long x1), .second, .val (.long x2), .second, .val (.long x3), .second, .val (.long x4), .second, .val (.int x5), .val (.long zJ1_0), .second, .unset, .unset, .unset, .unset, .unset, .unset, .unset] [(.int (2 : Int32)), (.int x5)]))
    refine Go.of (fun _ q => XS.iand X0.here hx rfl (hb hby at_18) rfl q) ?_
    show Go _ _ _ _ _ _ _ (s₁.setTop (mkF m 19 #[.val (.long x1), .second, .val (.long x2), .second, .val (.long x3), .second, .val (.long x4), .second, .val (.int x5), .val (.long zJ1_0), .second, .unset, .unset, .unset, .unset, .unset, .unset, .unset] [(.int (x5 &&& (2 : Int32)))]))
    have J2 : ∀ (zJ2_0 : Int64), zJ2_0 = (if (x5 &&& (2 : Int32)) = (0 : Int32) then x4 else x2) → Go p e below s room_1.cells room_1.slots (Q0 Z x1 x2 x3 x4 x5 h0 n0) (s₁.setTop (mkF m 28 #[.val (.long x1), .second, .val (.long x2), .second, .val (.long x3), .second, .val (.long x4), .second, .val (.int x5), .val (.long zJ1_0), .second, .unset, .unset, .unset, .unset, .unset, .unset, .unset] [(.long zJ2_0)])) := by
      intro zJ2_0 hzJ2_0
      show Go _ _ _ _ _ _ _ (s₁.setTop (mkF m 28 #[.val (.long x1), .second, .val (.long x2), .second, .val (.long x3), .second, .val (.long x4), .second, .val (.int x5), .val (.long zJ1_0), .second, .unset, .unset, .unset, .unset, .unset, .unset, .unset] [(.long zJ2_0)]))
      refine Go.of (fun _ q => XS.lstore X0.here hx rfl (hb hby at_28) rfl (l' := #[.val (.long x1), .second, .val (.long x2), .second, .val (.long x3), .second, .val (.long x4), .second, .val (.int x5), .val (.long zJ1_0), .second, .val (.long zJ2_0), .second, .unset, .unset, .unset, .unset, .unset]) rfl q) ?_
      show Go _ _ _ _ _ _ _ (s₁.setTop (mkF m 30 #[.val (.long x1), .second, .val (.long x2), .second, .val (.long x3), .second, .val (.long x4), .second, .val (.int x5), .val (.long zJ1_0), .second, .val (.long zJ2_0), .second, .unset, .unset, .unset, .unset, .unset] []))
      obtain ⟨T3, h3, X3, e3, E3, A3, D3, -, st3⟩ := newO X0 hx hZ hown (hw _ (List.mem_of_getElem? (i := 0) rfl)) (hw _ (List.mem_of_getElem? (i := 1) rfl)) (hw _ (List.mem_of_getElem? (i := 2) rfl)) e0 (g := (mkF m 30 #[.val (.long x1), .second, .val (.long x2), .second, .val (.long x3), .second, .val (.long x4), .second, .val (.int x5), .val (.long zJ1_0), .second, .val (.long zJ2_0), .second, .unset, .unset, .unset, .unset, .unset] [])) rfl (hb hby at_30) (by decide) (by decide)
      obtain ⟨b3, g3⟩ : ∃ z, z = h0.size := ⟨_, rfl⟩
      rw [← g3] at A3 D3 st3
      refine Go.of st3 ?_
      have g_b3 : n0 ≤ b3 := Nat.le_trans Zs (Nat.le_of_eq g3.symm)
      have sz_b3 : h0.size ≤ b3 := Nat.le_trans Kp.1 (Nat.le_of_eq g3.symm)
      have Zs := Nat.le_trans Zs E3.1
      have Kp := Kp.ext E3
      have E_b3 := A3
      have F_b3_batch : Fld Z h3 b3 "com/example/ddos_fee_ledger/ddosfeeledger/IndexRun$Place" "batch" "J" (.long (0 : Int64)) := D3 (Or.inr (hw _ (List.mem_of_getElem? (i := 15) rfl))) (ty := .long) (by decide)
      have F_b3_line : Fld Z h3 b3 "com/example/ddos_fee_ledger/ddosfeeledger/IndexRun$Place" "line" "J" (.long (0 : Int64)) := D3 (Or.inr (hw _ (List.mem_of_getElem? (i := 17) rfl))) (ty := .long) (by decide)
      show Go _ _ _ _ _ _ _ (T3.setTop (mkF m 33 #[.val (.long x1), .second, .val (.long x2), .second, .val (.long x3), .second, .val (.long x4), .second, .val (.int x5), .val (.long zJ1_0), .second, .val (.long zJ2_0), .second, .unset, .unset, .unset, .unset, .unset] [(.ref b3)]))
      refine Go.of (fun _ q => XS.dup X3.here hx rfl (hb hby at_33) rfl rfl q) ?_
      show Go _ _ _ _ _ _ _ (T3.setTop (mkF m 34 #[.val (.long x1), .second, .val (.long x2), .second, .val (.long x3), .second, .val (.long x4), .second, .val (.int x5), .val (.long zJ1_0), .second, .val (.long zJ2_0), .second, .unset, .unset, .unset, .unset, .unset] [(.ref b3), (.ref b3)]))
      refine Go.of (fun _ q => XS.lloadN X3.here hx rfl (hb hby at_34) rfl q) ?_
      show Go _ _ _ _ _ _ _ (T3.setTop (mkF m 35 #[.val (.long x1), .second, .val (.long x2), .second, .val (.long x3), .second, .val (.long x4), .second, .val (.int x5), .val (.long zJ1_0), .second, .val (.long zJ2_0), .second, .unset, .unset, .unset, .unset, .unset] [(.long x1), (.ref b3), (.ref b3)]))
      refine Go.of (fun _ q => XS.lloadN X3.here hx rfl (hb hby at_35) rfl q) ?_
      show Go _ _ _ _ _ _ _ (T3.setTop (mkF m 36 #[.val (.long x1), .second, .val (.long x2), .second, .val (.long x3), .second, .val (.long x4), .second, .val (.int x5), .val (.long zJ1_0), .second, .val (.long zJ2_0), .second, .unset, .unset, .unset, .unset, .unset] [(.long x2), (.long x1), (.ref b3), (.ref b3)]))
      refine Go.special X3 hx hZ (y := (⟨"com/example/ddos_fee_ledger/ddosfeeledger/IndexRun$Place", "<init>", "(JJ)V"⟩ : MethodName)) (a := b3) (argsL := [(.long x1), (.long x2)]) rfl hown (hw _ (List.mem_of_getElem? (i := 3) rfl)) (hw _ (List.mem_of_getElem? (i := 4) rfl)) (hw _ (List.mem_of_getElem? (i := 2) rfl)) (hw _ (List.mem_of_getElem? (i := 5) rfl)) (by decide) 1 e3 (rm1 l Z a0 hw b3 x1 x2 (0 : Int64) (0 : Int64) h3 n0 Zs E_b3 F_b3_batch F_b3_line g_b3) (by decide) (by decide) (by decide) (by decide) (g := (mkF m 36 #[.val (.long x1), .second, .val (.long x2), .second, .val (.long x3), .second, .val (.long x4), .second, .val (.int x5), .val (.long zJ1_0), .second, .val (.long zJ2_0), .second, .unset, .unset, .unset, .unset, .unset] [(.long x2), (.long x1), (.ref b3), (.ref b3)])) rfl (by rw [hml]; rfl) (rest := [(.ref b3)]) (lenOf pd2 rfl) rfl (by show 2 * 0 + _ ≤ _; exact Nat.le_of_eq rfl) (hb hby at_36) ?_
      intro T4 v4 L4 X4 q4
      obtain ⟨rfl, Nq4, K4, f4_0, f4_1, f4_2⟩ := q4
      have N4 := Fr.app N0 Nq4
      have Zs := Nat.le_trans Zs K4.1
      have Kp := Kp.trans K4 (allS (P := fun x => x ∈ [] ∨ h0.size ≤ x) (Or.inr sz_b3) all0)
      have E_b3 := E_b3.keep K4
      have F_b3_batch := f4_1
      have F_b3_line := f4_2
      show Go _ _ _ _ _ _ _ (T4.setTop (mkF m 39 #[.val (.long x1), .second, .val (.long x2), .second, .val (.long x3), .second, .val (.long x4), .second, .val (.int x5), .val (.long zJ1_0), .second, .val (.long zJ2_0), .second, .unset, .unset, .unset, .unset, .unset] [(.ref b3)]))
      refine Go.of (fun _ q => XS.astore X4.here hx rfl (hb hby at_39) rfl rfl (l' := #[.val (.long x1), .second, .val (.long x2), .second, .val (.long x3), .second, .val (.long x4), .second, .val (.int x5), .val (.long zJ1_0), .second, .val (.long zJ2_0), .second, .val (.ref b3), .unset, .unset, .unset, .unset]) rfl q) ?_
      show Go _ _ _ _ _ _ _ (T4.setTop (mkF m 41 #[.val (.long x1), .second, .val (.long x2), .second, .val (.long x3), .second, .val (.long x4), .second, .val (.int x5), .val (.long zJ1_0), .second, .val (.long zJ2_0), .second, .val (.ref b3), .unset, .unset, .unset, .unset] []))
      obtain ⟨T5, h5, X5, e5, E5, A5, D5, -, st5⟩ := newO X4 hx hZ hown (hw _ (List.mem_of_getElem? (i := 0) rfl)) (hw _ (List.mem_of_getElem? (i := 1) rfl)) (hw _ (List.mem_of_getElem? (i := 2) rfl)) rfl (g := (mkF m 41 #[.val (.long x1), .second, .val (.long x2), .second, .val (.long x3), .second, .val (.long x4), .second, .val (.int x5), .val (.long zJ1_0), .second, .val (.long zJ2_0), .second, .val (.ref b3), .unset, .unset, .unset, .unset] [])) rfl (hb hby at_41) (by decide) (by decide)
      obtain ⟨b5, g5⟩ : ∃ z, z = T4.heap.size := ⟨_, rfl⟩
      rw [← g5] at A5 D5 st5
      refine Go.of st5 ?_
      have g_b5 : n0 ≤ b5 := Nat.le_trans Zs (Nat.le_of_eq g5.symm)
      have sz_b5 : h0.size ≤ b5 := Nat.le_trans Kp.1 (Nat.le_of_eq g5.symm)
      have ne_b3_b5 : b3 ≠ b5 := Nat.ne_of_lt (Nat.lt_of_lt_of_le E_b3.lt (Nat.le_of_eq g5.symm))
      have Zs := Nat.le_trans Zs E5.1
      have Kp := Kp.ext E5
      have E_b3 := E_b3.ext E5
      have F_b3_batch := F_b3_batch.ext E5
      have F_b3_line := F_b3_line.ext E5
      have E_b5 := A5
      have F_b5_batch : Fld Z h5 b5 "com/example/ddos_fee_ledger/ddosfeeledger/IndexRun$Place" "batch" "J" (.long (0 : Int64)) := D5 (Or.inr (hw _ (List.mem_of_getElem? (i := 15) rfl))) (ty := .long) (by decide)
      have F_b5_line : Fld Z h5 b5 "com/example/ddos_fee_ledger/ddosfeeledger/IndexRun$Place" "line" "J" (.long (0 : Int64)) := D5 (Or.inr (hw _ (List.mem_of_getElem? (i := 17) rfl))) (ty := .long) (by decide)
      show Go _ _ _ _ _ _ _ (T5.setTop (mkF m 44 #[.val (.long x1), .second, .val (.long x2), .second, .val (.long x3), .second, .val (.long x4), .second, .val (.int x5), .val (.long zJ1_0), .second, .val (.long zJ2_0), .second, .val (.ref b3), .unset, .unset, .unset, .unset] [(.ref b5)]))
      refine Go.of (fun _ q => XS.dup X5.here hx rfl (hb hby at_44) rfl rfl q) ?_
      show Go _ _ _ _ _ _ _ (T5.setTop (mkF m 45 #[.val (.long x1), .second, .val (.long x2), .second, .val (.long x3), .second, .val (.long x4), .second, .val (.int x5), .val (.long zJ1_0), .second, .val (.long zJ2_0), .second, .val (.ref b3), .unset, .unset, .unset, .unset] [(.ref b5), (.ref b5)]))
      refine Go.of (fun _ q => XS.lload X5.here hx rfl (hb hby at_45) rfl q) ?_
      show Go _ _ _ _ _ _ _ (T5.setTop (mkF m 47 #[.val (.long x1), .second, .val (.long x2), .second, .val (.long x3), .second, .val (.long x4), .second, .val (.int x5), .val (.long zJ1_0), .second, .val (.long zJ2_0), .second, .val (.ref b3), .unset, .unset, .unset, .unset] [(.long zJ1_0), (.ref b5), (.ref b5)]))
      refine Go.of (fun _ q => XS.lload X5.here hx rfl (hb hby at_47) rfl q) ?_
      show Go _ _ _ _ _ _ _ (T5.setTop (mkF m 49 #[.val (.long x1), .second, .val (.long x2), .second, .val (.long x3), .second, .val (.long x4), .second, .val (.int x5), .val (.long zJ1_0), .second, .val (.long zJ2_0), .second, .val (.ref b3), .unset, .unset, .unset, .unset] [(.long zJ2_0), (.long zJ1_0), (.ref b5), (.ref b5)]))
      refine Go.special X5 hx hZ (y := (⟨"com/example/ddos_fee_ledger/ddosfeeledger/IndexRun$Place", "<init>", "(JJ)V"⟩ : MethodName)) (a := b5) (argsL := [(.long zJ1_0), (.long zJ2_0)]) rfl hown (hw _ (List.mem_of_getElem? (i := 3) rfl)) (hw _ (List.mem_of_getElem? (i := 4) rfl)) (hw _ (List.mem_of_getElem? (i := 2) rfl)) (hw _ (List.mem_of_getElem? (i := 5) rfl)) (by decide) 1 e5 (rm1 l Z a0 hw b5 zJ1_0 zJ2_0 (0 : Int64) (0 : Int64) h5 n0 Zs E_b5 F_b5_batch F_b5_line g_b5) (by decide) (by decide) (by decide) (by decide) (g := (mkF m 49 #[.val (.long x1), .second, .val (.long x2), .second, .val (.long x3), .second, .val (.long x4), .second, .val (.int x5), .val (.long zJ1_0), .second, .val (.long zJ2_0), .second, .val (.ref b3), .unset, .unset, .unset, .unset] [(.long zJ2_0), (.long zJ1_0), (.ref b5), (.ref b5)])) rfl (by rw [hml]; rfl) (rest := [(.ref b5)]) (lenOf pd2 rfl) rfl (by show 2 * 0 + _ ≤ _; exact Nat.le_of_eq rfl) (hb hby at_49) ?_
      intro T6 v6 L6 X6 q6
      obtain ⟨rfl, Nq6, K6, f6_0, f6_1, f6_2⟩ := q6
      have N6 := Fr.app N4 Nq6
      have Zs := Nat.le_trans Zs K6.1
      have Kp := Kp.trans K6 (allS (P := fun x => x ∈ [] ∨ h0.size ≤ x) (Or.inr sz_b5) all0)
      have E_b3 := E_b3.keep K6
      have F_b3_batch := F_b3_batch.keep K6 (ninS ne_b3_b5 nin0)
      have F_b3_line := F_b3_line.keep K6 (ninS ne_b3_b5 nin0)
      have E_b5 := E_b5.keep K6
      have F_b5_batch := f6_1
      have F_b5_line := f6_2
      show Go _ _ _ _ _ _ _ (T6.setTop (mkF m 52 #[.val (.long x1), .second, .val (.long x2), .second, .val (.long x3), .second, .val (.long x4), .second, .val (.int x5), .val (.long zJ1_0), .second, .val (.long zJ2_0), .second, .val (.ref b3), .unset, .unset, .unset, .unset] [(.ref b5)]))
      refine Go.of (fun _ q => XS.astore X6.here hx rfl (hb hby at_52) rfl rfl (l' := #[.val (.long x1), .second, .val (.long x2), .second, .val (.long x3), .second, .val (.long x4), .second, .val (.int x5), .val (.long zJ1_0), .second, .val (.long zJ2_0), .second, .val (.ref b3), .val (.ref b5), .unset, .unset, .unset]) rfl q) ?_
      show Go _ _ _ _ _ _ _ (T6.setTop (mkF m 54 #[.val (.long x1), .second, .val (.long x2), .second, .val (.long x3), .second, .val (.long x4), .second, .val (.int x5), .val (.long zJ1_0), .second, .val (.long zJ2_0), .second, .val (.ref b3), .val (.ref b5), .unset, .unset, .unset] []))
      refine Go.of (fun _ q => XS.aload X6.here hx rfl (hb hby at_54) rfl rfl q) ?_
      show Go _ _ _ _ _ _ _ (T6.setTop (mkF m 56 #[.val (.long x1), .second, .val (.long x2), .second, .val (.long x3), .second, .val (.long x4), .second, .val (.int x5), .val (.long zJ1_0), .second, .val (.long zJ2_0), .second, .val (.ref b3), .val (.ref b5), .unset, .unset, .unset] [(.ref b3)]))
      refine Go.of (fun _ q => XS.aload X6.here hx rfl (hb hby at_56) rfl rfl q) ?_
      show Go _ _ _ _ _ _ _ (T6.setTop (mkF m 58 #[.val (.long x1), .second, .val (.long x2), .second, .val (.long x3), .second, .val (.long x4), .second, .val (.int x5), .val (.long zJ1_0), .second, .val (.long zJ2_0), .second, .val (.ref b3), .val (.ref b5), .unset, .unset, .unset] [(.ref b5), (.ref b3)]))
      refine Go.virtual X6 hx hZ (y := (⟨"com/example/ddos_fee_ledger/ddosfeeledger/IndexRun$Place", "compareTo", "(Lcom/example/ddos_fee_ledger/ddosfeeledger/IndexRun$Place;)I"⟩ : MethodName)) (z := (⟨"com/example/ddos_fee_ledger/ddosfeeledger/IndexRun$Place", "compareTo", "(Lcom/example/ddos_fee_ledger/ddosfeeledger/IndexRun$Place;)I"⟩ : MethodName)) (a := b3) (argsL := [(.ref b5)]) hown (hw _ (List.mem_of_getElem? (i := 18) rfl)) (hw _ (List.mem_of_getElem? (i := 19) rfl)) (notFace_of_selects (args := #[]) (mvT hZ (hw _ (List.mem_of_getElem? (i := 21) rfl)))) (hw _ (List.mem_of_getElem? (i := 21) rfl)) (hw _ (List.mem_of_getElem? (i := 20) rfl)) (hw _ (List.mem_of_getElem? (i := 2) rfl)) (hw _ (List.mem_of_getElem? (i := 22) rfl)) (by decide) 0 rfl E_b3 (rm4 l Z a0 hw b3 b5 x1 x2 zJ1_0 zJ2_0 T6.heap n0 Zs F_b3_batch F_b3_line F_b5_batch F_b5_line) (by decide) (by decide) (by decide) (by decide) (g := (mkF m 58 #[.val (.long x1), .second, .val (.long x2), .second, .val (.long x3), .second, .val (.long x4), .second, .val (.int x5), .val (.long zJ1_0), .second, .val (.long zJ2_0), .second, .val (.ref b3), .val (.ref b5), .unset, .unset, .unset] [(.ref b5), (.ref b3)])) rfl (by rw [hml]; rfl) (rest := []) (lenOf pd3 rfl) rfl (by show 2 * 0 + _ ≤ _; exact Nat.le_of_eq rfl) (hb hby at_58) ?_
      intro T7 v7 L7 X7 q7
      obtain ⟨rfl, Nq7, e7⟩ := q7
      have N7 := Fr.app N6 Nq7
      show Go _ _ _ _ _ _ _ (T7.setTop (mkF m 61 #[.val (.long x1), .second, .val (.long x2), .second, .val (.long x3), .second, .val (.long x4), .second, .val (.int x5), .val (.long zJ1_0), .second, .val (.long zJ2_0), .second, .val (.ref b3), .val (.ref b5), .unset, .unset, .unset] [(.int (if (own_cmp x1 zJ1_0) = (0 : Int32) then (own_cmp x2 zJ2_0) else (own_cmp x1 zJ1_0)))]))
      refine Go.of (fun _ q => XS.istore X7.here hx rfl (hb hby at_61) rfl (l' := #[.val (.long x1), .second, .val (.long x2), .second, .val (.long x3), .second, .val (.long x4), .second, .val (.int x5), .val (.long zJ1_0), .second, .val (.long zJ2_0), .second, .val (.ref b3), .val (.ref b5), .val (.int (if (own_cmp x1 zJ1_0) = (0 : Int32) then (own_cmp x2 zJ2_0) else (own_cmp x1 zJ1_0))), .unset, .unset]) rfl q) ?_
      show Go _ _ _ _ _ _ _ (T7.setTop (mkF m 63 #[.val (.long x1), .second, .val (.long x2), .second, .val (.long x3), .second, .val (.long x4), .second, .val (.int x5), .val (.long zJ1_0), .second, .val (.long zJ2_0), .second, .val (.ref b3), .val (.ref b5), .val (.int (if (own_cmp x1 zJ1_0) = (0 : Int32) then (own_cmp x2 zJ2_0) else (own_cmp x1 zJ1_0))), .unset, .unset] []))
      refine Go.of (fun _ q => XS.aload X7.here hx rfl (hb hby at_63) rfl rfl q) ?_
      show Go _ _ _ _ _ _ _ (T7.setTop (mkF m 65 #[.val (.long x1), .second, .val (.long x2), .second, .val (.long x3), .second, .val (.long x4), .second, .val (.int x5), .val (.long zJ1_0), .second, .val (.long zJ2_0), .second, .val (.ref b3), .val (.ref b5), .val (.int (if (own_cmp x1 zJ1_0) = (0 : Int32) then (own_cmp x2 zJ2_0) else (own_cmp x1 zJ1_0))), .unset, .unset] [(.ref b5)]))
      refine Go.of (fun _ q => XS.aload X7.here hx rfl (hb hby at_65) rfl rfl q) ?_
      show Go _ _ _ _ _ _ _ (T7.setTop (mkF m 67 #[.val (.long x1), .second, .val (.long x2), .second, .val (.long x3), .second, .val (.long x4), .second, .val (.int x5), .val (.long zJ1_0), .second, .val (.long zJ2_0), .second, .val (.ref b3), .val (.ref b5), .val (.int (if (own_cmp x1 zJ1_0) = (0 : Int32) then (own_cmp x2 zJ2_0) else (own_cmp x1 zJ1_0))), .unset, .unset] [(.ref b3), (.ref b5)]))
      refine Go.virtual X7 hx hZ (y := (⟨"com/example/ddos_fee_ledger/ddosfeeledger/IndexRun$Place", "compareTo", "(Lcom/example/ddos_fee_ledger/ddosfeeledger/IndexRun$Place;)I"⟩ : MethodName)) (z := (⟨"com/example/ddos_fee_ledger/ddosfeeledger/IndexRun$Place", "compareTo", "(Lcom/example/ddos_fee_ledger/ddosfeeledger/IndexRun$Place;)I"⟩ : MethodName)) (a := b5) (argsL := [(.ref b3)]) hown (hw _ (List.mem_of_getElem? (i := 18) rfl)) (hw _ (List.mem_of_getElem? (i := 19) rfl)) (notFace_of_selects (args := #[]) (mvT hZ (hw _ (List.mem_of_getElem? (i := 21) rfl)))) (hw _ (List.mem_of_getElem? (i := 21) rfl)) (hw _ (List.mem_of_getElem? (i := 20) rfl)) (hw _ (List.mem_of_getElem? (i := 2) rfl)) (hw _ (List.mem_of_getElem? (i := 22) rfl)) (by decide) 0 e7 E_b5 (rm4 l Z a0 hw b5 b3 zJ1_0 zJ2_0 x1 x2 T6.heap n0 Zs F_b5_batch F_b5_line F_b3_batch F_b3_line) (by decide) (by decide) (by decide) (by decide) (g := (mkF m 67 #[.val (.long x1), .second, .val (.long x2), .second, .val (.long x3), .second, .val (.long x4), .second, .val (.int x5), .val (.long zJ1_0), .second, .val (.long zJ2_0), .second, .val (.ref b3), .val (.ref b5), .val (.int (if (own_cmp x1 zJ1_0) = (0 : Int32) then (own_cmp x2 zJ2_0) else (own_cmp x1 zJ1_0))), .unset, .unset] [(.ref b3), (.ref b5)])) rfl (by rw [hml]; rfl) (rest := []) (lenOf pd3 rfl) rfl (by show 2 * 0 + _ ≤ _; exact Nat.le_of_eq rfl) (hb hby at_67) ?_
      intro T8 v8 L8 X8 q8
      obtain ⟨rfl, Nq8, e8⟩ := q8
      have N8 := Fr.app N7 Nq8
      show Go _ _ _ _ _ _ _ (T8.setTop (mkF m 70 #[.val (.long x1), .second, .val (.long x2), .second, .val (.long x3), .second, .val (.long x4), .second, .val (.int x5), .val (.long zJ1_0), .second, .val (.long zJ2_0), .second, .val (.ref b3), .val (.ref b5), .val (.int (if (own_cmp x1 zJ1_0) = (0 : Int32) then (own_cmp x2 zJ2_0) else (own_cmp x1 zJ1_0))), .unset, .unset] [(.int (if (own_cmp zJ1_0 x1) = (0 : Int32) then (own_cmp zJ2_0 x2) else (own_cmp zJ1_0 x1)))]))
      refine Go.of (fun _ q => XS.istore X8.here hx rfl (hb hby at_70) rfl (l' := #[.val (.long x1), .second, .val (.long x2), .second, .val (.long x3), .second, .val (.long x4), .second, .val (.int x5), .val (.long zJ1_0), .second, .val (.long zJ2_0), .second, .val (.ref b3), .val (.ref b5), .val (.int (if (own_cmp x1 zJ1_0) = (0 : Int32) then (own_cmp x2 zJ2_0) else (own_cmp x1 zJ1_0))), .val (.int (if (own_cmp zJ1_0 x1) = (0 : Int32) then (own_cmp zJ2_0 x2) else (own_cmp zJ1_0 x1))), .unset]) rfl q) ?_
      show Go _ _ _ _ _ _ _ (T8.setTop (mkF m 72 #[.val (.long x1), .second, .val (.long x2), .second, .val (.long x3), .second, .val (.long x4), .second, .val (.int x5), .val (.long zJ1_0), .second, .val (.long zJ2_0), .second, .val (.ref b3), .val (.ref b5), .val (.int (if (own_cmp x1 zJ1_0) = (0 : Int32) then (own_cmp x2 zJ2_0) else (own_cmp x1 zJ1_0))), .val (.int (if (own_cmp zJ1_0 x1) = (0 : Int32) then (own_cmp zJ2_0 x2) else (own_cmp zJ1_0 x1))), .unset] []))
      refine Go.of (fun _ q => XS.lloadN X8.here hx rfl (hb hby at_72) rfl q) ?_
      show Go _ _ _ _ _ _ _ (T8.setTop (mkF m 73 #[.val (.long x1), .second, .val (.long x2), .second, .val (.long x3), .second, .val (.long x4), .second, .val (.int x5), .val (.long zJ1_0), .second, .val (.long zJ2_0), .second, .val (.ref b3), .val (.ref b5), .val (.int (if (own_cmp x1 zJ1_0) = (0 : Int32) then (own_cmp x2 zJ2_0) else (own_cmp x1 zJ1_0))), .val (.int (if (own_cmp zJ1_0 x1) = (0 : Int32) then (own_cmp zJ2_0 x2) else (own_cmp zJ1_0 x1))), .unset] [(.long x1)]))
      refine Go.of (fun _ q => XS.lload X8.here hx rfl (hb hby at_73) rfl q) ?_
      show Go _ _ _ _ _ _ _ (T8.setTop (mkF m 75 #[.val (.long x1), .second, .val (.long x2), .second, .val (.long x3), .second, .val (.long x4), .second, .val (.int x5), .val (.long zJ1_0), .second, .val (.long zJ2_0), .second, .val (.ref b3), .val (.ref b5), .val (.int (if (own_cmp x1 zJ1_0) = (0 : Int32) then (own_cmp x2 zJ2_0) else (own_cmp x1 zJ1_0))), .val (.int (if (own_cmp zJ1_0 x1) = (0 : Int32) then (own_cmp zJ2_0 x2) else (own_cmp zJ1_0 x1))), .unset] [(.long zJ1_0), (.long x1)]))
      refine Go.of (fun _ q => XS.lcmp X8.here hx rfl (hb hby at_75) rfl q) ?_
      show Go _ _ _ _ _ _ _ (T8.setTop (mkF m 76 #[.val (.long x1), .second, .val (.long x2), .second, .val (.long x3), .second, .val (.long x4), .second, .val (.int x5), .val (.long zJ1_0), .second, .val (.long zJ2_0), .second, .val (.ref b3), .val (.ref b5), .val (.int (if (own_cmp x1 zJ1_0) = (0 : Int32) then (own_cmp x2 zJ2_0) else (own_cmp x1 zJ1_0))), .val (.int (if (own_cmp zJ1_0 x1) = (0 : Int32) then (own_cmp zJ2_0 x2) else (own_cmp zJ1_0 x1))), .unset] [(.int (lcmpW x1 zJ1_0))]))
      have J9 : ∀ (zJ9_0 : Int32), zJ9_0 = (if x1 < zJ1_0 then (-1 : Int32) else (if zJ1_0 < x1 then (1 : Int32) else (if x2 < zJ2_0 then (-1 : Int32) else (if zJ2_0 < x2 then (1 : Int32) else (0 : Int32))))) → Go p e below s room_1.cells room_1.slots (Q0 Z x1 x2 x3 x4 x5 h0 n0) (T8.setTop (mkF m 127 #[.val (.long x1), .second, .val (.long x2), .second, .val (.long x3), .second, .val (.long x4), .second, .val (.int x5), .val (.long zJ1_0), .second, .val (.long zJ2_0), .second, .val (.ref b3), .val (.ref b5), .val (.int (if (own_cmp x1 zJ1_0) = (0 : Int32) then (own_cmp x2 zJ2_0) else (own_cmp x1 zJ1_0))), .val (.int (if (own_cmp zJ1_0 x1) = (0 : Int32) then (own_cmp zJ2_0 x2) else (own_cmp zJ1_0 x1))), .val (.int zJ9_0)] [])) := by
        intro zJ9_0 hzJ9_0
        show Go _ _ _ _ _ _ _ (T8.setTop (mkF m 127 #[.val (.long x1), .second, .val (.long x2), .second, .val (.long x3), .second, .val (.long x4), .second, .val (.int x5), .val (.long zJ1_0), .second, .val (.long zJ2_0), .second, .val (.ref b3), .val (.ref b5), .val (.int (if (own_cmp x1 zJ1_0) = (0 : Int32) then (own_cmp x2 zJ2_0) else (own_cmp x1 zJ1_0))), .val (.int (if (own_cmp zJ1_0 x1) = (0 : Int32) then (own_cmp zJ2_0 x2) else (own_cmp zJ1_0 x1))), .val (.int zJ9_0)] []))
        refine Go.of (fun _ q => XS.iload X8.here hx rfl (hb hby at_127) rfl q) ?_
        show Go _ _ _ _ _ _ _ (T8.setTop (mkF m 129 #[.val (.long x1), .second, .val (.long x2), .second, .val (.long x3), .second, .val (.long x4), .second, .val (.int x5), .val (.long zJ1_0), .second, .val (.long zJ2_0), .second, .val (.ref b3), .val (.ref b5), .val (.int (if (own_cmp x1 zJ1_0) = (0 : Int32) then (own_cmp x2 zJ2_0) else (own_cmp x1 zJ1_0))), .val (.int (if (own_cmp zJ1_0 x1) = (0 : Int32) then (own_cmp zJ2_0 x2) else (own_cmp zJ1_0 x1))), .val (.int zJ9_0)] [(.int (if (own_cmp x1 zJ1_0) = (0 : Int32) then (own_cmp x2 zJ2_0) else (own_cmp x1 zJ1_0)))]))
        refine Go.static X8 hx hZ (y := (⟨"com/example/ddos_fee_ledger/ddosfeeledger/PlaceCompareToPinLaw", "sign", "(I)I"⟩ : MethodName)) (argsL := [(.int (if (own_cmp x1 zJ1_0) = (0 : Int32) then (own_cmp x2 zJ2_0) else (own_cmp x1 zJ1_0)))]) hown (hw _ (List.mem_of_getElem? (i := 27) rfl)) (hw _ (List.mem_of_getElem? (i := 28) rfl)) (hw _ (List.mem_of_getElem? (i := 29) rfl)) (hw _ (List.mem_of_getElem? (i := 30) rfl)) (by decide) 0 e8 (rm6 l Z a0 hw (if (own_cmp x1 zJ1_0) = (0 : Int32) then (own_cmp x2 zJ2_0) else (own_cmp x1 zJ1_0)) T6.heap n0 Zs ) (by decide) (by decide) (by decide) (by decide) (g := (mkF m 129 #[.val (.long x1), .second, .val (.long x2), .second, .val (.long x3), .second, .val (.long x4), .second, .val (.int x5), .val (.long zJ1_0), .second, .val (.long zJ2_0), .second, .val (.ref b3), .val (.ref b5), .val (.int (if (own_cmp x1 zJ1_0) = (0 : Int32) then (own_cmp x2 zJ2_0) else (own_cmp x1 zJ1_0))), .val (.int (if (own_cmp zJ1_0 x1) = (0 : Int32) then (own_cmp zJ2_0 x2) else (own_cmp zJ1_0 x1))), .val (.int zJ9_0)] [(.int (if (own_cmp x1 zJ1_0) = (0 : Int32) then (own_cmp x2 zJ2_0) else (own_cmp x1 zJ1_0)))])) rfl (by rw [hml]; rfl) (rest := []) (lenOf pd4 rfl) rfl (by show 2 * 0 + _ ≤ _; exact Nat.le_of_eq rfl) (hb hby at_129) ?_
        intro T10 v10 L10 X10 q10
        obtain ⟨rfl, Nq10, e10⟩ := q10
        have N10 := Fr.app N8 Nq10
        show Go _ _ _ _ _ _ _ (T10.setTop (mkF m 132 #[.val (.long x1), .second, .val (.long x2), .second, .val (.long x3), .second, .val (.long x4), .second, .val (.int x5), .val (.long zJ1_0), .second, .val (.long zJ2_0), .second, .val (.ref b3), .val (.ref b5), .val (.int (if (own_cmp x1 zJ1_0) = (0 : Int32) then (own_cmp x2 zJ2_0) else (own_cmp x1 zJ1_0))), .val (.int (if (own_cmp zJ1_0 x1) = (0 : Int32) then (own_cmp zJ2_0 x2) else (own_cmp zJ1_0 x1))), .val (.int zJ9_0)] [(.int (own_sgn (if (own_cmp x1 zJ1_0) = (0 : Int32) then (own_cmp x2 zJ2_0) else (own_cmp x1 zJ1_0))))]))
        refine Go.of (fun _ q => XS.iload X10.here hx rfl (hb hby at_132) rfl q) ?_
        show Go _ _ _ _ _ _ _ (T10.setTop (mkF m 134 #[.val (.long x1), .second, .val (.long x2), .second, .val (.long x3), .second, .val (.long x4), .second, .val (.int x5), .val (.long zJ1_0), .second, .val (.long zJ2_0), .second, .val (.ref b3), .val (.ref b5), .val (.int (if (own_cmp x1 zJ1_0) = (0 : Int32) then (own_cmp x2 zJ2_0) else (own_cmp x1 zJ1_0))), .val (.int (if (own_cmp zJ1_0 x1) = (0 : Int32) then (own_cmp zJ2_0 x2) else (own_cmp zJ1_0 x1))), .val (.int zJ9_0)] [(.int zJ9_0), (.int (own_sgn (if (own_cmp x1 zJ1_0) = (0 : Int32) then (own_cmp x2 zJ2_0) else (own_cmp x1 zJ1_0))))]))
        refine Go.of (fun _ q => XS.icmpNo X10.here hx rfl (hb hby at_134) rfl (teq (own_plain1 _ _ _ _ _ hzJ9_0).1).2 q) ?_
        show Go _ _ _ _ _ _ _ (T10.setTop (mkF m 137 #[.val (.long x1), .second, .val (.long x2), .second, .val (.long x3), .second, .val (.long x4), .second, .val (.int x5), .val (.long zJ1_0), .second, .val (.long zJ2_0), .second, .val (.ref b3), .val (.ref b5), .val (.int (if (own_cmp x1 zJ1_0) = (0 : Int32) then (own_cmp x2 zJ2_0) else (own_cmp x1 zJ1_0))), .val (.int (if (own_cmp zJ1_0 x1) = (0 : Int32) then (own_cmp zJ2_0 x2) else (own_cmp zJ1_0 x1))), .val (.int zJ9_0)] []))
        refine Go.of (fun _ q => XS.iload X10.here hx rfl (hb hby at_137) rfl q) ?_
        show Go _ _ _ _ _ _ _ (T10.setTop (mkF m 139 #[.val (.long x1), .second, .val (.long x2), .second, .val (.long x3), .second, .val (.long x4), .second, .val (.int x5), .val (.long zJ1_0), .second, .val (.long zJ2_0), .second, .val (.ref b3), .val (.ref b5), .val (.int (if (own_cmp x1 zJ1_0) = (0 : Int32) then (own_cmp x2 zJ2_0) else (own_cmp x1 zJ1_0))), .val (.int (if (own_cmp zJ1_0 x1) = (0 : Int32) then (own_cmp zJ2_0 x2) else (own_cmp zJ1_0 x1))), .val (.int zJ9_0)] [(.int (if (own_cmp zJ1_0 x1) = (0 : Int32) then (own_cmp zJ2_0 x2) else (own_cmp zJ1_0 x1)))]))
        refine Go.static X10 hx hZ (y := (⟨"com/example/ddos_fee_ledger/ddosfeeledger/PlaceCompareToPinLaw", "sign", "(I)I"⟩ : MethodName)) (argsL := [(.int (if (own_cmp zJ1_0 x1) = (0 : Int32) then (own_cmp zJ2_0 x2) else (own_cmp zJ1_0 x1)))]) hown (hw _ (List.mem_of_getElem? (i := 27) rfl)) (hw _ (List.mem_of_getElem? (i := 28) rfl)) (hw _ (List.mem_of_getElem? (i := 29) rfl)) (hw _ (List.mem_of_getElem? (i := 30) rfl)) (by decide) 0 e10 (rm6 l Z a0 hw (if (own_cmp zJ1_0 x1) = (0 : Int32) then (own_cmp zJ2_0 x2) else (own_cmp zJ1_0 x1)) T6.heap n0 Zs ) (by decide) (by decide) (by decide) (by decide) (g := (mkF m 139 #[.val (.long x1), .second, .val (.long x2), .second, .val (.long x3), .second, .val (.long x4), .second, .val (.int x5), .val (.long zJ1_0), .second, .val (.long zJ2_0), .second, .val (.ref b3), .val (.ref b5), .val (.int (if (own_cmp x1 zJ1_0) = (0 : Int32) then (own_cmp x2 zJ2_0) else (own_cmp x1 zJ1_0))), .val (.int (if (own_cmp zJ1_0 x1) = (0 : Int32) then (own_cmp zJ2_0 x2) else (own_cmp zJ1_0 x1))), .val (.int zJ9_0)] [(.int (if (own_cmp zJ1_0 x1) = (0 : Int32) then (own_cmp zJ2_0 x2) else (own_cmp zJ1_0 x1)))])) rfl (by rw [hml]; rfl) (rest := []) (lenOf pd4 rfl) rfl (by show 2 * 0 + _ ≤ _; exact Nat.le_of_eq rfl) (hb hby at_139) ?_
        intro T11 v11 L11 X11 q11
        obtain ⟨rfl, Nq11, e11⟩ := q11
        have N11 := Fr.app N10 Nq11
        show Go _ _ _ _ _ _ _ (T11.setTop (mkF m 142 #[.val (.long x1), .second, .val (.long x2), .second, .val (.long x3), .second, .val (.long x4), .second, .val (.int x5), .val (.long zJ1_0), .second, .val (.long zJ2_0), .second, .val (.ref b3), .val (.ref b5), .val (.int (if (own_cmp x1 zJ1_0) = (0 : Int32) then (own_cmp x2 zJ2_0) else (own_cmp x1 zJ1_0))), .val (.int (if (own_cmp zJ1_0 x1) = (0 : Int32) then (own_cmp zJ2_0 x2) else (own_cmp zJ1_0 x1))), .val (.int zJ9_0)] [(.int (own_sgn (if (own_cmp zJ1_0 x1) = (0 : Int32) then (own_cmp zJ2_0 x2) else (own_cmp zJ1_0 x1))))]))
        refine Go.of (fun _ q => XS.iload X11.here hx rfl (hb hby at_142) rfl q) ?_
        show Go _ _ _ _ _ _ _ (T11.setTop (mkF m 144 #[.val (.long x1), .second, .val (.long x2), .second, .val (.long x3), .second, .val (.long x4), .second, .val (.int x5), .val (.long zJ1_0), .second, .val (.long zJ2_0), .second, .val (.ref b3), .val (.ref b5), .val (.int (if (own_cmp x1 zJ1_0) = (0 : Int32) then (own_cmp x2 zJ2_0) else (own_cmp x1 zJ1_0))), .val (.int (if (own_cmp zJ1_0 x1) = (0 : Int32) then (own_cmp zJ2_0 x2) else (own_cmp zJ1_0 x1))), .val (.int zJ9_0)] [(.int zJ9_0), (.int (own_sgn (if (own_cmp zJ1_0 x1) = (0 : Int32) then (own_cmp zJ2_0 x2) else (own_cmp zJ1_0 x1))))]))
        refine Go.of (fun _ q => XS.ineg X11.here hx rfl (hb hby at_144) rfl q) ?_
        show Go _ _ _ _ _ _ _ (T11.setTop (mkF m 145 #[.val (.long x1), .second, .val (.long x2), .second, .val (.long x3), .second, .val (.long x4), .second, .val (.int x5), .val (.long zJ1_0), .second, .val (.long zJ2_0), .second, .val (.ref b3), .val (.ref b5), .val (.int (if (own_cmp x1 zJ1_0) = (0 : Int32) then (own_cmp x2 zJ2_0) else (own_cmp x1 zJ1_0))), .val (.int (if (own_cmp zJ1_0 x1) = (0 : Int32) then (own_cmp zJ2_0 x2) else (own_cmp zJ1_0 x1))), .val (.int zJ9_0)] [(.int (-zJ9_0)), (.int (own_sgn (if (own_cmp zJ1_0 x1) = (0 : Int32) then (own_cmp zJ2_0 x2) else (own_cmp zJ1_0 x1))))]))
        refine Go.of (fun _ q => XS.icmpNo X11.here hx rfl (hb hby at_145) rfl (teq (own_plain1 _ _ _ _ _ hzJ9_0).2).2 q) ?_
        show Go _ _ _ _ _ _ _ (T11.setTop (mkF m 148 #[.val (.long x1), .second, .val (.long x2), .second, .val (.long x3), .second, .val (.long x4), .second, .val (.int x5), .val (.long zJ1_0), .second, .val (.long zJ2_0), .second, .val (.ref b3), .val (.ref b5), .val (.int (if (own_cmp x1 zJ1_0) = (0 : Int32) then (own_cmp x2 zJ2_0) else (own_cmp x1 zJ1_0))), .val (.int (if (own_cmp zJ1_0 x1) = (0 : Int32) then (own_cmp zJ2_0 x2) else (own_cmp zJ1_0 x1))), .val (.int zJ9_0)] []))
        refine Go.of (fun _ q => XS.iconst X11.here hx rfl (hb hby at_148) q) ?_
        show Go _ _ _ _ _ _ _ (T11.setTop (mkF m 149 #[.val (.long x1), .second, .val (.long x2), .second, .val (.long x3), .second, .val (.long x4), .second, .val (.int x5), .val (.long zJ1_0), .second, .val (.long zJ2_0), .second, .val (.ref b3), .val (.ref b5), .val (.int (if (own_cmp x1 zJ1_0) = (0 : Int32) then (own_cmp x2 zJ2_0) else (own_cmp x1 zJ1_0))), .val (.int (if (own_cmp zJ1_0 x1) = (0 : Int32) then (own_cmp zJ2_0 x2) else (own_cmp zJ1_0 x1))), .val (.int zJ9_0)] [(.int (1 : Int32))]))
        refine Go.of (fun _ q => XS.goto X11.here hx rfl (pc0 := 149) (pc' := 153) rfl (hb hby at_149) (by decide) (by decide) q) ?_
        show Go _ _ _ _ _ _ _ (T11.setTop (mkF m 153 #[.val (.long x1), .second, .val (.long x2), .second, .val (.long x3), .second, .val (.long x4), .second, .val (.int x5), .val (.long zJ1_0), .second, .val (.long zJ2_0), .second, .val (.ref b3), .val (.ref b5), .val (.int (if (own_cmp x1 zJ1_0) = (0 : Int32) then (own_cmp x2 zJ2_0) else (own_cmp x1 zJ1_0))), .val (.int (if (own_cmp zJ1_0 x1) = (0 : Int32) then (own_cmp zJ2_0 x2) else (own_cmp zJ1_0 x1))), .val (.int zJ9_0)] [(.int (1 : Int32))]))
        refine Go.retN X11 hx hlk (t := .boolean) hret (by simp) (hb hby at_153) rfl (by decide) (by decide) ?_
        rw [e11]
        exact ⟨rfl, N11⟩
      by_cases c76 : x1 < zJ1_0
      · refine Go.of (fun _ q => XS.ifNo X8.here hx rfl (hb hby at_76) rfl ((if0 _ _).trans (tlt ((lw_lt x1 zJ1_0).mpr c76)).2.1) q) ?_
        show Go _ _ _ _ _ _ _ (T8.setTop (mkF m 79 #[.val (.long x1), .second, .val (.long x2), .second, .val (.long x3), .second, .val (.long x4), .second, .val (.int x5), .val (.long zJ1_0), .second, .val (.long zJ2_0), .second, .val (.ref b3), .val (.ref b5), .val (.int (if (own_cmp x1 zJ1_0) = (0 : Int32) then (own_cmp x2 zJ2_0) else (own_cmp x1 zJ1_0))), .val (.int (if (own_cmp zJ1_0 x1) = (0 : Int32) then (own_cmp zJ2_0 x2) else (own_cmp zJ1_0 x1))), .unset] []))
        refine Go.of (fun _ q => XS.iconst X8.here hx rfl (hb hby at_79) q) ?_
        show Go _ _ _ _ _ _ _ (T8.setTop (mkF m 80 #[.val (.long x1), .second, .val (.long x2), .second, .val (.long x3), .second, .val (.long x4), .second, .val (.int x5), .val (.long zJ1_0), .second, .val (.long zJ2_0), .second, .val (.ref b3), .val (.ref b5), .val (.int (if (own_cmp x1 zJ1_0) = (0 : Int32) then (own_cmp x2 zJ2_0) else (own_cmp x1 zJ1_0))), .val (.int (if (own_cmp zJ1_0 x1) = (0 : Int32) then (own_cmp zJ2_0 x2) else (own_cmp zJ1_0 x1))), .unset] [(.int (-1 : Int32))]))
        refine Go.of (fun _ q => XS.istore X8.here hx rfl (hb hby at_80) rfl (l' := #[.val (.long x1), .second, .val (.long x2), .second, .val (.long x3), .second, .val (.long x4), .second, .val (.int x5), .val (.long zJ1_0), .second, .val (.long zJ2_0), .second, .val (.ref b3), .val (.ref b5), .val (.int (if (own_cmp x1 zJ1_0) = (0 : Int32) then (own_cmp x2 zJ2_0) else (own_cmp x1 zJ1_0))), .val (.int (if (own_cmp zJ1_0 x1) = (0 : Int32) then (own_cmp zJ2_0 x2) else (own_cmp zJ1_0 x1))), .val (.int (-1 : Int32))]) rfl q) ?_
        show Go _ _ _ _ _ _ _ (T8.setTop (mkF m 82 #[.val (.long x1), .second, .val (.long x2), .second, .val (.long x3), .second, .val (.long x4), .second, .val (.int x5), .val (.long zJ1_0), .second, .val (.long zJ2_0), .second, .val (.ref b3), .val (.ref b5), .val (.int (if (own_cmp x1 zJ1_0) = (0 : Int32) then (own_cmp x2 zJ2_0) else (own_cmp x1 zJ1_0))), .val (.int (if (own_cmp zJ1_0 x1) = (0 : Int32) then (own_cmp zJ2_0 x2) else (own_cmp zJ1_0 x1))), .val (.int (-1 : Int32))] []))
        refine Go.of (fun _ q => XS.goto X8.here hx rfl (pc0 := 82) (pc' := 127) rfl (hb hby at_82) (by decide) (by decide) q) ?_
        show Go _ _ _ _ _ _ _ (T8.setTop (mkF m 127 #[.val (.long x1), .second, .val (.long x2), .second, .val (.long x3), .second, .val (.long x4), .second, .val (.int x5), .val (.long zJ1_0), .second, .val (.long zJ2_0), .second, .val (.ref b3), .val (.ref b5), .val (.int (if (own_cmp x1 zJ1_0) = (0 : Int32) then (own_cmp x2 zJ2_0) else (own_cmp x1 zJ1_0))), .val (.int (if (own_cmp zJ1_0 x1) = (0 : Int32) then (own_cmp zJ2_0 x2) else (own_cmp zJ1_0 x1))), .val (.int (-1 : Int32))] []))
        exact J9 _ (by rw [if_pos c76])
      · refine Go.of (fun _ q => XS.ifYes X8.here hx rfl (pc0 := 76) (pc' := 85) rfl (hb hby at_76) rfl ((if0 _ _).trans (flt (mt (lw_lt x1 zJ1_0).mp c76)).2.1) (by decide) (by decide) q) ?_
        show Go _ _ _ _ _ _ _ (T8.setTop (mkF m 85 #[.val (.long x1), .second, .val (.long x2), .second, .val (.long x3), .second, .val (.long x4), .second, .val (.int x5), .val (.long zJ1_0), .second, .val (.long zJ2_0), .second, .val (.ref b3), .val (.ref b5), .val (.int (if (own_cmp x1 zJ1_0) = (0 : Int32) then (own_cmp x2 zJ2_0) else (own_cmp x1 zJ1_0))), .val (.int (if (own_cmp zJ1_0 x1) = (0 : Int32) then (own_cmp zJ2_0 x2) else (own_cmp zJ1_0 x1))), .unset] []))
        refine Go.of (fun _ q => XS.lloadN X8.here hx rfl (hb hby at_85) rfl q) ?_
        show Go _ _ _ _ _ _ _ (T8.setTop (mkF m 86 #[.val (.long x1), .second, .val (.long x2), .second, .val (.long x3), .second, .val (.long x4), .second, .val (.int x5), .val (.long zJ1_0), .second, .val (.long zJ2_0), .second, .val (.ref b3), .val (.ref b5), .val (.int (if (own_cmp x1 zJ1_0) = (0 : Int32) then (own_cmp x2 zJ2_0) else (own_cmp x1 zJ1_0))), .val (.int (if (own_cmp zJ1_0 x1) = (0 : Int32) then (own_cmp zJ2_0 x2) else (own_cmp zJ1_0 x1))), .unset] [(.long x1)]))
        refine Go.of (fun _ q => XS.lload X8.here hx rfl (hb hby at_86) rfl q) ?_
        show Go _ _ _ _ _ _ _ (T8.setTop (mkF m 88 #[.val (.long x1), .second, .val (.long x2), .second, .val (.long x3), .second, .val (.long x4), .second, .val (.int x5), .val (.long zJ1_0), .second, .val (.long zJ2_0), .second, .val (.ref b3), .val (.ref b5), .val (.int (if (own_cmp x1 zJ1_0) = (0 : Int32) then (own_cmp x2 zJ2_0) else (own_cmp x1 zJ1_0))), .val (.int (if (own_cmp zJ1_0 x1) = (0 : Int32) then (own_cmp zJ2_0 x2) else (own_cmp zJ1_0 x1))), .unset] [(.long zJ1_0), (.long x1)]))
        refine Go.of (fun _ q => XS.lcmp X8.here hx rfl (hb hby at_88) rfl q) ?_
        show Go _ _ _ _ _ _ _ (T8.setTop (mkF m 89 #[.val (.long x1), .second, .val (.long x2), .second, .val (.long x3), .second, .val (.long x4), .second, .val (.int x5), .val (.long zJ1_0), .second, .val (.long zJ2_0), .second, .val (.ref b3), .val (.ref b5), .val (.int (if (own_cmp x1 zJ1_0) = (0 : Int32) then (own_cmp x2 zJ2_0) else (own_cmp x1 zJ1_0))), .val (.int (if (own_cmp zJ1_0 x1) = (0 : Int32) then (own_cmp zJ2_0 x2) else (own_cmp zJ1_0 x1))), .unset] [(.int (lcmpW x1 zJ1_0))]))
        by_cases c89 : zJ1_0 < x1
        · refine Go.of (fun _ q => XS.ifNo X8.here hx rfl (hb hby at_89) rfl ((if0 _ _).trans (tlt ((lw_gt x1 zJ1_0).mpr c89)).2.2.2) q) ?_
          show Go _ _ _ _ _ _ _ (T8.setTop (mkF m 92 #[.val (.long x1), .second, .val (.long x2), .second, .val (.long x3), .second, .val (.long x4), .second, .val (.int x5), .val (.long zJ1_0), .second, .val (.long zJ2_0), .second, .val (.ref b3), .val (.ref b5), .val (.int (if (own_cmp x1 zJ1_0) = (0 : Int32) then (own_cmp x2 zJ2_0) else (own_cmp x1 zJ1_0))), .val (.int (if (own_cmp zJ1_0 x1) = (0 : Int32) then (own_cmp zJ2_0 x2) else (own_cmp zJ1_0 x1))), .unset] []))
          refine Go.of (fun _ q => XS.iconst X8.here hx rfl (hb hby at_92) q) ?_
          show Go _ _ _ _ _ _ _ (T8.setTop (mkF m 93 #[.val (.long x1), .second, .val (.long x2), .second, .val (.long x3), .second, .val (.long x4), .second, .val (.int x5), .val (.long zJ1_0), .second, .val (.long zJ2_0), .second, .val (.ref b3), .val (.ref b5), .val (.int (if (own_cmp x1 zJ1_0) = (0 : Int32) then (own_cmp x2 zJ2_0) else (own_cmp x1 zJ1_0))), .val (.int (if (own_cmp zJ1_0 x1) = (0 : Int32) then (own_cmp zJ2_0 x2) else (own_cmp zJ1_0 x1))), .unset] [(.int (1 : Int32))]))
          refine Go.of (fun _ q => XS.istore X8.here hx rfl (hb hby at_93) rfl (l' := #[.val (.long x1), .second, .val (.long x2), .second, .val (.long x3), .second, .val (.long x4), .second, .val (.int x5), .val (.long zJ1_0), .second, .val (.long zJ2_0), .second, .val (.ref b3), .val (.ref b5), .val (.int (if (own_cmp x1 zJ1_0) = (0 : Int32) then (own_cmp x2 zJ2_0) else (own_cmp x1 zJ1_0))), .val (.int (if (own_cmp zJ1_0 x1) = (0 : Int32) then (own_cmp zJ2_0 x2) else (own_cmp zJ1_0 x1))), .val (.int (1 : Int32))]) rfl q) ?_
          show Go _ _ _ _ _ _ _ (T8.setTop (mkF m 95 #[.val (.long x1), .second, .val (.long x2), .second, .val (.long x3), .second, .val (.long x4), .second, .val (.int x5), .val (.long zJ1_0), .second, .val (.long zJ2_0), .second, .val (.ref b3), .val (.ref b5), .val (.int (if (own_cmp x1 zJ1_0) = (0 : Int32) then (own_cmp x2 zJ2_0) else (own_cmp x1 zJ1_0))), .val (.int (if (own_cmp zJ1_0 x1) = (0 : Int32) then (own_cmp zJ2_0 x2) else (own_cmp zJ1_0 x1))), .val (.int (1 : Int32))] []))
          refine Go.of (fun _ q => XS.goto X8.here hx rfl (pc0 := 95) (pc' := 127) rfl (hb hby at_95) (by decide) (by decide) q) ?_
          show Go _ _ _ _ _ _ _ (T8.setTop (mkF m 127 #[.val (.long x1), .second, .val (.long x2), .second, .val (.long x3), .second, .val (.long x4), .second, .val (.int x5), .val (.long zJ1_0), .second, .val (.long zJ2_0), .second, .val (.ref b3), .val (.ref b5), .val (.int (if (own_cmp x1 zJ1_0) = (0 : Int32) then (own_cmp x2 zJ2_0) else (own_cmp x1 zJ1_0))), .val (.int (if (own_cmp zJ1_0 x1) = (0 : Int32) then (own_cmp zJ2_0 x2) else (own_cmp zJ1_0 x1))), .val (.int (1 : Int32))] []))
          exact J9 _ (by rw [if_neg c76, if_pos c89])
        · refine Go.of (fun _ q => XS.ifYes X8.here hx rfl (pc0 := 89) (pc' := 98) rfl (hb hby at_89) rfl ((if0 _ _).trans (flt (mt (lw_gt x1 zJ1_0).mp c89)).2.2.2) (by decide) (by decide) q) ?_
          show Go _ _ _ _ _ _ _ (T8.setTop (mkF m 98 #[.val (.long x1), .second, .val (.long x2), .second, .val (.long x3), .second, .val (.long x4), .second, .val (.int x5), .val (.long zJ1_0), .second, .val (.long zJ2_0), .second, .val (.ref b3), .val (.ref b5), .val (.int (if (own_cmp x1 zJ1_0) = (0 : Int32) then (own_cmp x2 zJ2_0) else (own_cmp x1 zJ1_0))), .val (.int (if (own_cmp zJ1_0 x1) = (0 : Int32) then (own_cmp zJ2_0 x2) else (own_cmp zJ1_0 x1))), .unset] []))
          refine Go.of (fun _ q => XS.lloadN X8.here hx rfl (hb hby at_98) rfl q) ?_
          show Go _ _ _ _ _ _ _ (T8.setTop (mkF m 99 #[.val (.long x1), .second, .val (.long x2), .second, .val (.long x3), .second, .val (.long x4), .second, .val (.int x5), .val (.long zJ1_0), .second, .val (.long zJ2_0), .second, .val (.ref b3), .val (.ref b5), .val (.int (if (own_cmp x1 zJ1_0) = (0 : Int32) then (own_cmp x2 zJ2_0) else (own_cmp x1 zJ1_0))), .val (.int (if (own_cmp zJ1_0 x1) = (0 : Int32) then (own_cmp zJ2_0 x2) else (own_cmp zJ1_0 x1))), .unset] [(.long x2)]))
          refine Go.of (fun _ q => XS.lload X8.here hx rfl (hb hby at_99) rfl q) ?_
          show Go _ _ _ _ _ _ _ (T8.setTop (mkF m 101 #[.val (.long x1), .second, .val (.long x2), .second, .val (.long x3), .second, .val (.long x4), .second, .val (.int x5), .val (.long zJ1_0), .second, .val (.long zJ2_0), .second, .val (.ref b3), .val (.ref b5), .val (.int (if (own_cmp x1 zJ1_0) = (0 : Int32) then (own_cmp x2 zJ2_0) else (own_cmp x1 zJ1_0))), .val (.int (if (own_cmp zJ1_0 x1) = (0 : Int32) then (own_cmp zJ2_0 x2) else (own_cmp zJ1_0 x1))), .unset] [(.long zJ2_0), (.long x2)]))
          refine Go.of (fun _ q => XS.lcmp X8.here hx rfl (hb hby at_101) rfl q) ?_
          show Go _ _ _ _ _ _ _ (T8.setTop (mkF m 102 #[.val (.long x1), .second, .val (.long x2), .second, .val (.long x3), .second, .val (.long x4), .second, .val (.int x5), .val (.long zJ1_0), .second, .val (.long zJ2_0), .second, .val (.ref b3), .val (.ref b5), .val (.int (if (own_cmp x1 zJ1_0) = (0 : Int32) then (own_cmp x2 zJ2_0) else (own_cmp x1 zJ1_0))), .val (.int (if (own_cmp zJ1_0 x1) = (0 : Int32) then (own_cmp zJ2_0 x2) else (own_cmp zJ1_0 x1))), .unset] [(.int (lcmpW x2 zJ2_0))]))
          by_cases c102 : x2 < zJ2_0
          · refine Go.of (fun _ q => XS.ifNo X8.here hx rfl (hb hby at_102) rfl ((if0 _ _).trans (tlt ((lw_lt x2 zJ2_0).mpr c102)).2.1) q) ?_
            show Go _ _ _ _ _ _ _ (T8.setTop (mkF m 105 #[.val (.long x1), .second, .val (.long x2), .second, .val (.long x3), .second, .val (.long x4), .second, .val (.int x5), .val (.long zJ1_0), .second, .val (.long zJ2_0), .second, .val (.ref b3), .val (.ref b5), .val (.int (if (own_cmp x1 zJ1_0) = (0 : Int32) then (own_cmp x2 zJ2_0) else (own_cmp x1 zJ1_0))), .val (.int (if (own_cmp zJ1_0 x1) = (0 : Int32) then (own_cmp zJ2_0 x2) else (own_cmp zJ1_0 x1))), .unset] []))
            refine Go.of (fun _ q => XS.iconst X8.here hx rfl (hb hby at_105) q) ?_
            show Go _ _ _ _ _ _ _ (T8.setTop (mkF m 106 #[.val (.long x1), .second, .val (.long x2), .second, .val (.long x3), .second, .val (.long x4), .second, .val (.int x5), .val (.long zJ1_0), .second, .val (.long zJ2_0), .second, .val (.ref b3), .val (.ref b5), .val (.int (if (own_cmp x1 zJ1_0) = (0 : Int32) then (own_cmp x2 zJ2_0) else (own_cmp x1 zJ1_0))), .val (.int (if (own_cmp zJ1_0 x1) = (0 : Int32) then (own_cmp zJ2_0 x2) else (own_cmp zJ1_0 x1))), .unset] [(.int (-1 : Int32))]))
            refine Go.of (fun _ q => XS.istore X8.here hx rfl (hb hby at_106) rfl (l' := #[.val (.long x1), .second, .val (.long x2), .second, .val (.long x3), .second, .val (.long x4), .second, .val (.int x5), .val (.long zJ1_0), .second, .val (.long zJ2_0), .second, .val (.ref b3), .val (.ref b5), .val (.int (if (own_cmp x1 zJ1_0) = (0 : Int32) then (own_cmp x2 zJ2_0) else (own_cmp x1 zJ1_0))), .val (.int (if (own_cmp zJ1_0 x1) = (0 : Int32) then (own_cmp zJ2_0 x2) else (own_cmp zJ1_0 x1))), .val (.int (-1 : Int32))]) rfl q) ?_
            show Go _ _ _ _ _ _ _ (T8.setTop (mkF m 108 #[.val (.long x1), .second, .val (.long x2), .second, .val (.long x3), .second, .val (.long x4), .second, .val (.int x5), .val (.long zJ1_0), .second, .val (.long zJ2_0), .second, .val (.ref b3), .val (.ref b5), .val (.int (if (own_cmp x1 zJ1_0) = (0 : Int32) then (own_cmp x2 zJ2_0) else (own_cmp x1 zJ1_0))), .val (.int (if (own_cmp zJ1_0 x1) = (0 : Int32) then (own_cmp zJ2_0 x2) else (own_cmp zJ1_0 x1))), .val (.int (-1 : Int32))] []))
            refine Go.of (fun _ q => XS.goto X8.here hx rfl (pc0 := 108) (pc' := 127) rfl (hb hby at_108) (by decide) (by decide) q) ?_
            show Go _ _ _ _ _ _ _ (T8.setTop (mkF m 127 #[.val (.long x1), .second, .val (.long x2), .second, .val (.long x3), .second, .val (.long x4), .second, .val (.int x5), .val (.long zJ1_0), .second, .val (.long zJ2_0), .second, .val (.ref b3), .val (.ref b5), .val (.int (if (own_cmp x1 zJ1_0) = (0 : Int32) then (own_cmp x2 zJ2_0) else (own_cmp x1 zJ1_0))), .val (.int (if (own_cmp zJ1_0 x1) = (0 : Int32) then (own_cmp zJ2_0 x2) else (own_cmp zJ1_0 x1))), .val (.int (-1 : Int32))] []))
            exact J9 _ (by rw [if_neg c76, if_neg c89, if_pos c102])
          · refine Go.of (fun _ q => XS.ifYes X8.here hx rfl (pc0 := 102) (pc' := 111) rfl (hb hby at_102) rfl ((if0 _ _).trans (flt (mt (lw_lt x2 zJ2_0).mp c102)).2.1) (by decide) (by decide) q) ?_
            show Go _ _ _ _ _ _ _ (T8.setTop (mkF m 111 #[.val (.long x1), .second, .val (.long x2), .second, .val (.long x3), .second, .val (.long x4), .second, .val (.int x5), .val (.long zJ1_0), .second, .val (.long zJ2_0), .second, .val (.ref b3), .val (.ref b5), .val (.int (if (own_cmp x1 zJ1_0) = (0 : Int32) then (own_cmp x2 zJ2_0) else (own_cmp x1 zJ1_0))), .val (.int (if (own_cmp zJ1_0 x1) = (0 : Int32) then (own_cmp zJ2_0 x2) else (own_cmp zJ1_0 x1))), .unset] []))
            refine Go.of (fun _ q => XS.lloadN X8.here hx rfl (hb hby at_111) rfl q) ?_
            show Go _ _ _ _ _ _ _ (T8.setTop (mkF m 112 #[.val (.long x1), .second, .val (.long x2), .second, .val (.long x3), .second, .val (.long x4), .second, .val (.int x5), .val (.long zJ1_0), .second, .val (.long zJ2_0), .second, .val (.ref b3), .val (.ref b5), .val (.int (if (own_cmp x1 zJ1_0) = (0 : Int32) then (own_cmp x2 zJ2_0) else (own_cmp x1 zJ1_0))), .val (.int (if (own_cmp zJ1_0 x1) = (0 : Int32) then (own_cmp zJ2_0 x2) else (own_cmp zJ1_0 x1))), .unset] [(.long x2)]))
            refine Go.of (fun _ q => XS.lload X8.here hx rfl (hb hby at_112) rfl q) ?_
            show Go _ _ _ _ _ _ _ (T8.setTop (mkF m 114 #[.val (.long x1), .second, .val (.long x2), .second, .val (.long x3), .second, .val (.long x4), .second, .val (.int x5), .val (.long zJ1_0), .second, .val (.long zJ2_0), .second, .val (.ref b3), .val (.ref b5), .val (.int (if (own_cmp x1 zJ1_0) = (0 : Int32) then (own_cmp x2 zJ2_0) else (own_cmp x1 zJ1_0))), .val (.int (if (own_cmp zJ1_0 x1) = (0 : Int32) then (own_cmp zJ2_0 x2) else (own_cmp zJ1_0 x1))), .unset] [(.long zJ2_0), (.long x2)]))
            refine Go.of (fun _ q => XS.lcmp X8.here hx rfl (hb hby at_114) rfl q) ?_
            show Go _ _ _ _ _ _ _ (T8.setTop (mkF m 115 #[.val (.long x1), .second, .val (.long x2), .second, .val (.long x3), .second, .val (.long x4), .second, .val (.int x5), .val (.long zJ1_0), .second, .val (.long zJ2_0), .second, .val (.ref b3), .val (.ref b5), .val (.int (if (own_cmp x1 zJ1_0) = (0 : Int32) then (own_cmp x2 zJ2_0) else (own_cmp x1 zJ1_0))), .val (.int (if (own_cmp zJ1_0 x1) = (0 : Int32) then (own_cmp zJ2_0 x2) else (own_cmp zJ1_0 x1))), .unset] [(.int (lcmpW x2 zJ2_0))]))
            by_cases c115 : zJ2_0 < x2
            · refine Go.of (fun _ q => XS.ifNo X8.here hx rfl (hb hby at_115) rfl ((if0 _ _).trans (tlt ((lw_gt x2 zJ2_0).mpr c115)).2.2.2) q) ?_
              show Go _ _ _ _ _ _ _ (T8.setTop (mkF m 118 #[.val (.long x1), .second, .val (.long x2), .second, .val (.long x3), .second, .val (.long x4), .second, .val (.int x5), .val (.long zJ1_0), .second, .val (.long zJ2_0), .second, .val (.ref b3), .val (.ref b5), .val (.int (if (own_cmp x1 zJ1_0) = (0 : Int32) then (own_cmp x2 zJ2_0) else (own_cmp x1 zJ1_0))), .val (.int (if (own_cmp zJ1_0 x1) = (0 : Int32) then (own_cmp zJ2_0 x2) else (own_cmp zJ1_0 x1))), .unset] []))
              refine Go.of (fun _ q => XS.iconst X8.here hx rfl (hb hby at_118) q) ?_
              show Go _ _ _ _ _ _ _ (T8.setTop (mkF m 119 #[.val (.long x1), .second, .val (.long x2), .second, .val (.long x3), .second, .val (.long x4), .second, .val (.int x5), .val (.long zJ1_0), .second, .val (.long zJ2_0), .second, .val (.ref b3), .val (.ref b5), .val (.int (if (own_cmp x1 zJ1_0) = (0 : Int32) then (own_cmp x2 zJ2_0) else (own_cmp x1 zJ1_0))), .val (.int (if (own_cmp zJ1_0 x1) = (0 : Int32) then (own_cmp zJ2_0 x2) else (own_cmp zJ1_0 x1))), .unset] [(.int (1 : Int32))]))
              refine Go.of (fun _ q => XS.istore X8.here hx rfl (hb hby at_119) rfl (l' := #[.val (.long x1), .second, .val (.long x2), .second, .val (.long x3), .second, .val (.long x4), .second, .val (.int x5), .val (.long zJ1_0), .second, .val (.long zJ2_0), .second, .val (.ref b3), .val (.ref b5), .val (.int (if (own_cmp x1 zJ1_0) = (0 : Int32) then (own_cmp x2 zJ2_0) else (own_cmp x1 zJ1_0))), .val (.int (if (own_cmp zJ1_0 x1) = (0 : Int32) then (own_cmp zJ2_0 x2) else (own_cmp zJ1_0 x1))), .val (.int (1 : Int32))]) rfl q) ?_
              show Go _ _ _ _ _ _ _ (T8.setTop (mkF m 121 #[.val (.long x1), .second, .val (.long x2), .second, .val (.long x3), .second, .val (.long x4), .second, .val (.int x5), .val (.long zJ1_0), .second, .val (.long zJ2_0), .second, .val (.ref b3), .val (.ref b5), .val (.int (if (own_cmp x1 zJ1_0) = (0 : Int32) then (own_cmp x2 zJ2_0) else (own_cmp x1 zJ1_0))), .val (.int (if (own_cmp zJ1_0 x1) = (0 : Int32) then (own_cmp zJ2_0 x2) else (own_cmp zJ1_0 x1))), .val (.int (1 : Int32))] []))
              refine Go.of (fun _ q => XS.goto X8.here hx rfl (pc0 := 121) (pc' := 127) rfl (hb hby at_121) (by decide) (by decide) q) ?_
              show Go _ _ _ _ _ _ _ (T8.setTop (mkF m 127 #[.val (.long x1), .second, .val (.long x2), .second, .val (.long x3), .second, .val (.long x4), .second, .val (.int x5), .val (.long zJ1_0), .second, .val (.long zJ2_0), .second, .val (.ref b3), .val (.ref b5), .val (.int (if (own_cmp x1 zJ1_0) = (0 : Int32) then (own_cmp x2 zJ2_0) else (own_cmp x1 zJ1_0))), .val (.int (if (own_cmp zJ1_0 x1) = (0 : Int32) then (own_cmp zJ2_0 x2) else (own_cmp zJ1_0 x1))), .val (.int (1 : Int32))] []))
              exact J9 _ (by rw [if_neg c76, if_neg c89, if_neg c102, if_pos c115])
            · refine Go.of (fun _ q => XS.ifYes X8.here hx rfl (pc0 := 115) (pc' := 124) rfl (hb hby at_115) rfl ((if0 _ _).trans (flt (mt (lw_gt x2 zJ2_0).mp c115)).2.2.2) (by decide) (by decide) q) ?_
              show Go _ _ _ _ _ _ _ (T8.setTop (mkF m 124 #[.val (.long x1), .second, .val (.long x2), .second, .val (.long x3), .second, .val (.long x4), .second, .val (.int x5), .val (.long zJ1_0), .second, .val (.long zJ2_0), .second, .val (.ref b3), .val (.ref b5), .val (.int (if (own_cmp x1 zJ1_0) = (0 : Int32) then (own_cmp x2 zJ2_0) else (own_cmp x1 zJ1_0))), .val (.int (if (own_cmp zJ1_0 x1) = (0 : Int32) then (own_cmp zJ2_0 x2) else (own_cmp zJ1_0 x1))), .unset] []))
              refine Go.of (fun _ q => XS.iconst X8.here hx rfl (hb hby at_124) q) ?_
              show Go _ _ _ _ _ _ _ (T8.setTop (mkF m 125 #[.val (.long x1), .second, .val (.long x2), .second, .val (.long x3), .second, .val (.long x4), .second, .val (.int x5), .val (.long zJ1_0), .second, .val (.long zJ2_0), .second, .val (.ref b3), .val (.ref b5), .val (.int (if (own_cmp x1 zJ1_0) = (0 : Int32) then (own_cmp x2 zJ2_0) else (own_cmp x1 zJ1_0))), .val (.int (if (own_cmp zJ1_0 x1) = (0 : Int32) then (own_cmp zJ2_0 x2) else (own_cmp zJ1_0 x1))), .unset] [(.int (0 : Int32))]))
              refine Go.of (fun _ q => XS.istore X8.here hx rfl (hb hby at_125) rfl (l' := #[.val (.long x1), .second, .val (.long x2), .second, .val (.long x3), .second, .val (.long x4), .second, .val (.int x5), .val (.long zJ1_0), .second, .val (.long zJ2_0), .second, .val (.ref b3), .val (.ref b5), .val (.int (if (own_cmp x1 zJ1_0) = (0 : Int32) then (own_cmp x2 zJ2_0) else (own_cmp x1 zJ1_0))), .val (.int (if (own_cmp zJ1_0 x1) = (0 : Int32) then (own_cmp zJ2_0 x2) else (own_cmp zJ1_0 x1))), .val (.int (0 : Int32))]) rfl q) ?_
              show Go _ _ _ _ _ _ _ (T8.setTop (mkF m 127 #[.val (.long x1), .second, .val (.long x2), .second, .val (.long x3), .second, .val (.long x4), .second, .val (.int x5), .val (.long zJ1_0), .second, .val (.long zJ2_0), .second, .val (.ref b3), .val (.ref b5), .val (.int (if (own_cmp x1 zJ1_0) = (0 : Int32) then (own_cmp x2 zJ2_0) else (own_cmp x1 zJ1_0))), .val (.int (if (own_cmp zJ1_0 x1) = (0 : Int32) then (own_cmp zJ2_0 x2) else (own_cmp zJ1_0 x1))), .val (.int (0 : Int32))] []))
              exact J9 _ (by rw [if_neg c76, if_neg c89, if_neg c102, if_neg c115])
    by_cases c19 : (x5 &&& (2 : Int32)) = (0 : Int32)
    · refine Go.of (fun _ q => XS.ifYes X0.here hx rfl (pc0 := 19) (pc' := 26) rfl (hb hby at_19) rfl ((if0 _ _).trans (teq c19).1) (by decide) (by decide) q) ?_
      show Go _ _ _ _ _ _ _ (s₁.setTop (mkF m 26 #[.val (.long x1), .second, .val (.long x2), .second, .val (.long x3), .second, .val (.long x4), .second, .val (.int x5), .val (.long zJ1_0), .second, .unset, .unset, .unset, .unset, .unset, .unset, .unset] []))
      refine Go.of (fun _ q => XS.lload X0.here hx rfl (hb hby at_26) rfl q) ?_
      show Go _ _ _ _ _ _ _ (s₁.setTop (mkF m 28 #[.val (.long x1), .second, .val (.long x2), .second, .val (.long x3), .second, .val (.long x4), .second, .val (.int x5), .val (.long zJ1_0), .second, .unset, .unset, .unset, .unset, .unset, .unset, .unset] [(.long x4)]))
      exact J2 _ (by rw [if_pos c19])
    · refine Go.of (fun _ q => XS.ifNo X0.here hx rfl (hb hby at_19) rfl ((if0 _ _).trans (feq c19).1) q) ?_
      show Go _ _ _ _ _ _ _ (s₁.setTop (mkF m 22 #[.val (.long x1), .second, .val (.long x2), .second, .val (.long x3), .second, .val (.long x4), .second, .val (.int x5), .val (.long zJ1_0), .second, .unset, .unset, .unset, .unset, .unset, .unset, .unset] []))
      refine Go.of (fun _ q => XS.lloadN X0.here hx rfl (hb hby at_22) rfl q) ?_
      show Go _ _ _ _ _ _ _ (s₁.setTop (mkF m 23 #[.val (.long x1), .second, .val (.long x2), .second, .val (.long x3), .second, .val (.long x4), .second, .val (.int x5), .val (.long zJ1_0), .second, .unset, .unset, .unset, .unset, .unset, .unset, .unset] [(.long x2)]))
      refine Go.of (fun _ q => XS.goto X0.here hx rfl (pc0 := 23) (pc' := 28) rfl (hb hby at_23) (by decide) (by decide) q) ?_
      show Go _ _ _ _ _ _ _ (s₁.setTop (mkF m 28 #[.val (.long x1), .second, .val (.long x2), .second, .val (.long x3), .second, .val (.long x4), .second, .val (.int x5), .val (.long zJ1_0), .second, .unset, .unset, .unset, .unset, .unset, .unset, .unset] [(.long x2)]))
      exact J2 _ (by rw [if_neg c19])
  by_cases c4 : (x5 &&& (1 : Int32)) = (0 : Int32)
  · refine Go.of (fun _ q => XS.ifYes X0.here hx rfl (pc0 := 4) (pc' := 11) rfl (hb hby at_4) rfl ((if0 _ _).trans (teq c4).1) (by decide) (by decide) q) ?_
    show Go _ _ _ _ _ _ _ (s₁.setTop (mkF m 11 #[.val (.long x1), .second, .val (.long x2), .second, .val (.long x3), .second, .val (.long x4), .second, .val (.int x5), .unset, .unset, .unset, .unset, .unset, .unset, .unset, .unset, .unset] []))
    refine Go.of (fun _ q => XS.lload X0.here hx rfl (hb hby at_11) rfl q) ?_
    show Go _ _ _ _ _ _ _ (s₁.setTop (mkF m 13 #[.val (.long x1), .second, .val (.long x2), .second, .val (.long x3), .second, .val (.long x4), .second, .val (.int x5), .unset, .unset, .unset, .unset, .unset, .unset, .unset, .unset, .unset] [(.long x3)]))
    exact J1 _ (by rw [if_pos c4])
  · refine Go.of (fun _ q => XS.ifNo X0.here hx rfl (hb hby at_4) rfl ((if0 _ _).trans (feq c4).1) q) ?_
    show Go _ _ _ _ _ _ _ (s₁.setTop (mkF m 7 #[.val (.long x1), .second, .val (.long x2), .second, .val (.long x3), .second, .val (.long x4), .second, .val (.int x5), .unset, .unset, .unset, .unset, .unset, .unset, .unset, .unset, .unset] []))
    refine Go.of (fun _ q => XS.lloadN X0.here hx rfl (hb hby at_7) rfl q) ?_
    show Go _ _ _ _ _ _ _ (s₁.setTop (mkF m 8 #[.val (.long x1), .second, .val (.long x2), .second, .val (.long x3), .second, .val (.long x4), .second, .val (.int x5), .unset, .unset, .unset, .unset, .unset, .unset, .unset, .unset, .unset] [(.long x1)]))
    refine Go.of (fun _ q => XS.goto X0.here hx rfl (pc0 := 8) (pc' := 13) rfl (hb hby at_8) (by decide) (by decide) q) ?_
    show Go _ _ _ _ _ _ _ (s₁.setTop (mkF m 13 #[.val (.long x1), .second, .val (.long x2), .second, .val (.long x3), .second, .val (.long x4), .second, .val (.int x5), .unset, .unset, .unset, .unset, .unset, .unset, .unset, .unset, .unset] [(.long x1)]))
    exact J1 _ (by rw [if_neg c4])
set_option maxRecDepth 65536 in
set_option maxHeartbeats 40000000 in
theorem comes_1 {Post : Tables → Env → Array Value → State → Outcome → State → Prop} (hpost : ∀ tb e args s v u, (limb_1_1.after args s (.returned v) u = true ∧ limb_1_2.after args s (.returned v) u = true ∧ True) → FrameEnd s (.returned v) u (Jvm.fieldLocs frame_1_writes args s ++ Jvm.arrayLocs frame_1_arrays args s ++ Jvm.staticLocs frame_1_statics s) 16 128 → Post tb e args s (.returned v) u) :
    ArmFor flags0 classFile x code maxLocals ret World_1 tables_1 room_1 Calls_1 rest_1 Pre_1 Post := by
  intro l hfl _ _ p e ha hc hk s m args below hf hA hF happ hP
  obtain ⟨hcalls, hrest, hpre⟩ := hP
  obtain ⟨-, -, -, hnamed, -, -, -, hat⟩ := (Spec.applies_iff hf).mp happ
  obtain ⟨hg, hn⟩ := and_e (Cond.before_iff.mp (show (Jvm.Cond.and given_1 narrow_1).before args s = true from hpre))
  obtain ⟨g1, g2⟩ := and_e hg
  obtain ⟨g3, g4⟩ := and_e g2
  obtain ⟨g5, g6⟩ := and_e g4
  obtain ⟨g7, g8⟩ := and_e g6
  obtain ⟨g9, g10⟩ := and_e g8
  obtain ⟨w0, w1, w2, w3, w4, rfl⟩ : ∃ w0 w1 w2 w3 w4 : Value, args = #[w0, w1, w2, w3, w4] := by
    have hs : args.size = 5 := by simpa [Cond.value, given_1] using g1
    obtain ⟨L⟩ := args
    match L, hs with
    | [w0, w1, w2, w3, w4], _ => exact ⟨w0, w1, w2, w3, w4, rfl⟩
  have hw := fun d (hd : d ∈ tables_1) => atoms_spec (ws := Jvm.Cond.code x code maxLocals ret :: tables_1) hat d (List.mem_cons_of_mem _ hd)
  have hfit : Fit s := fun {y c} hc i hi => by
    obtain ⟨ha, rfl⟩ := Array.getElem?_eq_some_iff.mp hc
    have q := List.all_eq_true.mp ((Array.all_eq_true_iff_forall_mem.mp hF) _ (Array.getElem_mem ha)) i (List.mem_range.mpr hi)
    simpa [Array.getElem?_eq_getElem hi] using q
  obtain ⟨i0, ei0⟩ := isL_v g3
  obtain rfl : w0 = (.long i0) := Option.some.inj ei0
  obtain ⟨i1, ei1⟩ := isL_v g5
  obtain rfl : w1 = (.long i1) := Option.some.inj ei1
  obtain ⟨i2, ei2⟩ := isL_v g7
  obtain rfl : w2 = (.long i2) := Option.some.inj ei2
  obtain ⟨i3, ei3⟩ := isL_v g9
  obtain rfl : w3 = (.long i3) := Option.some.inj ei3
  obtain ⟨i4, ei4⟩ := is_v g10
  obtain rfl : w4 = (.int i4) := Option.some.inj ei4
  obtain ⟨n, o, h1, h2, h3, _, L, rfl, ⟨rfl, N⟩, hq⟩ := rm0 l s _ hw i0 i1 i2 i3 i4 s.heap s.heap.size (Nat.le_refl _)  tables_1 p e ha hc hk s m _ below hf ((Spec.applies_iff_loose hf).mp happ).1 ⟨rfl, State.Warmed39.refl s, rfl⟩ trivial
  refine ⟨n, _, h1, h2, h3, hpost _ _ _ _ _ _ ⟨Cond.after_iff.mpr rfl, Cond.after_iff.mpr (eq_i res_at (Term.int_eval (1)) rfl), trivial⟩ ⟨hq.1, hq.2.1, (hq.2.2.sift fun y hy => Or.inr (N y hy)).mono (by decide) (by decide)⟩⟩
theorem main_1_1 : Claimed_1_1 := comes_1 fun _ _ _ _ _ _ h hF => ⟨h.1, hF⟩
theorem main_1_2 : Claimed_1_2 := comes_1 fun _ _ _ _ _ _ h hF => ⟨h.2.1, hF⟩
end Jvm.Pilot.@@N@@
namespace Jvm.Pilot.@@N@@
open Jvm Jvm.ClassFile Sem Op Lib Jvm.Free Jvm.Stand Jvm.Pilot.@@N@@.Jvm.D
/-! MADE BY PROGRAM (witnessworld.py) out of the Statement's table words and the real class files: 15 classes; the members and pool entries that the words name. The judged class is class 1, her method 1. -/
namespace start1
open Jvm.ClassFile
def u (s : String) : CpInfo := .utf8 (stringToUtf16 s)
/-- a pool by its gaps: so many unusable entries, then the entry; so many at the end -/
def gap : Nat → List CpInfo → List CpInfo
  | 0, r => r
  | n + 1, r => .unusable :: gap n r
def poolList (es : List (Nat × CpInfo)) (last : Nat) : List CpInfo := es.foldr (fun e r => gap e.1 (e.2 :: r)) (gap last [])
def pool (es : List (Nat × CpInfo)) (last : Nat) : Array CpInfo := ⟨poolList es last⟩
def fileOf (pool : Array CpInfo) (this : Nat) (attrs : Array Attribute := #[]) (ms : Array MethodInfo := #[]) (fl : Nat := 33) (sup : Nat := 0) (ifs : Array Nat := #[]) (fds : Array FieldInfo := #[]) : ClassFile where
  minorVersion := 0
  majorVersion := 65
  constantPool := pool
  accessFlags := fl
  thisClass := this
  superClass := sup
  interfaces := ifs
  fields := fds
  methods := ms
  attributes := attrs
def plain (name : String) (sup : Option ClassId) : Class where
  name := name
  kind := .ordinary
  loader := none
  accessFlags := 33
  super := sup
  interfaces := #[]
  cf := none
  fields := #[]
  methods := #[]
  instanceTypes := #[]
  staticTypes := #[]
  resolved := #[]
  callSites := []
  init := .initialized
  statics := none
  mirror := none

def pool0 : Array CpInfo := pool [(5, u "<init>"), (0, u "()V"), (1, .class_ 10), (1, u "java/lang/Object")] 113

def k0c0 : Code := { maxStack := 0, maxLocals := 1, code := object_method_1_code, exceptionTable := #[], attributes := #[] }
def k0m0 : Method := { name := "<init>", desc := "()V", sig := { parameters := [], returnType := none }, accessFlags := 1, code := some k0c0 }
/-- java/lang/Object -/
def k0 : Class := { plain "java/lang/Object" none with
  accessFlags := 33
  interfaces := #[]
  cf := some (fileOf pool0 8 #[] #[{ accessFlags := 1, nameIndex := 5, descriptorIndex := 6, attributes := #[] }] 33 0 #[] #[])
  fields := #[]
  methods := #[k0m0]
  instanceTypes := #[]
  staticTypes := #[]
  resolved := Array.replicate 124 none
  statics := none }

def pool1 : Array CpInfo := pool [(2, .class_ 4), (1, u "java/lang/Object"), (0, u "<init>"), (0, u "()V"), (0, .class_ 8), (0, u "com/example/ddos_fee_ledger/ddosfeeledger/IndexRun$Place"), (0, .methodref 7 10), (0, .nameAndType 5 11), (0, u "(JJ)V"), (0, .methodref 7 13), (0, .nameAndType 14 15), (0, u "compareTo"), (0, u "(Lcom/example/ddos_fee_ledger/ddosfeeledger/IndexRun$Place;)I"), (0, .methodref 17 18), (0, .class_ 19), (0, .nameAndType 20 21), (0, u "com/example/ddos_fee_ledger/ddosfeeledger/PlaceCompareToPinLaw"), (0, u "sign"), (0, u "(I)I"), (2, u "law"), (0, u "(JJJJI)Z")] 7

def k1m0 : Method := { name := "<init>", desc := "()V", sig := { parameters := [], returnType := none }, accessFlags := 1, code := none }
def k1c1 : Code := { maxStack := 6, maxLocals := 18, code := code, exceptionTable := #[], attributes := #[] }
def k1m1 : Method := { name := "law", desc := "(JJJJI)Z", sig := { parameters := [.long, .long, .long, .long, .int], returnType := some .boolean }, accessFlags := 9, code := some k1c1 }
def k1c2 : Code := { maxStack := 1, maxLocals := 1, code := method_3_code, exceptionTable := #[], attributes := #[] }
def k1m2 : Method := { name := "sign", desc := "(I)I", sig := { parameters := [.int], returnType := some .int }, accessFlags := 10, code := some k1c2 }
/-- com/example/ddos_fee_ledger/ddosfeeledger/PlaceCompareToPinLaw -/
def k1 : Class := { plain "com/example/ddos_fee_ledger/ddosfeeledger/PlaceCompareToPinLaw" (some 0) with
  accessFlags := 49
  interfaces := #[]
  cf := some (fileOf pool1 17 #[] #[{ accessFlags := 1, nameIndex := 5, descriptorIndex := 6, attributes := #[] }, { accessFlags := 9, nameIndex := 24, descriptorIndex := 25, attributes := #[] }, { accessFlags := 10, nameIndex := 20, descriptorIndex := 21, attributes := #[] }] 49 2 #[] #[])
  fields := #[]
  methods := #[k1m0, k1m1, k1m2]
  instanceTypes := #[]
  staticTypes := #[]
  resolved := Array.replicate 33 none
  statics := none }

def pool2 : Array CpInfo := pool [(1, .methodref 2 3), (0, .class_ 4), (0, .nameAndType 5 6), (0, u "java/lang/Object"), (0, u "<init>"), (0, u "()V"), (0, .class_ 8), (0, u "java/lang/Record")] 13

def k2c0 : Code := { maxStack := 1, maxLocals := 1, code := jdk_30_method_1_code, exceptionTable := #[], attributes := #[] }
def k2m0 : Method := { name := "<init>", desc := "()V", sig := { parameters := [], returnType := none }, accessFlags := 4, code := some k2c0 }
/-- java/lang/Record -/
def k2 : Class := { plain "java/lang/Record" (some 0) with
  accessFlags := 1057
  interfaces := #[]
  cf := some (fileOf pool2 7 #[] #[{ accessFlags := 4, nameIndex := 5, descriptorIndex := 6, attributes := #[] }] 1057 2 #[] #[])
  fields := #[]
  methods := #[k2m0]
  instanceTypes := #[]
  staticTypes := #[]
  resolved := Array.replicate 22 none
  statics := none }

def pool3 : Array CpInfo := pool [(1, .class_ 2), (0, u "java/lang/Comparable"), (0, .class_ 4), (0, u "java/lang/Object")] 7

/-- java/lang/Comparable -/
def k3 : Class := { plain "java/lang/Comparable" (some 0) with
  accessFlags := 1537
  interfaces := #[]
  cf := some (fileOf pool3 1 #[] #[] 1537 3 #[] #[])
  fields := #[]
  methods := #[]
  instanceTypes := #[]
  staticTypes := #[]
  resolved := Array.replicate 12 none
  statics := none }

def pool4 : Array CpInfo := pool [(1, .methodref 2 3), (0, .class_ 4), (0, .nameAndType 5 6), (0, u "java/lang/Record"), (0, u "<init>"), (0, u "()V"), (0, .fieldref 8 9), (0, .class_ 10), (0, .nameAndType 11 12), (0, u "com/example/ddos_fee_ledger/ddosfeeledger/IndexRun$Place"), (0, u "batch"), (0, u "J"), (0, .fieldref 8 14), (0, .nameAndType 15 12), (0, u "line"), (0, .methodref 17 18), (0, .class_ 19), (0, .nameAndType 20 21), (0, u "java/lang/Long"), (0, u "compare"), (0, u "(JJ)I"), (2, u "compareTo"), (0, u "(Lcom/example/ddos_fee_ledger/ddosfeeledger/IndexRun$Place;)I"), (11, .class_ 38), (0, u "java/lang/Comparable"), (0, u "(JJ)V"), (14, .class_ 55), (0, u "com/example/ddos_fee_ledger/ddosfeeledger/IndexRun")] 20

def k4c0 : Code := { maxStack := 3, maxLocals := 5, code := prog_27_method_1_code, exceptionTable := #[], attributes := #[] }
def k4m0 : Method := { name := "<init>", desc := "(JJ)V", sig := { parameters := [.long, .long], returnType := none }, accessFlags := 0, code := some k4c0 }
def k4c1 : Code := { maxStack := 4, maxLocals := 3, code := prog_27_method_2_code, exceptionTable := #[], attributes := #[] }
def k4m1 : Method := { name := "compareTo", desc := "(Lcom/example/ddos_fee_ledger/ddosfeeledger/IndexRun$Place;)I", sig := { parameters := [(.object "com/example/ddos_fee_ledger/ddosfeeledger/IndexRun$Place")], returnType := some .int }, accessFlags := 1, code := some k4c1 }
/-- com/example/ddos_fee_ledger/ddosfeeledger/IndexRun$Place -/
def k4 : Class := { plain "com/example/ddos_fee_ledger/ddosfeeledger/IndexRun$Place" (some 2) with
  accessFlags := 48
  interfaces := #[3]
  cf := some (fileOf pool4 8 #[.nestHost 54] #[{ accessFlags := 0, nameIndex := 5, descriptorIndex := 39, attributes := #[] }, { accessFlags := 1, nameIndex := 24, descriptorIndex := 25, attributes := #[] }] 48 2 #[37] #[{ accessFlags := 18, nameIndex := 11, descriptorIndex := 12, attributes := #[] }, { accessFlags := 18, nameIndex := 15, descriptorIndex := 12, attributes := #[] }])
  fields := #[{ name := "batch", type := .long, accessFlags := 18, slot := 0, constantValue := 0 }, { name := "line", type := .long, accessFlags := 18, slot := 1, constantValue := 0 }]
  methods := #[k4m0, k4m1]
  instanceTypes := #[.long, .long]
  staticTypes := #[]
  resolved := Array.replicate 76 none
  statics := none }

def pool5 : Array CpInfo := pool [(1, .class_ 2), (0, u "java/io/Serializable"), (0, .class_ 4), (0, u "java/lang/Object")] 2

/-- java/io/Serializable -/
def k5 : Class := { plain "java/io/Serializable" (some 0) with
  accessFlags := 1537
  interfaces := #[]
  cf := some (fileOf pool5 1 #[] #[] 1537 3 #[] #[])
  fields := #[]
  methods := #[]
  instanceTypes := #[]
  staticTypes := #[]
  resolved := Array.replicate 7 none
  statics := none }

def pool6 : Array CpInfo := pool [(2, .class_ 4), (1, u "java/lang/Object"), (0, u "<init>"), (0, u "()V"), (1, .class_ 10), (1, u "java/lang/Number"), (2, .class_ 14), (0, u "java/io/Serializable"), (0, u "serialVersionUID"), (0, u "J")] 20

def k6m0 : Method := { name := "<init>", desc := "()V", sig := { parameters := [], returnType := none }, accessFlags := 1, code := none }
/-- java/lang/Number -/
def k6 : Class := { plain "java/lang/Number" (some 0) with
  accessFlags := 1057
  interfaces := #[5]
  cf := some (fileOf pool6 8 #[] #[{ accessFlags := 1, nameIndex := 5, descriptorIndex := 6, attributes := #[] }] 1057 2 #[13] #[{ accessFlags := 26, nameIndex := 15, descriptorIndex := 16, attributes := #[] }])
  fields := #[{ name := "serialVersionUID", type := .long, accessFlags := 26, slot := 0, constantValue := 0 }]
  methods := #[k6m0]
  instanceTypes := #[]
  staticTypes := #[.long]
  resolved := Array.replicate 37 none
  statics := none }

def pool7 : Array CpInfo := pool [(1, .class_ 2), (0, u "java/lang/constant/Constable"), (0, .class_ 4), (0, u "java/lang/Object")] 6

/-- java/lang/constant/Constable -/
def k7 : Class := { plain "java/lang/constant/Constable" (some 0) with
  accessFlags := 1537
  interfaces := #[]
  cf := some (fileOf pool7 1 #[] #[] 1537 3 #[] #[])
  fields := #[]
  methods := #[]
  instanceTypes := #[]
  staticTypes := #[]
  resolved := Array.replicate 11 none
  statics := none }

def pool8 : Array CpInfo := pool [(1, .class_ 2), (0, u "java/lang/constant/ConstantDesc"), (0, .class_ 4), (0, u "java/lang/Object")] 32

/-- java/lang/constant/ConstantDesc -/
def k8 : Class := { plain "java/lang/constant/ConstantDesc" (some 0) with
  accessFlags := 1537
  interfaces := #[]
  cf := some (fileOf pool8 1 #[] #[] 1537 3 #[] #[])
  fields := #[]
  methods := #[]
  instanceTypes := #[]
  staticTypes := #[]
  resolved := Array.replicate 37 none
  statics := none }

def pool9 : Array CpInfo := pool [(1, .class_ 2), (0, u "java/lang/Long"), (232, .class_ 237), (1, u "java/lang/Long$LongCache"), (33, .class_ 272), (0, u "java/lang/Number"), (2, u "value"), (0, u "J"), (27, u "compare"), (0, u "(JJ)I"), (55, u "TYPE"), (0, u "Ljava/lang/Class;"), (0, .class_ 364), (0, u "java/lang/Comparable"), (0, .class_ 366), (0, u "java/lang/constant/Constable"), (0, .class_ 368), (0, u "java/lang/constant/ConstantDesc"), (0, u "MIN_VALUE"), (1, u "MAX_VALUE"), (4, u "SIZE"), (0, u "I"), (1, u "BYTES"), (1, u "serialVersionUID")] 142

def k9c0 : Code := { maxStack := 4, maxLocals := 4, code := jdk_35_method_42_code, exceptionTable := #[], attributes := #[] }
def k9m0 : Method := { name := "compare", desc := "(JJ)I", sig := { parameters := [.long, .long], returnType := some .int }, accessFlags := 9, code := some k9c0 }
/-- java/lang/Long -/
def k9 : Class := { plain "java/lang/Long" (some 6) with
  accessFlags := 49
  interfaces := #[3, 7, 8]
  cf := some (fileOf pool9 1 #[.nestMembers #[235]] #[{ accessFlags := 9, nameIndex := 304, descriptorIndex := 305, attributes := #[] }] 49 271 #[363, 365, 367] #[{ accessFlags := 25, nameIndex := 369, descriptorIndex := 276, attributes := #[] }, { accessFlags := 25, nameIndex := 371, descriptorIndex := 276, attributes := #[] }, { accessFlags := 25, nameIndex := 361, descriptorIndex := 362, attributes := #[] }, { accessFlags := 18, nameIndex := 275, descriptorIndex := 276, attributes := #[] }, { accessFlags := 25, nameIndex := 376, descriptorIndex := 377, attributes := #[] }, { accessFlags := 25, nameIndex := 379, descriptorIndex := 377, attributes := #[] }, { accessFlags := 26, nameIndex := 381, descriptorIndex := 276, attributes := #[] }])
  fields := #[{ name := "MIN_VALUE", type := .long, accessFlags := 25, slot := 0, constantValue := 0 }, { name := "MAX_VALUE", type := .long, accessFlags := 25, slot := 1, constantValue := 0 }, { name := "TYPE", type := (.object "java/lang/Class"), accessFlags := 25, slot := 2, constantValue := 0 }, { name := "value", type := .long, accessFlags := 18, slot := 0, constantValue := 0 }, { name := "SIZE", type := .int, accessFlags := 25, slot := 3, constantValue := 0 }, { name := "BYTES", type := .int, accessFlags := 25, slot := 4, constantValue := 0 }, { name := "serialVersionUID", type := .long, accessFlags := 26, slot := 5, constantValue := 0 }]
  methods := #[k9m0]
  instanceTypes := #[.long]
  staticTypes := #[.long, .long, (.object "java/lang/Class"), .int, .int, .long]
  resolved := Array.replicate 524 none
  statics := none }

def pool10 : Array CpInfo := pool [(1, u "java/lang/Cloneable"), (0, .class_ 1), (0, u "java/lang/Object"), (0, .class_ 3)] 3

/-- java/lang/Cloneable -/
def k10 : Class := { plain "java/lang/Cloneable" (some 0) with
  accessFlags := 1537
  interfaces := #[]
  cf := some (fileOf pool10 2 #[] #[] 1537 4 #[] #[])
  fields := #[]
  methods := #[]
  instanceTypes := #[]
  staticTypes := #[]
  resolved := Array.replicate 8 none
  statics := none }

/-- the primitive byte -/
def k11 : Class := { plain "byte" none with kind := .primitive 'B', accessFlags := 0x411 }
/-- [B -/
def k12 : Class := { plain "[B" (some 0) with kind := .array 11 .byte, interfaces := #[10, 5], accessFlags := 1041 }

/-- the primitive int -/
def k13 : Class := { plain "int" none with kind := .primitive 'I', accessFlags := 0x411 }
/-- [I -/
def k14 : Class := { plain "[I" (some 0) with kind := .array 13 .int, interfaces := #[10, 5], accessFlags := 1041 }

def heap : Heap := #[]
def classes : Array Class := #[k0, k1, k2, k3, k4, k5, k6, k7, k8, k9, k10, k11, k12, k13, k14]
def interned : List (Array UInt16 × Addr) := []
def slotsUsed : Nat := 0
def theMethod : MethodId := ⟨1, 1⟩
def args0 : Array Value := #[.long 5, .long 6, .long 5, .long 6, .int 1]
def aboutOver (below : List Frame) : State where
  vm := { classes := classes, interned := interned.toArray }
  heap := heap
  slotsUsed := slotsUsed
  threads := #[{ frames := .invoking theMethod args0 :: below }]
def below0 : List Frame := [.native { method := ⟨0, 0⟩, args := #[] }]
def about1 : State := aboutOver below0
def p0 : Program := .bare "" "" ""
def e0 : Env := launch0.env 0 0 0
theorem w_frames : about1.frames = Frame.invoking theMethod args0 :: below0 := rfl
set_option maxRecDepth 65536 in
theorem w_args : argsFit about1.vm theMethod args0 = true := by decide +kernel
set_option maxRecDepth 65536 in
theorem w_heap : heapFits about1 = true := by decide +kernel
set_option maxRecDepth 65536 in
theorem w_runnable : about1.curStatus? = some .runnable := by decide +kernel
set_option maxRecDepth 65536 in
theorem w_alone : about1.alone = true := by decide +kernel
set_option maxRecDepth 65536 in
theorem w_named : about1.methodNamed? x = some theMethod := by decide +kernel
set_option maxRecDepth 65536 in
theorem w_hears : about1.hears theMethod below0 = true := by decide +kernel
set_option maxRecDepth 65536 in
theorem w_ripe : about1.ripe theMethod args0 below0 = true := by decide +kernel
theorem w_running : about1.status = .running := rfl
set_option maxRecDepth 65536 in
theorem w_room : about1.hasRoom e0.platform room_1 = true :=
  launch0.hasRoom_least _ room_1 (by decide +kernel) (by decide +kernel) (by decide +kernel) (by decide +kernel) (by decide +kernel) (by decide +kernel)
theorem allAtoms_all (ts : List Jvm.Cond) (a : Array Jvm.Value) (st : Jvm.State) : (allAtoms ts).before a st = ts.all (fun c => c.before a st) := by
  induction ts with
  | nil => rfl
  | cons c t ih =>
    show (Jvm.Cond.and c (allAtoms t)).before a st = _
    rw [Jvm.Cond.before_and, ih, List.all_cons]
def words1 : List Jvm.Cond := Jvm.Cond.code x code maxLocals ret :: tables_1
/-- a 'code' word, met by the world's own term for the bytes: nothing is compared byte by byte -/
theorem code_word {y : MethodName} {bytes : ByteArray} {mx : Nat} {rt : Option FieldType} {a : Array Value} {s : State} {m : MethodId} {meth : Method} {c : Code} (h1 : s.methodNamed? y = some m) (h2 : s.vm.method? m = some meth) (h3 : meth.code = some c) (h4 : c.code = bytes)
    (h5 : (c.maxLocals == mx && c.exceptionTable.isEmpty && decide (c.maxStack ≤ mostOperands) && decide (meth.sig.returnType = rt) && !meth.locks && decide (parseMethodDescriptor y.desc = some meth.sig)) = true) : (Jvm.Cond.code y bytes mx rt).before a s = true := by
  simp only [Bool.and_eq_true, beq_iff_eq, Bool.not_eq_true', decide_eq_true_eq] at h5
  obtain ⟨⟨⟨⟨⟨g1, g2⟩, g3⟩, g4⟩, g5⟩, g6⟩ := h5
  simp [Cond.before, Cond.holds, Cond.value, h1, h2, h3, h4, g1, g2, g3, g4, g5, g6]
def isCode : Jvm.Cond → Bool
  | .code _ _ _ _ => true
  | _ => false
theorem all_split {L : List Jvm.Cond} {P : Jvm.Cond → Bool} (h1 : L.all (fun c => isCode c || P c) = true) (h2 : ∀ c ∈ L.filter isCode, P c = true) : L.all P = true := by
  refine List.all_eq_true.mpr fun c hc => ?_
  have h := List.all_eq_true.mp h1 c hc
  rcases Bool.eq_false_or_eq_true (isCode c) with hi | hi
  · exact h2 c (List.mem_filter.mpr ⟨hc, hi⟩)
  · simpa [hi] using h
set_option maxRecDepth 65536 in
theorem w_c0 : (Jvm.Cond.code x code maxLocals ret).before args0 about1 = true := code_word (m := ⟨1, 1⟩) (meth := k1m1) (c := k1c1) (by decide +kernel) rfl rfl rfl (by decide +kernel)
set_option maxRecDepth 65536 in
theorem w_c1 : (Jvm.Cond.code ({ cls := "com/example/ddos_fee_ledger/ddosfeeledger/IndexRun$Place", name := "<init>", desc := "(JJ)V" } : Jvm.MethodName) prog_27_method_1_code (5 : Nat) (Option.none : Option Jvm.ClassFile.FieldType)).before args0 about1 = true := code_word (m := ⟨4, 0⟩) (meth := k4m0) (c := k4c0) (by decide +kernel) rfl rfl rfl (by decide +kernel)
set_option maxRecDepth 65536 in
theorem w_c2 : (Jvm.Cond.code ({ cls := "java/lang/Record", name := "<init>", desc := "()V" } : Jvm.MethodName) jdk_30_method_1_code (1 : Nat) (Option.none : Option Jvm.ClassFile.FieldType)).before args0 about1 = true := code_word (m := ⟨2, 0⟩) (meth := k2m0) (c := k2c0) (by decide +kernel) rfl rfl rfl (by decide +kernel)
set_option maxRecDepth 65536 in
theorem w_c3 : (Jvm.Cond.code ({ cls := "java/lang/Object", name := "<init>", desc := "()V" } : Jvm.MethodName) object_method_1_code (1 : Nat) (Option.none : Option Jvm.ClassFile.FieldType)).before args0 about1 = true := code_word (m := ⟨0, 0⟩) (meth := k0m0) (c := k0c0) (by decide +kernel) rfl rfl rfl (by decide +kernel)
set_option maxRecDepth 65536 in
theorem w_c4 : (Jvm.Cond.code ({ cls := "com/example/ddos_fee_ledger/ddosfeeledger/IndexRun$Place", name := "compareTo", desc := "(Lcom/example/ddos_fee_ledger/ddosfeeledger/IndexRun$Place;)I" } : Jvm.MethodName) prog_27_method_2_code (3 : Nat) (Option.some Jvm.ClassFile.FieldType.int)).before args0 about1 = true := code_word (m := ⟨4, 1⟩) (meth := k4m1) (c := k4c1) (by decide +kernel) rfl rfl rfl (by decide +kernel)
set_option maxRecDepth 65536 in
theorem w_c5 : (Jvm.Cond.code ({ cls := "java/lang/Long", name := "compare", desc := "(JJ)I" } : Jvm.MethodName) jdk_35_method_42_code (4 : Nat) (Option.some Jvm.ClassFile.FieldType.int)).before args0 about1 = true := code_word (m := ⟨9, 0⟩) (meth := k9m0) (c := k9c0) (by decide +kernel) rfl rfl rfl (by decide +kernel)
set_option maxRecDepth 65536 in
theorem w_c6 : (Jvm.Cond.code ({ cls := "com/example/ddos_fee_ledger/ddosfeeledger/PlaceCompareToPinLaw", name := "sign", desc := "(I)I" } : Jvm.MethodName) method_3_code (1 : Nat) (Option.some Jvm.ClassFile.FieldType.int)).before args0 about1 = true := code_word (m := ⟨1, 2⟩) (meth := k1m2) (c := k1c2) (by decide +kernel) rfl rfl rfl (by decide +kernel)
def codes1 : List Jvm.Cond := [Jvm.Cond.code x code maxLocals ret, Jvm.Cond.code ({ cls := "com/example/ddos_fee_ledger/ddosfeeledger/IndexRun$Place", name := "<init>", desc := "(JJ)V" } : Jvm.MethodName) prog_27_method_1_code (5 : Nat) (Option.none : Option Jvm.ClassFile.FieldType), Jvm.Cond.code ({ cls := "java/lang/Record", name := "<init>", desc := "()V" } : Jvm.MethodName) jdk_30_method_1_code (1 : Nat) (Option.none : Option Jvm.ClassFile.FieldType), Jvm.Cond.code ({ cls := "java/lang/Object", name := "<init>", desc := "()V" } : Jvm.MethodName) object_method_1_code (1 : Nat) (Option.none : Option Jvm.ClassFile.FieldType), Jvm.Cond.code ({ cls := "com/example/ddos_fee_ledger/ddosfeeledger/IndexRun$Place", name := "compareTo", desc := "(Lcom/example/ddos_fee_ledger/ddosfeeledger/IndexRun$Place;)I" } : Jvm.MethodName) prog_27_method_2_code (3 : Nat) (Option.some Jvm.ClassFile.FieldType.int), Jvm.Cond.code ({ cls := "java/lang/Long", name := "compare", desc := "(JJ)I" } : Jvm.MethodName) jdk_35_method_42_code (4 : Nat) (Option.some Jvm.ClassFile.FieldType.int), Jvm.Cond.code ({ cls := "com/example/ddos_fee_ledger/ddosfeeledger/PlaceCompareToPinLaw", name := "sign", desc := "(I)I" } : Jvm.MethodName) method_3_code (1 : Nat) (Option.some Jvm.ClassFile.FieldType.int)]
set_option maxRecDepth 65536 in
theorem codes_eq : words1.filter isCode = codes1 := rfl
theorem w_codes : ∀ c ∈ words1.filter isCode, c.before args0 about1 = true := by
  rw [codes_eq]
  intro c hc
  simp only [codes1, List.mem_cons, List.not_mem_nil, or_false] at hc
  rcases hc with rfl | rfl | rfl | rfl | rfl | rfl | rfl
  · exact w_c0
  · exact w_c1
  · exact w_c2
  · exact w_c3
  · exact w_c4
  · exact w_c5
  · exact w_c6
set_option maxRecDepth 65536 in
theorem w_t1 : (words1.take 24).all (fun c => isCode c || c.before args0 about1) = true := by decide +kernel
set_option maxRecDepth 65536 in
theorem w_t2 : (words1.drop 24).all (fun c => isCode c || c.before args0 about1) = true := by decide +kernel
theorem w_tables : (allAtoms (Jvm.Cond.code x code maxLocals ret :: tables_1)).before args0 about1 = true := by
  rw [allAtoms_all]
  show words1.all (fun c => c.before args0 about1) = true
  refine all_split ?_ w_codes
  rw [← List.take_append_drop 24 words1, List.all_append, w_t1, w_t2]
  rfl
set_option maxRecDepth 65536 in
theorem w_case : (Jvm.Cond.and given_1 narrow_1).before args0 about1 = true := by decide +kernel
theorem w_applies : (headSpec (Jvm.Cond.code x code maxLocals ret :: tables_1) room_1).applies x e0.platform about1 = true :=
  (Spec.applies_iff w_frames).mpr ⟨w_running, w_runnable, w_alone, w_named, w_hears, w_ripe, w_room, w_tables⟩
theorem atStart : AtStart classFile x code maxLocals ret World_1 tables_1 room_1 Calls_1 rest_1 Pre_1 launch0 p0 e0 about1 theMethod args0 below0 :=
  ⟨lists_1, trivial, launch0.admits_env _ _ _, launch0.least_env, fairChoices_fair.cas, fairChoices_fair.clock, w_frames, w_args, w_heap, w_applies, trivial, trivial, w_case⟩
end start1
theorem witness_1 : WitnessClaimed_1 := ⟨start1.p0, start1.e0, start1.about1, start1.theMethod, start1.args0, start1.below0, start1.atStart⟩
end Jvm.Pilot.@@N@@
