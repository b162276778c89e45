import JvmDerived
import JvmDerived.Pilot.@@N@@Statement
import JvmDerived.Pilot.@@N@@Code
set_option linter.unusedVariables false
set_option linter.unusedSimpArgs false
namespace Jvm.OwnKit
open Sem ClassFile Op Lib Jvm.Stand Jvm.Free Jvm.LawKit Jvm.RoadKit
section Kit
variable {p : Program} {l : Launch} {e : Env} {R : Room} {s : State} {m : MethodId} {args : Array Value} {below : List Frame} {meth : Method} {c : Code} {T : State} {locs : List Loc} {cells slots : Nat} {Z : State} {a0 : Array Value} {h h0 : Heap} {kc ks : Nat} {Q : Option Value → Heap → List Loc → Prop}
/-- from this state the body comes to its end, and Q holds of what it returns, of the heap there and of the places written -/
def Go (p : Program) (e : Env) (below : List Frame) (s : State) (kc ks : Nat) (Q : Option Value → Heap → List Loc → Prop) (a : State) : Prop :=
  ∃ (t : State) (o : Outcome), Steps p.tables e below a t ∧ t.status = .running ∧ Ended t below o ∧ ∃ v L, o = .returned v ∧ Q v t.heap L ∧ FrameEnd s o t L kc ks
theorem Go.of {a b : State} (st : ∀ t, Steps p.tables e below b t → Steps p.tables e below a t) (k : Go p e below s kc ks Q b) : Go p e below s kc ks Q a := by
  obtain ⟨t, o, h, r⟩ := k
  exact ⟨t, o, st t h, r⟩
theorem pad (X : Stand p l e R s m args below meth c T locs cells slots) {cells' slots' : Nat} (hc : cells ≤ cells') (hs : slots ≤ slots') : Stand p l e R s m args below meth c T locs cells' slots' :=
  ⟨X.admits, X.cas, X.clock, X.frames, X.room, X.hears, X.method, X.code, X.here, X.tail, X.warmed, X.limits, X.bytes, X.same.mono hc hs⟩
theorem Go.leave (X : Stand p l e R s m args below meth c T locs cells slots) (hlk : meth.locks = false) {v : Option Value} (hv : meth.sig.returnType = none → v = none) {g : JFrame}
    (st : ∀ fs, (∀ (f : JFrame) (acts : List Action), f.method = m → f.locked = none → f.entered = [] → (doReturn e (T.setTop f) acts v).1 = T.setFrames fs) → Steps p.tables e below (T.setTop g) (T.setFrames fs))
    (hc : cells ≤ kc) (hs : slots ≤ ks) (q : Q v T.heap locs) : Go p e below s kc ks Q (T.setTop g) := by
  obtain ⟨fs, hr, hrun, hended, hW, hsame⟩ := X.leave hv hlk
  exact ⟨_, _, st fs hr, hrun, hended, v, locs, rfl, q, ⟨_, rfl⟩, hW, hsame.mono hc hs⟩
theorem Go.retI (X : Stand p l e R s m args below meth c T locs cells slots) (hx : p.tables.exec = Jvm.exec) (hlk : meth.locks = false) (hret : meth.sig.returnType = some .int) {pc : Nat} {Ls : Array Slot} {z : Int32} {rest : List Value}
    (hd : decode c.code pc = .ok (.ireturn, 1)) (hc : cells ≤ kc) (hs : slots ≤ ks) (q : Q (some (.int z)) T.heap locs) : Go p e below s kc ks Q (T.setTop (mkF m pc Ls (.int z :: rest))) :=
  Go.leave X hlk (fun h => by rw [hret] at h; cases h) (fun fs hr => retOut X hx hret rfl (Or.inl ⟨rfl, Or.inl rfl, z, rfl⟩) hd hr) hc hs q
theorem Go.retN (X : Stand p l e R s m args below meth c T locs cells slots) (hx : p.tables.exec = Jvm.exec) (hlk : meth.locks = false) {t : FieldType} (hret : meth.sig.returnType = some t) (ht : t = .boolean ∨ t = .byte ∨ t = .char ∨ t = .short) {pc : Nat} {Ls : Array Slot} {z : Int32} {rest : List Value}
    (hd : decode c.code pc = .ok (.ireturn, 1)) (hz : nar t z = z) (hc : cells ≤ kc) (hs : slots ≤ ks) (q : Q (some (.int z)) T.heap locs) : Go p e below s kc ks Q (T.setTop (mkF m pc Ls (.int z :: rest))) :=
  Go.leave X hlk (fun h => by rw [hret] at h; cases h) (fun fs hr => RoadKit.retN X hx hret ht hd (by rw [hz]; exact hr)) hc hs q
theorem Go.retJ (X : Stand p l e R s m args below meth c T locs cells slots) (hx : p.tables.exec = Jvm.exec) (hlk : meth.locks = false) (hret : meth.sig.returnType = some .long) {pc : Nat} {Ls : Array Slot} {z : Int64} {rest : List Value}
    (hd : decode c.code pc = .ok (.lreturn, 1)) (hc : cells ≤ kc) (hs : slots ≤ ks) (q : Q (some (.long z)) T.heap locs) : Go p e below s kc ks Q (T.setTop (mkF m pc Ls (.long z :: rest))) :=
  Go.leave X hlk (fun h => by rw [hret] at h; cases h) (fun fs hr => retOut X hx hret rfl (Or.inr (Or.inl ⟨rfl, rfl, z, rfl⟩)) hd hr) hc hs q
theorem Go.retA (X : Stand p l e R s m args below meth c T locs cells slots) (hx : p.tables.exec = Jvm.exec) (hlk : meth.locks = false) {t : FieldType} (hret : meth.sig.returnType = some t) (ht : t.isReference = true) {pc : Nat} {Ls : Array Slot} {z : Value} {rest : List Value} (hz : z.isRef = true)
    (hd : decode c.code pc = .ok (.areturn, 1)) (hc : cells ≤ kc) (hs : slots ≤ ks) (q : Q (some z) T.heap locs) : Go p e below s kc ks Q (T.setTop (mkF m pc Ls (z :: rest))) :=
  Go.leave X hlk (fun h => by rw [hret] at h; cases h) (fun fs hr => retOut X hx hret (by cases t <;> first | rfl | (simp [FieldType.isReference] at ht; done)) (Or.inr (Or.inr (Or.inr (Or.inr ⟨rfl, ht, hz⟩)))) hd hr) hc hs q
theorem Go.retV (X : Stand p l e R s m args below meth c T locs cells slots) (hx : p.tables.exec = Jvm.exec) (hlk : meth.locks = false) (hret : meth.sig.returnType = none) {pc : Nat} {Ls : Array Slot}
    (hd : decode c.code pc = .ok (.return_, 1)) (hc : cells ≤ kc) (hs : slots ≤ ks) (q : Q none T.heap locs) : Go p e below s kc ks Q (T.setTop (mkF m pc Ls [])) :=
  Go.leave X hlk (fun _ => rfl) (fun fs hr => X.returnOut hx hret hd hr) hc hs q
/-- a body's contract: called with these arguments over this heap it returns, and Q holds -/
def Con (l : Launch) (Z : State) (y : MethodName) (bytes : ByteArray) (maxL : Nat) (ret : Option FieldType) (rm : Room) (as' : Array Value) (h0 : Heap) (Q : Option Value → Heap → List Loc → Prop) : Prop :=
  ∀ ws : List Cond, MetFree l y (head1 (Cond.code y bytes maxL ret :: ws) rm) (fun a U => a = as' ∧ Z.Warmed39 U.vm ∧ U.heap = h0) (fun _ _ _ _ _ => True) (fun _ U o U' => ∃ v L, o = .returned v ∧ Q v U'.heap L ∧ FrameEnd U o U' L rm.cells rm.slots)
theorem Con.intro {y : MethodName} {bytes : ByteArray} {maxL : Nat} {ret : Option FieldType} {rm : Room} {as' : Array Value} {gf : MethodId → JFrame} (hpl : plainFor y = true) (hef : ∀ m, entryFrame m as' maxL = gf m)
    (body : ∀ (p : Program) (e : Env) (s : State) (m : MethodId) (below : List Frame) (meth : Method) (c : Code) (s₁ : State), p.tables.exec = Jvm.exec → c.code = bytes → c.maxLocals = maxL → Z.Warmed39 s.vm → s.vm.findClass y.cls = some m.cls → meth.name = y.name → meth.sig.returnType = ret → meth.locks = false →
      Stand p l e rm s m as' below meth c s₁ [] 0 0 → s₁.heap = h0 → Go p e below s rm.cells rm.slots Q (s₁.setTop (gf m))) : Con l Z y bytes maxL ret rm as' h0 Q := by
  intro ws
  refine MetFree.of_bodySF hpl hisR ?_
  intro p e s m args below meth c s₁ Bd hml hP hK
  obtain ⟨rfl, hZ, hh⟩ := hP
  have k := body p e s m below meth c s₁ Bd.exec Bd.bytes hml hZ (findClass_of_methodNamed Bd.named) (name_of_methodNamed Bd.named Bd.method).1 Bd.returns Bd.notSynchronized (Stand.of_body Bd) (by rw [← hh, Bd.state]; rfl)
  rw [← hef m] at k
  exact k
theorem Go.static (X : Stand p l e R s m args below meth c T locs cells slots) (hx : p.tables.exec = Jvm.exec) (hZ : Z.Warmed39 s.vm) {own : String} {index : Nat} {y : MethodName} {bytes : ByteArray} {maxL : Nat} {ret : Option FieldType} {rm : Room} {Q' : Option Value → Heap → List Loc → Prop} {argsL : List Value}
    (hown : s.vm.findClass own = some m.cls) (w1 : (Cond.methodLink own index y).before a0 Z = true) (w2 : (Cond.static y).before a0 Z = true) (w3 : (Cond.initialized y.cls).before a0 Z = true) (w4 : (Cond.code y bytes maxL ret).before a0 Z = true)
    (hy : y.cls ≠ "java/lang/invoke/MethodHandle" ∧ y.cls ≠ "java/lang/invoke/VarHandle") (W : Nat) (eT : T.heap = h) (K : Con l Z y bytes maxL ret rm argsL.toArray h Q') (hf : rm.frames + 1 ≤ R.frames) (hlo : W + (maxL + 11) + rm.locals ≤ R.locals) (hc : cells + rm.cells ≤ R.cells) (hs : slots + rm.slots ≤ R.slots)
    {g : JFrame} (hg : g.method = m) (hsize : g.locals.size = c.maxLocals) {rest : List Value} (hlen : ∀ sig, parseMethodDescriptor y.desc = some sig → argsL.length = sig.parameters.length) (hstack : g.stack = argsL.reverse ++ rest) (hW : 2 * g.monitorRoom + (rest.map fun v => v.category).sum ≤ W)
    (hd : decode c.code g.pc = .ok (.invokestatic index, 3))
    (k : ∀ (T' : State) (v : Option Value) (L : List Loc), Stand p l e R s m args below meth c T' (locs ++ L) (cells + rm.cells) (slots + rm.slots) → Q' v T'.heap L → Go p e below s kc ks Q (T'.setTop { g with pc := g.pc + 3, stack := v.toList ++ rest })) : Go p e below s kc ks Q (T.setTop g) := by
  obtain ⟨v, _, ⟨T', L', k', n'⟩, -, X', ⟨Lc, hQ, l1, l2, l3⟩, st⟩ := Jvm.LawKit.callS X hx hown (mvT hZ w1) (mvT hZ w2) (mvT hZ w3) (mvT hZ w4) hy (backOf (W := W) (K []) hZ w4 w3 hf hlo) hg hsize hlen hstack hW hd (fun _ _ => ⟨rfl, eT, hc, hs⟩)
  dsimp only [Pt.U, Pt.locs, Pt.cells, Pt.slots] at X' l1 l2 l3 st hQ
  subst l1 l2 l3
  exact Go.of st (k T' v Lc X' hQ)
theorem Go.special (X : Stand p l e R s m args below meth c T locs cells slots) (hx : p.tables.exec = Jvm.exec) (hZ : Z.Warmed39 s.vm) {own : String} {index : Nat} {y : MethodName} {bytes : ByteArray} {maxL : Nat} {rm : Room} {Q' : Option Value → Heap → List Loc → Prop} {a : Addr} {argsL : List Value} (hy1 : y.name = "<init>")
    (hown : s.vm.findClass own = some m.cls) (w1 : (Cond.methodLink own index y).before a0 Z = true) (w2 : (Cond.instanceMethod y).before a0 Z = true) (w3 : (Cond.initialized y.cls).before a0 Z = true) (w4 : (Cond.code y bytes maxL none).before a0 Z = true)
    (hy : y.cls ≠ "java/lang/invoke/MethodHandle" ∧ y.cls ≠ "java/lang/invoke/VarHandle") (W : Nat) (eT : T.heap = h) (K : Con l Z y bytes maxL none rm (Value.ref a :: argsL).toArray h Q') (hf : rm.frames + 1 ≤ R.frames) (hlo : W + (maxL + 11) + rm.locals ≤ R.locals) (hc : cells + rm.cells ≤ R.cells) (hs : slots + rm.slots ≤ R.slots)
    {g : JFrame} (hg : g.method = m) (hsize : g.locals.size = c.maxLocals) {rest : List Value} (hlen : ∀ sig, parseMethodDescriptor y.desc = some sig → argsL.length = sig.parameters.length) (hstack : g.stack = argsL.reverse ++ .ref a :: rest) (hW : 2 * g.monitorRoom + (rest.map fun v => v.category).sum ≤ W)
    (hd : decode c.code g.pc = .ok (.invokespecial index, 3))
    (k : ∀ (T' : State) (v : Option Value) (L : List Loc), Stand p l e R s m args below meth c T' (locs ++ L) (cells + rm.cells) (slots + rm.slots) → Q' v T'.heap L → Go p e below s kc ks Q (T'.setTop { g with pc := g.pc + 3, stack := v.toList ++ rest })) : Go p e below s kc ks Q (T.setTop g) := by
  obtain ⟨v, _, ⟨T', L', k', n'⟩, -, X', ⟨Lc, hQ, l1, l2, l3⟩, st⟩ := X.specialBack hx hy1 hown (mvT hZ w1) (mvT hZ w2) (mvT hZ w4) hy (backOf (W := W) (K []) hZ w4 w3 hf hlo) hg hsize (Steps.refl _) hlen hstack hW hd (fun _ _ => ⟨rfl, eT, hc, hs⟩)
  dsimp only [Pt.U, Pt.locs, Pt.cells, Pt.slots] at X' l1 l2 l3 st hQ
  subst l1 l2 l3
  exact Go.of (fun _ q => st.trans q) (k T' v Lc X' hQ)
theorem Go.virtual (X : Stand p l e R s m args below meth c T locs cells slots) (hx : p.tables.exec = Jvm.exec) (hZ : Z.Warmed39 s.vm) {own C : String} {index : Nat} {y z : MethodName} {bytes : ByteArray} {maxL : Nat} {ret : Option FieldType} {rm : Room} {Q' : Option Value → Heap → List Loc → Prop} {a : Addr} {argsL : List Value}
    (hown : s.vm.findClass own = some m.cls) (w1 : (Cond.methodLink own index y).before a0 Z = true) (w2 : (Cond.declares y).before a0 Z = true) (hnf : NotFace s y) (w5 : (Cond.selects C y z).before a0 Z = true) (w6 : (Cond.instanceMethod z).before a0 Z = true) (w3 : (Cond.initialized z.cls).before a0 Z = true) (w4 : (Cond.code z bytes maxL ret).before a0 Z = true)
    (hy : y.cls ≠ "java/lang/invoke/MethodHandle" ∧ y.cls ≠ "java/lang/invoke/VarHandle") (W : Nat) (eT : T.heap = h) (E : Exa Z h a C) (K : Con l Z z bytes maxL ret rm (Value.ref a :: argsL).toArray h Q') (hf : rm.frames + 1 ≤ R.frames) (hlo : W + (maxL + 11) + rm.locals ≤ R.locals) (hc : cells + rm.cells ≤ R.cells) (hs : slots + rm.slots ≤ R.slots)
    {g : JFrame} (hg : g.method = m) (hsize : g.locals.size = c.maxLocals) {rest : List Value} (hlen : ∀ sig, parseMethodDescriptor y.desc = some sig → argsL.length = sig.parameters.length) (hstack : g.stack = argsL.reverse ++ .ref a :: rest) (hW : 2 * g.monitorRoom + (rest.map fun v => v.category).sum ≤ W)
    (hd : decode c.code g.pc = .ok (.invokevirtual index, 3))
    (k : ∀ (T' : State) (v : Option Value) (L : List Loc), Stand p l e R s m args below meth c T' (locs ++ L) (cells + rm.cells) (slots + rm.slots) → Q' v T'.heap L → Go p e below s kc ks Q (T'.setTop { g with pc := g.pc + 3, stack := v.toList ++ rest })) : Go p e below s kc ks Q (T.setTop g) := by
  obtain ⟨cq, kq, qa, -, qc⟩ := isOf hZ eT E
  obtain ⟨v, _, ⟨T', L', k', n'⟩, -, X', ⟨Lc, hQ, l1, l2, l3⟩, st⟩ := X.virtualBack hx hown (mvT hZ w1) (mvT hZ w2) hnf (mvT hZ w5) (mvT hZ w6) hy (backOf (W := W) (K []) hZ w4 w3 hf hlo) qa qc hg hsize (Steps.refl _) hlen hstack hW hd (fun _ _ => ⟨rfl, eT, hc, hs⟩)
  dsimp only [Pt.U, Pt.locs, Pt.cells, Pt.slots] at X' l1 l2 l3 st hQ
  subst l1 l2 l3
  exact Go.of (fun _ q => st.trans q) (k T' v Lc X' hQ)
theorem Go.virtualUp (X : Stand p l e R s m args below meth c T locs cells slots) (hx : p.tables.exec = Jvm.exec) (hZ : Z.Warmed39 s.vm) {own C owner : String} {index : Nat} {y z : MethodName} {bytes : ByteArray} {maxL : Nat} {ret : Option FieldType} {rm : Room} {Q' : Option Value → Heap → List Loc → Prop} {a : Addr} {argsL : List Value}
    (hown : s.vm.findClass own = some m.cls) (w1 : (Cond.methodLink own index y).before a0 Z = true) (w2 : (Cond.sameMethod y.cls owner y.name y.desc).before a0 Z = true) (w7 : (Cond.declares ⟨owner, y.name, y.desc⟩).before a0 Z = true) (w5 : (Cond.selects C y z).before a0 Z = true) (w6 : (Cond.instanceMethod z).before a0 Z = true) (w3 : (Cond.initialized z.cls).before a0 Z = true) (w4 : (Cond.code z bytes maxL ret).before a0 Z = true)
    (hy : owner ≠ "java/lang/invoke/MethodHandle" ∧ owner ≠ "java/lang/invoke/VarHandle") (W : Nat) (eT : T.heap = h) (E : Exa Z h a C) (K : Con l Z z bytes maxL ret rm (Value.ref a :: argsL).toArray h Q') (hf : rm.frames + 1 ≤ R.frames) (hlo : W + (maxL + 11) + rm.locals ≤ R.locals) (hc : cells + rm.cells ≤ R.cells) (hs : slots + rm.slots ≤ R.slots)
    {g : JFrame} (hg : g.method = m) (hsize : g.locals.size = c.maxLocals) {rest : List Value} (hlen : ∀ sig, parseMethodDescriptor y.desc = some sig → argsL.length = sig.parameters.length) (hstack : g.stack = argsL.reverse ++ .ref a :: rest) (hW : 2 * g.monitorRoom + (rest.map fun v => v.category).sum ≤ W)
    (hd : decode c.code g.pc = .ok (.invokevirtual index, 3))
    (k : ∀ (T' : State) (v : Option Value) (L : List Loc), Stand p l e R s m args below meth c T' (locs ++ L) (cells + rm.cells) (slots + rm.slots) → Q' v T'.heap L → Go p e below s kc ks Q (T'.setTop { g with pc := g.pc + 3, stack := v.toList ++ rest })) : Go p e below s kc ks Q (T.setTop g) := by
  obtain ⟨cq, kq, qa, -, qc⟩ := isOf hZ eT E
  obtain ⟨v, _, ⟨T', L', k', n'⟩, -, X', ⟨Lc, hQ, l1, l2, l3⟩, st⟩ := X.virtualBackUp hx hown (mvT hZ w1) (mvT hZ w2) (mvT hZ w7) hy (mvT hZ w5) (mvT hZ w6) (backOf (W := W) (K []) hZ w4 w3 hf hlo) qa qc hg hsize (Steps.refl _) hlen hstack hW hd (fun _ _ => ⟨rfl, eT, hc, hs⟩)
  dsimp only [Pt.U, Pt.locs, Pt.cells, Pt.slots] at X' l1 l2 l3 st hQ
  subst l1 l2 l3
  exact Go.of (fun _ q => st.trans q) (k T' v Lc X' hQ)
/-- a cast of what may be null -/
theorem castV (X : Stand p l e R s m args below meth c T locs cells slots) (hx : p.tables.exec = Jvm.exec) (hZ : Z.Warmed39 s.vm) {own K : String} {index : Nat} (hown : s.vm.findClass own = some m.cls) (w : (Cond.classLink own index K).before a0 Z = true) (eT : T.heap = h) {v : Value} (F : v = .null ∨ ∃ a, v = .ref a ∧ Ins Z h a K true)
    {g : JFrame} (hg : g.method = m) {rest : List Value} (hs : g.stack = v :: rest) (hd : decode c.code g.pc = .ok (.checkcast index, 3)) : ∃ T', Stand p l e R s m args below meth c T' locs cells slots ∧ T'.heap = h ∧ ∀ target, Steps p.tables e below (T'.setTop { g with pc := g.pc + 3 }) target → Steps p.tables e below (T.setTop g) target := by
  rcases F with rfl | ⟨a, rfl, I⟩
  · exact ⟨T, X, eT, fun target q => X.checkcastNull hx hg hs hd target q⟩
  · exact castY X hx hZ hown w eT I hg hs hd
end Kit
end Jvm.OwnKit
namespace Jvm.Pilot.@@N@@
open Jvm Jvm.ClassFile Sem Op Lib Jvm.Free Jvm.Stand Jvm.LawKit Jvm.RoadKit Jvm.OwnKit Bundle Jvm.Pilot.@@N@@.Jvm.D
def own_cmp (x y : Int64) : Int32 := if x < y then (-1 : Int32) else if x = y then (0 : Int32) else (1 : Int32)
def own_cmpU (x y : Int64) : Int32 := own_cmp (x + (-9223372036854775808 : Int64)) (y + (-9223372036854775808 : Int64))
def own_after (lv el pn fu : Int64) : Int64 := if (0 : Int32) < own_cmpU el ((fu - lv) / pn) then fu else lv + el * pn
theorem own_rng (x : Int64) : -9223372036854775808 ≤ x.toInt ∧ x.toInt < 9223372036854775808 := ⟨x.le_toInt, x.toInt_lt⟩
theorem own_bm (x : Int) (h1 : -9223372036854775808 ≤ x) (h2 : x < 9223372036854775808) : x.bmod (2 ^ 64) = x := Int.bmod_eq_of_le (by omega) (by omega)
theorem own_bc (x : Int) : ∃ k : Int, x.bmod (2 ^ 64) = x + k * 18446744073709551616 := ⟨-((x + 9223372036854775808) / 18446744073709551616), by have := Int.bmod_emod (x := x) (m := 2 ^ 64); rw [Int.bmod_def]; split <;> omega⟩
theorem own_flip (x : Int64) : (x + (-9223372036854775808 : Int64)).toInt = if x.toInt < 0 then x.toInt + 9223372036854775808 else x.toInt - 9223372036854775808 := by
  rw [Int64.toInt_add]
  have e : (-9223372036854775808 : Int64).toInt = -9223372036854775808 := by decide
  have r := own_rng x
  rw [e, Int.bmod_def]
  split <;> split <;> omega
theorem own_cmpU_pos (x y : Int64) (hy : 0 ≤ y.toInt) : (0 : Int32) < own_cmpU x y ↔ (x.toInt < 0 ∨ y.toInt < x.toInt) := by
  unfold own_cmpU own_cmp
  simp only [Int64.lt_iff_toInt_lt, ← Int64.toInt_inj, own_flip]
  have r := own_rng x
  have r' := own_rng y
  by_cases h : x.toInt < 0
  · have h' : ¬ y.toInt < 0 := by omega
    simp only [h, h', if_true, if_false]
    rw [if_neg (by omega), if_neg (by omega)]
    exact ⟨fun _ => Or.inl trivial, fun _ => by decide⟩
  · have h' : ¬ y.toInt < 0 := by omega
    simp only [h, h', if_true, if_false]
    by_cases h1 : x.toInt < y.toInt
    · rw [if_pos (by omega)]
      exact ⟨fun q => absurd q (by decide), fun q => by rcases q with q | q; exact q.elim; omega⟩
    · rw [if_neg (by omega)]
      by_cases h2 : x.toInt = y.toInt
      · rw [if_pos (by omega)]
        exact ⟨fun q => absurd q (by decide), fun q => by rcases q with q | q; exact q.elim; omega⟩
      · rw [if_neg (by omega)]
        exact ⟨fun _ => Or.inr (by omega), fun _ => by decide⟩
theorem own_core (lv el pn fu : Int64) (hp : 1 ≤ pn.toInt) (hl : lv.toInt ≤ fu.toInt) (h0 : ¬ (fu - lv) < (0 : Int64)) :
    (fu - lv).toInt = fu.toInt - lv.toInt ∧ ((own_after lv el pn fu = fu ∧ (el.toInt < 0 ∨ (fu - lv).toInt / pn.toInt < el.toInt)) ∨ (0 ≤ el.toInt ∧ el.toInt * pn.toInt ≤ (fu - lv).toInt ∧ (own_after lv el pn fu).toInt = lv.toInt + el.toInt * pn.toInt)) := by
  have rl := own_rng lv
  have rf := own_rng fu
  have re := own_rng el
  have hne : pn ≠ -1 := fun q => by rw [q] at hp; exact absurd hp (by decide)
  have hr : (fu - lv).toInt = fu.toInt - lv.toInt := by
    have h1 : ¬ (fu - lv).toInt < 0 := fun q => h0 (by rw [Int64.lt_iff_toInt_lt]; exact q)
    have r := own_rng (fu - lv)
    rw [Int64.toInt_sub] at h1 r ⊢
    obtain ⟨k, hk⟩ := own_bc (fu.toInt - lv.toInt)
    rw [hk] at h1 r ⊢
    omega
  refine ⟨hr, ?_⟩
  have r0 : 0 ≤ (fu - lv).toInt := by omega
  have hq : ((fu - lv) / pn).toInt = (fu - lv).toInt / pn.toInt := by
    rw [Int64.toInt_div_of_ne_right _ _ hne, Int.tdiv_eq_ediv_of_nonneg r0]
  have q0 : 0 ≤ (fu - lv).toInt / pn.toInt := Int.ediv_nonneg r0 (by omega)
  unfold own_after
  by_cases hc : (0 : Int32) < own_cmpU el ((fu - lv) / pn)
  · left
    rw [if_pos hc]
    refine ⟨rfl, ?_⟩
    have := (own_cmpU_pos el _ (by rw [hq]; exact q0)).mp hc
    rwa [hq] at this
  · right
    rw [if_neg hc]
    have := mt (own_cmpU_pos el _ (by rw [hq]; exact q0)).mpr hc
    rw [hq] at this
    have h1 : 0 ≤ el.toInt := by omega
    have h2 : el.toInt ≤ (fu - lv).toInt / pn.toInt := by omega
    have h3 : el.toInt * pn.toInt ≤ (fu - lv).toInt := (Int.le_ediv_iff_mul_le (by omega)).mp h2
    refine ⟨h1, h3, ?_⟩
    have h4 : 0 ≤ el.toInt * pn.toInt := Int.mul_nonneg h1 (by omega)
    have rr := own_rng (fu - lv)
    rw [Int64.toInt_add, Int64.toInt_mul, own_bm (el.toInt * pn.toInt) (by omega) (by omega), own_bm _ (by omega) (by omega)]
theorem own_full (lv el pn fu : Int64) (hp : 1 ≤ pn.toInt) (hl : lv.toInt ≤ fu.toInt) (h0 : ¬ (fu - lv) < (0 : Int64)) (hr : own_after lv el pn fu = fu) (hz : ¬ (fu - lv) = (0 : Int64)) (he : ¬ el < (0 : Int64)) : ((fu - lv) - (1 : Int64)) / pn < el := by
  obtain ⟨h1, h2⟩ := own_core lv el pn fu hp hl h0
  have hne : pn ≠ -1 := fun q => by rw [q] at hp; exact absurd hp (by decide)
  have r0 : (fu - lv).toInt ≠ 0 := fun q => hz (by rw [← Int64.toInt_inj]; exact q)
  have re : ¬ el.toInt < 0 := fun q => he (by rw [Int64.lt_iff_toInt_lt]; exact q)
  have hs : ((fu - lv) - (1 : Int64)).toInt = (fu - lv).toInt - 1 := by
    rw [Int64.toInt_sub]
    have e : (1 : Int64).toInt = 1 := by decide
    have r := own_rng (fu - lv)
    rw [e]; exact own_bm _ (by omega) (by omega)
  rw [Int64.lt_iff_toInt_lt, Int64.toInt_div_of_ne_right _ _ hne, hs, Int.tdiv_eq_ediv_of_nonneg (by omega)]
  rcases h2 with ⟨-, q | q⟩ | ⟨q1, q2, q3⟩
  · exact absurd q re
  · exact Int.lt_of_le_of_lt (Int.ediv_le_ediv (by omega) (by omega)) q
  · rw [hr] at q3
    exact Int.ediv_lt_of_lt_mul (by omega) (by omega)
theorem own_part (lv el pn fu : Int64) (hp : 1 ≤ pn.toInt) (hl : lv.toInt ≤ fu.toInt) (h0 : ¬ (fu - lv) < (0 : Int64)) (hr : ¬ own_after lv el pn fu = fu) :
    ¬ own_after lv el pn fu < lv ∧ own_after lv el pn fu < fu ∧ ((own_after lv el pn fu - lv) - (((own_after lv el pn fu - lv) / pn) * pn)) = (0 : Int64) ∧ (own_after lv el pn fu - lv) / pn = el := by
  obtain ⟨h1, h2⟩ := own_core lv el pn fu hp hl h0
  have hne : pn ≠ -1 := fun q => by rw [q] at hp; exact absurd hp (by decide)
  rcases h2 with ⟨q, -⟩ | ⟨q1, q2, q3⟩
  · exact absurd q hr
  · have h4 : 0 ≤ el.toInt * pn.toInt := Int.mul_nonneg q1 (by omega)
    have hne2 : (own_after lv el pn fu).toInt ≠ fu.toInt := fun q => hr (by rw [← Int64.toInt_inj]; exact q)
    have rl := own_rng lv
    have rr := own_rng (fu - lv)
    have hd : (own_after lv el pn fu - lv).toInt = el.toInt * pn.toInt := by
      rw [Int64.toInt_sub, q3, own_bm _ (by omega) (by omega)]; omega
    have hq : (own_after lv el pn fu - lv) / pn = el := by
      rw [← Int64.toInt_inj, Int64.toInt_div_of_ne_right _ _ hne, hd, Int.mul_tdiv_cancel _ (by omega)]
    refine ⟨?_, ?_, ?_, hq⟩
    · rw [Int64.lt_iff_toInt_lt]; omega
    · rw [Int64.lt_iff_toInt_lt]; omega
    · rw [hq]
      have e : (own_after lv el pn fu - lv) = el * pn := by
        rw [← Int64.toInt_inj, hd, Int64.toInt_mul, own_bm _ (by omega) (by omega)]
      rw [e, Int64.sub_self]
theorem own_pn1 (x z : Int64) (hz : z = (if (x &&& (9223372036854775807 : Int64)) = (0 : Int64) then (1 : Int64) else (x &&& (9223372036854775807 : Int64)))) : 1 ≤ z.toInt := by
  have a := c_maskL x 9223372036854775807 63 (by decide) (by decide)
  have b : (0 : Int) ≤ x.toInt % ((2 ^ 63 : Nat) : Int) := Int.emod_nonneg _ (by decide)
  subst hz
  split
  · decide
  · rename_i h
    have : (x &&& (9223372036854775807 : Int64)).toInt ≠ 0 := fun q => h (by rw [← Int64.toInt_inj]; exact q)
    omega
theorem own_pnz (x z : Int64) (hz : z = (if (x &&& (9223372036854775807 : Int64)) = (0 : Int64) then (1 : Int64) else (x &&& (9223372036854775807 : Int64)))) : ¬ z = (0 : Int64) := fun q => by
  have := own_pn1 x z hz
  rw [q] at this
  exact absurd this (by decide)
theorem own_mm (a b lv fu : Int64) (h1 : lv = (if b < a then b else a)) (h2 : fu = (if a < b then b else a)) : lv.toInt ≤ fu.toInt := by
  subst h1 h2
  simp only [Int64.lt_iff_toInt_lt]
  split <;> split <;> omega
theorem d1_0 : decode jdk_29_method_70_code 0 = .ok (.lload_n 0, 1) := by decide +kernel
theorem d1_1 : decode jdk_29_method_70_code 1 = .ok (.lload_n 2, 1) := by decide +kernel
theorem d1_2 : decode jdk_29_method_70_code 2 = .ok (.lcmp, 1) := by decide +kernel
theorem d1_3 : decode jdk_29_method_70_code 3 = .ok (.ifCond .gt 7, 3) := by decide +kernel
theorem d1_6 : decode jdk_29_method_70_code 6 = .ok (.lload_n 0, 1) := by decide +kernel
theorem d1_7 : decode jdk_29_method_70_code 7 = .ok (.goto 4, 3) := by decide +kernel
theorem d1_10 : decode jdk_29_method_70_code 10 = .ok (.lload_n 2, 1) := by decide +kernel
theorem d1_11 : decode jdk_29_method_70_code 11 = .ok (.lreturn, 1) := by decide +kernel
theorem ef_1 (m : MethodId) (x : Int64) (y : Int64) : entryFrame m #[(.long x), (.long y)] 4 = mkF m 0 #[.val (.long x), .second, .val (.long y), .second] [] := by first | (simp [entryFrame, mkF, argsToLocals, Value.category]; done) | rfl
def Q1 (Z : State) (x : Int64) (y : Int64) (h0 : Heap) (n0 : Nat) (v : Option Value) (h : Heap) (L : List Loc) : Prop := v = some (.long (if y < x then y else x)) ∧ Fr n0 L ∧ h = h0
set_option maxRecDepth 65536 in
set_option maxHeartbeats 40000000 in
theorem rm1 (l : Launch) (Z : State) (a0 : Array Value) (hw : ∀ d ∈ tables_1, d.before a0 Z = true) (x : Int64) (y : Int64) (h0 : Heap) (n0 : Nat) (Zs : n0 ≤ h0.size)  :
    Con l Z (⟨"java/lang/Math", "min", "(JJ)J"⟩ : MethodName) jdk_29_method_70_code 4 (some .long) ({ frames := 0, cells := 0, slots := 0, locals := 0 } : Room) #[(.long x), (.long y)] h0 (Q1 Z x y h0 n0) := by
  refine Con.intro (Jvm.Free.JP.mathPlain rfl (by decide +kernel)) (fun m => ef_1 m x y) ?_
  intro p e s m below meth c s₁ hx hby hml0 hZ hown hnm hret hlk X0 e0
  have hml : c.maxLocals = 4 := hml0
  have N0 := Fr.nil n0
  have Kp : Keep h0 h0 [] := Keep.refl h0 _
  show Go _ _ _ _ _ _ _ (s₁.setTop (mkF m 0 #[.val (.long x), .second, .val (.long y), .second] []))
  refine Go.of (fun _ q => XS.lloadN X0.here hx rfl (hb hby d1_0) rfl q) ?_
  show Go _ _ _ _ _ _ _ (s₁.setTop (mkF m 1 #[.val (.long x), .second, .val (.long y), .second] [(.long x)]))
  refine Go.of (fun _ q => XS.lloadN X0.here hx rfl (hb hby d1_1) rfl q) ?_
  show Go _ _ _ _ _ _ _ (s₁.setTop (mkF m 2 #[.val (.long x), .second, .val (.long y), .second] [(.long y), (.long x)]))
  refine Go.of (fun _ q => XS.lcmp X0.here hx rfl (hb hby d1_2) rfl q) ?_
  show Go _ _ _ _ _ _ _ (s₁.setTop (mkF m 3 #[.val (.long x), .second, .val (.long y), .second] [(.int (lcmpW x y))]))
  by_cases c3 : y < x
  · refine Go.of (fun _ q => XS.ifYes X0.here hx rfl (pc0 := 3) (pc' := 10) rfl (hb hby d1_3) rfl ((if0 _ _).trans (tlt ((lw_gt x y).mpr c3)).2.2.1) (by decide) (by decide) q) ?_
    show Go _ _ _ _ _ _ _ (s₁.setTop (mkF m 10 #[.val (.long x), .second, .val (.long y), .second] []))
    refine Go.of (fun _ q => XS.lloadN X0.here hx rfl (hb hby d1_10) rfl q) ?_
    show Go _ _ _ _ _ _ _ (s₁.setTop (mkF m 11 #[.val (.long x), .second, .val (.long y), .second] [(.long y)]))
    refine Go.retJ X0 hx hlk hret (hb hby d1_11) (by decide) (by decide) ?_
    rw [e0]
    exact ⟨(by rw [if_pos c3]), N0, rfl⟩
  · refine Go.of (fun _ q => XS.ifNo X0.here hx rfl (hb hby d1_3) rfl ((if0 _ _).trans (flt (mt (lw_gt x y).mp c3)).2.2.1) q) ?_
    show Go _ _ _ _ _ _ _ (s₁.setTop (mkF m 6 #[.val (.long x), .second, .val (.long y), .second] []))
    refine Go.of (fun _ q => XS.lloadN X0.here hx rfl (hb hby d1_6) rfl q) ?_
    show Go _ _ _ _ _ _ _ (s₁.setTop (mkF m 7 #[.val (.long x), .second, .val (.long y), .second] [(.long x)]))
    refine Go.of (fun _ q => XS.goto X0.here hx rfl (pc0 := 7) (pc' := 11) rfl (hb hby d1_7) (by decide) (by decide) q) ?_
    show Go _ _ _ _ _ _ _ (s₁.setTop (mkF m 11 #[.val (.long x), .second, .val (.long y), .second] [(.long x)]))
    refine Go.retJ X0 hx hlk hret (hb hby d1_11) (by decide) (by decide) ?_
    rw [e0]
    exact ⟨(by rw [if_neg c3]), N0, rfl⟩
theorem d2_0 : decode jdk_29_method_66_code 0 = .ok (.lload_n 0, 1) := by decide +kernel
theorem d2_1 : decode jdk_29_method_66_code 1 = .ok (.lload_n 2, 1) := by decide +kernel
theorem d2_2 : decode jdk_29_method_66_code 2 = .ok (.lcmp, 1) := by decide +kernel
theorem d2_3 : decode jdk_29_method_66_code 3 = .ok (.ifCond .lt 7, 3) := by decide +kernel
theorem d2_6 : decode jdk_29_method_66_code 6 = .ok (.lload_n 0, 1) := by decide +kernel
theorem d2_7 : decode jdk_29_method_66_code 7 = .ok (.goto 4, 3) := by decide +kernel
theorem d2_10 : decode jdk_29_method_66_code 10 = .ok (.lload_n 2, 1) := by decide +kernel
theorem d2_11 : decode jdk_29_method_66_code 11 = .ok (.lreturn, 1) := by decide +kernel
theorem ef_2 (m : MethodId) (x : Int64) (y : Int64) : entryFrame m #[(.long x), (.long y)] 4 = mkF m 0 #[.val (.long x), .second, .val (.long y), .second] [] := by first | (simp [entryFrame, mkF, argsToLocals, Value.category]; done) | rfl
def Q2 (Z : State) (x : Int64) (y : Int64) (h0 : Heap) (n0 : Nat) (v : Option Value) (h : Heap) (L : List Loc) : Prop := v = some (.long (if x < y then y else x)) ∧ Fr n0 L ∧ h = h0
set_option maxRecDepth 65536 in
set_option maxHeartbeats 40000000 in
theorem rm2 (l : Launch) (Z : State) (a0 : Array Value) (hw : ∀ d ∈ tables_1, d.before a0 Z = true) (x : Int64) (y : Int64) (h0 : Heap) (n0 : Nat) (Zs : n0 ≤ h0.size)  :
    Con l Z (⟨"java/lang/Math", "max", "(JJ)J"⟩ : MethodName) jdk_29_method_66_code 4 (some .long) ({ frames := 0, cells := 0, slots := 0, locals := 0 } : Room) #[(.long x), (.long y)] h0 (Q2 Z x y h0 n0) := by
  refine Con.intro (Jvm.Free.JP.mathPlain rfl (by decide +kernel)) (fun m => ef_2 m x y) ?_
  intro p e s m below meth c s₁ hx hby hml0 hZ hown hnm hret hlk X0 e0
  have hml : c.maxLocals = 4 := hml0
  have N0 := Fr.nil n0
  have Kp : Keep h0 h0 [] := Keep.refl h0 _
  show Go _ _ _ _ _ _ _ (s₁.setTop (mkF m 0 #[.val (.long x), .second, .val (.long y), .second] []))
  refine Go.of (fun _ q => XS.lloadN X0.here hx rfl (hb hby d2_0) rfl q) ?_
  show Go _ _ _ _ _ _ _ (s₁.setTop (mkF m 1 #[.val (.long x), .second, .val (.long y), .second] [(.long x)]))
  refine Go.of (fun _ q => XS.lloadN X0.here hx rfl (hb hby d2_1) rfl q) ?_
  show Go _ _ _ _ _ _ _ (s₁.setTop (mkF m 2 #[.val (.long x), .second, .val (.long y), .second] [(.long y), (.long x)]))
  refine Go.of (fun _ q => XS.lcmp X0.here hx rfl (hb hby d2_2) rfl q) ?_
  show Go _ _ _ _ _ _ _ (s₁.setTop (mkF m 3 #[.val (.long x), .second, .val (.long y), .second] [(.int (lcmpW x y))]))
  by_cases c3 : x < y
  · refine Go.of (fun _ q => XS.ifYes X0.here hx rfl (pc0 := 3) (pc' := 10) rfl (hb hby d2_3) rfl ((if0 _ _).trans (tlt ((lw_lt x y).mpr c3)).1) (by decide) (by decide) q) ?_
    show Go _ _ _ _ _ _ _ (s₁.setTop (mkF m 10 #[.val (.long x), .second, .val (.long y), .second] []))
    refine Go.of (fun _ q => XS.lloadN X0.here hx rfl (hb hby d2_10) rfl q) ?_
    show Go _ _ _ _ _ _ _ (s₁.setTop (mkF m 11 #[.val (.long x), .second, .val (.long y), .second] [(.long y)]))
    refine Go.retJ X0 hx hlk hret (hb hby d2_11) (by decide) (by decide) ?_
    rw [e0]
    exact ⟨(by rw [if_pos c3]), N0, rfl⟩
  · refine Go.of (fun _ q => XS.ifNo X0.here hx rfl (hb hby d2_3) rfl ((if0 _ _).trans (flt (mt (lw_lt x y).mp c3)).1) q) ?_
    show Go _ _ _ _ _ _ _ (s₁.setTop (mkF m 6 #[.val (.long x), .second, .val (.long y), .second] []))
    refine Go.of (fun _ q => XS.lloadN X0.here hx rfl (hb hby d2_6) rfl q) ?_
    show Go _ _ _ _ _ _ _ (s₁.setTop (mkF m 7 #[.val (.long x), .second, .val (.long y), .second] [(.long x)]))
    refine Go.of (fun _ q => XS.goto X0.here hx rfl (pc0 := 7) (pc' := 11) rfl (hb hby d2_7) (by decide) (by decide) q) ?_
    show Go _ _ _ _ _ _ _ (s₁.setTop (mkF m 11 #[.val (.long x), .second, .val (.long y), .second] [(.long x)]))
    refine Go.retJ X0 hx hlk hret (hb hby d2_11) (by decide) (by decide) ?_
    rw [e0]
    exact ⟨(by rw [if_neg c3]), N0, rfl⟩
theorem d5_0 : decode jdk_35_method_42_code 0 = .ok (.lload_n 0, 1) := by decide +kernel
theorem d5_1 : decode jdk_35_method_42_code 1 = .ok (.lload_n 2, 1) := by decide +kernel
theorem d5_2 : decode jdk_35_method_42_code 2 = .ok (.lcmp, 1) := by decide +kernel
theorem d5_3 : decode jdk_35_method_42_code 3 = .ok (.ifCond .ge 7, 3) := by decide +kernel
theorem d5_6 : decode jdk_35_method_42_code 6 = .ok (.iconst (-1), 1) := by decide +kernel
theorem d5_7 : decode jdk_35_method_42_code 7 = .ok (.goto 14, 3) := by decide +kernel
theorem d5_10 : decode jdk_35_method_42_code 10 = .ok (.lload_n 0, 1) := by decide +kernel
theorem d5_11 : decode jdk_35_method_42_code 11 = .ok (.lload_n 2, 1) := by decide +kernel
theorem d5_12 : decode jdk_35_method_42_code 12 = .ok (.lcmp, 1) := by decide +kernel
theorem d5_13 : decode jdk_35_method_42_code 13 = .ok (.ifCond .ne 7, 3) := by decide +kernel
theorem d5_16 : decode jdk_35_method_42_code 16 = .ok (.iconst 0, 1) := by decide +kernel
theorem d5_17 : decode jdk_35_method_42_code 17 = .ok (.goto 4, 3) := by decide +kernel
theorem d5_20 : decode jdk_35_method_42_code 20 = .ok (.iconst 1, 1) := by decide +kernel
theorem d5_21 : decode jdk_35_method_42_code 21 = .ok (.ireturn, 1) := by decide +kernel
theorem pn0 : plainName "java/lang/Long" = true := by first | (simp [plainName, overriddenIn]; done) | decide +kernel
theorem ef_5 (m : MethodId) (x : Int64) (y : Int64) : entryFrame m #[(.long x), (.long y)] 4 = mkF m 0 #[.val (.long x), .second, .val (.long y), .second] [] := by first | (simp [entryFrame, mkF, argsToLocals, Value.category]; done) | rfl
def Q5 (Z : State) (x : Int64) (y : Int64) (h0 : Heap) (n0 : Nat) (v : Option Value) (h : Heap) (L : List Loc) : Prop := v = some (.int (own_cmp x y)) ∧ Fr n0 L ∧ h = h0
set_option maxRecDepth 65536 in
set_option maxHeartbeats 40000000 in
theorem rm5 (l : Launch) (Z : State) (a0 : Array Value) (hw : ∀ d ∈ tables_1, d.before a0 Z = true) (x : Int64) (y : Int64) (h0 : Heap) (n0 : Nat) (Zs : n0 ≤ h0.size)  :
    Con l Z (⟨"java/lang/Long", "compare", "(JJ)I"⟩ : MethodName) jdk_35_method_42_code 4 (some .int) ({ frames := 0, cells := 0, slots := 0, locals := 0 } : Room) #[(.long x), (.long y)] h0 (Q5 Z x y h0 n0) := by
  refine Con.intro (plainFor_of_name pn0) (fun m => ef_5 m x y) ?_
  intro p e s m below meth c s₁ hx hby hml0 hZ hown hnm hret hlk X0 e0
  have hml : c.maxLocals = 4 := hml0
  have N0 := Fr.nil n0
  have Kp : Keep h0 h0 [] := Keep.refl h0 _
  show Go _ _ _ _ _ _ _ (s₁.setTop (mkF m 0 #[.val (.long x), .second, .val (.long y), .second] []))
  refine Go.of (fun _ q => XS.lloadN X0.here hx rfl (hb hby d5_0) rfl q) ?_
  show Go _ _ _ _ _ _ _ (s₁.setTop (mkF m 1 #[.val (.long x), .second, .val (.long y), .second] [(.long x)]))
  refine Go.of (fun _ q => XS.lloadN X0.here hx rfl (hb hby d5_1) rfl q) ?_
  show Go _ _ _ _ _ _ _ (s₁.setTop (mkF m 2 #[.val (.long x), .second, .val (.long y), .second] [(.long y), (.long x)]))
  refine Go.of (fun _ q => XS.lcmp X0.here hx rfl (hb hby d5_2) rfl q) ?_
  show Go _ _ _ _ _ _ _ (s₁.setTop (mkF m 3 #[.val (.long x), .second, .val (.long y), .second] [(.int (lcmpW x y))]))
  by_cases c3 : x < y
  · refine Go.of (fun _ q => XS.ifNo X0.here hx rfl (hb hby d5_3) rfl ((if0 _ _).trans (tlt ((lw_lt x y).mpr c3)).2.1) q) ?_
    show Go _ _ _ _ _ _ _ (s₁.setTop (mkF m 6 #[.val (.long x), .second, .val (.long y), .second] []))
    refine Go.of (fun _ q => XS.iconst X0.here hx rfl (hb hby d5_6) q) ?_
    show Go _ _ _ _ _ _ _ (s₁.setTop (mkF m 7 #[.val (.long x), .second, .val (.long y), .second] [(.int (-1 : Int32))]))
    refine Go.of (fun _ q => XS.goto X0.here hx rfl (pc0 := 7) (pc' := 21) rfl (hb hby d5_7) (by decide) (by decide) q) ?_
    show Go _ _ _ _ _ _ _ (s₁.setTop (mkF m 21 #[.val (.long x), .second, .val (.long y), .second] [(.int (-1 : Int32))]))
    refine Go.retI X0 hx hlk hret (hb hby d5_21) (by decide) (by decide) ?_
    rw [e0]
    exact ⟨(by unfold own_cmp; rw [if_pos c3]), N0, rfl⟩
  · refine Go.of (fun _ q => XS.ifYes X0.here hx rfl (pc0 := 3) (pc' := 10) rfl (hb hby d5_3) rfl ((if0 _ _).trans (flt (mt (lw_lt x y).mp c3)).2.1) (by decide) (by decide) q) ?_
    show Go _ _ _ _ _ _ _ (s₁.setTop (mkF m 10 #[.val (.long x), .second, .val (.long y), .second] []))
    refine Go.of (fun _ q => XS.lloadN X0.here hx rfl (hb hby d5_10) rfl q) ?_
    show Go _ _ _ _ _ _ _ (s₁.setTop (mkF m 11 #[.val (.long x), .second, .val (.long y), .second] [(.long x)]))
    refine Go.of (fun _ q => XS.lloadN X0.here hx rfl (hb hby d5_11) rfl q) ?_
    show Go _ _ _ _ _ _ _ (s₁.setTop (mkF m 12 #[.val (.long x), .second, .val (.long y), .second] [(.long y), (.long x)]))
    refine Go.of (fun _ q => XS.lcmp X0.here hx rfl (hb hby d5_12) rfl q) ?_
    show Go _ _ _ _ _ _ _ (s₁.setTop (mkF m 13 #[.val (.long x), .second, .val (.long y), .second] [(.int (lcmpW x y))]))
    by_cases c13 : x = y
    · refine Go.of (fun _ q => XS.ifNo X0.here hx rfl (hb hby d5_13) rfl ((if0 _ _).trans (teq ((lw_eq x y).mpr c13)).2) q) ?_
      show Go _ _ _ _ _ _ _ (s₁.setTop (mkF m 16 #[.val (.long x), .second, .val (.long y), .second] []))
      refine Go.of (fun _ q => XS.iconst X0.here hx rfl (hb hby d5_16) q) ?_
      show Go _ _ _ _ _ _ _ (s₁.setTop (mkF m 17 #[.val (.long x), .second, .val (.long y), .second] [(.int (0 : Int32))]))
      refine Go.of (fun _ q => XS.goto X0.here hx rfl (pc0 := 17) (pc' := 21) rfl (hb hby d5_17) (by decide) (by decide) q) ?_
      show Go _ _ _ _ _ _ _ (s₁.setTop (mkF m 21 #[.val (.long x), .second, .val (.long y), .second] [(.int (0 : Int32))]))
      refine Go.retI X0 hx hlk hret (hb hby d5_21) (by decide) (by decide) ?_
      rw [e0]
      exact ⟨(by unfold own_cmp; rw [if_neg c3, if_pos c13]), N0, rfl⟩
    · refine Go.of (fun _ q => XS.ifYes X0.here hx rfl (pc0 := 13) (pc' := 20) rfl (hb hby d5_13) rfl ((if0 _ _).trans (feq (mt (lw_eq x y).mp c13)).2) (by decide) (by decide) q) ?_
      show Go _ _ _ _ _ _ _ (s₁.setTop (mkF m 20 #[.val (.long x), .second, .val (.long y), .second] []))
      refine Go.of (fun _ q => XS.iconst X0.here hx rfl (hb hby d5_20) q) ?_
      show Go _ _ _ _ _ _ _ (s₁.setTop (mkF m 21 #[.val (.long x), .second, .val (.long y), .second] [(.int (1 : Int32))]))
      refine Go.retI X0 hx hlk hret (hb hby d5_21) (by decide) (by decide) ?_
      rw [e0]
      exact ⟨(by unfold own_cmp; rw [if_neg c3, if_neg c13]), N0, rfl⟩
theorem pd0 : parseMethodDescriptor "(JJ)I" = some ⟨[.long, .long], some .int⟩ := by decide +kernel
theorem d4_0 : decode jdk_35_method_43_code 0 = .ok (.lload_n 0, 1) := by decide +kernel
theorem d4_1 : decode jdk_35_method_43_code 1 = .ok (.ldc2_w 168, 3) := by decide +kernel
theorem d4_4 : decode jdk_35_method_43_code 4 = .ok (.ladd, 1) := by decide +kernel
theorem d4_5 : decode jdk_35_method_43_code 5 = .ok (.lload_n 2, 1) := by decide +kernel
theorem d4_6 : decode jdk_35_method_43_code 6 = .ok (.ldc2_w 168, 3) := by decide +kernel
theorem d4_9 : decode jdk_35_method_43_code 9 = .ok (.ladd, 1) := by decide +kernel
theorem d4_10 : decode jdk_35_method_43_code 10 = .ok (.invokestatic 302, 3) := by decide +kernel
theorem d4_13 : decode jdk_35_method_43_code 13 = .ok (.ireturn, 1) := by decide +kernel
theorem ef_4 (m : MethodId) (x : Int64) (y : Int64) : entryFrame m #[(.long x), (.long y)] 4 = mkF m 0 #[.val (.long x), .second, .val (.long y), .second] [] := by first | (simp [entryFrame, mkF, argsToLocals, Value.category]; done) | rfl
def Q4 (Z : State) (x : Int64) (y : Int64) (h0 : Heap) (n0 : Nat) (v : Option Value) (h : Heap) (L : List Loc) : Prop := v = some (.int (own_cmpU x y)) ∧ Fr n0 L ∧ h = h0
set_option maxRecDepth 65536 in
set_option maxHeartbeats 40000000 in
theorem rm4 (l : Launch) (Z : State) (a0 : Array Value) (hw : ∀ d ∈ tables_1, d.before a0 Z = true) (x : Int64) (y : Int64) (h0 : Heap) (n0 : Nat) (Zs : n0 ≤ h0.size)  :
    Con l Z (⟨"java/lang/Long", "compareUnsigned", "(JJ)I"⟩ : MethodName) jdk_35_method_43_code 4 (some .int) ({ frames := 1, cells := 0, slots := 0, locals := 15 } : Room) #[(.long x), (.long y)] h0 (Q4 Z x y h0 n0) := by
  refine Con.intro (plainFor_of_name pn0) (fun m => ef_4 m x y) ?_
  intro p e s m below meth c s₁ hx hby hml0 hZ hown hnm hret hlk X0 e0
  have hml : c.maxLocals = 4 := hml0
  have N0 := Fr.nil n0
  have Kp : Keep h0 h0 [] := Keep.refl h0 _
  show Go _ _ _ _ _ _ _ (s₁.setTop (mkF m 0 #[.val (.long x), .second, .val (.long y), .second] []))
  refine Go.of (fun _ q => XS.lloadN X0.here hx rfl (hb hby d4_0) rfl q) ?_
  show Go _ _ _ _ _ _ _ (s₁.setTop (mkF m 1 #[.val (.long x), .second, .val (.long y), .second] [(.long x)]))
  refine Go.of (fun _ q => X0.ldc2Long hx hown (mvT hZ (hw _ (List.mem_of_getElem? (i := 16) rfl))) (g := (mkF m 1 #[.val (.long x), .second, .val (.long y), .second] [(.long x)])) rfl (hb hby d4_1) _ q) ?_
  show Go _ _ _ _ _ _ _ (s₁.setTop (mkF m 4 #[.val (.long x), .second, .val (.long y), .second] [(.long (-9223372036854775808 : Int64)), (.long x)]))
  refine Go.of (fun _ q => XS.ladd X0.here hx rfl (hb hby d4_4) rfl q) ?_
  show Go _ _ _ _ _ _ _ (s₁.setTop (mkF m 5 #[.val (.long x), .second, .val (.long y), .second] [(.long (x + (-9223372036854775808 : Int64)))]))
  refine Go.of (fun _ q => XS.lloadN X0.here hx rfl (hb hby d4_5) rfl q) ?_
  show Go _ _ _ _ _ _ _ (s₁.setTop (mkF m 6 #[.val (.long x), .second, .val (.long y), .second] [(.long y), (.long (x + (-9223372036854775808 : Int64)))]))
  refine Go.of (fun _ q => X0.ldc2Long hx hown (mvT hZ (hw _ (List.mem_of_getElem? (i := 16) rfl))) (g := (mkF m 6 #[.val (.long x), .second, .val (.long y), .second] [(.long y), (.long (x + (-9223372036854775808 : Int64)))])) rfl (hb hby d4_6) _ q) ?_
  show Go _ _ _ _ _ _ _ (s₁.setTop (mkF m 9 #[.val (.long x), .second, .val (.long y), .second] [(.long (-9223372036854775808 : Int64)), (.long y), (.long (x + (-9223372036854775808 : Int64)))]))
  refine Go.of (fun _ q => XS.ladd X0.here hx rfl (hb hby d4_9) rfl q) ?_
  show Go _ _ _ _ _ _ _ (s₁.setTop (mkF m 10 #[.val (.long x), .second, .val (.long y), .second] [(.long (y + (-9223372036854775808 : Int64))), (.long (x + (-9223372036854775808 : Int64)))]))
  refine Go.static X0 hx hZ (y := (⟨"java/lang/Long", "compare", "(JJ)I"⟩ : MethodName)) (argsL := [(.long (x + (-9223372036854775808 : Int64))), (.long (y + (-9223372036854775808 : Int64)))]) hown (hw _ (List.mem_of_getElem? (i := 17) rfl)) (hw _ (List.mem_of_getElem? (i := 18) rfl)) (hw _ (List.mem_of_getElem? (i := 14) rfl)) (hw _ (List.mem_of_getElem? (i := 19) rfl)) (by decide) 0 e0 (rm5 l Z a0 hw (x + (-9223372036854775808 : Int64)) (y + (-9223372036854775808 : Int64)) h0 n0 Zs ) (by decide) (by decide) (by decide) (by decide) (g := (mkF m 10 #[.val (.long x), .second, .val (.long y), .second] [(.long (y + (-9223372036854775808 : Int64))), (.long (x + (-9223372036854775808 : Int64)))])) rfl (by rw [hml]; rfl) (rest := []) (lenOf pd0 rfl) rfl (by show 2 * 0 + _ ≤ _; exact Nat.le_of_eq rfl) (hb hby d4_10) ?_
  intro T1 v1 L1 X1 q1
  obtain ⟨rfl, Nq1, e1⟩ := q1
  have N1 := Fr.app N0 Nq1
  show Go _ _ _ _ _ _ _ (T1.setTop (mkF m 13 #[.val (.long x), .second, .val (.long y), .second] [(.int (own_cmp (x + (-9223372036854775808 : Int64)) (y + (-9223372036854775808 : Int64))))]))
  refine Go.retI X1 hx hlk hret (hb hby d4_13) (by decide) (by decide) ?_
  rw [e1]
  exact ⟨rfl, N1, rfl⟩
theorem d3_0 : decode prog_17_method_2_code 0 = .ok (.lload 6, 2) := by decide +kernel
theorem d3_2 : decode prog_17_method_2_code 2 = .ok (.lload_n 0, 1) := by decide +kernel
theorem d3_3 : decode prog_17_method_2_code 3 = .ok (.lsub, 1) := by decide +kernel
theorem d3_4 : decode prog_17_method_2_code 4 = .ok (.lstore 8, 2) := by decide +kernel
theorem d3_6 : decode prog_17_method_2_code 6 = .ok (.lload_n 2, 1) := by decide +kernel
theorem d3_7 : decode prog_17_method_2_code 7 = .ok (.lload 8, 2) := by decide +kernel
theorem d3_9 : decode prog_17_method_2_code 9 = .ok (.lload 4, 2) := by decide +kernel
theorem d3_11 : decode prog_17_method_2_code 11 = .ok (.ldiv, 1) := by decide +kernel
theorem d3_12 : decode prog_17_method_2_code 12 = .ok (.invokestatic 7, 3) := by decide +kernel
theorem d3_15 : decode prog_17_method_2_code 15 = .ok (.ifCond .le 10, 3) := by decide +kernel
theorem d3_18 : decode prog_17_method_2_code 18 = .ok (.lload 6, 2) := by decide +kernel
theorem d3_20 : decode prog_17_method_2_code 20 = .ok (.lstore 10, 2) := by decide +kernel
theorem d3_22 : decode prog_17_method_2_code 22 = .ok (.goto 11, 3) := by decide +kernel
theorem d3_25 : decode prog_17_method_2_code 25 = .ok (.lload_n 0, 1) := by decide +kernel
theorem d3_26 : decode prog_17_method_2_code 26 = .ok (.lload_n 2, 1) := by decide +kernel
theorem d3_27 : decode prog_17_method_2_code 27 = .ok (.lload 4, 2) := by decide +kernel
theorem d3_29 : decode prog_17_method_2_code 29 = .ok (.lmul, 1) := by decide +kernel
theorem d3_30 : decode prog_17_method_2_code 30 = .ok (.ladd, 1) := by decide +kernel
theorem d3_31 : decode prog_17_method_2_code 31 = .ok (.lstore 10, 2) := by decide +kernel
theorem d3_33 : decode prog_17_method_2_code 33 = .ok (.lload 10, 2) := by decide +kernel
theorem d3_35 : decode prog_17_method_2_code 35 = .ok (.lreturn, 1) := by decide +kernel
theorem pn1 : plainName "com/example/steady_throttle/steadythrottle/Refill" = true := by first | (simp [plainName, overriddenIn]; done) | decide +kernel
theorem ef_3 (m : MethodId) (x1 : Int64) (x2 : Int64) (x3 : Int64) (x4 : Int64) : entryFrame m #[(.long x1), (.long x2), (.long x3), (.long x4)] 12 = mkF m 0 #[.val (.long x1), .second, .val (.long x2), .second, .val (.long x3), .second, .val (.long x4), .second, .unset, .unset, .unset, .unset] [] := by first | (simp [entryFrame, mkF, argsToLocals, Value.category]; done) | rfl
def Q3 (Z : State) (x1 : Int64) (x2 : Int64) (x3 : Int64) (x4 : Int64) (h0 : Heap) (n0 : Nat) (v : Option Value) (h : Heap) (L : List Loc) : Prop := v = some (.long (own_after x1 x2 x3 x4)) ∧ Fr n0 L ∧ h = h0
set_option maxRecDepth 65536 in
set_option maxHeartbeats 40000000 in
theorem rm3 (l : Launch) (Z : State) (a0 : Array Value) (hw : ∀ d ∈ tables_1, d.before a0 Z = true) (x1 : Int64) (x2 : Int64) (x3 : Int64) (x4 : Int64) (h0 : Heap) (n0 : Nat) (Zs : n0 ≤ h0.size) (hp : ¬ (x3 = (0 : Int64))) :
    Con l Z (⟨"com/example/steady_throttle/steadythrottle/Refill", "after", "(JJJJ)J"⟩ : MethodName) prog_17_method_2_code 12 (some .long) ({ frames := 2, cells := 0, slots := 0, locals := 30 } : Room) #[(.long x1), (.long x2), (.long x3), (.long x4)] h0 (Q3 Z x1 x2 x3 x4 h0 n0) := by
  refine Con.intro (plainFor_of_name pn1) (fun m => ef_3 m x1 x2 x3 x4) ?_
  intro p e s m below meth c s₁ hx hby hml0 hZ hown hnm hret hlk X0 e0
  have hml : c.maxLocals = 12 := hml0
  have N0 := Fr.nil n0
  have Kp : Keep h0 h0 [] := Keep.refl h0 _
  show Go _ _ _ _ _ _ _ (s₁.setTop (mkF m 0 #[.val (.long x1), .second, .val (.long x2), .second, .val (.long x3), .second, .val (.long x4), .second, .unset, .unset, .unset, .unset] []))
  refine Go.of (fun _ q => XS.lload X0.here hx rfl (hb hby d3_0) rfl q) ?_
  show Go _ _ _ _ _ _ _ (s₁.setTop (mkF m 2 #[.val (.long x1), .second, .val (.long x2), .second, .val (.long x3), .second, .val (.long x4), .second, .unset, .unset, .unset, .unset] [(.long x4)]))
  refine Go.of (fun _ q => XS.lloadN X0.here hx rfl (hb hby d3_2) rfl q) ?_
  show Go _ _ _ _ _ _ _ (s₁.setTop (mkF m 3 #[.val (.long x1), .second, .val (.long x2), .second, .val (.long x3), .second, .val (.long x4), .second, .unset, .unset, .unset, .unset] [(.long x1), (.long x4)]))
  refine Go.of (fun _ q => XS.lsub X0.here hx rfl (hb hby d3_3) rfl q) ?_
  show Go _ _ _ _ _ _ _ (s₁.setTop (mkF m 4 #[.val (.long x1), .second, .val (.long x2), .second, .val (.long x3), .second, .val (.long x4), .second, .unset, .unset, .unset, .unset] [(.long (x4 - x1))]))
  refine Go.of (fun _ q => XS.lstore X0.here hx rfl (hb hby d3_4) rfl (l' := #[.val (.long x1), .second, .val (.long x2), .second, .val (.long x3), .second, .val (.long x4), .second, .val (.long (x4 - x1)), .second, .unset, .unset]) rfl q) ?_
  show Go _ _ _ _ _ _ _ (s₁.setTop (mkF m 6 #[.val (.long x1), .second, .val (.long x2), .second, .val (.long x3), .second, .val (.long x4), .second, .val (.long (x4 - x1)), .second, .unset, .unset] []))
  refine Go.of (fun _ q => XS.lloadN X0.here hx rfl (hb hby d3_6) rfl q) ?_
  show Go _ _ _ _ _ _ _ (s₁.setTop (mkF m 7 #[.val (.long x1), .second, .val (.long x2), .second, .val (.long x3), .second, .val (.long x4), .second, .val (.long (x4 - x1)), .second, .unset, .unset] [(.long x2)]))
  refine Go.of (fun _ q => XS.lload X0.here hx rfl (hb hby d3_7) rfl q) ?_
  show Go _ _ _ _ _ _ _ (s₁.setTop (mkF m 9 #[.val (.long x1), .second, .val (.long x2), .second, .val (.long x3), .second, .val (.long x4), .second, .val (.long (x4 - x1)), .second, .unset, .unset] [(.long (x4 - x1)), (.long x2)]))
  refine Go.of (fun _ q => XS.lload X0.here hx rfl (hb hby d3_9) rfl q) ?_
  show Go _ _ _ _ _ _ _ (s₁.setTop (mkF m 11 #[.val (.long x1), .second, .val (.long x2), .second, .val (.long x3), .second, .val (.long x4), .second, .val (.long (x4 - x1)), .second, .unset, .unset] [(.long x3), (.long (x4 - x1)), (.long x2)]))
  refine Go.of (fun _ q => XS.ldiv X0.here hx rfl (hb hby d3_11) rfl hp q) ?_
  show Go _ _ _ _ _ _ _ (s₁.setTop (mkF m 12 #[.val (.long x1), .second, .val (.long x2), .second, .val (.long x3), .second, .val (.long x4), .second, .val (.long (x4 - x1)), .second, .unset, .unset] [(.long ((x4 - x1) / x3)), (.long x2)]))
  refine Go.static X0 hx hZ (y := (⟨"java/lang/Long", "compareUnsigned", "(JJ)I"⟩ : MethodName)) (argsL := [(.long x2), (.long ((x4 - x1) / x3))]) hown (hw _ (List.mem_of_getElem? (i := 12) rfl)) (hw _ (List.mem_of_getElem? (i := 13) rfl)) (hw _ (List.mem_of_getElem? (i := 14) rfl)) (hw _ (List.mem_of_getElem? (i := 15) rfl)) (by decide) 0 e0 (rm4 l Z a0 hw x2 ((x4 - x1) / x3) h0 n0 Zs ) (by decide) (by decide) (by decide) (by decide) (g := (mkF m 12 #[.val (.long x1), .second, .val (.long x2), .second, .val (.long x3), .second, .val (.long x4), .second, .val (.long (x4 - x1)), .second, .unset, .unset] [(.long ((x4 - x1) / x3)), (.long x2)])) rfl (by rw [hml]; rfl) (rest := []) (lenOf pd0 rfl) rfl (by show 2 * 0 + _ ≤ _; exact Nat.le_of_eq rfl) (hb hby d3_12) ?_
  intro T1 v1 L1 X1 q1
  obtain ⟨rfl, Nq1, e1⟩ := q1
  have N1 := Fr.app N0 Nq1
  show Go _ _ _ _ _ _ _ (T1.setTop (mkF m 15 #[.val (.long x1), .second, .val (.long x2), .second, .val (.long x3), .second, .val (.long x4), .second, .val (.long (x4 - x1)), .second, .unset, .unset] [(.int (own_cmpU x2 ((x4 - x1) / x3)))]))
  by_cases c15 : (0 : Int32) < (own_cmpU x2 ((x4 - x1) / x3))
  · refine Go.of (fun _ q => XS.ifNo X1.here hx rfl (hb hby d3_15) rfl ((if0 _ _).trans (tlt c15).2.2.2) q) ?_
    show Go _ _ _ _ _ _ _ (T1.setTop (mkF m 18 #[.val (.long x1), .second, .val (.long x2), .second, .val (.long x3), .second, .val (.long x4), .second, .val (.long (x4 - x1)), .second, .unset, .unset] []))
    refine Go.of (fun _ q => XS.lload X1.here hx rfl (hb hby d3_18) rfl q) ?_
    show Go _ _ _ _ _ _ _ (T1.setTop (mkF m 20 #[.val (.long x1), .second, .val (.long x2), .second, .val (.long x3), .second, .val (.long x4), .second, .val (.long (x4 - x1)), .second, .unset, .unset] [(.long x4)]))
    refine Go.of (fun _ q => XS.lstore X1.here hx rfl (hb hby d3_20) rfl (l' := #[.val (.long x1), .second, .val (.long x2), .second, .val (.long x3), .second, .val (.long x4), .second, .val (.long (x4 - x1)), .second, .val (.long x4), .second]) rfl q) ?_
    show Go _ _ _ _ _ _ _ (T1.setTop (mkF m 22 #[.val (.long x1), .second, .val (.long x2), .second, .val (.long x3), .second, .val (.long x4), .second, .val (.long (x4 - x1)), .second, .val (.long x4), .second] []))
    refine Go.of (fun _ q => XS.goto X1.here hx rfl (pc0 := 22) (pc' := 33) rfl (hb hby d3_22) (by decide) (by decide) q) ?_
    show Go _ _ _ _ _ _ _ (T1.setTop (mkF m 33 #[.val (.long x1), .second, .val (.long x2), .second, .val (.long x3), .second, .val (.long x4), .second, .val (.long (x4 - x1)), .second, .val (.long x4), .second] []))
    refine Go.of (fun _ q => XS.lload X1.here hx rfl (hb hby d3_33) rfl q) ?_
    show Go _ _ _ _ _ _ _ (T1.setTop (mkF m 35 #[.val (.long x1), .second, .val (.long x2), .second, .val (.long x3), .second, .val (.long x4), .second, .val (.long (x4 - x1)), .second, .val (.long x4), .second] [(.long x4)]))
    refine Go.retJ X1 hx hlk hret (hb hby d3_35) (by decide) (by decide) ?_
    rw [e1]
    exact ⟨(by unfold own_after; rw [if_pos c15]), N1, rfl⟩
  · refine Go.of (fun _ q => XS.ifYes X1.here hx rfl (pc0 := 15) (pc' := 25) rfl (hb hby d3_15) rfl ((if0 _ _).trans (flt c15).2.2.2) (by decide) (by decide) q) ?_
    show Go _ _ _ _ _ _ _ (T1.setTop (mkF m 25 #[.val (.long x1), .second, .val (.long x2), .second, .val (.long x3), .second, .val (.long x4), .second, .val (.long (x4 - x1)), .second, .unset, .unset] []))
    refine Go.of (fun _ q => XS.lloadN X1.here hx rfl (hb hby d3_25) rfl q) ?_
    show Go _ _ _ _ _ _ _ (T1.setTop (mkF m 26 #[.val (.long x1), .second, .val (.long x2), .second, .val (.long x3), .second, .val (.long x4), .second, .val (.long (x4 - x1)), .second, .unset, .unset] [(.long x1)]))
    refine Go.of (fun _ q => XS.lloadN X1.here hx rfl (hb hby d3_26) rfl q) ?_
    show Go _ _ _ _ _ _ _ (T1.setTop (mkF m 27 #[.val (.long x1), .second, .val (.long x2), .second, .val (.long x3), .second, .val (.long x4), .second, .val (.long (x4 - x1)), .second, .unset, .unset] [(.long x2), (.long x1)]))
    refine Go.of (fun _ q => XS.lload X1.here hx rfl (hb hby d3_27) rfl q) ?_
    show Go _ _ _ _ _ _ _ (T1.setTop (mkF m 29 #[.val (.long x1), .second, .val (.long x2), .second, .val (.long x3), .second, .val (.long x4), .second, .val (.long (x4 - x1)), .second, .unset, .unset] [(.long x3), (.long x2), (.long x1)]))
    refine Go.of (fun _ q => XS.lmul X1.here hx rfl (hb hby d3_29) rfl q) ?_
    show Go _ _ _ _ _ _ _ (T1.setTop (mkF m 30 #[.val (.long x1), .second, .val (.long x2), .second, .val (.long x3), .second, .val (.long x4), .second, .val (.long (x4 - x1)), .second, .unset, .unset] [(.long (x2 * x3)), (.long x1)]))
    refine Go.of (fun _ q => XS.ladd X1.here hx rfl (hb hby d3_30) rfl q) ?_
    show Go _ _ _ _ _ _ _ (T1.setTop (mkF m 31 #[.val (.long x1), .second, .val (.long x2), .second, .val (.long x3), .second, .val (.long x4), .second, .val (.long (x4 - x1)), .second, .unset, .unset] [(.long (x1 + (x2 * x3)))]))
    refine Go.of (fun _ q => XS.lstore X1.here hx rfl (hb hby d3_31) rfl (l' := #[.val (.long x1), .second, .val (.long x2), .second, .val (.long x3), .second, .val (.long x4), .second, .val (.long (x4 - x1)), .second, .val (.long (x1 + (x2 * x3))), .second]) rfl q) ?_
    show Go _ _ _ _ _ _ _ (T1.setTop (mkF m 33 #[.val (.long x1), .second, .val (.long x2), .second, .val (.long x3), .second, .val (.long x4), .second, .val (.long (x4 - x1)), .second, .val (.long (x1 + (x2 * x3))), .second] []))
    refine Go.of (fun _ q => XS.lload X1.here hx rfl (hb hby d3_33) rfl q) ?_
    show Go _ _ _ _ _ _ _ (T1.setTop (mkF m 35 #[.val (.long x1), .second, .val (.long x2), .second, .val (.long x3), .second, .val (.long x4), .second, .val (.long (x4 - x1)), .second, .val (.long (x1 + (x2 * x3))), .second] [(.long (x1 + (x2 * x3)))]))
    refine Go.retJ X1 hx hlk hret (hb hby d3_35) (by decide) (by decide) ?_
    rw [e1]
    exact ⟨(by unfold own_after; rw [if_neg c15]), N1, rfl⟩
theorem pd1 : parseMethodDescriptor "(JJ)J" = some ⟨[.long, .long], some .long⟩ := by decide +kernel
theorem pd2 : parseMethodDescriptor "(JJJJ)J" = some ⟨[.long, .long, .long, .long], some .long⟩ := by decide +kernel
theorem pn2 : plainName "com/example/steady_throttle/steadythrottle/RefillAfterPinLaw" = true := by first | (simp [plainName, overriddenIn]; done) | decide +kernel
theorem ef_0 (m : MethodId) (x1 : Int64) (x2 : Int64) (x3 : Int64) (x4 : Int64) : entryFrame m #[(.long x1), (.long x2), (.long x3), (.long x4)] maxLocals = mkF m 0 #[.val (.long x1), .second, .val (.long x2), .second, .val (.long x3), .second, .val (.long x4), .second, .unset, .unset, .unset, .unset, .unset, .unset, .unset, .unset, .unset, .unset, .unset, .unset] [] := by first | (simp [entryFrame, mkF, argsToLocals, Value.category, maxLocals]; done) | rfl
def Q0 (Z : State) (x1 : Int64) (x2 : Int64) (x3 : Int64) (x4 : Int64) (h0 : Heap) (n0 : Nat) (v : Option Value) (h : Heap) (L : List Loc) : Prop := v = some (.int (1 : Int32)) ∧ Fr n0 L
set_option maxRecDepth 65536 in
set_option maxHeartbeats 40000000 in
theorem rm0 (l : Launch) (Z : State) (a0 : Array Value) (hw : ∀ d ∈ tables_1, d.before a0 Z = true) (x1 : Int64) (x2 : Int64) (x3 : Int64) (x4 : Int64) (h0 : Heap) (n0 : Nat) (Zs : n0 ≤ h0.size)  :
    Con l Z x code maxLocals ret room_1 #[(.long x1), (.long x2), (.long x3), (.long x4)] h0 (Q0 Z x1 x2 x3 x4 h0 n0) := by
  refine Con.intro (plainFor_of_name pn2) (fun m => ef_0 m x1 x2 x3 x4) ?_
  intro p e s m below meth c s₁ hx hby hml0 hZ hown hnm hret hlk X0 e0
  have hml : c.maxLocals = 20 := hml0
  have N0 := Fr.nil n0
  have Kp : Keep h0 h0 [] := Keep.refl h0 _
  show Go _ _ _ _ _ _ _ (s₁.setTop (mkF m 0 #[.val (.long x1), .second, .val (.long x2), .second, .val (.long x3), .second, .val (.long x4), .second, .unset, .unset, .unset, .unset, .unset, .unset, .unset, .unset, .unset, .unset, .unset, .unset] []))
  refine Go.of (fun _ q => XS.lloadN X0.here hx rfl (hb hby at_0) rfl q) ?_
  show Go _ _ _ _ _ _ _ (s₁.setTop (mkF m 1 #[.val (.long x1), .second, .val (.long x2), .second, .val (.long x3), .second, .val (.long x4), .second, .unset, .unset, .unset, .unset, .unset, .unset, .unset, .unset, .unset, .unset, .unset, .unset] [(.long x1)]))
  refine Go.of (fun _ q => XS.lloadN X0.here hx rfl (hb hby at_1) rfl q) ?_
  show Go _ _ _ _ _ _ _ (s₁.setTop (mkF m 2 #[.val (.long x1), .second, .val (.long x2), .second, .val (.long x3), .second, .val (.long x4), .second, .unset, .unset, .unset, .unset, .unset, .unset, .unset, .unset, .unset, .unset, .unset, .unset] [(.long x2), (.long x1)]))
  refine Go.static X0 hx hZ (y := (⟨"java/lang/Math", "min", "(JJ)J"⟩ : MethodName)) (argsL := [(.long x1), (.long x2)]) hown (hw _ (List.mem_of_getElem? (i := 0) rfl)) (hw _ (List.mem_of_getElem? (i := 1) rfl)) (hw _ (List.mem_of_getElem? (i := 2) rfl)) (hw _ (List.mem_of_getElem? (i := 3) rfl)) (by decide) 0 e0 (rm1 l Z a0 hw x1 x2 h0 n0 Zs ) (by decide) (by decide) (by decide) (by decide) (g := (mkF m 2 #[.val (.long x1), .second, .val (.long x2), .second, .val (.long x3), .second, .val (.long x4), .second, .unset, .unset, .unset, .unset, .unset, .unset, .unset, .unset, .unset, .unset, .unset, .unset] [(.long x2), (.long x1)])) rfl (by rw [hml]; rfl) (rest := []) (lenOf pd1 rfl) rfl (by show 2 * 0 + _ ≤ _; exact Nat.le_of_eq rfl) (hb hby at_2) ?_
  intro T1 v1 L1 X1 q1
  obtain ⟨rfl, Nq1, e1⟩ := q1
  have N1 := Fr.app N0 Nq1
  show Go _ _ _ _ _ _ _ (T1.setTop (mkF m 5 #[.val (.long x1), .second, .val (.long x2), .second, .val (.long x3), .second, .val (.long x4), .second, .unset, .unset, .unset, .unset, .unset, .unset, .unset, .unset, .unset, .unset, .unset, .unset] [(.long (if x2 < x1 then x2 else x1))]))
  refine Go.of (fun _ q => XS.lstore X1.here hx rfl (hb hby at_5) rfl (l' := #[.val (.long x1), .second, .val (.long x2), .second, .val (.long x3), .second, .val (.long x4), .second, .val (.long (if x2 < x1 then x2 else x1)), .second, .unset, .unset, .unset, .unset, .unset, .unset, .unset, .unset, .unset, .unset]) rfl q) ?_
  obtain ⟨v8, hv8⟩ : ∃ z, z = (if x2 < x1 then x2 else x1) := ⟨_, rfl⟩
  rw [← hv8]
  show Go _ _ _ _ _ _ _ (T1.setTop (mkF m 7 #[.val (.long x1), .second, .val (.long x2), .second, .val (.long x3), .second, .val (.long x4), .second, .val (.long v8), .second, .unset, .unset, .unset, .unset, .unset, .unset, .unset, .unset, .unset, .unset] []))
  refine Go.of (fun _ q => XS.lloadN X1.here hx rfl (hb hby at_7) rfl q) ?_
  show Go _ _ _ _ _ _ _ (T1.setTop (mkF m 8 #[.val (.long x1), .second, .val (.long x2), .second, .val (.long x3), .second, .val (.long x4), .second, .val (.long v8), .second, .unset, .unset, .unset, .unset, .unset, .unset, .unset, .unset, .unset, .unset] [(.long x1)]))
  refine Go.of (fun _ q => XS.lloadN X1.here hx rfl (hb hby at_8) rfl q) ?_
  show Go _ _ _ _ _ _ _ (T1.setTop (mkF m 9 #[.val (.long x1), .second, .val (.long x2), .second, .val (.long x3), .second, .val (.long x4), .second, .val (.long v8), .second, .unset, .unset, .unset, .unset, .unset, .unset, .unset, .unset, .unset, .unset] [(.long x2), (.long x1)]))
  refine Go.static X1 hx hZ (y := (⟨"java/lang/Math", "max", "(JJ)J"⟩ : MethodName)) (argsL := [(.long x1), (.long x2)]) hown (hw _ (List.mem_of_getElem? (i := 4) rfl)) (hw _ (List.mem_of_getElem? (i := 5) rfl)) (hw _ (List.mem_of_getElem? (i := 2) rfl)) (hw _ (List.mem_of_getElem? (i := 6) rfl)) (by decide) 0 e1 (rm2 l Z a0 hw x1 x2 h0 n0 Zs ) (by decide) (by decide) (by decide) (by decide) (g := (mkF m 9 #[.val (.long x1), .second, .val (.long x2), .second, .val (.long x3), .second, .val (.long x4), .second, .val (.long v8), .second, .unset, .unset, .unset, .unset, .unset, .unset, .unset, .unset, .unset, .unset] [(.long x2), (.long x1)])) rfl (by rw [hml]; rfl) (rest := []) (lenOf pd1 rfl) rfl (by show 2 * 0 + _ ≤ _; exact Nat.le_of_eq rfl) (hb hby at_9) ?_
  intro T2 v2 L2 X2 q2
  obtain ⟨rfl, Nq2, e2⟩ := q2
  have N2 := Fr.app N1 Nq2
  show Go _ _ _ _ _ _ _ (T2.setTop (mkF m 12 #[.val (.long x1), .second, .val (.long x2), .second, .val (.long x3), .second, .val (.long x4), .second, .val (.long v8), .second, .unset, .unset, .unset, .unset, .unset, .unset, .unset, .unset, .unset, .unset] [(.long (if x1 < x2 then x2 else x1))]))
  refine Go.of (fun _ q => XS.lstore X2.here hx rfl (hb hby at_12) rfl (l' := #[.val (.long x1), .second, .val (.long x2), .second, .val (.long x3), .second, .val (.long x4), .second, .val (.long v8), .second, .val (.long (if x1 < x2 then x2 else x1)), .second, .unset, .unset, .unset, .unset, .unset, .unset, .unset, .unset]) rfl q) ?_
  obtain ⟨v10, hv10⟩ : ∃ z, z = (if x1 < x2 then x2 else x1) := ⟨_, rfl⟩
  rw [← hv10]
  show Go _ _ _ _ _ _ _ (T2.setTop (mkF m 14 #[.val (.long x1), .second, .val (.long x2), .second, .val (.long x3), .second, .val (.long x4), .second, .val (.long v8), .second, .val (.long v10), .second, .unset, .unset, .unset, .unset, .unset, .unset, .unset, .unset] []))
  refine Go.of (fun _ q => XS.lload X2.here hx rfl (hb hby at_14) rfl q) ?_
  show Go _ _ _ _ _ _ _ (T2.setTop (mkF m 16 #[.val (.long x1), .second, .val (.long x2), .second, .val (.long x3), .second, .val (.long x4), .second, .val (.long v8), .second, .val (.long v10), .second, .unset, .unset, .unset, .unset, .unset, .unset, .unset, .unset] [(.long v10)]))
  refine Go.of (fun _ q => XS.lload X2.here hx rfl (hb hby at_16) rfl q) ?_
  show Go _ _ _ _ _ _ _ (T2.setTop (mkF m 18 #[.val (.long x1), .second, .val (.long x2), .second, .val (.long x3), .second, .val (.long x4), .second, .val (.long v8), .second, .val (.long v10), .second, .unset, .unset, .unset, .unset, .unset, .unset, .unset, .unset] [(.long v8), (.long v10)]))
  refine Go.of (fun _ q => XS.lsub X2.here hx rfl (hb hby at_18) rfl q) ?_
  show Go _ _ _ _ _ _ _ (T2.setTop (mkF m 19 #[.val (.long x1), .second, .val (.long x2), .second, .val (.long x3), .second, .val (.long x4), .second, .val (.long v8), .second, .val (.long v10), .second, .unset, .unset, .unset, .unset, .unset, .unset, .unset, .unset] [(.long (v10 - v8))]))
  refine Go.of (fun _ q => XS.lstore X2.here hx rfl (hb hby at_19) rfl (l' := #[.val (.long x1), .second, .val (.long x2), .second, .val (.long x3), .second, .val (.long x4), .second, .val (.long v8), .second, .val (.long v10), .second, .val (.long (v10 - v8)), .second, .unset, .unset, .unset, .unset, .unset, .unset]) rfl q) ?_
  show Go _ _ _ _ _ _ _ (T2.setTop (mkF m 21 #[.val (.long x1), .second, .val (.long x2), .second, .val (.long x3), .second, .val (.long x4), .second, .val (.long v8), .second, .val (.long v10), .second, .val (.long (v10 - v8)), .second, .unset, .unset, .unset, .unset, .unset, .unset] []))
  refine Go.of (fun _ q => XS.lload X2.here hx rfl (hb hby at_21) rfl q) ?_
  show Go _ _ _ _ _ _ _ (T2.setTop (mkF m 23 #[.val (.long x1), .second, .val (.long x2), .second, .val (.long x3), .second, .val (.long x4), .second, .val (.long v8), .second, .val (.long v10), .second, .val (.long (v10 - v8)), .second, .unset, .unset, .unset, .unset, .unset, .unset] [(.long (v10 - v8))]))
  refine Go.of (fun _ q => XS.lconst X2.here hx rfl (hb hby at_23) q) ?_
  show Go _ _ _ _ _ _ _ (T2.setTop (mkF m 24 #[.val (.long x1), .second, .val (.long x2), .second, .val (.long x3), .second, .val (.long x4), .second, .val (.long v8), .second, .val (.long v10), .second, .val (.long (v10 - v8)), .second, .unset, .unset, .unset, .unset, .unset, .unset] [(.long (0 : Int64)), (.long (v10 - v8))]))
  refine Go.of (fun _ q => XS.lcmp X2.here hx rfl (hb hby at_24) rfl q) ?_
  show Go _ _ _ _ _ _ _ (T2.setTop (mkF m 25 #[.val (.long x1), .second, .val (.long x2), .second, .val (.long x3), .second, .val (.long x4), .second, .val (.long v8), .second, .val (.long v10), .second, .val (.long (v10 - v8)), .second, .unset, .unset, .unset, .unset, .unset, .unset] [(.int (lcmpW (v10 - v8) (0 : Int64)))]))
  by_cases c25 : (v10 - v8) < (0 : Int64)
  · refine Go.of (fun _ q => XS.ifNo X2.here hx rfl (hb hby at_25) rfl ((if0 _ _).trans (tlt ((lw_lt (v10 - v8) (0 : Int64)).mpr c25)).2.1) q) ?_
    show Go _ _ _ _ _ _ _ (T2.setTop (mkF m 28 #[.val (.long x1), .second, .val (.long x2), .second, .val (.long x3), .second, .val (.long x4), .second, .val (.long v8), .second, .val (.long v10), .second, .val (.long (v10 - v8)), .second, .unset, .unset, .unset, .unset, .unset, .unset] []))
    refine Go.of (fun _ q => XS.iconst X2.here hx rfl (hb hby at_28) q) ?_
    show Go _ _ _ _ _ _ _ (T2.setTop (mkF m 29 #[.val (.long x1), .second, .val (.long x2), .second, .val (.long x3), .second, .val (.long x4), .second, .val (.long v8), .second, .val (.long v10), .second, .val (.long (v10 - v8)), .second, .unset, .unset, .unset, .unset, .unset, .unset] [(.int (1 : Int32))]))
    refine Go.retN X2 hx hlk (t := .boolean) hret (by simp) (hb hby at_29) rfl (by decide) (by decide) ?_
    rw [e2]
    exact ⟨rfl, N2⟩
  · refine Go.of (fun _ q => XS.ifYes X2.here hx rfl (pc0 := 25) (pc' := 30) rfl (hb hby at_25) rfl ((if0 _ _).trans (flt (mt (lw_lt (v10 - v8) (0 : Int64)).mp c25)).2.1) (by decide) (by decide) q) ?_
    show Go _ _ _ _ _ _ _ (T2.setTop (mkF m 30 #[.val (.long x1), .second, .val (.long x2), .second, .val (.long x3), .second, .val (.long x4), .second, .val (.long v8), .second, .val (.long v10), .second, .val (.long (v10 - v8)), .second, .unset, .unset, .unset, .unset, .unset, .unset] []))
    refine Go.of (fun _ q => XS.lload X2.here hx rfl (hb hby at_30) rfl q) ?_
    show Go _ _ _ _ _ _ _ (T2.setTop (mkF m 32 #[.val (.long x1), .second, .val (.long x2), .second, .val (.long x3), .second, .val (.long x4), .second, .val (.long v8), .second, .val (.long v10), .second, .val (.long (v10 - v8)), .second, .unset, .unset, .unset, .unset, .unset, .unset] [(.long x4)]))
    refine Go.of (fun _ q => X2.ldc2Long hx hown (mvT hZ (hw _ (List.mem_of_getElem? (i := 7) rfl))) (g := (mkF m 32 #[.val (.long x1), .second, .val (.long x2), .second, .val (.long x3), .second, .val (.long x4), .second, .val (.long v8), .second, .val (.long v10), .second, .val (.long (v10 - v8)), .second, .unset, .unset, .unset, .unset, .unset, .unset] [(.long x4)])) rfl (hb hby at_32) _ q) ?_
    show Go _ _ _ _ _ _ _ (T2.setTop (mkF m 35 #[.val (.long x1), .second, .val (.long x2), .second, .val (.long x3), .second, .val (.long x4), .second, .val (.long v8), .second, .val (.long v10), .second, .val (.long (v10 - v8)), .second, .unset, .unset, .unset, .unset, .unset, .unset] [(.long (9223372036854775807 : Int64)), (.long x4)]))
    refine Go.of (fun _ q => XS.land X2.here hx rfl (hb hby at_35) rfl q) ?_
    show Go _ _ _ _ _ _ _ (T2.setTop (mkF m 36 #[.val (.long x1), .second, .val (.long x2), .second, .val (.long x3), .second, .val (.long x4), .second, .val (.long v8), .second, .val (.long v10), .second, .val (.long (v10 - v8)), .second, .unset, .unset, .unset, .unset, .unset, .unset] [(.long (x4 &&& (9223372036854775807 : Int64)))]))
    refine Go.of (fun _ q => XS.lstore X2.here hx rfl (hb hby at_36) rfl (l' := #[.val (.long x1), .second, .val (.long x2), .second, .val (.long x3), .second, .val (.long x4), .second, .val (.long v8), .second, .val (.long v10), .second, .val (.long (v10 - v8)), .second, .val (.long (x4 &&& (9223372036854775807 : Int64))), .second, .unset, .unset, .unset, .unset]) rfl q) ?_
    show Go _ _ _ _ _ _ _ (T2.setTop (mkF m 38 #[.val (.long x1), .second, .val (.long x2), .second, .val (.long x3), .second, .val (.long x4), .second, .val (.long v8), .second, .val (.long v10), .second, .val (.long (v10 - v8)), .second, .val (.long (x4 &&& (9223372036854775807 : Int64))), .second, .unset, .unset, .unset, .unset] []))
    refine Go.of (fun _ q => XS.lload X2.here hx rfl (hb hby at_38) rfl q) ?_
    show Go _ _ _ _ _ _ _ (T2.setTop (mkF m 40 #[.val (.long x1), .second, .val (.long x2), .second, .val (.long x3), .second, .val (.long x4), .second, .val (.long v8), .second, .val (.long v10), .second, .val (.long (v10 - v8)), .second, .val (.long (x4 &&& (9223372036854775807 : Int64))), .second, .unset, .unset, .unset, .unset] [(.long (x4 &&& (9223372036854775807 : Int64)))]))
    refine Go.of (fun _ q => XS.lconst X2.here hx rfl (hb hby at_40) q) ?_
    show Go _ _ _ _ _ _ _ (T2.setTop (mkF m 41 #[.val (.long x1), .second, .val (.long x2), .second, .val (.long x3), .second, .val (.long x4), .second, .val (.long v8), .second, .val (.long v10), .second, .val (.long (v10 - v8)), .second, .val (.long (x4 &&& (9223372036854775807 : Int64))), .second, .unset, .unset, .unset, .unset] [(.long (0 : Int64)), (.long (x4 &&& (9223372036854775807 : Int64)))]))
    refine Go.of (fun _ q => XS.lcmp X2.here hx rfl (hb hby at_41) rfl q) ?_
    show Go _ _ _ _ _ _ _ (T2.setTop (mkF m 42 #[.val (.long x1), .second, .val (.long x2), .second, .val (.long x3), .second, .val (.long x4), .second, .val (.long v8), .second, .val (.long v10), .second, .val (.long (v10 - v8)), .second, .val (.long (x4 &&& (9223372036854775807 : Int64))), .second, .unset, .unset, .unset, .unset] [(.int (lcmpW (x4 &&& (9223372036854775807 : Int64)) (0 : Int64)))]))
    have J3 : ∀ (zJ3_0 : Int64), zJ3_0 = (if (x4 &&& (9223372036854775807 : Int64)) = (0 : Int64) then (1 : Int64) else (x4 &&& (9223372036854775807 : Int64))) → Go p e below s room_1.cells room_1.slots (Q0 Z x1 x2 x3 x4 h0 n0) (T2.setTop (mkF m 48 #[.val (.long x1), .second, .val (.long x2), .second, .val (.long x3), .second, .val (.long x4), .second, .val (.long v8), .second, .val (.long v10), .second, .val (.long (v10 - v8)), .second, .val (.long zJ3_0), .second, .unset, .unset, .unset, .unset] [])) := by
      intro zJ3_0 hzJ3_0
      show Go _ _ _ _ _ _ _ (T2.setTop (mkF m 48 #[.val (.long x1), .second, .val (.long x2), .second, .val (.long x3), .second, .val (.long x4), .second, .val (.long v8), .second, .val (.long v10), .second, .val (.long (v10 - v8)), .second, .val (.long zJ3_0), .second, .unset, .unset, .unset, .unset] []))
      refine Go.of (fun _ q => XS.lload X2.here hx rfl (hb hby at_48) rfl q) ?_
      show Go _ _ _ _ _ _ _ (T2.setTop (mkF m 50 #[.val (.long x1), .second, .val (.long x2), .second, .val (.long x3), .second, .val (.long x4), .second, .val (.long v8), .second, .val (.long v10), .second, .val (.long (v10 - v8)), .second, .val (.long zJ3_0), .second, .unset, .unset, .unset, .unset] [(.long v8)]))
      refine Go.of (fun _ q => XS.lload X2.here hx rfl (hb hby at_50) rfl q) ?_
      show Go _ _ _ _ _ _ _ (T2.setTop (mkF m 52 #[.val (.long x1), .second, .val (.long x2), .second, .val (.long x3), .second, .val (.long x4), .second, .val (.long v8), .second, .val (.long v10), .second, .val (.long (v10 - v8)), .second, .val (.long zJ3_0), .second, .unset, .unset, .unset, .unset] [(.long x3), (.long v8)]))
      refine Go.of (fun _ q => XS.lload X2.here hx rfl (hb hby at_52) rfl q) ?_
      show Go _ _ _ _ _ _ _ (T2.setTop (mkF m 54 #[.val (.long x1), .second, .val (.long x2), .second, .val (.long x3), .second, .val (.long x4), .second, .val (.long v8), .second, .val (.long v10), .second, .val (.long (v10 - v8)), .second, .val (.long zJ3_0), .second, .unset, .unset, .unset, .unset] [(.long zJ3_0), (.long x3), (.long v8)]))
      refine Go.of (fun _ q => XS.lload X2.here hx rfl (hb hby at_54) rfl q) ?_
      show Go _ _ _ _ _ _ _ (T2.setTop (mkF m 56 #[.val (.long x1), .second, .val (.long x2), .second, .val (.long x3), .second, .val (.long x4), .second, .val (.long v8), .second, .val (.long v10), .second, .val (.long (v10 - v8)), .second, .val (.long zJ3_0), .second, .unset, .unset, .unset, .unset] [(.long v10), (.long zJ3_0), (.long x3), (.long v8)]))
      refine Go.static X2 hx hZ (y := (⟨"com/example/steady_throttle/steadythrottle/Refill", "after", "(JJJJ)J"⟩ : MethodName)) (argsL := [(.long v8), (.long x3), (.long zJ3_0), (.long v10)]) hown (hw _ (List.mem_of_getElem? (i := 8) rfl)) (hw _ (List.mem_of_getElem? (i := 9) rfl)) (hw _ (List.mem_of_getElem? (i := 10) rfl)) (hw _ (List.mem_of_getElem? (i := 11) rfl)) (by decide) 0 e2 (rm3 l Z a0 hw v8 x3 zJ3_0 v10 h0 n0 Zs (own_pnz _ _ hzJ3_0)) (by decide) (by decide) (by decide) (by decide) (g := (mkF m 56 #[.val (.long x1), .second, .val (.long x2), .second, .val (.long x3), .second, .val (.long x4), .second, .val (.long v8), .second, .val (.long v10), .second, .val (.long (v10 - v8)), .second, .val (.long zJ3_0), .second, .unset, .unset, .unset, .unset] [(.long v10), (.long zJ3_0), (.long x3), (.long v8)])) rfl (by rw [hml]; rfl) (rest := []) (lenOf pd2 rfl) rfl (by show 2 * 0 + _ ≤ _; exact Nat.le_of_eq rfl) (hb hby at_56) ?_
      intro T4 v4 L4 X4 q4
      obtain ⟨rfl, Nq4, e4⟩ := q4
      have N4 := Fr.app N2 Nq4
      show Go _ _ _ _ _ _ _ (T4.setTop (mkF m 59 #[.val (.long x1), .second, .val (.long x2), .second, .val (.long x3), .second, .val (.long x4), .second, .val (.long v8), .second, .val (.long v10), .second, .val (.long (v10 - v8)), .second, .val (.long zJ3_0), .second, .unset, .unset, .unset, .unset] [(.long (own_after v8 x3 zJ3_0 v10))]))
      refine Go.of (fun _ q => XS.lstore X4.here hx rfl (hb hby at_59) rfl (l' := #[.val (.long x1), .second, .val (.long x2), .second, .val (.long x3), .second, .val (.long x4), .second, .val (.long v8), .second, .val (.long v10), .second, .val (.long (v10 - v8)), .second, .val (.long zJ3_0), .second, .val (.long (own_after v8 x3 zJ3_0 v10)), .second, .unset, .unset]) rfl q) ?_
      show Go _ _ _ _ _ _ _ (T4.setTop (mkF m 61 #[.val (.long x1), .second, .val (.long x2), .second, .val (.long x3), .second, .val (.long x4), .second, .val (.long v8), .second, .val (.long v10), .second, .val (.long (v10 - v8)), .second, .val (.long zJ3_0), .second, .val (.long (own_after v8 x3 zJ3_0 v10)), .second, .unset, .unset] []))
      refine Go.of (fun _ q => XS.lload X4.here hx rfl (hb hby at_61) rfl q) ?_
      show Go _ _ _ _ _ _ _ (T4.setTop (mkF m 63 #[.val (.long x1), .second, .val (.long x2), .second, .val (.long x3), .second, .val (.long x4), .second, .val (.long v8), .second, .val (.long v10), .second, .val (.long (v10 - v8)), .second, .val (.long zJ3_0), .second, .val (.long (own_after v8 x3 zJ3_0 v10)), .second, .unset, .unset] [(.long (own_after v8 x3 zJ3_0 v10))]))
      refine Go.of (fun _ q => XS.lload X4.here hx rfl (hb hby at_63) rfl q) ?_
      show Go _ _ _ _ _ _ _ (T4.setTop (mkF m 65 #[.val (.long x1), .second, .val (.long x2), .second, .val (.long x3), .second, .val (.long x4), .second, .val (.long v8), .second, .val (.long v10), .second, .val (.long (v10 - v8)), .second, .val (.long zJ3_0), .second, .val (.long (own_after v8 x3 zJ3_0 v10)), .second, .unset, .unset] [(.long v10), (.long (own_after v8 x3 zJ3_0 v10))]))
      refine Go.of (fun _ q => XS.lcmp X4.here hx rfl (hb hby at_65) rfl q) ?_
      show Go _ _ _ _ _ _ _ (T4.setTop (mkF m 66 #[.val (.long x1), .second, .val (.long x2), .second, .val (.long x3), .second, .val (.long x4), .second, .val (.long v8), .second, .val (.long v10), .second, .val (.long (v10 - v8)), .second, .val (.long zJ3_0), .second, .val (.long (own_after v8 x3 zJ3_0 v10)), .second, .unset, .unset] [(.int (lcmpW (own_after v8 x3 zJ3_0 v10) v10))]))
      by_cases c66 : (own_after v8 x3 zJ3_0 v10) = v10
      · refine Go.of (fun _ q => XS.ifNo X4.here hx rfl (hb hby at_66) rfl ((if0 _ _).trans (teq ((lw_eq (own_after v8 x3 zJ3_0 v10) v10).mpr c66)).2) q) ?_
        show Go _ _ _ _ _ _ _ (T4.setTop (mkF m 69 #[.val (.long x1), .second, .val (.long x2), .second, .val (.long x3), .second, .val (.long x4), .second, .val (.long v8), .second, .val (.long v10), .second, .val (.long (v10 - v8)), .second, .val (.long zJ3_0), .second, .val (.long (own_after v8 x3 zJ3_0 v10)), .second, .unset, .unset] []))
        refine Go.of (fun _ q => XS.lload X4.here hx rfl (hb hby at_69) rfl q) ?_
        show Go _ _ _ _ _ _ _ (T4.setTop (mkF m 71 #[.val (.long x1), .second, .val (.long x2), .second, .val (.long x3), .second, .val (.long x4), .second, .val (.long v8), .second, .val (.long v10), .second, .val (.long (v10 - v8)), .second, .val (.long zJ3_0), .second, .val (.long (own_after v8 x3 zJ3_0 v10)), .second, .unset, .unset] [(.long (v10 - v8))]))
        refine Go.of (fun _ q => XS.lconst X4.here hx rfl (hb hby at_71) q) ?_
        show Go _ _ _ _ _ _ _ (T4.setTop (mkF m 72 #[.val (.long x1), .second, .val (.long x2), .second, .val (.long x3), .second, .val (.long x4), .second, .val (.long v8), .second, .val (.long v10), .second, .val (.long (v10 - v8)), .second, .val (.long zJ3_0), .second, .val (.long (own_after v8 x3 zJ3_0 v10)), .second, .unset, .unset] [(.long (0 : Int64)), (.long (v10 - v8))]))
        refine Go.of (fun _ q => XS.lcmp X4.here hx rfl (hb hby at_72) rfl q) ?_
        show Go _ _ _ _ _ _ _ (T4.setTop (mkF m 73 #[.val (.long x1), .second, .val (.long x2), .second, .val (.long x3), .second, .val (.long x4), .second, .val (.long v8), .second, .val (.long v10), .second, .val (.long (v10 - v8)), .second, .val (.long zJ3_0), .second, .val (.long (own_after v8 x3 zJ3_0 v10)), .second, .unset, .unset] [(.int (lcmpW (v10 - v8) (0 : Int64)))]))
        have J5 : Go p e below s room_1.cells room_1.slots (Q0 Z x1 x2 x3 x4 h0 n0) (T4.setTop (mkF m 101 #[.val (.long x1), .second, .val (.long x2), .second, .val (.long x3), .second, .val (.long x4), .second, .val (.long v8), .second, .val (.long v10), .second, .val (.long (v10 - v8)), .second, .val (.long zJ3_0), .second, .val (.long (own_after v8 x3 zJ3_0 v10)), .second, .unset, .unset] [(.int (1 : Int32))])) := by
          show Go _ _ _ _ _ _ _ (T4.setTop (mkF m 101 #[.val (.long x1), .second, .val (.long x2), .second, .val (.long x3), .second, .val (.long x4), .second, .val (.long v8), .second, .val (.long v10), .second, .val (.long (v10 - v8)), .second, .val (.long zJ3_0), .second, .val (.long (own_after v8 x3 zJ3_0 v10)), .second, .unset, .unset] [(.int (1 : Int32))]))
          refine Go.retN X4 hx hlk (t := .boolean) hret (by simp) (hb hby at_101) rfl (by decide) (by decide) ?_
          rw [e4]
          exact ⟨rfl, N4⟩
        by_cases c73 : (v10 - v8) = (0 : Int64)
        · refine Go.of (fun _ q => XS.ifYes X4.here hx rfl (pc0 := 73) (pc' := 96) rfl (hb hby at_73) rfl ((if0 _ _).trans (teq ((lw_eq (v10 - v8) (0 : Int64)).mpr c73)).1) (by decide) (by decide) q) ?_
          show Go _ _ _ _ _ _ _ (T4.setTop (mkF m 96 #[.val (.long x1), .second, .val (.long x2), .second, .val (.long x3), .second, .val (.long x4), .second, .val (.long v8), .second, .val (.long v10), .second, .val (.long (v10 - v8)), .second, .val (.long zJ3_0), .second, .val (.long (own_after v8 x3 zJ3_0 v10)), .second, .unset, .unset] []))
          refine Go.of (fun _ q => XS.iconst X4.here hx rfl (hb hby at_96) q) ?_
          show Go _ _ _ _ _ _ _ (T4.setTop (mkF m 97 #[.val (.long x1), .second, .val (.long x2), .second, .val (.long x3), .second, .val (.long x4), .second, .val (.long v8), .second, .val (.long v10), .second, .val (.long (v10 - v8)), .second, .val (.long zJ3_0), .second, .val (.long (own_after v8 x3 zJ3_0 v10)), .second, .unset, .unset] [(.int (1 : Int32))]))
          refine Go.of (fun _ q => XS.goto X4.here hx rfl (pc0 := 97) (pc' := 101) rfl (hb hby at_97) (by decide) (by decide) q) ?_
          show Go _ _ _ _ _ _ _ (T4.setTop (mkF m 101 #[.val (.long x1), .second, .val (.long x2), .second, .val (.long x3), .second, .val (.long x4), .second, .val (.long v8), .second, .val (.long v10), .second, .val (.long (v10 - v8)), .second, .val (.long zJ3_0), .second, .val (.long (own_after v8 x3 zJ3_0 v10)), .second, .unset, .unset] [(.int (1 : Int32))]))
          exact J5
        · refine Go.of (fun _ q => XS.ifNo X4.here hx rfl (hb hby at_73) rfl ((if0 _ _).trans (feq (mt (lw_eq (v10 - v8) (0 : Int64)).mp c73)).1) q) ?_
          show Go _ _ _ _ _ _ _ (T4.setTop (mkF m 76 #[.val (.long x1), .second, .val (.long x2), .second, .val (.long x3), .second, .val (.long x4), .second, .val (.long v8), .second, .val (.long v10), .second, .val (.long (v10 - v8)), .second, .val (.long zJ3_0), .second, .val (.long (own_after v8 x3 zJ3_0 v10)), .second, .unset, .unset] []))
          refine Go.of (fun _ q => XS.lload X4.here hx rfl (hb hby at_76) rfl q) ?_
          show Go _ _ _ _ _ _ _ (T4.setTop (mkF m 78 #[.val (.long x1), .second, .val (.long x2), .second, .val (.long x3), .second, .val (.long x4), .second, .val (.long v8), .second, .val (.long v10), .second, .val (.long (v10 - v8)), .second, .val (.long zJ3_0), .second, .val (.long (own_after v8 x3 zJ3_0 v10)), .second, .unset, .unset] [(.long x3)]))
          refine Go.of (fun _ q => XS.lconst X4.here hx rfl (hb hby at_78) q) ?_
          show Go _ _ _ _ _ _ _ (T4.setTop (mkF m 79 #[.val (.long x1), .second, .val (.long x2), .second, .val (.long x3), .second, .val (.long x4), .second, .val (.long v8), .second, .val (.long v10), .second, .val (.long (v10 - v8)), .second, .val (.long zJ3_0), .second, .val (.long (own_after v8 x3 zJ3_0 v10)), .second, .unset, .unset] [(.long (0 : Int64)), (.long x3)]))
          refine Go.of (fun _ q => XS.lcmp X4.here hx rfl (hb hby at_79) rfl q) ?_
          show Go _ _ _ _ _ _ _ (T4.setTop (mkF m 80 #[.val (.long x1), .second, .val (.long x2), .second, .val (.long x3), .second, .val (.long x4), .second, .val (.long v8), .second, .val (.long v10), .second, .val (.long (v10 - v8)), .second, .val (.long zJ3_0), .second, .val (.long (own_after v8 x3 zJ3_0 v10)), .second, .unset, .unset] [(.int (lcmpW x3 (0 : Int64)))]))
          by_cases c80 : x3 < (0 : Int64)
          · refine Go.of (fun _ q => XS.ifYes X4.here hx rfl (pc0 := 80) (pc' := 96) rfl (hb hby at_80) rfl ((if0 _ _).trans (tlt ((lw_lt x3 (0 : Int64)).mpr c80)).1) (by decide) (by decide) q) ?_
            show Go _ _ _ _ _ _ _ (T4.setTop (mkF m 96 #[.val (.long x1), .second, .val (.long x2), .second, .val (.long x3), .second, .val (.long x4), .second, .val (.long v8), .second, .val (.long v10), .second, .val (.long (v10 - v8)), .second, .val (.long zJ3_0), .second, .val (.long (own_after v8 x3 zJ3_0 v10)), .second, .unset, .unset] []))
            refine Go.of (fun _ q => XS.iconst X4.here hx rfl (hb hby at_96) q) ?_
            show Go _ _ _ _ _ _ _ (T4.setTop (mkF m 97 #[.val (.long x1), .second, .val (.long x2), .second, .val (.long x3), .second, .val (.long x4), .second, .val (.long v8), .second, .val (.long v10), .second, .val (.long (v10 - v8)), .second, .val (.long zJ3_0), .second, .val (.long (own_after v8 x3 zJ3_0 v10)), .second, .unset, .unset] [(.int (1 : Int32))]))
            refine Go.of (fun _ q => XS.goto X4.here hx rfl (pc0 := 97) (pc' := 101) rfl (hb hby at_97) (by decide) (by decide) q) ?_
            show Go _ _ _ _ _ _ _ (T4.setTop (mkF m 101 #[.val (.long x1), .second, .val (.long x2), .second, .val (.long x3), .second, .val (.long x4), .second, .val (.long v8), .second, .val (.long v10), .second, .val (.long (v10 - v8)), .second, .val (.long zJ3_0), .second, .val (.long (own_after v8 x3 zJ3_0 v10)), .second, .unset, .unset] [(.int (1 : Int32))]))
            exact J5
          · refine Go.of (fun _ q => XS.ifNo X4.here hx rfl (hb hby at_80) rfl ((if0 _ _).trans (flt (mt (lw_lt x3 (0 : Int64)).mp c80)).1) q) ?_
            show Go _ _ _ _ _ _ _ (T4.setTop (mkF m 83 #[.val (.long x1), .second, .val (.long x2), .second, .val (.long x3), .second, .val (.long x4), .second, .val (.long v8), .second, .val (.long v10), .second, .val (.long (v10 - v8)), .second, .val (.long zJ3_0), .second, .val (.long (own_after v8 x3 zJ3_0 v10)), .second, .unset, .unset] []))
            refine Go.of (fun _ q => XS.lload X4.here hx rfl (hb hby at_83) rfl q) ?_
            show Go _ _ _ _ _ _ _ (T4.setTop (mkF m 85 #[.val (.long x1), .second, .val (.long x2), .second, .val (.long x3), .second, .val (.long x4), .second, .val (.long v8), .second, .val (.long v10), .second, .val (.long (v10 - v8)), .second, .val (.long zJ3_0), .second, .val (.long (own_after v8 x3 zJ3_0 v10)), .second, .unset, .unset] [(.long x3)]))
            refine Go.of (fun _ q => XS.lload X4.here hx rfl (hb hby at_85) rfl q) ?_
            show Go _ _ _ _ _ _ _ (T4.setTop (mkF m 87 #[.val (.long x1), .second, .val (.long x2), .second, .val (.long x3), .second, .val (.long x4), .second, .val (.long v8), .second, .val (.long v10), .second, .val (.long (v10 - v8)), .second, .val (.long zJ3_0), .second, .val (.long (own_after v8 x3 zJ3_0 v10)), .second, .unset, .unset] [(.long (v10 - v8)), (.long x3)]))
            refine Go.of (fun _ q => XS.lconst X4.here hx rfl (hb hby at_87) q) ?_
            show Go _ _ _ _ _ _ _ (T4.setTop (mkF m 88 #[.val (.long x1), .second, .val (.long x2), .second, .val (.long x3), .second, .val (.long x4), .second, .val (.long v8), .second, .val (.long v10), .second, .val (.long (v10 - v8)), .second, .val (.long zJ3_0), .second, .val (.long (own_after v8 x3 zJ3_0 v10)), .second, .unset, .unset] [(.long (1 : Int64)), (.long (v10 - v8)), (.long x3)]))
            refine Go.of (fun _ q => XS.lsub X4.here hx rfl (hb hby at_88) rfl q) ?_
            show Go _ _ _ _ _ _ _ (T4.setTop (mkF m 89 #[.val (.long x1), .second, .val (.long x2), .second, .val (.long x3), .second, .val (.long x4), .second, .val (.long v8), .second, .val (.long v10), .second, .val (.long (v10 - v8)), .second, .val (.long zJ3_0), .second, .val (.long (own_after v8 x3 zJ3_0 v10)), .second, .unset, .unset] [(.long ((v10 - v8) - (1 : Int64))), (.long x3)]))
            refine Go.of (fun _ q => XS.lload X4.here hx rfl (hb hby at_89) rfl q) ?_
            show Go _ _ _ _ _ _ _ (T4.setTop (mkF m 91 #[.val (.long x1), .second, .val (.long x2), .second, .val (.long x3), .second, .val (.long x4), .second, .val (.long v8), .second, .val (.long v10), .second, .val (.long (v10 - v8)), .second, .val (.long zJ3_0), .second, .val (.long (own_after v8 x3 zJ3_0 v10)), .second, .unset, .unset] [(.long zJ3_0), (.long ((v10 - v8) - (1 : Int64))), (.long x3)]))
            refine Go.of (fun _ q => XS.ldiv X4.here hx rfl (hb hby at_91) rfl (own_pnz _ _ hzJ3_0) q) ?_
            show Go _ _ _ _ _ _ _ (T4.setTop (mkF m 92 #[.val (.long x1), .second, .val (.long x2), .second, .val (.long x3), .second, .val (.long x4), .second, .val (.long v8), .second, .val (.long v10), .second, .val (.long (v10 - v8)), .second, .val (.long zJ3_0), .second, .val (.long (own_after v8 x3 zJ3_0 v10)), .second, .unset, .unset] [(.long (((v10 - v8) - (1 : Int64)) / zJ3_0)), (.long x3)]))
            refine Go.of (fun _ q => XS.lcmp X4.here hx rfl (hb hby at_92) rfl q) ?_
            show Go _ _ _ _ _ _ _ (T4.setTop (mkF m 93 #[.val (.long x1), .second, .val (.long x2), .second, .val (.long x3), .second, .val (.long x4), .second, .val (.long v8), .second, .val (.long v10), .second, .val (.long (v10 - v8)), .second, .val (.long zJ3_0), .second, .val (.long (own_after v8 x3 zJ3_0 v10)), .second, .unset, .unset] [(.int (lcmpW x3 (((v10 - v8) - (1 : Int64)) / zJ3_0)))]))
            refine Go.of (fun _ q => XS.ifNo X4.here hx rfl (hb hby at_93) rfl ((if0 _ _).trans (tlt ((lw_gt x3 (((v10 - v8) - (1 : Int64)) / zJ3_0)).mpr (own_full v8 x3 zJ3_0 v10 (own_pn1 _ _ hzJ3_0) (own_mm _ _ _ _ hv8 hv10) c25 c66 c73 c80))).2.2.2) q) ?_
            show Go _ _ _ _ _ _ _ (T4.setTop (mkF m 96 #[.val (.long x1), .second, .val (.long x2), .second, .val (.long x3), .second, .val (.long x4), .second, .val (.long v8), .second, .val (.long v10), .second, .val (.long (v10 - v8)), .second, .val (.long zJ3_0), .second, .val (.long (own_after v8 x3 zJ3_0 v10)), .second, .unset, .unset] []))
            refine Go.of (fun _ q => XS.iconst X4.here hx rfl (hb hby at_96) q) ?_
            show Go _ _ _ _ _ _ _ (T4.setTop (mkF m 97 #[.val (.long x1), .second, .val (.long x2), .second, .val (.long x3), .second, .val (.long x4), .second, .val (.long v8), .second, .val (.long v10), .second, .val (.long (v10 - v8)), .second, .val (.long zJ3_0), .second, .val (.long (own_after v8 x3 zJ3_0 v10)), .second, .unset, .unset] [(.int (1 : Int32))]))
            refine Go.of (fun _ q => XS.goto X4.here hx rfl (pc0 := 97) (pc' := 101) rfl (hb hby at_97) (by decide) (by decide) q) ?_
            show Go _ _ _ _ _ _ _ (T4.setTop (mkF m 101 #[.val (.long x1), .second, .val (.long x2), .second, .val (.long x3), .second, .val (.long x4), .second, .val (.long v8), .second, .val (.long v10), .second, .val (.long (v10 - v8)), .second, .val (.long zJ3_0), .second, .val (.long (own_after v8 x3 zJ3_0 v10)), .second, .unset, .unset] [(.int (1 : Int32))]))
            exact J5
      · refine Go.of (fun _ q => XS.ifYes X4.here hx rfl (pc0 := 66) (pc' := 102) rfl (hb hby at_66) rfl ((if0 _ _).trans (feq (mt (lw_eq (own_after v8 x3 zJ3_0 v10) v10).mp c66)).2) (by decide) (by decide) q) ?_
        show Go _ _ _ _ _ _ _ (T4.setTop (mkF m 102 #[.val (.long x1), .second, .val (.long x2), .second, .val (.long x3), .second, .val (.long x4), .second, .val (.long v8), .second, .val (.long v10), .second, .val (.long (v10 - v8)), .second, .val (.long zJ3_0), .second, .val (.long (own_after v8 x3 zJ3_0 v10)), .second, .unset, .unset] []))
        refine Go.of (fun _ q => XS.lload X4.here hx rfl (hb hby at_102) rfl q) ?_
        show Go _ _ _ _ _ _ _ (T4.setTop (mkF m 104 #[.val (.long x1), .second, .val (.long x2), .second, .val (.long x3), .second, .val (.long x4), .second, .val (.long v8), .second, .val (.long v10), .second, .val (.long (v10 - v8)), .second, .val (.long zJ3_0), .second, .val (.long (own_after v8 x3 zJ3_0 v10)), .second, .unset, .unset] [(.long (own_after v8 x3 zJ3_0 v10))]))
        refine Go.of (fun _ q => XS.lload X4.here hx rfl (hb hby at_104) rfl q) ?_
        show Go _ _ _ _ _ _ _ (T4.setTop (mkF m 106 #[.val (.long x1), .second, .val (.long x2), .second, .val (.long x3), .second, .val (.long x4), .second, .val (.long v8), .second, .val (.long v10), .second, .val (.long (v10 - v8)), .second, .val (.long zJ3_0), .second, .val (.long (own_after v8 x3 zJ3_0 v10)), .second, .unset, .unset] [(.long v8), (.long (own_after v8 x3 zJ3_0 v10))]))
        refine Go.of (fun _ q => XS.lcmp X4.here hx rfl (hb hby at_106) rfl q) ?_
        show Go _ _ _ _ _ _ _ (T4.setTop (mkF m 107 #[.val (.long x1), .second, .val (.long x2), .second, .val (.long x3), .second, .val (.long x4), .second, .val (.long v8), .second, .val (.long v10), .second, .val (.long (v10 - v8)), .second, .val (.long zJ3_0), .second, .val (.long (own_after v8 x3 zJ3_0 v10)), .second, .unset, .unset] [(.int (lcmpW (own_after v8 x3 zJ3_0 v10) v8))]))
        refine Go.of (fun _ q => XS.ifNo X4.here hx rfl (hb hby at_107) rfl ((if0 _ _).trans (flt (mt (lw_lt (own_after v8 x3 zJ3_0 v10) v8).mp (own_part v8 x3 zJ3_0 v10 (own_pn1 _ _ hzJ3_0) (own_mm _ _ _ _ hv8 hv10) c25 c66).1)).1) q) ?_
        show Go _ _ _ _ _ _ _ (T4.setTop (mkF m 110 #[.val (.long x1), .second, .val (.long x2), .second, .val (.long x3), .second, .val (.long x4), .second, .val (.long v8), .second, .val (.long v10), .second, .val (.long (v10 - v8)), .second, .val (.long zJ3_0), .second, .val (.long (own_after v8 x3 zJ3_0 v10)), .second, .unset, .unset] []))
        refine Go.of (fun _ q => XS.lload X4.here hx rfl (hb hby at_110) rfl q) ?_
        show Go _ _ _ _ _ _ _ (T4.setTop (mkF m 112 #[.val (.long x1), .second, .val (.long x2), .second, .val (.long x3), .second, .val (.long x4), .second, .val (.long v8), .second, .val (.long v10), .second, .val (.long (v10 - v8)), .second, .val (.long zJ3_0), .second, .val (.long (own_after v8 x3 zJ3_0 v10)), .second, .unset, .unset] [(.long (own_after v8 x3 zJ3_0 v10))]))
        refine Go.of (fun _ q => XS.lload X4.here hx rfl (hb hby at_112) rfl q) ?_
        show Go _ _ _ _ _ _ _ (T4.setTop (mkF m 114 #[.val (.long x1), .second, .val (.long x2), .second, .val (.long x3), .second, .val (.long x4), .second, .val (.long v8), .second, .val (.long v10), .second, .val (.long (v10 - v8)), .second, .val (.long zJ3_0), .second, .val (.long (own_after v8 x3 zJ3_0 v10)), .second, .unset, .unset] [(.long v10), (.long (own_after v8 x3 zJ3_0 v10))]))
        refine Go.of (fun _ q => XS.lcmp X4.here hx rfl (hb hby at_114) rfl q) ?_
        show Go _ _ _ _ _ _ _ (T4.setTop (mkF m 115 #[.val (.long x1), .second, .val (.long x2), .second, .val (.long x3), .second, .val (.long x4), .second, .val (.long v8), .second, .val (.long v10), .second, .val (.long (v10 - v8)), .second, .val (.long zJ3_0), .second, .val (.long (own_after v8 x3 zJ3_0 v10)), .second, .unset, .unset] [(.int (lcmpW (own_after v8 x3 zJ3_0 v10) v10))]))
        refine Go.of (fun _ q => XS.ifYes X4.here hx rfl (pc0 := 115) (pc' := 120) rfl (hb hby at_115) rfl ((if0 _ _).trans (tlt ((lw_lt (own_after v8 x3 zJ3_0 v10) v10).mpr (own_part v8 x3 zJ3_0 v10 (own_pn1 _ _ hzJ3_0) (own_mm _ _ _ _ hv8 hv10) c25 c66).2.1)).1) (by decide) (by decide) q) ?_
        show Go _ _ _ _ _ _ _ (T4.setTop (mkF m 120 #[.val (.long x1), .second, .val (.long x2), .second, .val (.long x3), .second, .val (.long x4), .second, .val (.long v8), .second, .val (.long v10), .second, .val (.long (v10 - v8)), .second, .val (.long zJ3_0), .second, .val (.long (own_after v8 x3 zJ3_0 v10)), .second, .unset, .unset] []))
        refine Go.of (fun _ q => XS.lload X4.here hx rfl (hb hby at_120) rfl q) ?_
        show Go _ _ _ _ _ _ _ (T4.setTop (mkF m 122 #[.val (.long x1), .second, .val (.long x2), .second, .val (.long x3), .second, .val (.long x4), .second, .val (.long v8), .second, .val (.long v10), .second, .val (.long (v10 - v8)), .second, .val (.long zJ3_0), .second, .val (.long (own_after v8 x3 zJ3_0 v10)), .second, .unset, .unset] [(.long (own_after v8 x3 zJ3_0 v10))]))
        refine Go.of (fun _ q => XS.lload X4.here hx rfl (hb hby at_122) rfl q) ?_
        show Go _ _ _ _ _ _ _ (T4.setTop (mkF m 124 #[.val (.long x1), .second, .val (.long x2), .second, .val (.long x3), .second, .val (.long x4), .second, .val (.long v8), .second, .val (.long v10), .second, .val (.long (v10 - v8)), .second, .val (.long zJ3_0), .second, .val (.long (own_after v8 x3 zJ3_0 v10)), .second, .unset, .unset] [(.long v8), (.long (own_after v8 x3 zJ3_0 v10))]))
        refine Go.of (fun _ q => XS.lsub X4.here hx rfl (hb hby at_124) rfl q) ?_
        show Go _ _ _ _ _ _ _ (T4.setTop (mkF m 125 #[.val (.long x1), .second, .val (.long x2), .second, .val (.long x3), .second, .val (.long x4), .second, .val (.long v8), .second, .val (.long v10), .second, .val (.long (v10 - v8)), .second, .val (.long zJ3_0), .second, .val (.long (own_after v8 x3 zJ3_0 v10)), .second, .unset, .unset] [(.long ((own_after v8 x3 zJ3_0 v10) - v8))]))
        refine Go.of (fun _ q => XS.lstore X4.here hx rfl (hb hby at_125) rfl (l' := #[.val (.long x1), .second, .val (.long x2), .second, .val (.long x3), .second, .val (.long x4), .second, .val (.long v8), .second, .val (.long v10), .second, .val (.long (v10 - v8)), .second, .val (.long zJ3_0), .second, .val (.long (own_after v8 x3 zJ3_0 v10)), .second, .val (.long ((own_after v8 x3 zJ3_0 v10) - v8)), .second]) rfl q) ?_
        show Go _ _ _ _ _ _ _ (T4.setTop (mkF m 127 #[.val (.long x1), .second, .val (.long x2), .second, .val (.long x3), .second, .val (.long x4), .second, .val (.long v8), .second, .val (.long v10), .second, .val (.long (v10 - v8)), .second, .val (.long zJ3_0), .second, .val (.long (own_after v8 x3 zJ3_0 v10)), .second, .val (.long ((own_after v8 x3 zJ3_0 v10) - v8)), .second] []))
        refine Go.of (fun _ q => XS.lload X4.here hx rfl (hb hby at_127) rfl q) ?_
        show Go _ _ _ _ _ _ _ (T4.setTop (mkF m 129 #[.val (.long x1), .second, .val (.long x2), .second, .val (.long x3), .second, .val (.long x4), .second, .val (.long v8), .second, .val (.long v10), .second, .val (.long (v10 - v8)), .second, .val (.long zJ3_0), .second, .val (.long (own_after v8 x3 zJ3_0 v10)), .second, .val (.long ((own_after v8 x3 zJ3_0 v10) - v8)), .second] [(.long ((own_after v8 x3 zJ3_0 v10) - v8))]))
        refine Go.of (fun _ q => XS.lload X4.here hx rfl (hb hby at_129) rfl q) ?_
        show Go _ _ _ _ _ _ _ (T4.setTop (mkF m 131 #[.val (.long x1), .second, .val (.long x2), .second, .val (.long x3), .second, .val (.long x4), .second, .val (.long v8), .second, .val (.long v10), .second, .val (.long (v10 - v8)), .second, .val (.long zJ3_0), .second, .val (.long (own_after v8 x3 zJ3_0 v10)), .second, .val (.long ((own_after v8 x3 zJ3_0 v10) - v8)), .second] [(.long zJ3_0), (.long ((own_after v8 x3 zJ3_0 v10) - v8))]))
        refine Go.of (fun _ q => XS.lrem X4.here hx rfl (hb hby at_131) rfl (own_pnz _ _ hzJ3_0) q) ?_
        show Go _ _ _ _ _ _ _ (T4.setTop (mkF m 132 #[.val (.long x1), .second, .val (.long x2), .second, .val (.long x3), .second, .val (.long x4), .second, .val (.long v8), .second, .val (.long v10), .second, .val (.long (v10 - v8)), .second, .val (.long zJ3_0), .second, .val (.long (own_after v8 x3 zJ3_0 v10)), .second, .val (.long ((own_after v8 x3 zJ3_0 v10) - v8)), .second] [(.long (((own_after v8 x3 zJ3_0 v10) - v8) - ((((own_after v8 x3 zJ3_0 v10) - v8) / zJ3_0) * zJ3_0)))]))
        refine Go.of (fun _ q => XS.lconst X4.here hx rfl (hb hby at_132) q) ?_
        show Go _ _ _ _ _ _ _ (T4.setTop (mkF m 133 #[.val (.long x1), .second, .val (.long x2), .second, .val (.long x3), .second, .val (.long x4), .second, .val (.long v8), .second, .val (.long v10), .second, .val (.long (v10 - v8)), .second, .val (.long zJ3_0), .second, .val (.long (own_after v8 x3 zJ3_0 v10)), .second, .val (.long ((own_after v8 x3 zJ3_0 v10) - v8)), .second] [(.long (0 : Int64)), (.long (((own_after v8 x3 zJ3_0 v10) - v8) - ((((own_after v8 x3 zJ3_0 v10) - v8) / zJ3_0) * zJ3_0)))]))
        refine Go.of (fun _ q => XS.lcmp X4.here hx rfl (hb hby at_133) rfl q) ?_
        show Go _ _ _ _ _ _ _ (T4.setTop (mkF m 134 #[.val (.long x1), .second, .val (.long x2), .second, .val (.long x3), .second, .val (.long x4), .second, .val (.long v8), .second, .val (.long v10), .second, .val (.long (v10 - v8)), .second, .val (.long zJ3_0), .second, .val (.long (own_after v8 x3 zJ3_0 v10)), .second, .val (.long ((own_after v8 x3 zJ3_0 v10) - v8)), .second] [(.int (lcmpW (((own_after v8 x3 zJ3_0 v10) - v8) - ((((own_after v8 x3 zJ3_0 v10) - v8) / zJ3_0) * zJ3_0)) (0 : Int64)))]))
        refine Go.of (fun _ q => XS.ifNo X4.here hx rfl (hb hby at_134) rfl ((if0 _ _).trans (teq ((lw_eq (((own_after v8 x3 zJ3_0 v10) - v8) - ((((own_after v8 x3 zJ3_0 v10) - v8) / zJ3_0) * zJ3_0)) (0 : Int64)).mpr (own_part v8 x3 zJ3_0 v10 (own_pn1 _ _ hzJ3_0) (own_mm _ _ _ _ hv8 hv10) c25 c66).2.2.1)).2) q) ?_
        show Go _ _ _ _ _ _ _ (T4.setTop (mkF m 137 #[.val (.long x1), .second, .val (.long x2), .second, .val (.long x3), .second, .val (.long x4), .second, .val (.long v8), .second, .val (.long v10), .second, .val (.long (v10 - v8)), .second, .val (.long zJ3_0), .second, .val (.long (own_after v8 x3 zJ3_0 v10)), .second, .val (.long ((own_after v8 x3 zJ3_0 v10) - v8)), .second] []))
        refine Go.of (fun _ q => XS.lload X4.here hx rfl (hb hby at_137) rfl q) ?_
        show Go _ _ _ _ _ _ _ (T4.setTop (mkF m 139 #[.val (.long x1), .second, .val (.long x2), .second, .val (.long x3), .second, .val (.long x4), .second, .val (.long v8), .second, .val (.long v10), .second, .val (.long (v10 - v8)), .second, .val (.long zJ3_0), .second, .val (.long (own_after v8 x3 zJ3_0 v10)), .second, .val (.long ((own_after v8 x3 zJ3_0 v10) - v8)), .second] [(.long ((own_after v8 x3 zJ3_0 v10) - v8))]))
        refine Go.of (fun _ q => XS.lload X4.here hx rfl (hb hby at_139) rfl q) ?_
        show Go _ _ _ _ _ _ _ (T4.setTop (mkF m 141 #[.val (.long x1), .second, .val (.long x2), .second, .val (.long x3), .second, .val (.long x4), .second, .val (.long v8), .second, .val (.long v10), .second, .val (.long (v10 - v8)), .second, .val (.long zJ3_0), .second, .val (.long (own_after v8 x3 zJ3_0 v10)), .second, .val (.long ((own_after v8 x3 zJ3_0 v10) - v8)), .second] [(.long zJ3_0), (.long ((own_after v8 x3 zJ3_0 v10) - v8))]))
        refine Go.of (fun _ q => XS.ldiv X4.here hx rfl (hb hby at_141) rfl (own_pnz _ _ hzJ3_0) q) ?_
        show Go _ _ _ _ _ _ _ (T4.setTop (mkF m 142 #[.val (.long x1), .second, .val (.long x2), .second, .val (.long x3), .second, .val (.long x4), .second, .val (.long v8), .second, .val (.long v10), .second, .val (.long (v10 - v8)), .second, .val (.long zJ3_0), .second, .val (.long (own_after v8 x3 zJ3_0 v10)), .second, .val (.long ((own_after v8 x3 zJ3_0 v10) - v8)), .second] [(.long (((own_after v8 x3 zJ3_0 v10) - v8) / zJ3_0))]))
        refine Go.of (fun _ q => XS.lload X4.here hx rfl (hb hby at_142) rfl q) ?_
        show Go _ _ _ _ _ _ _ (T4.setTop (mkF m 144 #[.val (.long x1), .second, .val (.long x2), .second, .val (.long x3), .second, .val (.long x4), .second, .val (.long v8), .second, .val (.long v10), .second, .val (.long (v10 - v8)), .second, .val (.long zJ3_0), .second, .val (.long (own_after v8 x3 zJ3_0 v10)), .second, .val (.long ((own_after v8 x3 zJ3_0 v10) - v8)), .second] [(.long x3), (.long (((own_after v8 x3 zJ3_0 v10) - v8) / zJ3_0))]))
        refine Go.of (fun _ q => XS.lcmp X4.here hx rfl (hb hby at_144) rfl q) ?_
        show Go _ _ _ _ _ _ _ (T4.setTop (mkF m 145 #[.val (.long x1), .second, .val (.long x2), .second, .val (.long x3), .second, .val (.long x4), .second, .val (.long v8), .second, .val (.long v10), .second, .val (.long (v10 - v8)), .second, .val (.long zJ3_0), .second, .val (.long (own_after v8 x3 zJ3_0 v10)), .second, .val (.long ((own_after v8 x3 zJ3_0 v10) - v8)), .second] [(.int (lcmpW (((own_after v8 x3 zJ3_0 v10) - v8) / zJ3_0) x3))]))
        refine Go.of (fun _ q => XS.ifNo X4.here hx rfl (hb hby at_145) rfl ((if0 _ _).trans (teq ((lw_eq (((own_after v8 x3 zJ3_0 v10) - v8) / zJ3_0) x3).mpr (own_part v8 x3 zJ3_0 v10 (own_pn1 _ _ hzJ3_0) (own_mm _ _ _ _ hv8 hv10) c25 c66).2.2.2)).2) q) ?_
        show Go _ _ _ _ _ _ _ (T4.setTop (mkF m 148 #[.val (.long x1), .second, .val (.long x2), .second, .val (.long x3), .second, .val (.long x4), .second, .val (.long v8), .second, .val (.long v10), .second, .val (.long (v10 - v8)), .second, .val (.long zJ3_0), .second, .val (.long (own_after v8 x3 zJ3_0 v10)), .second, .val (.long ((own_after v8 x3 zJ3_0 v10) - v8)), .second] []))
        refine Go.of (fun _ q => XS.iconst X4.here hx rfl (hb hby at_148) q) ?_
        show Go _ _ _ _ _ _ _ (T4.setTop (mkF m 149 #[.val (.long x1), .second, .val (.long x2), .second, .val (.long x3), .second, .val (.long x4), .second, .val (.long v8), .second, .val (.long v10), .second, .val (.long (v10 - v8)), .second, .val (.long zJ3_0), .second, .val (.long (own_after v8 x3 zJ3_0 v10)), .second, .val (.long ((own_after v8 x3 zJ3_0 v10) - v8)), .second] [(.int (1 : Int32))]))
        refine Go.of (fun _ q => XS.goto X4.here hx rfl (pc0 := 149) (pc' := 153) rfl (hb hby at_149) (by decide) (by decide) q) ?_
        show Go _ _ _ _ _ _ _ (T4.setTop (mkF m 153 #[.val (.long x1), .second, .val (.long x2), .second, .val (.long x3), .second, .val (.long x4), .second, .val (.long v8), .second, .val (.long v10), .second, .val (.long (v10 - v8)), .second, .val (.long zJ3_0), .second, .val (.long (own_after v8 x3 zJ3_0 v10)), .second, .val (.long ((own_after v8 x3 zJ3_0 v10) - v8)), .second] [(.int (1 : Int32))]))
        refine Go.retN X4 hx hlk (t := .boolean) hret (by simp) (hb hby at_153) rfl (by decide) (by decide) ?_
        rw [e4]
        exact ⟨rfl, N4⟩
    by_cases c42 : (x4 &&& (9223372036854775807 : Int64)) = (0 : Int64)
    · refine Go.of (fun _ q => XS.ifNo X2.here hx rfl (hb hby at_42) rfl ((if0 _ _).trans (teq ((lw_eq (x4 &&& (9223372036854775807 : Int64)) (0 : Int64)).mpr c42)).2) q) ?_
      show Go _ _ _ _ _ _ _ (T2.setTop (mkF m 45 #[.val (.long x1), .second, .val (.long x2), .second, .val (.long x3), .second, .val (.long x4), .second, .val (.long v8), .second, .val (.long v10), .second, .val (.long (v10 - v8)), .second, .val (.long (x4 &&& (9223372036854775807 : Int64))), .second, .unset, .unset, .unset, .unset] []))
      refine Go.of (fun _ q => XS.lconst X2.here hx rfl (hb hby at_45) q) ?_
      show Go _ _ _ _ _ _ _ (T2.setTop (mkF m 46 #[.val (.long x1), .second, .val (.long x2), .second, .val (.long x3), .second, .val (.long x4), .second, .val (.long v8), .second, .val (.long v10), .second, .val (.long (v10 - v8)), .second, .val (.long (x4 &&& (9223372036854775807 : Int64))), .second, .unset, .unset, .unset, .unset] [(.long (1 : Int64))]))
      refine Go.of (fun _ q => XS.lstore X2.here hx rfl (hb hby at_46) rfl (l' := #[.val (.long x1), .second, .val (.long x2), .second, .val (.long x3), .second, .val (.long x4), .second, .val (.long v8), .second, .val (.long v10), .second, .val (.long (v10 - v8)), .second, .val (.long (1 : Int64)), .second, .unset, .unset, .unset, .unset]) rfl q) ?_
      show Go _ _ _ _ _ _ _ (T2.setTop (mkF m 48 #[.val (.long x1), .second, .val (.long x2), .second, .val (.long x3), .second, .val (.long x4), .second, .val (.long v8), .second, .val (.long v10), .second, .val (.long (v10 - v8)), .second, .val (.long (1 : Int64)), .second, .unset, .unset, .unset, .unset] []))
      exact J3 _ (by rw [if_pos c42])
    · refine Go.of (fun _ q => XS.ifYes X2.here hx rfl (pc0 := 42) (pc' := 48) rfl (hb hby at_42) rfl ((if0 _ _).trans (feq (mt (lw_eq (x4 &&& (9223372036854775807 : Int64)) (0 : Int64)).mp c42)).2) (by decide) (by decide) q) ?_
      show Go _ _ _ _ _ _ _ (T2.setTop (mkF m 48 #[.val (.long x1), .second, .val (.long x2), .second, .val (.long x3), .second, .val (.long x4), .second, .val (.long v8), .second, .val (.long v10), .second, .val (.long (v10 - v8)), .second, .val (.long (x4 &&& (9223372036854775807 : Int64))), .second, .unset, .unset, .unset, .unset] []))
      exact J3 _ (by rw [if_neg c42])
set_option maxRecDepth 65536 in
set_option maxHeartbeats 40000000 in
theorem comes_1 {Post : Tables → Env → Array Value → State → Outcome → State → Prop} (hpost : ∀ tb e args s v u, (limb_1_1.after args s (.returned v) u = true ∧ limb_1_2.after args s (.returned v) u = true ∧ True) → FrameEnd s (.returned v) u (Jvm.fieldLocs frame_1_writes args s ++ Jvm.arrayLocs frame_1_arrays args s ++ Jvm.staticLocs frame_1_statics s) 0 0 → Post tb e args s (.returned v) u) :
    ArmFor flags0 classFile x code maxLocals ret World_1 tables_1 room_1 Calls_1 rest_1 Pre_1 Post := by
  intro l hfl _ _ p e ha hc hk s m args below hf hA hF happ hP
  obtain ⟨hcalls, hrest, hpre⟩ := hP
  obtain ⟨-, -, -, hnamed, -, -, -, hat⟩ := (Spec.applies_iff hf).mp happ
  obtain ⟨hg, hn⟩ := and_e (Cond.before_iff.mp (show (Jvm.Cond.and given_1 narrow_1).before args s = true from hpre))
  obtain ⟨g1, g2⟩ := and_e hg
  obtain ⟨g3, g4⟩ := and_e g2
  obtain ⟨g5, g6⟩ := and_e g4
  obtain ⟨g7, g8⟩ := and_e g6
  obtain ⟨w0, w1, w2, w3, rfl⟩ : ∃ w0 w1 w2 w3 : Value, args = #[w0, w1, w2, w3] := by
    have hs : args.size = 4 := by simpa [Cond.value, given_1] using g1
    obtain ⟨L⟩ := args
    match L, hs with
    | [w0, w1, w2, w3], _ => exact ⟨w0, w1, w2, w3, rfl⟩
  have hw := fun d (hd : d ∈ tables_1) => atoms_spec (ws := Jvm.Cond.code x code maxLocals ret :: tables_1) hat d (List.mem_cons_of_mem _ hd)
  have hfit : Fit s := fun {y c} hc i hi => by
    obtain ⟨ha, rfl⟩ := Array.getElem?_eq_some_iff.mp hc
    have q := List.all_eq_true.mp ((Array.all_eq_true_iff_forall_mem.mp hF) _ (Array.getElem_mem ha)) i (List.mem_range.mpr hi)
    simpa [Array.getElem?_eq_getElem hi] using q
  obtain ⟨i0, ei0⟩ := isL_v g3
  obtain rfl : w0 = (.long i0) := Option.some.inj ei0
  obtain ⟨i1, ei1⟩ := isL_v g5
  obtain rfl : w1 = (.long i1) := Option.some.inj ei1
  obtain ⟨i2, ei2⟩ := isL_v g7
  obtain rfl : w2 = (.long i2) := Option.some.inj ei2
  obtain ⟨i3, ei3⟩ := isL_v g8
  obtain rfl : w3 = (.long i3) := Option.some.inj ei3
  obtain ⟨n, o, h1, h2, h3, _, L, rfl, ⟨rfl, N⟩, hq⟩ := rm0 l s _ hw i0 i1 i2 i3 s.heap s.heap.size (Nat.le_refl _)  tables_1 p e ha hc hk s m _ below hf ((Spec.applies_iff_loose hf).mp happ).1 ⟨rfl, State.Warmed39.refl s, rfl⟩ trivial
  refine ⟨n, _, h1, h2, h3, hpost _ _ _ _ _ _ ⟨Cond.after_iff.mpr rfl, Cond.after_iff.mpr (eq_i res_at (Term.int_eval (1)) rfl), trivial⟩ ⟨hq.1, hq.2.1, (hq.2.2.sift fun y hy => Or.inr (N y hy)).mono (by decide) (by decide)⟩⟩
theorem main_1_1 : Claimed_1_1 := comes_1 fun _ _ _ _ _ _ h hF => ⟨h.1, hF⟩
theorem main_1_2 : Claimed_1_2 := comes_1 fun _ _ _ _ _ _ h hF => ⟨h.2.1, hF⟩
end Jvm.Pilot.@@N@@
namespace Jvm.Pilot.@@N@@
open Jvm Jvm.ClassFile Sem Op Lib Jvm.Free Jvm.Stand Jvm.Pilot.@@N@@.Jvm.D
/-! MADE BY PROGRAM (witnessworld.py) out of the Statement's table words and the real class files: 15 classes; the members and pool entries that the words name. The judged class is class 1, her method 1. -/
namespace start1
open Jvm.ClassFile
def u (s : String) : CpInfo := .utf8 (stringToUtf16 s)
/-- a pool by its gaps: so many unusable entries, then the entry; so many at the end -/
def gap : Nat → List CpInfo → List CpInfo
  | 0, r => r
  | n + 1, r => .unusable :: gap n r
def poolList (es : List (Nat × CpInfo)) (last : Nat) : List CpInfo := es.foldr (fun e r => gap e.1 (e.2 :: r)) (gap last [])
def pool (es : List (Nat × CpInfo)) (last : Nat) : Array CpInfo := ⟨poolList es last⟩
def fileOf (pool : Array CpInfo) (this : Nat) (attrs : Array Attribute := #[]) (ms : Array MethodInfo := #[]) (fl : Nat := 33) (sup : Nat := 0) (ifs : Array Nat := #[]) (fds : Array FieldInfo := #[]) : ClassFile where
  minorVersion := 0
  majorVersion := 65
  constantPool := pool
  accessFlags := fl
  thisClass := this
  superClass := sup
  interfaces := ifs
  fields := fds
  methods := ms
  attributes := attrs
def plain (name : String) (sup : Option ClassId) : Class where
  name := name
  kind := .ordinary
  loader := none
  accessFlags := 33
  super := sup
  interfaces := #[]
  cf := none
  fields := #[]
  methods := #[]
  instanceTypes := #[]
  staticTypes := #[]
  resolved := #[]
  callSites := []
  init := .initialized
  statics := none
  mirror := none

def pool0 : Array CpInfo := pool [(5, u "<init>"), (0, u "()V"), (1, .class_ 10), (1, u "java/lang/Object")] 113

def k0m0 : Method := { name := "<init>", desc := "()V", sig := { parameters := [], returnType := none }, accessFlags := 1, code := none }
/-- java/lang/Object -/
def k0 : Class := { plain "java/lang/Object" none with
  accessFlags := 33
  interfaces := #[]
  cf := some (fileOf pool0 8 #[] #[{ accessFlags := 1, nameIndex := 5, descriptorIndex := 6, attributes := #[] }] 33 0 #[] #[])
  fields := #[]
  methods := #[k0m0]
  instanceTypes := #[]
  staticTypes := #[]
  resolved := Array.replicate 124 none
  statics := none }

def pool1 : Array CpInfo := pool [(2, .class_ 4), (1, u "java/lang/Object"), (0, u "<init>"), (0, u "()V"), (0, .methodref 8 9), (0, .class_ 10), (0, .nameAndType 11 12), (0, u "java/lang/Math"), (0, u "min"), (0, u "(JJ)J"), (0, .methodref 8 14), (0, .nameAndType 15 12), (0, u "max"), (2, .long 9223372036854775807), (1, .methodref 21 22), (0, .class_ 23), (0, .nameAndType 24 25), (0, u "com/example/steady_throttle/steadythrottle/Refill"), (0, u "after"), (0, u "(JJJJ)J"), (0, .class_ 27), (0, u "com/example/steady_throttle/steadythrottle/RefillAfterPinLaw"), (2, u "law"), (0, u "(JJJJ)Z")] 3

def k1m0 : Method := { name := "<init>", desc := "()V", sig := { parameters := [], returnType := none }, accessFlags := 2, code := none }
def k1c1 : Code := { maxStack := 8, maxLocals := 20, code := code, exceptionTable := #[], attributes := #[] }
def k1m1 : Method := { name := "law", desc := "(JJJJ)Z", sig := { parameters := [.long, .long, .long, .long], returnType := some .boolean }, accessFlags := 9, code := some k1c1 }
/-- com/example/steady_throttle/steadythrottle/RefillAfterPinLaw -/
def k1 : Class := { plain "com/example/steady_throttle/steadythrottle/RefillAfterPinLaw" (some 0) with
  accessFlags := 49
  interfaces := #[]
  cf := some (fileOf pool1 26 #[] #[{ accessFlags := 2, nameIndex := 5, descriptorIndex := 6, attributes := #[] }, { accessFlags := 9, nameIndex := 30, descriptorIndex := 31, attributes := #[] }] 49 2 #[] #[])
  fields := #[]
  methods := #[k1m0, k1m1]
  instanceTypes := #[]
  staticTypes := #[]
  resolved := Array.replicate 35 none
  statics := none }

def pool2 : Array CpInfo := pool [(1, .class_ 2), (0, u "java/lang/Math"), (1, .class_ 6), (1, u "java/lang/Object"), (0, u "<init>"), (0, u "()V"), (89, .class_ 100), (1, u "java/lang/Math$RandomNumberGeneratorHolder"), (20, u "(JJ)J"), (50, u "negativeZeroFloatBits"), (0, u "J"), (2, u "negativeZeroDoubleBits"), (21, u "max"), (2, u "min"), (43, u "$assertionsDisabled"), (0, u "Z"), (91, u "twoToTheDoubleScaleDown"), (0, u "D"), (4, u "twoToTheDoubleScaleUp"), (9, u "E"), (3, u "PI"), (2, u "TAU"), (2, u "DEGREES_TO_RADIANS"), (0, u "RADIANS_TO_DEGREES")] 94

def k2m0 : Method := { name := "<init>", desc := "()V", sig := { parameters := [], returnType := none }, accessFlags := 2, code := none }
def k2c1 : Code := { maxStack := 4, maxLocals := 4, code := jdk_29_method_66_code, exceptionTable := #[], attributes := #[] }
def k2m1 : Method := { name := "max", desc := "(JJ)J", sig := { parameters := [.long, .long], returnType := some .long }, accessFlags := 9, code := some k2c1 }
def k2c2 : Code := { maxStack := 4, maxLocals := 4, code := jdk_29_method_70_code, exceptionTable := #[], attributes := #[] }
def k2m2 : Method := { name := "min", desc := "(JJ)J", sig := { parameters := [.long, .long], returnType := some .long }, accessFlags := 9, code := some k2c2 }
/-- java/lang/Math -/
def k2 : Class := { plain "java/lang/Math" (some 0) with
  accessFlags := 49
  interfaces := #[]
  cf := some (fileOf pool2 1 #[.nestMembers #[98]] #[{ accessFlags := 2, nameIndex := 7, descriptorIndex := 8, attributes := #[] }, { accessFlags := 9, nameIndex := 198, descriptorIndex := 121, attributes := #[] }, { accessFlags := 9, nameIndex := 201, descriptorIndex := 121, attributes := #[] }] 49 4 #[] #[{ accessFlags := 25, nameIndex := 354, descriptorIndex := 339, attributes := #[] }, { accessFlags := 25, nameIndex := 358, descriptorIndex := 339, attributes := #[] }, { accessFlags := 25, nameIndex := 361, descriptorIndex := 339, attributes := #[] }, { accessFlags := 26, nameIndex := 364, descriptorIndex := 339, attributes := #[] }, { accessFlags := 26, nameIndex := 365, descriptorIndex := 339, attributes := #[] }, { accessFlags := 26, nameIndex := 172, descriptorIndex := 173, attributes := #[] }, { accessFlags := 26, nameIndex := 176, descriptorIndex := 173, attributes := #[] }, { accessFlags := 8, nameIndex := 344, descriptorIndex := 339, attributes := #[] }, { accessFlags := 8, nameIndex := 338, descriptorIndex := 339, attributes := #[] }, { accessFlags := 4120, nameIndex := 245, descriptorIndex := 246, attributes := #[] }])
  fields := #[{ name := "E", type := .double, accessFlags := 25, slot := 0, constantValue := 0 }, { name := "PI", type := .double, accessFlags := 25, slot := 1, constantValue := 0 }, { name := "TAU", type := .double, accessFlags := 25, slot := 2, constantValue := 0 }, { name := "DEGREES_TO_RADIANS", type := .double, accessFlags := 26, slot := 3, constantValue := 0 }, { name := "RADIANS_TO_DEGREES", type := .double, accessFlags := 26, slot := 4, constantValue := 0 }, { name := "negativeZeroFloatBits", type := .long, accessFlags := 26, slot := 5, constantValue := 0 }, { name := "negativeZeroDoubleBits", type := .long, accessFlags := 26, slot := 6, constantValue := 0 }, { name := "twoToTheDoubleScaleUp", type := .double, accessFlags := 8, slot := 7, constantValue := 0 }, { name := "twoToTheDoubleScaleDown", type := .double, accessFlags := 8, slot := 8, constantValue := 0 }, { name := "$assertionsDisabled", type := .boolean, accessFlags := 4120, slot := 9, constantValue := 0 }]
  methods := #[k2m0, k2m1, k2m2]
  instanceTypes := #[]
  staticTypes := #[.double, .double, .double, .double, .double, .long, .long, .double, .double, .boolean]
  resolved := Array.replicate 460 none
  statics := none }

def pool3 : Array CpInfo := pool [(2, .class_ 4), (1, u "java/lang/Object"), (0, u "<init>"), (0, u "()V"), (0, .methodref 8 9), (0, .class_ 10), (0, .nameAndType 11 12), (0, u "java/lang/Long"), (0, u "compareUnsigned"), (0, u "(JJ)I"), (0, .class_ 14), (0, u "com/example/steady_throttle/steadythrottle/Refill"), (2, u "after"), (0, u "(JJJJ)J")] 3

def k3m0 : Method := { name := "<init>", desc := "()V", sig := { parameters := [], returnType := none }, accessFlags := 2, code := none }
def k3c1 : Code := { maxStack := 6, maxLocals := 12, code := prog_17_method_2_code, exceptionTable := #[], attributes := #[] }
def k3m1 : Method := { name := "after", desc := "(JJJJ)J", sig := { parameters := [.long, .long, .long, .long], returnType := some .long }, accessFlags := 8, code := some k3c1 }
/-- com/example/steady_throttle/steadythrottle/Refill -/
def k3 : Class := { plain "com/example/steady_throttle/steadythrottle/Refill" (some 0) with
  accessFlags := 48
  interfaces := #[]
  cf := some (fileOf pool3 13 #[] #[{ accessFlags := 2, nameIndex := 5, descriptorIndex := 6, attributes := #[] }, { accessFlags := 8, nameIndex := 17, descriptorIndex := 18, attributes := #[] }] 48 2 #[] #[])
  fields := #[]
  methods := #[k3m0, k3m1]
  instanceTypes := #[]
  staticTypes := #[]
  resolved := Array.replicate 22 none
  statics := none }

def pool4 : Array CpInfo := pool [(1, .class_ 2), (0, u "java/io/Serializable"), (0, .class_ 4), (0, u "java/lang/Object")] 2

/-- java/io/Serializable -/
def k4 : Class := { plain "java/io/Serializable" (some 0) with
  accessFlags := 1537
  interfaces := #[]
  cf := some (fileOf pool4 1 #[] #[] 1537 3 #[] #[])
  fields := #[]
  methods := #[]
  instanceTypes := #[]
  staticTypes := #[]
  resolved := Array.replicate 7 none
  statics := none }

def pool5 : Array CpInfo := pool [(2, .class_ 4), (1, u "java/lang/Object"), (0, u "<init>"), (0, u "()V"), (1, .class_ 10), (1, u "java/lang/Number"), (2, .class_ 14), (0, u "java/io/Serializable"), (0, u "serialVersionUID"), (0, u "J")] 20

def k5m0 : Method := { name := "<init>", desc := "()V", sig := { parameters := [], returnType := none }, accessFlags := 1, code := none }
/-- java/lang/Number -/
def k5 : Class := { plain "java/lang/Number" (some 0) with
  accessFlags := 1057
  interfaces := #[4]
  cf := some (fileOf pool5 8 #[] #[{ accessFlags := 1, nameIndex := 5, descriptorIndex := 6, attributes := #[] }] 1057 2 #[13] #[{ accessFlags := 26, nameIndex := 15, descriptorIndex := 16, attributes := #[] }])
  fields := #[{ name := "serialVersionUID", type := .long, accessFlags := 26, slot := 0, constantValue := 0 }]
  methods := #[k5m0]
  instanceTypes := #[]
  staticTypes := #[.long]
  resolved := Array.replicate 37 none
  statics := none }

def pool6 : Array CpInfo := pool [(1, .class_ 2), (0, u "java/lang/Comparable"), (0, .class_ 4), (0, u "java/lang/Object")] 7

/-- java/lang/Comparable -/
def k6 : Class := { plain "java/lang/Comparable" (some 0) with
  accessFlags := 1537
  interfaces := #[]
  cf := some (fileOf pool6 1 #[] #[] 1537 3 #[] #[])
  fields := #[]
  methods := #[]
  instanceTypes := #[]
  staticTypes := #[]
  resolved := Array.replicate 12 none
  statics := none }

def pool7 : Array CpInfo := pool [(1, .class_ 2), (0, u "java/lang/constant/Constable"), (0, .class_ 4), (0, u "java/lang/Object")] 6

/-- java/lang/constant/Constable -/
def k7 : Class := { plain "java/lang/constant/Constable" (some 0) with
  accessFlags := 1537
  interfaces := #[]
  cf := some (fileOf pool7 1 #[] #[] 1537 3 #[] #[])
  fields := #[]
  methods := #[]
  instanceTypes := #[]
  staticTypes := #[]
  resolved := Array.replicate 11 none
  statics := none }

def pool8 : Array CpInfo := pool [(1, .class_ 2), (0, u "java/lang/constant/ConstantDesc"), (0, .class_ 4), (0, u "java/lang/Object")] 32

/-- java/lang/constant/ConstantDesc -/
def k8 : Class := { plain "java/lang/constant/ConstantDesc" (some 0) with
  accessFlags := 1537
  interfaces := #[]
  cf := some (fileOf pool8 1 #[] #[] 1537 3 #[] #[])
  fields := #[]
  methods := #[]
  instanceTypes := #[]
  staticTypes := #[]
  resolved := Array.replicate 37 none
  statics := none }

def pool9 : Array CpInfo := pool [(1, .class_ 2), (0, u "java/lang/Long"), (165, .long 9223372036854775808), (66, .class_ 237), (1, u "java/lang/Long$LongCache"), (33, .class_ 272), (0, u "java/lang/Number"), (2, u "value"), (0, u "J"), (25, .methodref 1 303), (0, .nameAndType 304 305), (0, u "compare"), (0, u "(JJ)I"), (55, u "TYPE"), (0, u "Ljava/lang/Class;"), (0, .class_ 364), (0, u "java/lang/Comparable"), (0, .class_ 366), (0, u "java/lang/constant/Constable"), (0, .class_ 368), (0, u "java/lang/constant/ConstantDesc"), (0, u "MIN_VALUE"), (1, u "MAX_VALUE"), (4, u "SIZE"), (0, u "I"), (1, u "BYTES"), (1, u "serialVersionUID"), (87, u "compareUnsigned")] 54

def k9c0 : Code := { maxStack := 4, maxLocals := 4, code := jdk_35_method_42_code, exceptionTable := #[], attributes := #[] }
def k9m0 : Method := { name := "compare", desc := "(JJ)I", sig := { parameters := [.long, .long], returnType := some .int }, accessFlags := 9, code := some k9c0 }
def k9c1 : Code := { maxStack := 6, maxLocals := 4, code := jdk_35_method_43_code, exceptionTable := #[], attributes := #[] }
def k9m1 : Method := { name := "compareUnsigned", desc := "(JJ)I", sig := { parameters := [.long, .long], returnType := some .int }, accessFlags := 9, code := some k9c1 }
/-- java/lang/Long -/
def k9 : Class := { plain "java/lang/Long" (some 5) with
  accessFlags := 49
  interfaces := #[6, 7, 8]
  cf := some (fileOf pool9 1 #[.nestMembers #[235]] #[{ accessFlags := 9, nameIndex := 304, descriptorIndex := 305, attributes := #[] }, { accessFlags := 9, nameIndex := 469, descriptorIndex := 305, attributes := #[] }] 49 271 #[363, 365, 367] #[{ accessFlags := 25, nameIndex := 369, descriptorIndex := 276, attributes := #[] }, { accessFlags := 25, nameIndex := 371, descriptorIndex := 276, attributes := #[] }, { accessFlags := 25, nameIndex := 361, descriptorIndex := 362, attributes := #[] }, { accessFlags := 18, nameIndex := 275, descriptorIndex := 276, attributes := #[] }, { accessFlags := 25, nameIndex := 376, descriptorIndex := 377, attributes := #[] }, { accessFlags := 25, nameIndex := 379, descriptorIndex := 377, attributes := #[] }, { accessFlags := 26, nameIndex := 381, descriptorIndex := 276, attributes := #[] }])
  fields := #[{ name := "MIN_VALUE", type := .long, accessFlags := 25, slot := 0, constantValue := 0 }, { name := "MAX_VALUE", type := .long, accessFlags := 25, slot := 1, constantValue := 0 }, { name := "TYPE", type := (.object "java/lang/Class"), accessFlags := 25, slot := 2, constantValue := 0 }, { name := "value", type := .long, accessFlags := 18, slot := 0, constantValue := 0 }, { name := "SIZE", type := .int, accessFlags := 25, slot := 3, constantValue := 0 }, { name := "BYTES", type := .int, accessFlags := 25, slot := 4, constantValue := 0 }, { name := "serialVersionUID", type := .long, accessFlags := 26, slot := 5, constantValue := 0 }]
  methods := #[k9m0, k9m1]
  instanceTypes := #[.long]
  staticTypes := #[.long, .long, (.object "java/lang/Class"), .int, .int, .long]
  resolved := Array.replicate 524 none
  statics := none }

def pool10 : Array CpInfo := pool [(1, u "java/lang/Cloneable"), (0, .class_ 1), (0, u "java/lang/Object"), (0, .class_ 3)] 3

/-- java/lang/Cloneable -/
def k10 : Class := { plain "java/lang/Cloneable" (some 0) with
  accessFlags := 1537
  interfaces := #[]
  cf := some (fileOf pool10 2 #[] #[] 1537 4 #[] #[])
  fields := #[]
  methods := #[]
  instanceTypes := #[]
  staticTypes := #[]
  resolved := Array.replicate 8 none
  statics := none }

/-- the primitive byte -/
def k11 : Class := { plain "byte" none with kind := .primitive 'B', accessFlags := 0x411 }
/-- [B -/
def k12 : Class := { plain "[B" (some 0) with kind := .array 11 .byte, interfaces := #[10, 4], accessFlags := 1041 }

/-- the primitive int -/
def k13 : Class := { plain "int" none with kind := .primitive 'I', accessFlags := 0x411 }
/-- [I -/
def k14 : Class := { plain "[I" (some 0) with kind := .array 13 .int, interfaces := #[10, 4], accessFlags := 1041 }

def heap : Heap := #[]
def classes : Array Class := #[k0, k1, k2, k3, k4, k5, k6, k7, k8, k9, k10, k11, k12, k13, k14]
def interned : List (Array UInt16 × Addr) := []
def slotsUsed : Nat := 0
def theMethod : MethodId := ⟨1, 1⟩
def args0 : Array Value := #[.long 5, .long 6, .long 7, .long 8]
def aboutOver (below : List Frame) : State where
  vm := { classes := classes, interned := interned.toArray }
  heap := heap
  slotsUsed := slotsUsed
  threads := #[{ frames := .invoking theMethod args0 :: below }]
def below0 : List Frame := [.native { method := ⟨0, 0⟩, args := #[] }]
def about1 : State := aboutOver below0
def p0 : Program := .bare "" "" ""
def e0 : Env := launch0.env 0 0 0
theorem w_frames : about1.frames = Frame.invoking theMethod args0 :: below0 := rfl
set_option maxRecDepth 65536 in
theorem w_args : argsFit about1.vm theMethod args0 = true := by decide +kernel
set_option maxRecDepth 65536 in
theorem w_heap : heapFits about1 = true := by decide +kernel
set_option maxRecDepth 65536 in
theorem w_runnable : about1.curStatus? = some .runnable := by decide +kernel
set_option maxRecDepth 65536 in
theorem w_alone : about1.alone = true := by decide +kernel
set_option maxRecDepth 65536 in
theorem w_named : about1.methodNamed? x = some theMethod := by decide +kernel
set_option maxRecDepth 65536 in
theorem w_hears : about1.hears theMethod below0 = true := by decide +kernel
set_option maxRecDepth 65536 in
theorem w_ripe : about1.ripe theMethod args0 below0 = true := by decide +kernel
theorem w_running : about1.status = .running := rfl
set_option maxRecDepth 65536 in
theorem w_room : about1.hasRoom e0.platform room_1 = true :=
  launch0.hasRoom_least _ room_1 (by decide +kernel) (by decide +kernel) (by decide +kernel) (by decide +kernel) (by decide +kernel) (by decide +kernel)
theorem allAtoms_all (ts : List Jvm.Cond) (a : Array Jvm.Value) (st : Jvm.State) : (allAtoms ts).before a st = ts.all (fun c => c.before a st) := by
  induction ts with
  | nil => rfl
  | cons c t ih =>
    show (Jvm.Cond.and c (allAtoms t)).before a st = _
    rw [Jvm.Cond.before_and, ih, List.all_cons]
def words1 : List Jvm.Cond := Jvm.Cond.code x code maxLocals ret :: tables_1
/-- a 'code' word, met by the world's own term for the bytes: nothing is compared byte by byte -/
theorem code_word {y : MethodName} {bytes : ByteArray} {mx : Nat} {rt : Option FieldType} {a : Array Value} {s : State} {m : MethodId} {meth : Method} {c : Code} (h1 : s.methodNamed? y = some m) (h2 : s.vm.method? m = some meth) (h3 : meth.code = some c) (h4 : c.code = bytes)
    (h5 : (c.maxLocals == mx && c.exceptionTable.isEmpty && decide (c.maxStack ≤ mostOperands) && decide (meth.sig.returnType = rt) && !meth.locks && decide (parseMethodDescriptor y.desc = some meth.sig)) = true) : (Jvm.Cond.code y bytes mx rt).before a s = true := by
  simp only [Bool.and_eq_true, beq_iff_eq, Bool.not_eq_true', decide_eq_true_eq] at h5
  obtain ⟨⟨⟨⟨⟨g1, g2⟩, g3⟩, g4⟩, g5⟩, g6⟩ := h5
  simp [Cond.before, Cond.holds, Cond.value, h1, h2, h3, h4, g1, g2, g3, g4, g5, g6]
def isCode : Jvm.Cond → Bool
  | .code _ _ _ _ => true
  | _ => false
theorem all_split {L : List Jvm.Cond} {P : Jvm.Cond → Bool} (h1 : L.all (fun c => isCode c || P c) = true) (h2 : ∀ c ∈ L.filter isCode, P c = true) : L.all P = true := by
  refine List.all_eq_true.mpr fun c hc => ?_
  have h := List.all_eq_true.mp h1 c hc
  rcases Bool.eq_false_or_eq_true (isCode c) with hi | hi
  · exact h2 c (List.mem_filter.mpr ⟨hc, hi⟩)
  · simpa [hi] using h
set_option maxRecDepth 65536 in
theorem w_c0 : (Jvm.Cond.code x code maxLocals ret).before args0 about1 = true := code_word (m := ⟨1, 1⟩) (meth := k1m1) (c := k1c1) (by decide +kernel) rfl rfl rfl (by decide +kernel)
set_option maxRecDepth 65536 in
theorem w_c1 : (Jvm.Cond.code ({ cls := "java/lang/Math", name := "min", desc := "(JJ)J" } : Jvm.MethodName) jdk_29_method_70_code (4 : Nat) (Option.some Jvm.ClassFile.FieldType.long)).before args0 about1 = true := code_word (m := ⟨2, 2⟩) (meth := k2m2) (c := k2c2) (by decide +kernel) rfl rfl rfl (by decide +kernel)
set_option maxRecDepth 65536 in
theorem w_c2 : (Jvm.Cond.code ({ cls := "java/lang/Math", name := "max", desc := "(JJ)J" } : Jvm.MethodName) jdk_29_method_66_code (4 : Nat) (Option.some Jvm.ClassFile.FieldType.long)).before args0 about1 = true := code_word (m := ⟨2, 1⟩) (meth := k2m1) (c := k2c1) (by decide +kernel) rfl rfl rfl (by decide +kernel)
set_option maxRecDepth 65536 in
theorem w_c3 : (Jvm.Cond.code ({ cls := "com/example/steady_throttle/steadythrottle/Refill", name := "after", desc := "(JJJJ)J" } : Jvm.MethodName) prog_17_method_2_code (12 : Nat) (Option.some Jvm.ClassFile.FieldType.long)).before args0 about1 = true := code_word (m := ⟨3, 1⟩) (meth := k3m1) (c := k3c1) (by decide +kernel) rfl rfl rfl (by decide +kernel)
set_option maxRecDepth 65536 in
theorem w_c4 : (Jvm.Cond.code ({ cls := "java/lang/Long", name := "compareUnsigned", desc := "(JJ)I" } : Jvm.MethodName) jdk_35_method_43_code (4 : Nat) (Option.some Jvm.ClassFile.FieldType.int)).before args0 about1 = true := code_word (m := ⟨9, 1⟩) (meth := k9m1) (c := k9c1) (by decide +kernel) rfl rfl rfl (by decide +kernel)
set_option maxRecDepth 65536 in
theorem w_c5 : (Jvm.Cond.code ({ cls := "java/lang/Long", name := "compare", desc := "(JJ)I" } : Jvm.MethodName) jdk_35_method_42_code (4 : Nat) (Option.some Jvm.ClassFile.FieldType.int)).before args0 about1 = true := code_word (m := ⟨9, 0⟩) (meth := k9m0) (c := k9c0) (by decide +kernel) rfl rfl rfl (by decide +kernel)
def codes1 : List Jvm.Cond := [Jvm.Cond.code x code maxLocals ret, Jvm.Cond.code ({ cls := "java/lang/Math", name := "min", desc := "(JJ)J" } : Jvm.MethodName) jdk_29_method_70_code (4 : Nat) (Option.some Jvm.ClassFile.FieldType.long), Jvm.Cond.code ({ cls := "java/lang/Math", name := "max", desc := "(JJ)J" } : Jvm.MethodName) jdk_29_method_66_code (4 : Nat) (Option.some Jvm.ClassFile.FieldType.long), Jvm.Cond.code ({ cls := "com/example/steady_throttle/steadythrottle/Refill", name := "after", desc := "(JJJJ)J" } : Jvm.MethodName) prog_17_method_2_code (12 : Nat) (Option.some Jvm.ClassFile.FieldType.long), Jvm.Cond.code ({ cls := "java/lang/Long", name := "compareUnsigned", desc := "(JJ)I" } : Jvm.MethodName) jdk_35_method_43_code (4 : Nat) (Option.some Jvm.ClassFile.FieldType.int), Jvm.Cond.code ({ cls := "java/lang/Long", name := "compare", desc := "(JJ)I" } : Jvm.MethodName) jdk_35_method_42_code (4 : Nat) (Option.some Jvm.ClassFile.FieldType.int)]
set_option maxRecDepth 65536 in
theorem codes_eq : words1.filter isCode = codes1 := rfl
theorem w_codes : ∀ c ∈ words1.filter isCode, c.before args0 about1 = true := by
  rw [codes_eq]
  intro c hc
  simp only [codes1, List.mem_cons, List.not_mem_nil, or_false] at hc
  rcases hc with rfl | rfl | rfl | rfl | rfl | rfl
  · exact w_c0
  · exact w_c1
  · exact w_c2
  · exact w_c3
  · exact w_c4
  · exact w_c5
set_option maxRecDepth 65536 in
theorem w_t1 : words1.all (fun c => isCode c || c.before args0 about1) = true := by decide +kernel
theorem w_tables : (allAtoms (Jvm.Cond.code x code maxLocals ret :: tables_1)).before args0 about1 = true := by
  rw [allAtoms_all]
  show words1.all (fun c => c.before args0 about1) = true
  refine all_split ?_ w_codes
  rw [w_t1]
set_option maxRecDepth 65536 in
theorem w_case : (Jvm.Cond.and given_1 narrow_1).before args0 about1 = true := by decide +kernel
theorem w_applies : (headSpec (Jvm.Cond.code x code maxLocals ret :: tables_1) room_1).applies x e0.platform about1 = true :=
  (Spec.applies_iff w_frames).mpr ⟨w_running, w_runnable, w_alone, w_named, w_hears, w_ripe, w_room, w_tables⟩
theorem atStart : AtStart classFile x code maxLocals ret World_1 tables_1 room_1 Calls_1 rest_1 Pre_1 launch0 p0 e0 about1 theMethod args0 below0 :=
  ⟨lists_1, trivial, launch0.admits_env _ _ _, launch0.least_env, fairChoices_fair.cas, fairChoices_fair.clock, w_frames, w_args, w_heap, w_applies, trivial, trivial, w_case⟩
end start1
theorem witness_1 : WitnessClaimed_1 := ⟨start1.p0, start1.e0, start1.about1, start1.theMethod, start1.args0, start1.below0, start1.atStart⟩
end Jvm.Pilot.@@N@@
