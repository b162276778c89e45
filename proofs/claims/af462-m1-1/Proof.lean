import JvmDerived
import JvmDerived.Pilot.@@N@@Statement
import JvmDerived.Pilot.@@N@@Code
set_option linter.unusedVariables false
set_option linter.unusedSimpArgs false
namespace Jvm.OwnKit
open Sem ClassFile Op Lib Jvm.Stand Jvm.Free Jvm.LawKit Jvm.RoadKit
section Kit
variable {p : Program} {l : Launch} {e : Env} {R : Room} {s : State} {m : MethodId} {args : Array Value} {below : List Frame} {meth : Method} {c : Code} {T : State} {locs : List Loc} {cells slots : Nat} {Z : State} {a0 : Array Value} {h h0 : Heap} {kc ks : Nat} {Q : Option Value → Heap → List Loc → Prop}
/-- from this state the body comes to its end, and Q holds of what it returns, of the heap there and of the places written -/
def Go (p : Program) (e : Env) (below : List Frame) (s : State) (kc ks : Nat) (Q : Option Value → Heap → List Loc → Prop) (a : State) : Prop :=
  ∃ (t : State) (o : Outcome), Steps p.tables e below a t ∧ t.status = .running ∧ Ended t below o ∧ ∃ v L, o = .returned v ∧ Q v t.heap L ∧ FrameEnd s o t L kc ks
theorem Go.of {a b : State} (st : ∀ t, Steps p.tables e below b t → Steps p.tables e below a t) (k : Go p e below s kc ks Q b) : Go p e below s kc ks Q a := by
  obtain ⟨t, o, h, r⟩ := k
  exact ⟨t, o, st t h, r⟩
theorem pad (X : Stand p l e R s m args below meth c T locs cells slots) {cells' slots' : Nat} (hc : cells ≤ cells') (hs : slots ≤ slots') : Stand p l e R s m args below meth c T locs cells' slots' :=
  ⟨X.admits, X.cas, X.clock, X.frames, X.room, X.hears, X.method, X.code, X.here, X.tail, X.warmed, X.limits, X.bytes, X.same.mono hc hs⟩
theorem Go.leave (X : Stand p l e R s m args below meth c T locs cells slots) (hlk : meth.locks = false) {v : Option Value} (hv : meth.sig.returnType = none → v = none) {g : JFrame}
    (st : ∀ fs, (∀ (f : JFrame) (acts : List Action), f.method = m → f.locked = none → f.entered = [] → (doReturn e (T.setTop f) acts v).1 = T.setFrames fs) → Steps p.tables e below (T.setTop g) (T.setFrames fs))
    (hc : cells ≤ kc) (hs : slots ≤ ks) (q : Q v T.heap locs) : Go p e below s kc ks Q (T.setTop g) := by
  obtain ⟨fs, hr, hrun, hended, hW, hsame⟩ := X.leave hv hlk
  exact ⟨_, _, st fs hr, hrun, hended, v, locs, rfl, q, ⟨_, rfl⟩, hW, hsame.mono hc hs⟩
theorem Go.retI (X : Stand p l e R s m args below meth c T locs cells slots) (hx : p.tables.exec = Jvm.exec) (hlk : meth.locks = false) (hret : meth.sig.returnType = some .int) {pc : Nat} {Ls : Array Slot} {z : Int32} {rest : List Value}
    (hd : decode c.code pc = .ok (.ireturn, 1)) (hc : cells ≤ kc) (hs : slots ≤ ks) (q : Q (some (.int z)) T.heap locs) : Go p e below s kc ks Q (T.setTop (mkF m pc Ls (.int z :: rest))) :=
  Go.leave X hlk (fun h => by rw [hret] at h; cases h) (fun fs hr => retOut X hx hret rfl (Or.inl ⟨rfl, Or.inl rfl, z, rfl⟩) hd hr) hc hs q
theorem Go.retN (X : Stand p l e R s m args below meth c T locs cells slots) (hx : p.tables.exec = Jvm.exec) (hlk : meth.locks = false) {t : FieldType} (hret : meth.sig.returnType = some t) (ht : t = .boolean ∨ t = .byte ∨ t = .char ∨ t = .short) {pc : Nat} {Ls : Array Slot} {z : Int32} {rest : List Value}
    (hd : decode c.code pc = .ok (.ireturn, 1)) (hz : nar t z = z) (hc : cells ≤ kc) (hs : slots ≤ ks) (q : Q (some (.int z)) T.heap locs) : Go p e below s kc ks Q (T.setTop (mkF m pc Ls (.int z :: rest))) :=
  Go.leave X hlk (fun h => by rw [hret] at h; cases h) (fun fs hr => RoadKit.retN X hx hret ht hd (by rw [hz]; exact hr)) hc hs q
theorem Go.retJ (X : Stand p l e R s m args below meth c T locs cells slots) (hx : p.tables.exec = Jvm.exec) (hlk : meth.locks = false) (hret : meth.sig.returnType = some .long) {pc : Nat} {Ls : Array Slot} {z : Int64} {rest : List Value}
    (hd : decode c.code pc = .ok (.lreturn, 1)) (hc : cells ≤ kc) (hs : slots ≤ ks) (q : Q (some (.long z)) T.heap locs) : Go p e below s kc ks Q (T.setTop (mkF m pc Ls (.long z :: rest))) :=
  Go.leave X hlk (fun h => by rw [hret] at h; cases h) (fun fs hr => retOut X hx hret rfl (Or.inr (Or.inl ⟨rfl, rfl, z, rfl⟩)) hd hr) hc hs q
theorem Go.retA (X : Stand p l e R s m args below meth c T locs cells slots) (hx : p.tables.exec = Jvm.exec) (hlk : meth.locks = false) {t : FieldType} (hret : meth.sig.returnType = some t) (ht : t.isReference = true) {pc : Nat} {Ls : Array Slot} {z : Value} {rest : List Value} (hz : z.isRef = true)
    (hd : decode c.code pc = .ok (.areturn, 1)) (hc : cells ≤ kc) (hs : slots ≤ ks) (q : Q (some z) T.heap locs) : Go p e below s kc ks Q (T.setTop (mkF m pc Ls (z :: rest))) :=
  Go.leave X hlk (fun h => by rw [hret] at h; cases h) (fun fs hr => retOut X hx hret (by cases t <;> first | rfl | (simp [FieldType.isReference] at ht; done)) (Or.inr (Or.inr (Or.inr (Or.inr ⟨rfl, ht, hz⟩)))) hd hr) hc hs q
theorem Go.retV (X : Stand p l e R s m args below meth c T locs cells slots) (hx : p.tables.exec = Jvm.exec) (hlk : meth.locks = false) (hret : meth.sig.returnType = none) {pc : Nat} {Ls : Array Slot}
    (hd : decode c.code pc = .ok (.return_, 1)) (hc : cells ≤ kc) (hs : slots ≤ ks) (q : Q none T.heap locs) : Go p e below s kc ks Q (T.setTop (mkF m pc Ls [])) :=
  Go.leave X hlk (fun _ => rfl) (fun fs hr => X.returnOut hx hret hd hr) hc hs q
/-- a body's contract: called with these arguments over this heap it returns, and Q holds -/
def Con (l : Launch) (Z : State) (y : MethodName) (bytes : ByteArray) (maxL : Nat) (ret : Option FieldType) (rm : Room) (as' : Array Value) (h0 : Heap) (Q : Option Value → Heap → List Loc → Prop) : Prop :=
  ∀ ws : List Cond, MetFree l y (head1 (Cond.code y bytes maxL ret :: ws) rm) (fun a U => a = as' ∧ Z.Warmed39 U.vm ∧ U.heap = h0) (fun _ _ _ _ _ => True) (fun _ U o U' => ∃ v L, o = .returned v ∧ Q v U'.heap L ∧ FrameEnd U o U' L rm.cells rm.slots)
theorem Con.intro {y : MethodName} {bytes : ByteArray} {maxL : Nat} {ret : Option FieldType} {rm : Room} {as' : Array Value} {gf : MethodId → JFrame} (hpl : plainFor y = true) (hef : ∀ m, entryFrame m as' maxL = gf m)
    (body : ∀ (p : Program) (e : Env) (s : State) (m : MethodId) (below : List Frame) (meth : Method) (c : Code) (s₁ : State), p.tables.exec = Jvm.exec → c.code = bytes → c.maxLocals = maxL → Z.Warmed39 s.vm → s.vm.findClass y.cls = some m.cls → meth.name = y.name → meth.sig.returnType = ret → meth.locks = false →
      Stand p l e rm s m as' below meth c s₁ [] 0 0 → s₁.heap = h0 → Go p e below s rm.cells rm.slots Q (s₁.setTop (gf m))) : Con l Z y bytes maxL ret rm as' h0 Q := by
  intro ws
  refine MetFree.of_bodySF hpl hisR ?_
  intro p e s m args below meth c s₁ Bd hml hP hK
  obtain ⟨rfl, hZ, hh⟩ := hP
  have k := body p e s m below meth c s₁ Bd.exec Bd.bytes hml hZ (findClass_of_methodNamed Bd.named) (name_of_methodNamed Bd.named Bd.method).1 Bd.returns Bd.notSynchronized (Stand.of_body Bd) (by rw [← hh, Bd.state]; rfl)
  rw [← hef m] at k
  exact k
theorem Go.static (X : Stand p l e R s m args below meth c T locs cells slots) (hx : p.tables.exec = Jvm.exec) (hZ : Z.Warmed39 s.vm) {own : String} {index : Nat} {y : MethodName} {bytes : ByteArray} {maxL : Nat} {ret : Option FieldType} {rm : Room} {Q' : Option Value → Heap → List Loc → Prop} {argsL : List Value}
    (hown : s.vm.findClass own = some m.cls) (w1 : (Cond.methodLink own index y).before a0 Z = true) (w2 : (Cond.static y).before a0 Z = true) (w3 : (Cond.initialized y.cls).before a0 Z = true) (w4 : (Cond.code y bytes maxL ret).before a0 Z = true)
    (hy : y.cls ≠ "java/lang/invoke/MethodHandle" ∧ y.cls ≠ "java/lang/invoke/VarHandle") (W : Nat) (eT : T.heap = h) (K : Con l Z y bytes maxL ret rm argsL.toArray h Q') (hf : rm.frames + 1 ≤ R.frames) (hlo : W + (maxL + 11) + rm.locals ≤ R.locals) (hc : cells + rm.cells ≤ R.cells) (hs : slots + rm.slots ≤ R.slots)
    {g : JFrame} (hg : g.method = m) (hsize : g.locals.size = c.maxLocals) {rest : List Value} (hlen : ∀ sig, parseMethodDescriptor y.desc = some sig → argsL.length = sig.parameters.length) (hstack : g.stack = argsL.reverse ++ rest) (hW : 2 * g.monitorRoom + (rest.map fun v => v.category).sum ≤ W)
    (hd : decode c.code g.pc = .ok (.invokestatic index, 3))
    (k : ∀ (T' : State) (v : Option Value) (L : List Loc), Stand p l e R s m args below meth c T' (locs ++ L) (cells + rm.cells) (slots + rm.slots) → Q' v T'.heap L → Go p e below s kc ks Q (T'.setTop { g with pc := g.pc + 3, stack := v.toList ++ rest })) : Go p e below s kc ks Q (T.setTop g) := by
  obtain ⟨v, _, ⟨T', L', k', n'⟩, -, X', ⟨Lc, hQ, l1, l2, l3⟩, st⟩ := Jvm.LawKit.callS X hx hown (mvT hZ w1) (mvT hZ w2) (mvT hZ w3) (mvT hZ w4) hy (backOf (W := W) (K []) hZ w4 w3 hf hlo) hg hsize hlen hstack hW hd (fun _ _ => ⟨rfl, eT, hc, hs⟩)
  dsimp only [Pt.U, Pt.locs, Pt.cells, Pt.slots] at X' l1 l2 l3 st hQ
  subst l1 l2 l3
  exact Go.of st (k T' v Lc X' hQ)
theorem Go.special (X : Stand p l e R s m args below meth c T locs cells slots) (hx : p.tables.exec = Jvm.exec) (hZ : Z.Warmed39 s.vm) {own : String} {index : Nat} {y : MethodName} {bytes : ByteArray} {maxL : Nat} {rm : Room} {Q' : Option Value → Heap → List Loc → Prop} {a : Addr} {argsL : List Value} (hy1 : y.name = "<init>")
    (hown : s.vm.findClass own = some m.cls) (w1 : (Cond.methodLink own index y).before a0 Z = true) (w2 : (Cond.instanceMethod y).before a0 Z = true) (w3 : (Cond.initialized y.cls).before a0 Z = true) (w4 : (Cond.code y bytes maxL none).before a0 Z = true)
    (hy : y.cls ≠ "java/lang/invoke/MethodHandle" ∧ y.cls ≠ "java/lang/invoke/VarHandle") (W : Nat) (eT : T.heap = h) (K : Con l Z y bytes maxL none rm (Value.ref a :: argsL).toArray h Q') (hf : rm.frames + 1 ≤ R.frames) (hlo : W + (maxL + 11) + rm.locals ≤ R.locals) (hc : cells + rm.cells ≤ R.cells) (hs : slots + rm.slots ≤ R.slots)
    {g : JFrame} (hg : g.method = m) (hsize : g.locals.size = c.maxLocals) {rest : List Value} (hlen : ∀ sig, parseMethodDescriptor y.desc = some sig → argsL.length = sig.parameters.length) (hstack : g.stack = argsL.reverse ++ .ref a :: rest) (hW : 2 * g.monitorRoom + (rest.map fun v => v.category).sum ≤ W)
    (hd : decode c.code g.pc = .ok (.invokespecial index, 3))
    (k : ∀ (T' : State) (v : Option Value) (L : List Loc), Stand p l e R s m args below meth c T' (locs ++ L) (cells + rm.cells) (slots + rm.slots) → Q' v T'.heap L → Go p e below s kc ks Q (T'.setTop { g with pc := g.pc + 3, stack := v.toList ++ rest })) : Go p e below s kc ks Q (T.setTop g) := by
  obtain ⟨v, _, ⟨T', L', k', n'⟩, -, X', ⟨Lc, hQ, l1, l2, l3⟩, st⟩ := X.specialBack hx hy1 hown (mvT hZ w1) (mvT hZ w2) (mvT hZ w4) hy (backOf (W := W) (K []) hZ w4 w3 hf hlo) hg hsize (Steps.refl _) hlen hstack hW hd (fun _ _ => ⟨rfl, eT, hc, hs⟩)
  dsimp only [Pt.U, Pt.locs, Pt.cells, Pt.slots] at X' l1 l2 l3 st hQ
  subst l1 l2 l3
  exact Go.of (fun _ q => st.trans q) (k T' v Lc X' hQ)
theorem Go.virtual (X : Stand p l e R s m args below meth c T locs cells slots) (hx : p.tables.exec = Jvm.exec) (hZ : Z.Warmed39 s.vm) {own C : String} {index : Nat} {y z : MethodName} {bytes : ByteArray} {maxL : Nat} {ret : Option FieldType} {rm : Room} {Q' : Option Value → Heap → List Loc → Prop} {a : Addr} {argsL : List Value}
    (hown : s.vm.findClass own = some m.cls) (w1 : (Cond.methodLink own index y).before a0 Z = true) (w2 : (Cond.declares y).before a0 Z = true) (hnf : NotFace s y) (w5 : (Cond.selects C y z).before a0 Z = true) (w6 : (Cond.instanceMethod z).before a0 Z = true) (w3 : (Cond.initialized z.cls).before a0 Z = true) (w4 : (Cond.code z bytes maxL ret).before a0 Z = true)
    (hy : y.cls ≠ "java/lang/invoke/MethodHandle" ∧ y.cls ≠ "java/lang/invoke/VarHandle") (W : Nat) (eT : T.heap = h) (E : Exa Z h a C) (K : Con l Z z bytes maxL ret rm (Value.ref a :: argsL).toArray h Q') (hf : rm.frames + 1 ≤ R.frames) (hlo : W + (maxL + 11) + rm.locals ≤ R.locals) (hc : cells + rm.cells ≤ R.cells) (hs : slots + rm.slots ≤ R.slots)
    {g : JFrame} (hg : g.method = m) (hsize : g.locals.size = c.maxLocals) {rest : List Value} (hlen : ∀ sig, parseMethodDescriptor y.desc = some sig → argsL.length = sig.parameters.length) (hstack : g.stack = argsL.reverse ++ .ref a :: rest) (hW : 2 * g.monitorRoom + (rest.map fun v => v.category).sum ≤ W)
    (hd : decode c.code g.pc = .ok (.invokevirtual index, 3))
    (k : ∀ (T' : State) (v : Option Value) (L : List Loc), Stand p l e R s m args below meth c T' (locs ++ L) (cells + rm.cells) (slots + rm.slots) → Q' v T'.heap L → Go p e below s kc ks Q (T'.setTop { g with pc := g.pc + 3, stack := v.toList ++ rest })) : Go p e below s kc ks Q (T.setTop g) := by
  obtain ⟨cq, kq, qa, -, qc⟩ := isOf hZ eT E
  obtain ⟨v, _, ⟨T', L', k', n'⟩, -, X', ⟨Lc, hQ, l1, l2, l3⟩, st⟩ := X.virtualBack hx hown (mvT hZ w1) (mvT hZ w2) hnf (mvT hZ w5) (mvT hZ w6) hy (backOf (W := W) (K []) hZ w4 w3 hf hlo) qa qc hg hsize (Steps.refl _) hlen hstack hW hd (fun _ _ => ⟨rfl, eT, hc, hs⟩)
  dsimp only [Pt.U, Pt.locs, Pt.cells, Pt.slots] at X' l1 l2 l3 st hQ
  subst l1 l2 l3
  exact Go.of (fun _ q => st.trans q) (k T' v Lc X' hQ)
theorem Go.virtualUp (X : Stand p l e R s m args below meth c T locs cells slots) (hx : p.tables.exec = Jvm.exec) (hZ : Z.Warmed39 s.vm) {own C owner : String} {index : Nat} {y z : MethodName} {bytes : ByteArray} {maxL : Nat} {ret : Option FieldType} {rm : Room} {Q' : Option Value → Heap → List Loc → Prop} {a : Addr} {argsL : List Value}
    (hown : s.vm.findClass own = some m.cls) (w1 : (Cond.methodLink own index y).before a0 Z = true) (w2 : (Cond.sameMethod y.cls owner y.name y.desc).before a0 Z = true) (w7 : (Cond.declares ⟨owner, y.name, y.desc⟩).before a0 Z = true) (w5 : (Cond.selects C y z).before a0 Z = true) (w6 : (Cond.instanceMethod z).before a0 Z = true) (w3 : (Cond.initialized z.cls).before a0 Z = true) (w4 : (Cond.code z bytes maxL ret).before a0 Z = true)
    (hy : owner ≠ "java/lang/invoke/MethodHandle" ∧ owner ≠ "java/lang/invoke/VarHandle") (W : Nat) (eT : T.heap = h) (E : Exa Z h a C) (K : Con l Z z bytes maxL ret rm (Value.ref a :: argsL).toArray h Q') (hf : rm.frames + 1 ≤ R.frames) (hlo : W + (maxL + 11) + rm.locals ≤ R.locals) (hc : cells + rm.cells ≤ R.cells) (hs : slots + rm.slots ≤ R.slots)
    {g : JFrame} (hg : g.method = m) (hsize : g.locals.size = c.maxLocals) {rest : List Value} (hlen : ∀ sig, parseMethodDescriptor y.desc = some sig → argsL.length = sig.parameters.length) (hstack : g.stack = argsL.reverse ++ .ref a :: rest) (hW : 2 * g.monitorRoom + (rest.map fun v => v.category).sum ≤ W)
    (hd : decode c.code g.pc = .ok (.invokevirtual index, 3))
    (k : ∀ (T' : State) (v : Option Value) (L : List Loc), Stand p l e R s m args below meth c T' (locs ++ L) (cells + rm.cells) (slots + rm.slots) → Q' v T'.heap L → Go p e below s kc ks Q (T'.setTop { g with pc := g.pc + 3, stack := v.toList ++ rest })) : Go p e below s kc ks Q (T.setTop g) := by
  obtain ⟨cq, kq, qa, -, qc⟩ := isOf hZ eT E
  obtain ⟨v, _, ⟨T', L', k', n'⟩, -, X', ⟨Lc, hQ, l1, l2, l3⟩, st⟩ := X.virtualBackUp hx hown (mvT hZ w1) (mvT hZ w2) (mvT hZ w7) hy (mvT hZ w5) (mvT hZ w6) (backOf (W := W) (K []) hZ w4 w3 hf hlo) qa qc hg hsize (Steps.refl _) hlen hstack hW hd (fun _ _ => ⟨rfl, eT, hc, hs⟩)
  dsimp only [Pt.U, Pt.locs, Pt.cells, Pt.slots] at X' l1 l2 l3 st hQ
  subst l1 l2 l3
  exact Go.of (fun _ q => st.trans q) (k T' v Lc X' hQ)
/-- a cast of what may be null -/
theorem castV (X : Stand p l e R s m args below meth c T locs cells slots) (hx : p.tables.exec = Jvm.exec) (hZ : Z.Warmed39 s.vm) {own K : String} {index : Nat} (hown : s.vm.findClass own = some m.cls) (w : (Cond.classLink own index K).before a0 Z = true) (eT : T.heap = h) {v : Value} (F : v = .null ∨ ∃ a, v = .ref a ∧ Ins Z h a K true)
    {g : JFrame} (hg : g.method = m) {rest : List Value} (hs : g.stack = v :: rest) (hd : decode c.code g.pc = .ok (.checkcast index, 3)) : ∃ T', Stand p l e R s m args below meth c T' locs cells slots ∧ T'.heap = h ∧ ∀ target, Steps p.tables e below (T'.setTop { g with pc := g.pc + 3 }) target → Steps p.tables e below (T.setTop g) target := by
  rcases F with rfl | ⟨a, rfl, I⟩
  · exact ⟨T, X, eT, fun target q => X.checkcastNull hx hg hs hd target q⟩
  · exact castY X hx hZ hown w eT I hg hs hd
end Kit
end Jvm.OwnKit
namespace Jvm.Pilot.@@N@@
open Jvm Jvm.ClassFile Sem Op Lib Jvm.Free Jvm.Stand Jvm.LawKit Jvm.RoadKit Jvm.OwnKit Bundle Jvm.Pilot.@@N@@.Jvm.D
def own_sh (z : Int64) (k : Int32) : Int64 := (z.toUInt64 >>> (k &&& 0x3f).toInt64.toUInt64).toInt64
def own_mix (z : Int64) : Int64 :=
  let v2 := (z ^^^ own_sh z 30) * (-4658895280553007687 : Int64)
  let v3 := (v2 ^^^ own_sh v2 27) * (-7723592293110705685 : Int64)
  v3 ^^^ own_sh v3 31
def own_st (c x : Int64) : Int64 := x * (2 - c * x)
def own_inv (c : Int64) : Int64 := own_st c (own_st c (own_st c (own_st c (own_st c c))))
def own_unmix (z : Int64) : Int64 :=
  let m2 := (z ^^^ own_sh z 31) ^^^ own_sh z 62
  let t1 := m2 * own_inv (-7723592293110705685 : Int64)
  let m1 := (t1 ^^^ own_sh t1 27) ^^^ own_sh t1 54
  let t0 := m1 * own_inv (-4658895280553007687 : Int64)
  (t0 ^^^ own_sh t0 30) ^^^ own_sh t0 60
theorem own_sh_bv (z : Int64) (k : Int32) (n : Nat) (hn : (k &&& 0x3f).toInt64.toUInt64.toBitVec % 64#64 = BitVec.ofNat 64 n) (hl : n < 64) : (own_sh z k).toBitVec = z.toBitVec >>> n := by
  unfold own_sh
  show (z.toUInt64 >>> (k &&& 0x3f).toInt64.toUInt64).toBitVec = _
  rw [UInt64.toBitVec_shiftRight]
  show z.toBitVec >>> ((k &&& 0x3f).toInt64.toUInt64.toBitVec % 64#64) = _
  rw [hn, BitVec.ushiftRight_eq', BitVec.toNat_ofNat, Nat.mod_eq_of_lt (by omega)]
theorem own_back (z : Int64) (k k2 : Int32) (n : Nat) (hn : (k &&& 0x3f).toInt64.toUInt64.toBitVec % 64#64 = BitVec.ofNat 64 n) (hn2 : (k2 &&& 0x3f).toInt64.toUInt64.toBitVec % 64#64 = BitVec.ofNat 64 (n + n)) (h0 : n + n < 64) (h1 : 64 ≤ n + n + n) :
    ((z ^^^ own_sh z k) ^^^ own_sh (z ^^^ own_sh z k) k) ^^^ own_sh (z ^^^ own_sh z k) k2 = z := by
  apply Int64.toBitVec_inj.mp
  rw [Int64.toBitVec_xor, Int64.toBitVec_xor, own_sh_bv _ k2 _ hn2 h0, own_sh_bv _ k _ hn (by omega), Int64.toBitVec_xor, own_sh_bv _ k _ hn (by omega)]
  generalize z.toBitVec = b
  apply BitVec.eq_of_getLsbD_eq
  intro i hi
  simp only [BitVec.getLsbD_xor, BitVec.getLsbD_ushiftRight]
  have e : b.getLsbD (n + (n + n + i)) = false := BitVec.getLsbD_of_ge _ _ (by omega)
  have e1 : n + (n + i) = n + n + i := by omega
  rw [e, e1]
  cases b.getLsbD i <;> cases b.getLsbD (n + i) <;> cases b.getLsbD (n + n + i) <;> rfl
theorem own_mulinv (c x : Int64) (h : c * own_inv c = 1) : x * c * own_inv c = x := by
  rw [Int64.mul_assoc, h, Int64.mul_one]
theorem own_plain (z : Int64) : own_unmix (own_mix z) = z := by
  simp only [own_unmix, own_mix]
  rw [own_back _ 31 62 31 (by decide) (by decide) (by decide) (by decide), own_mulinv _ _ (by decide), own_back _ 27 54 27 (by decide) (by decide) (by decide) (by decide), own_mulinv _ _ (by decide), own_back _ 30 60 30 (by decide) (by decide) (by decide) (by decide)]
theorem d1_0 : decode prog_7_method_1_code 0 = .ok (.aload_n 0, 1) := by decide +kernel
theorem d1_1 : decode prog_7_method_1_code 1 = .ok (.invokespecial 1, 3) := by decide +kernel
theorem d1_4 : decode prog_7_method_1_code 4 = .ok (.aload_n 0, 1) := by decide +kernel
theorem d1_5 : decode prog_7_method_1_code 5 = .ok (.lload_n 1, 1) := by decide +kernel
theorem d1_6 : decode prog_7_method_1_code 6 = .ok (.putfield 7, 3) := by decide +kernel
theorem d1_9 : decode prog_7_method_1_code 9 = .ok (.return_, 1) := by decide +kernel
theorem pn0 : plainName "com/example/tundra_ascent/tundraascent/core/SeededRandom" = true := by first | (simp [plainName, overriddenIn]; done) | decide +kernel
theorem ef_1 (m : MethodId) (a : Addr) (f1 : Int64) : entryFrame m #[(.ref a), (.long f1)] 3 = mkF m 0 #[.val (.ref a), .val (.long f1), .second] [] := by first | (simp [entryFrame, mkF, argsToLocals, Value.category]; done) | rfl
def Q1 (Z : State) (a : Addr) (f1 : Int64) (u1 : Int64) (h0 : Heap) (n0 : Nat) (v : Option Value) (h : Heap) (L : List Loc) : Prop := v = none ∧ Fr n0 L ∧ Keep h0 h [a] ∧ Exa Z h a "com/example/tundra_ascent/tundraascent/core/SeededRandom" ∧ Fld Z h a "com/example/tundra_ascent/tundraascent/core/SeededRandom" "state" "J" (.long f1)
set_option maxRecDepth 65536 in
set_option maxHeartbeats 40000000 in
theorem rm1 (l : Launch) (Z : State) (a0 : Array Value) (hw : ∀ d ∈ tables_1, d.before a0 Z = true) (a : Addr) (f1 : Int64) (u1 : Int64) (h0 : Heap) (n0 : Nat) (Zs : n0 ≤ h0.size) (E_a : Exa Z h0 a "com/example/tundra_ascent/tundraascent/core/SeededRandom") (F_a_state : Fld Z h0 a "com/example/tundra_ascent/tundraascent/core/SeededRandom" "state" "J" (.long u1)) (g_a : n0 ≤ a) :
    Con l Z (⟨"com/example/tundra_ascent/tundraascent/core/SeededRandom", "<init>", "(J)V"⟩ : MethodName) prog_7_method_1_code 3 none ({ frames := 1, cells := 0, slots := 0, locals := 12 } : Room) #[(.ref a), (.long f1)] h0 (Q1 Z a f1 u1 h0 n0) := by
  refine Con.intro (plainFor_of_name pn0) (fun m => ef_1 m a f1) ?_
  intro p e s m below meth c s₁ hx hby hml0 hZ hown hnm hret hlk X0 e0
  have hml : c.maxLocals = 3 := hml0
  have N0 := Fr.nil n0
  have Kp : Keep h0 h0 [a] := Keep.refl h0 _
  show Go _ _ _ _ _ _ _ (s₁.setTop (mkF m 0 #[.val (.ref a), .val (.long f1), .second] []))
  refine Go.of (fun _ q => XS.aloadN X0.here hx rfl (hb hby d1_0) rfl rfl q) ?_
  show Go _ _ _ _ _ _ _ (s₁.setTop (mkF m 1 #[.val (.ref a), .val (.long f1), .second] [(.ref a)]))
  obtain ⟨T1, X1, e1, st1⟩ := initO X0 hx hZ hown (hw _ (List.mem_of_getElem? (i := 7) rfl)) (hw _ (List.mem_of_getElem? (i := 8) rfl)) (hw _ (List.mem_of_getElem? (i := 9) rfl)) e0 (g := (mkF m 1 #[.val (.ref a), .val (.long f1), .second] [(.ref a)])) rfl (by rw [hml]; rfl) rfl (hb hby d1_1) (by decide) (W := 0) (by show 2 * 0 + _ ≤ _; exact Nat.le_of_eq rfl) (by decide)
  refine Go.of st1 ?_
  show Go _ _ _ _ _ _ _ (T1.setTop (mkF m 4 #[.val (.ref a), .val (.long f1), .second] []))
  refine Go.of (fun _ q => XS.aloadN X1.here hx rfl (hb hby d1_4) rfl rfl q) ?_
  show Go _ _ _ _ _ _ _ (T1.setTop (mkF m 5 #[.val (.ref a), .val (.long f1), .second] [(.ref a)]))
  refine Go.of (fun _ q => XS.lloadN X1.here hx rfl (hb hby d1_5) rfl q) ?_
  show Go _ _ _ _ _ _ _ (T1.setTop (mkF m 6 #[.val (.ref a), .val (.long f1), .second] [(.long f1), (.ref a)]))
  obtain ⟨T2, h2, X2, e2, W2, st2⟩ := putF X1 hx hZ hown (host := "") (Or.inl (hw _ (List.mem_of_getElem? (i := 10) rfl))) Via.refl e1 F_a_state E_a (Or.inl (hw _ (List.mem_of_getElem? (i := 11) rfl))) (hw _ (List.mem_of_getElem? (i := 2) rfl)) (ty := .long) (by decide) rfl rfl (g := (mkF m 6 #[.val (.ref a), .val (.long f1), .second] [(.long f1), (.ref a)])) rfl rfl (hb hby d1_6)
  refine Go.of st2 ?_
  have Zs := Nat.le_trans Zs (Nat.le_of_eq W2.size.symm)
  have Kp := Kp.wr W2 (Or.inl (List.mem_of_getElem? (i := 0) rfl))
  have E_a := E_a.wr W2
  have F_a_state := F_a_state.same W2
  have N2 := Fr.snoc X2 N0 g_a
  show Go _ _ _ _ _ _ _ (T2.setTop (mkF m 9 #[.val (.ref a), .val (.long f1), .second] []))
  refine Go.retV X2 hx hlk hret (hb hby d1_9) (by decide) (by decide) ?_
  rw [e2]
  exact ⟨rfl, N2, Kp, E_a, F_a_state⟩
theorem d3_0 : decode prog_7_method_2_code 0 = .ok (.aload_n 0, 1) := by decide +kernel
theorem d3_1 : decode prog_7_method_2_code 1 = .ok (.dup, 1) := by decide +kernel
theorem d3_2 : decode prog_7_method_2_code 2 = .ok (.getfield 7, 3) := by decide +kernel
theorem d3_5 : decode prog_7_method_2_code 5 = .ok (.ldc2_w 13, 3) := by decide +kernel
theorem d3_8 : decode prog_7_method_2_code 8 = .ok (.ladd, 1) := by decide +kernel
theorem d3_9 : decode prog_7_method_2_code 9 = .ok (.putfield 7, 3) := by decide +kernel
theorem d3_12 : decode prog_7_method_2_code 12 = .ok (.aload_n 0, 1) := by decide +kernel
theorem d3_13 : decode prog_7_method_2_code 13 = .ok (.getfield 7, 3) := by decide +kernel
theorem d3_16 : decode prog_7_method_2_code 16 = .ok (.lstore_n 1, 1) := by decide +kernel
theorem d3_17 : decode prog_7_method_2_code 17 = .ok (.lload_n 1, 1) := by decide +kernel
theorem d3_18 : decode prog_7_method_2_code 18 = .ok (.lload_n 1, 1) := by decide +kernel
theorem d3_19 : decode prog_7_method_2_code 19 = .ok (.bipush 30, 2) := by decide +kernel
theorem d3_21 : decode prog_7_method_2_code 21 = .ok (.lushr, 1) := by decide +kernel
theorem d3_22 : decode prog_7_method_2_code 22 = .ok (.lxor, 1) := by decide +kernel
theorem d3_23 : decode prog_7_method_2_code 23 = .ok (.ldc2_w 15, 3) := by decide +kernel
theorem d3_26 : decode prog_7_method_2_code 26 = .ok (.lmul, 1) := by decide +kernel
theorem d3_27 : decode prog_7_method_2_code 27 = .ok (.lstore_n 1, 1) := by decide +kernel
theorem d3_28 : decode prog_7_method_2_code 28 = .ok (.lload_n 1, 1) := by decide +kernel
theorem d3_29 : decode prog_7_method_2_code 29 = .ok (.lload_n 1, 1) := by decide +kernel
theorem d3_30 : decode prog_7_method_2_code 30 = .ok (.bipush 27, 2) := by decide +kernel
theorem d3_32 : decode prog_7_method_2_code 32 = .ok (.lushr, 1) := by decide +kernel
theorem d3_33 : decode prog_7_method_2_code 33 = .ok (.lxor, 1) := by decide +kernel
theorem d3_34 : decode prog_7_method_2_code 34 = .ok (.ldc2_w 17, 3) := by decide +kernel
theorem d3_37 : decode prog_7_method_2_code 37 = .ok (.lmul, 1) := by decide +kernel
theorem d3_38 : decode prog_7_method_2_code 38 = .ok (.lstore_n 1, 1) := by decide +kernel
theorem d3_39 : decode prog_7_method_2_code 39 = .ok (.lload_n 1, 1) := by decide +kernel
theorem d3_40 : decode prog_7_method_2_code 40 = .ok (.lload_n 1, 1) := by decide +kernel
theorem d3_41 : decode prog_7_method_2_code 41 = .ok (.bipush 31, 2) := by decide +kernel
theorem d3_43 : decode prog_7_method_2_code 43 = .ok (.lushr, 1) := by decide +kernel
theorem d3_44 : decode prog_7_method_2_code 44 = .ok (.lxor, 1) := by decide +kernel
theorem d3_45 : decode prog_7_method_2_code 45 = .ok (.lreturn, 1) := by decide +kernel
theorem ef_3 (m : MethodId) (a : Addr) : entryFrame m #[(.ref a)] 3 = mkF m 0 #[.val (.ref a), .unset, .unset] [] := by first | (simp [entryFrame, mkF, argsToLocals, Value.category]; done) | rfl
def Q3 (Z : State) (a : Addr) (u1 : Int64) (h0 : Heap) (n0 : Nat) (v : Option Value) (h : Heap) (L : List Loc) : Prop := v = some (.long (own_mix (u1 + (-7046029254386353131 : Int64)))) ∧ Fr n0 L ∧ Keep h0 h [a] ∧ Exa Z h a "com/example/tundra_ascent/tundraascent/core/SeededRandom" ∧ Fld Z h a "com/example/tundra_ascent/tundraascent/core/SeededRandom" "state" "J" (.long (u1 + (-7046029254386353131 : Int64)))
set_option maxRecDepth 65536 in
set_option maxHeartbeats 40000000 in
theorem rm3 (l : Launch) (Z : State) (a0 : Array Value) (hw : ∀ d ∈ tables_1, d.before a0 Z = true) (a : Addr) (u1 : Int64) (h0 : Heap) (n0 : Nat) (Zs : n0 ≤ h0.size) (E_a : Exa Z h0 a "com/example/tundra_ascent/tundraascent/core/SeededRandom") (F_a_state : Fld Z h0 a "com/example/tundra_ascent/tundraascent/core/SeededRandom" "state" "J" (.long u1)) (g_a : n0 ≤ a) :
    Con l Z (⟨"com/example/tundra_ascent/tundraascent/core/SeededRandom", "nextLong", "()J"⟩ : MethodName) prog_7_method_2_code 3 (some .long) ({ frames := 0, cells := 0, slots := 0, locals := 0 } : Room) #[(.ref a)] h0 (Q3 Z a u1 h0 n0) := by
  refine Con.intro (plainFor_of_name pn0) (fun m => ef_3 m a) ?_
  intro p e s m below meth c s₁ hx hby hml0 hZ hown hnm hret hlk X0 e0
  have hml : c.maxLocals = 3 := hml0
  have N0 := Fr.nil n0
  have Kp : Keep h0 h0 [a] := Keep.refl h0 _
  show Go _ _ _ _ _ _ _ (s₁.setTop (mkF m 0 #[.val (.ref a), .unset, .unset] []))
  refine Go.of (fun _ q => XS.aloadN X0.here hx rfl (hb hby d3_0) rfl rfl q) ?_
  show Go _ _ _ _ _ _ _ (s₁.setTop (mkF m 1 #[.val (.ref a), .unset, .unset] [(.ref a)]))
  refine Go.of (fun _ q => XS.dup X0.here hx rfl (hb hby d3_1) rfl rfl q) ?_
  show Go _ _ _ _ _ _ _ (s₁.setTop (mkF m 2 #[.val (.ref a), .unset, .unset] [(.ref a), (.ref a)]))
  obtain ⟨T1, X1, e1, st1⟩ := getF X0 hx hZ hown (host := "") (Or.inl (hw _ (List.mem_of_getElem? (i := 10) rfl))) Via.refl e0 F_a_state (g := (mkF m 2 #[.val (.ref a), .unset, .unset] [(.ref a), (.ref a)])) rfl rfl (hb hby d3_2)
  refine Go.of st1 ?_
  show Go _ _ _ _ _ _ _ (T1.setTop (mkF m 5 #[.val (.ref a), .unset, .unset] [(.long u1), (.ref a)]))
  refine Go.of (fun _ q => X1.ldc2Long hx hown (mvT hZ (hw _ (List.mem_of_getElem? (i := 17) rfl))) (g := (mkF m 5 #[.val (.ref a), .unset, .unset] [(.long u1), (.ref a)])) rfl (hb hby d3_5) _ q) ?_
  show Go _ _ _ _ _ _ _ (T1.setTop (mkF m 8 #[.val (.ref a), .unset, .unset] [(.long (-7046029254386353131 : Int64)), (.long u1), (.ref a)]))
  refine Go.of (fun _ q => XS.ladd X1.here hx rfl (hb hby d3_8) rfl q) ?_
  show Go _ _ _ _ _ _ _ (T1.setTop (mkF m 9 #[.val (.ref a), .unset, .unset] [(.long (u1 + (-7046029254386353131 : Int64))), (.ref a)]))
  obtain ⟨T2, h2, X2, e2, W2, st2⟩ := putF X1 hx hZ hown (host := "") (Or.inl (hw _ (List.mem_of_getElem? (i := 10) rfl))) Via.refl e1 F_a_state E_a (Or.inl (hw _ (List.mem_of_getElem? (i := 11) rfl))) (hw _ (List.mem_of_getElem? (i := 2) rfl)) (ty := .long) (by decide) rfl rfl (g := (mkF m 9 #[.val (.ref a), .unset, .unset] [(.long (u1 + (-7046029254386353131 : Int64))), (.ref a)])) rfl rfl (hb hby d3_9)
  refine Go.of st2 ?_
  have Zs := Nat.le_trans Zs (Nat.le_of_eq W2.size.symm)
  have Kp := Kp.wr W2 (Or.inl (List.mem_of_getElem? (i := 0) rfl))
  have E_a := E_a.wr W2
  have F_a_state := F_a_state.same W2
  have N2 := Fr.snoc X2 N0 g_a
  show Go _ _ _ _ _ _ _ (T2.setTop (mkF m 12 #[.val (.ref a), .unset, .unset] []))
  refine Go.of (fun _ q => XS.aloadN X2.here hx rfl (hb hby d3_12) rfl rfl q) ?_
  show Go _ _ _ _ _ _ _ (T2.setTop (mkF m 13 #[.val (.ref a), .unset, .unset] [(.ref a)]))
  obtain ⟨T3, X3, e3, st3⟩ := getF X2 hx hZ hown (host := "") (Or.inl (hw _ (List.mem_of_getElem? (i := 10) rfl))) Via.refl e2 F_a_state (g := (mkF m 13 #[.val (.ref a), .unset, .unset] [(.ref a)])) rfl rfl (hb hby d3_13)
  refine Go.of st3 ?_
  show Go _ _ _ _ _ _ _ (T3.setTop (mkF m 16 #[.val (.ref a), .unset, .unset] [(.long (u1 + (-7046029254386353131 : Int64)))]))
  refine Go.of (fun _ q => XS.lstoreN X3.here hx rfl (hb hby d3_16) rfl (l' := #[.val (.ref a), .val (.long (u1 + (-7046029254386353131 : Int64))), .second]) rfl q) ?_
  obtain ⟨v1, hv1⟩ : ∃ z, z = (u1 + (-7046029254386353131 : Int64)) := ⟨_, rfl⟩
  rw [← hv1]
  show Go _ _ _ _ _ _ _ (T3.setTop (mkF m 17 #[.val (.ref a), .val (.long v1), .second] []))
  refine Go.of (fun _ q => XS.lloadN X3.here hx rfl (hb hby d3_17) rfl q) ?_
  show Go _ _ _ _ _ _ _ (T3.setTop (mkF m 18 #[.val (.ref a), .val (.long v1), .second] [(.long v1)]))
  refine Go.of (fun _ q => XS.lloadN X3.here hx rfl (hb hby d3_18) rfl q) ?_
  show Go _ _ _ _ _ _ _ (T3.setTop (mkF m 19 #[.val (.ref a), .val (.long v1), .second] [(.long v1), (.long v1)]))
  refine Go.of (fun _ q => XS.bipush X3.here hx rfl (hb hby d3_19) q) ?_
  show Go _ _ _ _ _ _ _ (T3.setTop (mkF m 21 #[.val (.ref a), .val (.long v1), .second] [(.int (30 : Int32)), (.long v1), (.long v1)]))
  refine Go.of (fun _ q => XS.lushr X3.here hx rfl (hb hby d3_21) rfl q) ?_
  show Go _ _ _ _ _ _ _ (T3.setTop (mkF m 22 #[.val (.ref a), .val (.long v1), .second] [(.long ((v1.toUInt64 >>> ((30 : Int32) &&& 0x3f).toInt64.toUInt64).toInt64)), (.long v1)]))
  refine Go.of (fun _ q => XS.lxor X3.here hx rfl (hb hby d3_22) rfl q) ?_
  show Go _ _ _ _ _ _ _ (T3.setTop (mkF m 23 #[.val (.ref a), .val (.long v1), .second] [(.long (v1 ^^^ ((v1.toUInt64 >>> ((30 : Int32) &&& 0x3f).toInt64.toUInt64).toInt64)))]))
  refine Go.of (fun _ q => X3.ldc2Long hx hown (mvT hZ (hw _ (List.mem_of_getElem? (i := 18) rfl))) (g := (mkF m 23 #[.val (.ref a), .val (.long v1), .second] [(.long (v1 ^^^ ((v1.toUInt64 >>> ((30 : Int32) &&& 0x3f).toInt64.toUInt64).toInt64)))])) rfl (hb hby d3_23) _ q) ?_
  show Go _ _ _ _ _ _ _ (T3.setTop (mkF m 26 #[.val (.ref a), .val (.long v1), .second] [(.long (-4658895280553007687 : Int64)), (.long (v1 ^^^ ((v1.toUInt64 >>> ((30 : Int32) &&& 0x3f).toInt64.toUInt64).toInt64)))]))
  refine Go.of (fun _ q => XS.lmul X3.here hx rfl (hb hby d3_26) rfl q) ?_
  show Go _ _ _ _ _ _ _ (T3.setTop (mkF m 27 #[.val (.ref a), .val (.long v1), .second] [(.long ((v1 ^^^ ((v1.toUInt64 >>> ((30 : Int32) &&& 0x3f).toInt64.toUInt64).toInt64)) * (-4658895280553007687 : Int64)))]))
  refine Go.of (fun _ q => XS.lstoreN X3.here hx rfl (hb hby d3_27) rfl (l' := #[.val (.ref a), .val (.long ((v1 ^^^ ((v1.toUInt64 >>> ((30 : Int32) &&& 0x3f).toInt64.toUInt64).toInt64)) * (-4658895280553007687 : Int64))), .second]) rfl q) ?_
  obtain ⟨v2, hv2⟩ : ∃ z, z = ((v1 ^^^ ((v1.toUInt64 >>> ((30 : Int32) &&& 0x3f).toInt64.toUInt64).toInt64)) * (-4658895280553007687 : Int64)) := ⟨_, rfl⟩
  rw [← hv2]
  show Go _ _ _ _ _ _ _ (T3.setTop (mkF m 28 #[.val (.ref a), .val (.long v2), .second] []))
  refine Go.of (fun _ q => XS.lloadN X3.here hx rfl (hb hby d3_28) rfl q) ?_
  show Go _ _ _ _ _ _ _ (T3.setTop (mkF m 29 #[.val (.ref a), .val (.long v2), .second] [(.long v2)]))
  refine Go.of (fun _ q => XS.lloadN X3.here hx rfl (hb hby d3_29) rfl q) ?_
  show Go _ _ _ _ _ _ _ (T3.setTop (mkF m 30 #[.val (.ref a), .val (.long v2), .second] [(.long v2), (.long v2)]))
  refine Go.of (fun _ q => XS.bipush X3.here hx rfl (hb hby d3_30) q) ?_
  show Go _ _ _ _ _ _ _ (T3.setTop (mkF m 32 #[.val (.ref a), .val (.long v2), .second] [(.int (27 : Int32)), (.long v2), (.long v2)]))
  refine Go.of (fun _ q => XS.lushr X3.here hx rfl (hb hby d3_32) rfl q) ?_
  show Go _ _ _ _ _ _ _ (T3.setTop (mkF m 33 #[.val (.ref a), .val (.long v2), .second] [(.long ((v2.toUInt64 >>> ((27 : Int32) &&& 0x3f).toInt64.toUInt64).toInt64)), (.long v2)]))
  refine Go.of (fun _ q => XS.lxor X3.here hx rfl (hb hby d3_33) rfl q) ?_
  show Go _ _ _ _ _ _ _ (T3.setTop (mkF m 34 #[.val (.ref a), .val (.long v2), .second] [(.long (v2 ^^^ ((v2.toUInt64 >>> ((27 : Int32) &&& 0x3f).toInt64.toUInt64).toInt64)))]))
  refine Go.of (fun _ q => X3.ldc2Long hx hown (mvT hZ (hw _ (List.mem_of_getElem? (i := 19) rfl))) (g := (mkF m 34 #[.val (.ref a), .val (.long v2), .second] [(.long (v2 ^^^ ((v2.toUInt64 >>> ((27 : Int32) &&& 0x3f).toInt64.toUInt64).toInt64)))])) rfl (hb hby d3_34) _ q) ?_
  show Go _ _ _ _ _ _ _ (T3.setTop (mkF m 37 #[.val (.ref a), .val (.long v2), .second] [(.long (-7723592293110705685 : Int64)), (.long (v2 ^^^ ((v2.toUInt64 >>> ((27 : Int32) &&& 0x3f).toInt64.toUInt64).toInt64)))]))
  refine Go.of (fun _ q => XS.lmul X3.here hx rfl (hb hby d3_37) rfl q) ?_
  show Go _ _ _ _ _ _ _ (T3.setTop (mkF m 38 #[.val (.ref a), .val (.long v2), .second] [(.long ((v2 ^^^ ((v2.toUInt64 >>> ((27 : Int32) &&& 0x3f).toInt64.toUInt64).toInt64)) * (-7723592293110705685 : Int64)))]))
  refine Go.of (fun _ q => XS.lstoreN X3.here hx rfl (hb hby d3_38) rfl (l' := #[.val (.ref a), .val (.long ((v2 ^^^ ((v2.toUInt64 >>> ((27 : Int32) &&& 0x3f).toInt64.toUInt64).toInt64)) * (-7723592293110705685 : Int64))), .second]) rfl q) ?_
  obtain ⟨v3, hv3⟩ : ∃ z, z = ((v2 ^^^ ((v2.toUInt64 >>> ((27 : Int32) &&& 0x3f).toInt64.toUInt64).toInt64)) * (-7723592293110705685 : Int64)) := ⟨_, rfl⟩
  rw [← hv3]
  show Go _ _ _ _ _ _ _ (T3.setTop (mkF m 39 #[.val (.ref a), .val (.long v3), .second] []))
  refine Go.of (fun _ q => XS.lloadN X3.here hx rfl (hb hby d3_39) rfl q) ?_
  show Go _ _ _ _ _ _ _ (T3.setTop (mkF m 40 #[.val (.ref a), .val (.long v3), .second] [(.long v3)]))
  refine Go.of (fun _ q => XS.lloadN X3.here hx rfl (hb hby d3_40) rfl q) ?_
  show Go _ _ _ _ _ _ _ (T3.setTop (mkF m 41 #[.val (.ref a), .val (.long v3), .second] [(.long v3), (.long v3)]))
  refine Go.of (fun _ q => XS.bipush X3.here hx rfl (hb hby d3_41) q) ?_
  show Go _ _ _ _ _ _ _ (T3.setTop (mkF m 43 #[.val (.ref a), .val (.long v3), .second] [(.int (31 : Int32)), (.long v3), (.long v3)]))
  refine Go.of (fun _ q => XS.lushr X3.here hx rfl (hb hby d3_43) rfl q) ?_
  show Go _ _ _ _ _ _ _ (T3.setTop (mkF m 44 #[.val (.ref a), .val (.long v3), .second] [(.long ((v3.toUInt64 >>> ((31 : Int32) &&& 0x3f).toInt64.toUInt64).toInt64)), (.long v3)]))
  refine Go.of (fun _ q => XS.lxor X3.here hx rfl (hb hby d3_44) rfl q) ?_
  show Go _ _ _ _ _ _ _ (T3.setTop (mkF m 45 #[.val (.ref a), .val (.long v3), .second] [(.long (v3 ^^^ ((v3.toUInt64 >>> ((31 : Int32) &&& 0x3f).toInt64.toUInt64).toInt64)))]))
  refine Go.retJ X3 hx hlk hret (hb hby d3_45) (by decide) (by decide) ?_
  rw [e3]
  exact ⟨(by rw [hv3, hv2, hv1]; rfl), N2, Kp, E_a, F_a_state⟩
theorem d5_0 : decode method_2_code 0 = .ok (.lload_n 0, 1) := by decide +kernel
theorem d5_1 : decode method_2_code 1 = .ok (.lstore_n 2, 1) := by decide +kernel
theorem d5_2 : decode method_2_code 2 = .ok (.lload_n 2, 1) := by decide +kernel
theorem d5_3 : decode method_2_code 3 = .ok (.ldc2_w 7, 3) := by decide +kernel
theorem d5_6 : decode method_2_code 6 = .ok (.lload_n 0, 1) := by decide +kernel
theorem d5_7 : decode method_2_code 7 = .ok (.lload_n 2, 1) := by decide +kernel
theorem d5_8 : decode method_2_code 8 = .ok (.lmul, 1) := by decide +kernel
theorem d5_9 : decode method_2_code 9 = .ok (.lsub, 1) := by decide +kernel
theorem d5_10 : decode method_2_code 10 = .ok (.lmul, 1) := by decide +kernel
theorem d5_11 : decode method_2_code 11 = .ok (.lstore_n 2, 1) := by decide +kernel
theorem d5_12 : decode method_2_code 12 = .ok (.lload_n 2, 1) := by decide +kernel
theorem d5_13 : decode method_2_code 13 = .ok (.ldc2_w 7, 3) := by decide +kernel
theorem d5_16 : decode method_2_code 16 = .ok (.lload_n 0, 1) := by decide +kernel
theorem d5_17 : decode method_2_code 17 = .ok (.lload_n 2, 1) := by decide +kernel
theorem d5_18 : decode method_2_code 18 = .ok (.lmul, 1) := by decide +kernel
theorem d5_19 : decode method_2_code 19 = .ok (.lsub, 1) := by decide +kernel
theorem d5_20 : decode method_2_code 20 = .ok (.lmul, 1) := by decide +kernel
theorem d5_21 : decode method_2_code 21 = .ok (.lstore_n 2, 1) := by decide +kernel
theorem d5_22 : decode method_2_code 22 = .ok (.lload_n 2, 1) := by decide +kernel
theorem d5_23 : decode method_2_code 23 = .ok (.ldc2_w 7, 3) := by decide +kernel
theorem d5_26 : decode method_2_code 26 = .ok (.lload_n 0, 1) := by decide +kernel
theorem d5_27 : decode method_2_code 27 = .ok (.lload_n 2, 1) := by decide +kernel
theorem d5_28 : decode method_2_code 28 = .ok (.lmul, 1) := by decide +kernel
theorem d5_29 : decode method_2_code 29 = .ok (.lsub, 1) := by decide +kernel
theorem d5_30 : decode method_2_code 30 = .ok (.lmul, 1) := by decide +kernel
theorem d5_31 : decode method_2_code 31 = .ok (.lstore_n 2, 1) := by decide +kernel
theorem d5_32 : decode method_2_code 32 = .ok (.lload_n 2, 1) := by decide +kernel
theorem d5_33 : decode method_2_code 33 = .ok (.ldc2_w 7, 3) := by decide +kernel
theorem d5_36 : decode method_2_code 36 = .ok (.lload_n 0, 1) := by decide +kernel
theorem d5_37 : decode method_2_code 37 = .ok (.lload_n 2, 1) := by decide +kernel
theorem d5_38 : decode method_2_code 38 = .ok (.lmul, 1) := by decide +kernel
theorem d5_39 : decode method_2_code 39 = .ok (.lsub, 1) := by decide +kernel
theorem d5_40 : decode method_2_code 40 = .ok (.lmul, 1) := by decide +kernel
theorem d5_41 : decode method_2_code 41 = .ok (.lstore_n 2, 1) := by decide +kernel
theorem d5_42 : decode method_2_code 42 = .ok (.lload_n 2, 1) := by decide +kernel
theorem d5_43 : decode method_2_code 43 = .ok (.ldc2_w 7, 3) := by decide +kernel
theorem d5_46 : decode method_2_code 46 = .ok (.lload_n 0, 1) := by decide +kernel
theorem d5_47 : decode method_2_code 47 = .ok (.lload_n 2, 1) := by decide +kernel
theorem d5_48 : decode method_2_code 48 = .ok (.lmul, 1) := by decide +kernel
theorem d5_49 : decode method_2_code 49 = .ok (.lsub, 1) := by decide +kernel
theorem d5_50 : decode method_2_code 50 = .ok (.lmul, 1) := by decide +kernel
theorem d5_51 : decode method_2_code 51 = .ok (.lstore_n 2, 1) := by decide +kernel
theorem d5_52 : decode method_2_code 52 = .ok (.lload_n 2, 1) := by decide +kernel
theorem d5_53 : decode method_2_code 53 = .ok (.lreturn, 1) := by decide +kernel
theorem pn1 : plainName "com/example/tundra_ascent/tundraascent/core/SeededRandomNextLongPinLaw" = true := by first | (simp [plainName, overriddenIn]; done) | decide +kernel
theorem ef_5 (m : MethodId) (x1 : Int64) : entryFrame m #[(.long x1)] 4 = mkF m 0 #[.val (.long x1), .second, .unset, .unset] [] := by first | (simp [entryFrame, mkF, argsToLocals, Value.category]; done) | rfl
def Q5 (Z : State) (x1 : Int64) (h0 : Heap) (n0 : Nat) (v : Option Value) (h : Heap) (L : List Loc) : Prop := v = some (.long (own_inv x1)) ∧ Fr n0 L ∧ h = h0
set_option maxRecDepth 65536 in
set_option maxHeartbeats 40000000 in
theorem rm5 (l : Launch) (Z : State) (a0 : Array Value) (hw : ∀ d ∈ tables_1, d.before a0 Z = true) (x1 : Int64) (h0 : Heap) (n0 : Nat) (Zs : n0 ≤ h0.size)  :
    Con l Z (⟨"com/example/tundra_ascent/tundraascent/core/SeededRandomNextLongPinLaw", "inv", "(J)J"⟩ : MethodName) method_2_code 4 (some .long) ({ frames := 0, cells := 0, slots := 0, locals := 0 } : Room) #[(.long x1)] h0 (Q5 Z x1 h0 n0) := by
  refine Con.intro (plainFor_of_name pn1) (fun m => ef_5 m x1) ?_
  intro p e s m below meth c s₁ hx hby hml0 hZ hown hnm hret hlk X0 e0
  have hml : c.maxLocals = 4 := hml0
  have N0 := Fr.nil n0
  have Kp : Keep h0 h0 [] := Keep.refl h0 _
  show Go _ _ _ _ _ _ _ (s₁.setTop (mkF m 0 #[.val (.long x1), .second, .unset, .unset] []))
  refine Go.of (fun _ q => XS.lloadN X0.here hx rfl (hb hby d5_0) rfl q) ?_
  show Go _ _ _ _ _ _ _ (s₁.setTop (mkF m 1 #[.val (.long x1), .second, .unset, .unset] [(.long x1)]))
  refine Go.of (fun _ q => XS.lstoreN X0.here hx rfl (hb hby d5_1) rfl (l' := #[.val (.long x1), .second, .val (.long x1), .second]) rfl q) ?_
  show Go _ _ _ _ _ _ _ (s₁.setTop (mkF m 2 #[.val (.long x1), .second, .val (.long x1), .second] []))
  refine Go.of (fun _ q => XS.lloadN X0.here hx rfl (hb hby d5_2) rfl q) ?_
  show Go _ _ _ _ _ _ _ (s₁.setTop (mkF m 3 #[.val (.long x1), .second, .val (.long x1), .second] [(.long x1)]))
  refine Go.of (fun _ q => X0.ldc2Long hx hown (mvT hZ (hw _ (List.mem_of_getElem? (i := 28) rfl))) (g := (mkF m 3 #[.val (.long x1), .second, .val (.long x1), .second] [(.long x1)])) rfl (hb hby d5_3) _ q) ?_
  show Go _ _ _ _ _ _ _ (s₁.setTop (mkF m 6 #[.val (.long x1), .second, .val (.long x1), .second] [(.long (2 : Int64)), (.long x1)]))
  refine Go.of (fun _ q => XS.lloadN X0.here hx rfl (hb hby d5_6) rfl q) ?_
  show Go _ _ _ _ _ _ _ (s₁.setTop (mkF m 7 #[.val (.long x1), .second, .val (.long x1), .second] [(.long x1), (.long (2 : Int64)), (.long x1)]))
  refine Go.of (fun _ q => XS.lloadN X0.here hx rfl (hb hby d5_7) rfl q) ?_
  show Go _ _ _ _ _ _ _ (s₁.setTop (mkF m 8 #[.val (.long x1), .second, .val (.long x1), .second] [(.long x1), (.long x1), (.long (2 : Int64)), (.long x1)]))
  refine Go.of (fun _ q => XS.lmul X0.here hx rfl (hb hby d5_8) rfl q) ?_
  show Go _ _ _ _ _ _ _ (s₁.setTop (mkF m 9 #[.val (.long x1), .second, .val (.long x1), .second] [(.long (x1 * x1)), (.long (2 : Int64)), (.long x1)]))
  refine Go.of (fun _ q => XS.lsub X0.here hx rfl (hb hby d5_9) rfl q) ?_
  show Go _ _ _ _ _ _ _ (s₁.setTop (mkF m 10 #[.val (.long x1), .second, .val (.long x1), .second] [(.long ((2 : Int64) - (x1 * x1))), (.long x1)]))
  refine Go.of (fun _ q => XS.lmul X0.here hx rfl (hb hby d5_10) rfl q) ?_
  show Go _ _ _ _ _ _ _ (s₁.setTop (mkF m 11 #[.val (.long x1), .second, .val (.long x1), .second] [(.long (x1 * ((2 : Int64) - (x1 * x1))))]))
  refine Go.of (fun _ q => XS.lstoreN X0.here hx rfl (hb hby d5_11) rfl (l' := #[.val (.long x1), .second, .val (.long (x1 * ((2 : Int64) - (x1 * x1)))), .second]) rfl q) ?_
  obtain ⟨v1, hv1⟩ : ∃ z, z = (x1 * ((2 : Int64) - (x1 * x1))) := ⟨_, rfl⟩
  rw [← hv1]
  show Go _ _ _ _ _ _ _ (s₁.setTop (mkF m 12 #[.val (.long x1), .second, .val (.long v1), .second] []))
  refine Go.of (fun _ q => XS.lloadN X0.here hx rfl (hb hby d5_12) rfl q) ?_
  show Go _ _ _ _ _ _ _ (s₁.setTop (mkF m 13 #[.val (.long x1), .second, .val (.long v1), .second] [(.long v1)]))
  refine Go.of (fun _ q => X0.ldc2Long hx hown (mvT hZ (hw _ (List.mem_of_getElem? (i := 28) rfl))) (g := (mkF m 13 #[.val (.long x1), .second, .val (.long v1), .second] [(.long v1)])) rfl (hb hby d5_13) _ q) ?_
  show Go _ _ _ _ _ _ _ (s₁.setTop (mkF m 16 #[.val (.long x1), .second, .val (.long v1), .second] [(.long (2 : Int64)), (.long v1)]))
  refine Go.of (fun _ q => XS.lloadN X0.here hx rfl (hb hby d5_16) rfl q) ?_
  show Go _ _ _ _ _ _ _ (s₁.setTop (mkF m 17 #[.val (.long x1), .second, .val (.long v1), .second] [(.long x1), (.long (2 : Int64)), (.long v1)]))
  refine Go.of (fun _ q => XS.lloadN X0.here hx rfl (hb hby d5_17) rfl q) ?_
  show Go _ _ _ _ _ _ _ (s₁.setTop (mkF m 18 #[.val (.long x1), .second, .val (.long v1), .second] [(.long v1), (.long x1), (.long (2 : Int64)), (.long v1)]))
  refine Go.of (fun _ q => XS.lmul X0.here hx rfl (hb hby d5_18) rfl q) ?_
  show Go _ _ _ _ _ _ _ (s₁.setTop (mkF m 19 #[.val (.long x1), .second, .val (.long v1), .second] [(.long (x1 * v1)), (.long (2 : Int64)), (.long v1)]))
  refine Go.of (fun _ q => XS.lsub X0.here hx rfl (hb hby d5_19) rfl q) ?_
  show Go _ _ _ _ _ _ _ (s₁.setTop (mkF m 20 #[.val (.long x1), .second, .val (.long v1), .second] [(.long ((2 : Int64) - (x1 * v1))), (.long v1)]))
  refine Go.of (fun _ q => XS.lmul X0.here hx rfl (hb hby d5_20) rfl q) ?_
  show Go _ _ _ _ _ _ _ (s₁.setTop (mkF m 21 #[.val (.long x1), .second, .val (.long v1), .second] [(.long (v1 * ((2 : Int64) - (x1 * v1))))]))
  refine Go.of (fun _ q => XS.lstoreN X0.here hx rfl (hb hby d5_21) rfl (l' := #[.val (.long x1), .second, .val (.long (v1 * ((2 : Int64) - (x1 * v1)))), .second]) rfl q) ?_
  obtain ⟨v2, hv2⟩ : ∃ z, z = (v1 * ((2 : Int64) - (x1 * v1))) := ⟨_, rfl⟩
  rw [← hv2]
  show Go _ _ _ _ _ _ _ (s₁.setTop (mkF m 22 #[.val (.long x1), .second, .val (.long v2), .second] []))
  refine Go.of (fun _ q => XS.lloadN X0.here hx rfl (hb hby d5_22) rfl q) ?_
  show Go _ _ _ _ _ _ _ (s₁.setTop (mkF m 23 #[.val (.long x1), .second, .val (.long v2), .second] [(.long v2)]))
  refine Go.of (fun _ q => X0.ldc2Long hx hown (mvT hZ (hw _ (List.mem_of_getElem? (i := 28) rfl))) (g := (mkF m 23 #[.val (.long x1), .second, .val (.long v2), .second] [(.long v2)])) rfl (hb hby d5_23) _ q) ?_
  show Go _ _ _ _ _ _ _ (s₁.setTop (mkF m 26 #[.val (.long x1), .second, .val (.long v2), .second] [(.long (2 : Int64)), (.long v2)]))
  refine Go.of (fun _ q => XS.lloadN X0.here hx rfl (hb hby d5_26) rfl q) ?_
  show Go _ _ _ _ _ _ _ (s₁.setTop (mkF m 27 #[.val (.long x1), .second, .val (.long v2), .second] [(.long x1), (.long (2 : Int64)), (.long v2)]))
  refine Go.of (fun _ q => XS.lloadN X0.here hx rfl (hb hby d5_27) rfl q) ?_
  show Go _ _ _ _ _ _ _ (s₁.setTop (mkF m 28 #[.val (.long x1), .second, .val (.long v2), .second] [(.long v2), (.long x1), (.long (2 : Int64)), (.long v2)]))
  refine Go.of (fun _ q => XS.lmul X0.here hx rfl (hb hby d5_28) rfl q) ?_
  show Go _ _ _ _ _ _ _ (s₁.setTop (mkF m 29 #[.val (.long x1), .second, .val (.long v2), .second] [(.long (x1 * v2)), (.long (2 : Int64)), (.long v2)]))
  refine Go.of (fun _ q => XS.lsub X0.here hx rfl (hb hby d5_29) rfl q) ?_
  show Go _ _ _ _ _ _ _ (s₁.setTop (mkF m 30 #[.val (.long x1), .second, .val (.long v2), .second] [(.long ((2 : Int64) - (x1 * v2))), (.long v2)]))
  refine Go.of (fun _ q => XS.lmul X0.here hx rfl (hb hby d5_30) rfl q) ?_
  show Go _ _ _ _ _ _ _ (s₁.setTop (mkF m 31 #[.val (.long x1), .second, .val (.long v2), .second] [(.long (v2 * ((2 : Int64) - (x1 * v2))))]))
  refine Go.of (fun _ q => XS.lstoreN X0.here hx rfl (hb hby d5_31) rfl (l' := #[.val (.long x1), .second, .val (.long (v2 * ((2 : Int64) - (x1 * v2)))), .second]) rfl q) ?_
  obtain ⟨v3, hv3⟩ : ∃ z, z = (v2 * ((2 : Int64) - (x1 * v2))) := ⟨_, rfl⟩
  rw [← hv3]
  show Go _ _ _ _ _ _ _ (s₁.setTop (mkF m 32 #[.val (.long x1), .second, .val (.long v3), .second] []))
  refine Go.of (fun _ q => XS.lloadN X0.here hx rfl (hb hby d5_32) rfl q) ?_
  show Go _ _ _ _ _ _ _ (s₁.setTop (mkF m 33 #[.val (.long x1), .second, .val (.long v3), .second] [(.long v3)]))
  refine Go.of (fun _ q => X0.ldc2Long hx hown (mvT hZ (hw _ (List.mem_of_getElem? (i := 28) rfl))) (g := (mkF m 33 #[.val (.long x1), .second, .val (.long v3), .second] [(.long v3)])) rfl (hb hby d5_33) _ q) ?_
  show Go _ _ _ _ _ _ _ (s₁.setTop (mkF m 36 #[.val (.long x1), .second, .val (.long v3), .second] [(.long (2 : Int64)), (.long v3)]))
  refine Go.of (fun _ q => XS.lloadN X0.here hx rfl (hb hby d5_36) rfl q) ?_
  show Go _ _ _ _ _ _ _ (s₁.setTop (mkF m 37 #[.val (.long x1), .second, .val (.long v3), .second] [(.long x1), (.long (2 : Int64)), (.long v3)]))
  refine Go.of (fun _ q => XS.lloadN X0.here hx rfl (hb hby d5_37) rfl q) ?_
  show Go _ _ _ _ _ _ _ (s₁.setTop (mkF m 38 #[.val (.long x1), .second, .val (.long v3), .second] [(.long v3), (.long x1), (.long (2 : Int64)), (.long v3)]))
  refine Go.of (fun _ q => XS.lmul X0.here hx rfl (hb hby d5_38) rfl q) ?_
  show Go _ _ _ _ _ _ _ (s₁.setTop (mkF m 39 #[.val (.long x1), .second, .val (.long v3), .second] [(.long (x1 * v3)), (.long (2 : Int64)), (.long v3)]))
  refine Go.of (fun _ q => XS.lsub X0.here hx rfl (hb hby d5_39) rfl q) ?_
  show Go _ _ _ _ _ _ _ (s₁.setTop (mkF m 40 #[.val (.long x1), .second, .val (.long v3), .second] [(.long ((2 : Int64) - (x1 * v3))), (.long v3)]))
  refine Go.of (fun _ q => XS.lmul X0.here hx rfl (hb hby d5_40) rfl q) ?_
  show Go _ _ _ _ _ _ _ (s₁.setTop (mkF m 41 #[.val (.long x1), .second, .val (.long v3), .second] [(.long (v3 * ((2 : Int64) - (x1 * v3))))]))
  refine Go.of (fun _ q => XS.lstoreN X0.here hx rfl (hb hby d5_41) rfl (l' := #[.val (.long x1), .second, .val (.long (v3 * ((2 : Int64) - (x1 * v3)))), .second]) rfl q) ?_
  obtain ⟨v4, hv4⟩ : ∃ z, z = (v3 * ((2 : Int64) - (x1 * v3))) := ⟨_, rfl⟩
  rw [← hv4]
  show Go _ _ _ _ _ _ _ (s₁.setTop (mkF m 42 #[.val (.long x1), .second, .val (.long v4), .second] []))
  refine Go.of (fun _ q => XS.lloadN X0.here hx rfl (hb hby d5_42) rfl q) ?_
  show Go _ _ _ _ _ _ _ (s₁.setTop (mkF m 43 #[.val (.long x1), .second, .val (.long v4), .second] [(.long v4)]))
  refine Go.of (fun _ q => X0.ldc2Long hx hown (mvT hZ (hw _ (List.mem_of_getElem? (i := 28) rfl))) (g := (mkF m 43 #[.val (.long x1), .second, .val (.long v4), .second] [(.long v4)])) rfl (hb hby d5_43) _ q) ?_
  show Go _ _ _ _ _ _ _ (s₁.setTop (mkF m 46 #[.val (.long x1), .second, .val (.long v4), .second] [(.long (2 : Int64)), (.long v4)]))
  refine Go.of (fun _ q => XS.lloadN X0.here hx rfl (hb hby d5_46) rfl q) ?_
  show Go _ _ _ _ _ _ _ (s₁.setTop (mkF m 47 #[.val (.long x1), .second, .val (.long v4), .second] [(.long x1), (.long (2 : Int64)), (.long v4)]))
  refine Go.of (fun _ q => XS.lloadN X0.here hx rfl (hb hby d5_47) rfl q) ?_
  show Go _ _ _ _ _ _ _ (s₁.setTop (mkF m 48 #[.val (.long x1), .second, .val (.long v4), .second] [(.long v4), (.long x1), (.long (2 : Int64)), (.long v4)]))
  refine Go.of (fun _ q => XS.lmul X0.here hx rfl (hb hby d5_48) rfl q) ?_
  show Go _ _ _ _ _ _ _ (s₁.setTop (mkF m 49 #[.val (.long x1), .second, .val (.long v4), .second] [(.long (x1 * v4)), (.long (2 : Int64)), (.long v4)]))
  refine Go.of (fun _ q => XS.lsub X0.here hx rfl (hb hby d5_49) rfl q) ?_
  show Go _ _ _ _ _ _ _ (s₁.setTop (mkF m 50 #[.val (.long x1), .second, .val (.long v4), .second] [(.long ((2 : Int64) - (x1 * v4))), (.long v4)]))
  refine Go.of (fun _ q => XS.lmul X0.here hx rfl (hb hby d5_50) rfl q) ?_
  show Go _ _ _ _ _ _ _ (s₁.setTop (mkF m 51 #[.val (.long x1), .second, .val (.long v4), .second] [(.long (v4 * ((2 : Int64) - (x1 * v4))))]))
  refine Go.of (fun _ q => XS.lstoreN X0.here hx rfl (hb hby d5_51) rfl (l' := #[.val (.long x1), .second, .val (.long (v4 * ((2 : Int64) - (x1 * v4)))), .second]) rfl q) ?_
  obtain ⟨v5, hv5⟩ : ∃ z, z = (v4 * ((2 : Int64) - (x1 * v4))) := ⟨_, rfl⟩
  rw [← hv5]
  show Go _ _ _ _ _ _ _ (s₁.setTop (mkF m 52 #[.val (.long x1), .second, .val (.long v5), .second] []))
  refine Go.of (fun _ q => XS.lloadN X0.here hx rfl (hb hby d5_52) rfl q) ?_
  show Go _ _ _ _ _ _ _ (s₁.setTop (mkF m 53 #[.val (.long x1), .second, .val (.long v5), .second] [(.long v5)]))
  refine Go.retJ X0 hx hlk hret (hb hby d5_53) (by decide) (by decide) ?_
  rw [e0]
  exact ⟨(by rw [hv5, hv4, hv3, hv2, hv1]; rfl), N0, rfl⟩
theorem pd0 : parseMethodDescriptor "(J)J" = some ⟨[.long], some .long⟩ := by decide +kernel
theorem d4_0 : decode method_3_code 0 = .ok (.lload_n 0, 1) := by decide +kernel
theorem d4_1 : decode method_3_code 1 = .ok (.lload_n 0, 1) := by decide +kernel
theorem d4_2 : decode method_3_code 2 = .ok (.bipush 31, 2) := by decide +kernel
theorem d4_4 : decode method_3_code 4 = .ok (.lushr, 1) := by decide +kernel
theorem d4_5 : decode method_3_code 5 = .ok (.lxor, 1) := by decide +kernel
theorem d4_6 : decode method_3_code 6 = .ok (.lload_n 0, 1) := by decide +kernel
theorem d4_7 : decode method_3_code 7 = .ok (.bipush 62, 2) := by decide +kernel
theorem d4_9 : decode method_3_code 9 = .ok (.lushr, 1) := by decide +kernel
theorem d4_10 : decode method_3_code 10 = .ok (.lxor, 1) := by decide +kernel
theorem d4_11 : decode method_3_code 11 = .ok (.lstore_n 2, 1) := by decide +kernel
theorem d4_12 : decode method_3_code 12 = .ok (.lload_n 2, 1) := by decide +kernel
theorem d4_13 : decode method_3_code 13 = .ok (.ldc2_w 9, 3) := by decide +kernel
theorem d4_16 : decode method_3_code 16 = .ok (.invokestatic 11, 3) := by decide +kernel
theorem d4_19 : decode method_3_code 19 = .ok (.lmul, 1) := by decide +kernel
theorem d4_20 : decode method_3_code 20 = .ok (.lstore 4, 2) := by decide +kernel
theorem d4_22 : decode method_3_code 22 = .ok (.lload 4, 2) := by decide +kernel
theorem d4_24 : decode method_3_code 24 = .ok (.lload 4, 2) := by decide +kernel
theorem d4_26 : decode method_3_code 26 = .ok (.bipush 27, 2) := by decide +kernel
theorem d4_28 : decode method_3_code 28 = .ok (.lushr, 1) := by decide +kernel
theorem d4_29 : decode method_3_code 29 = .ok (.lxor, 1) := by decide +kernel
theorem d4_30 : decode method_3_code 30 = .ok (.lload 4, 2) := by decide +kernel
theorem d4_32 : decode method_3_code 32 = .ok (.bipush 54, 2) := by decide +kernel
theorem d4_34 : decode method_3_code 34 = .ok (.lushr, 1) := by decide +kernel
theorem d4_35 : decode method_3_code 35 = .ok (.lxor, 1) := by decide +kernel
theorem d4_36 : decode method_3_code 36 = .ok (.lstore 6, 2) := by decide +kernel
theorem d4_38 : decode method_3_code 38 = .ok (.lload 6, 2) := by decide +kernel
theorem d4_40 : decode method_3_code 40 = .ok (.ldc2_w 17, 3) := by decide +kernel
theorem d4_43 : decode method_3_code 43 = .ok (.invokestatic 11, 3) := by decide +kernel
theorem d4_46 : decode method_3_code 46 = .ok (.lmul, 1) := by decide +kernel
theorem d4_47 : decode method_3_code 47 = .ok (.lstore 8, 2) := by decide +kernel
theorem d4_49 : decode method_3_code 49 = .ok (.lload 8, 2) := by decide +kernel
theorem d4_51 : decode method_3_code 51 = .ok (.lload 8, 2) := by decide +kernel
theorem d4_53 : decode method_3_code 53 = .ok (.bipush 30, 2) := by decide +kernel
theorem d4_55 : decode method_3_code 55 = .ok (.lushr, 1) := by decide +kernel
theorem d4_56 : decode method_3_code 56 = .ok (.lxor, 1) := by decide +kernel
theorem d4_57 : decode method_3_code 57 = .ok (.lload 8, 2) := by decide +kernel
theorem d4_59 : decode method_3_code 59 = .ok (.bipush 60, 2) := by decide +kernel
theorem d4_61 : decode method_3_code 61 = .ok (.lushr, 1) := by decide +kernel
theorem d4_62 : decode method_3_code 62 = .ok (.lxor, 1) := by decide +kernel
theorem d4_63 : decode method_3_code 63 = .ok (.lreturn, 1) := by decide +kernel
theorem ef_4 (m : MethodId) (x1 : Int64) : entryFrame m #[(.long x1)] 10 = mkF m 0 #[.val (.long x1), .second, .unset, .unset, .unset, .unset, .unset, .unset, .unset, .unset] [] := by first | (simp [entryFrame, mkF, argsToLocals, Value.category]; done) | rfl
def Q4 (Z : State) (x1 : Int64) (h0 : Heap) (n0 : Nat) (v : Option Value) (h : Heap) (L : List Loc) : Prop := v = some (.long (own_unmix x1)) ∧ Fr n0 L ∧ h = h0
set_option maxRecDepth 65536 in
set_option maxHeartbeats 40000000 in
theorem rm4 (l : Launch) (Z : State) (a0 : Array Value) (hw : ∀ d ∈ tables_1, d.before a0 Z = true) (x1 : Int64) (h0 : Heap) (n0 : Nat) (Zs : n0 ≤ h0.size)  :
    Con l Z (⟨"com/example/tundra_ascent/tundraascent/core/SeededRandomNextLongPinLaw", "unmix", "(J)J"⟩ : MethodName) method_3_code 10 (some .long) ({ frames := 1, cells := 0, slots := 0, locals := 17 } : Room) #[(.long x1)] h0 (Q4 Z x1 h0 n0) := by
  refine Con.intro (plainFor_of_name pn1) (fun m => ef_4 m x1) ?_
  intro p e s m below meth c s₁ hx hby hml0 hZ hown hnm hret hlk X0 e0
  have hml : c.maxLocals = 10 := hml0
  have N0 := Fr.nil n0
  have Kp : Keep h0 h0 [] := Keep.refl h0 _
  show Go _ _ _ _ _ _ _ (s₁.setTop (mkF m 0 #[.val (.long x1), .second, .unset, .unset, .unset, .unset, .unset, .unset, .unset, .unset] []))
  refine Go.of (fun _ q => XS.lloadN X0.here hx rfl (hb hby d4_0) rfl q) ?_
  show Go _ _ _ _ _ _ _ (s₁.setTop (mkF m 1 #[.val (.long x1), .second, .unset, .unset, .unset, .unset, .unset, .unset, .unset, .unset] [(.long x1)]))
  refine Go.of (fun _ q => XS.lloadN X0.here hx rfl (hb hby d4_1) rfl q) ?_
  show Go _ _ _ _ _ _ _ (s₁.setTop (mkF m 2 #[.val (.long x1), .second, .unset, .unset, .unset, .unset, .unset, .unset, .unset, .unset] [(.long x1), (.long x1)]))
  refine Go.of (fun _ q => XS.bipush X0.here hx rfl (hb hby d4_2) q) ?_
  show Go _ _ _ _ _ _ _ (s₁.setTop (mkF m 4 #[.val (.long x1), .second, .unset, .unset, .unset, .unset, .unset, .unset, .unset, .unset] [(.int (31 : Int32)), (.long x1), (.long x1)]))
  refine Go.of (fun _ q => XS.lushr X0.here hx rfl (hb hby d4_4) rfl q) ?_
  show Go _ _ _ _ _ _ _ (s₁.setTop (mkF m 5 #[.val (.long x1), .second, .unset, .unset, .unset, .unset, .unset, .unset, .unset, .unset] [(.long ((x1.toUInt64 >>> ((31 : Int32) &&& 0x3f).toInt64.toUInt64).toInt64)), (.long x1)]))
  refine Go.of (fun _ q => XS.lxor X0.here hx rfl (hb hby d4_5) rfl q) ?_
  show Go _ _ _ _ _ _ _ (s₁.setTop (mkF m 6 #[.val (.long x1), .second, .unset, .unset, .unset, .unset, .unset, .unset, .unset, .unset] [(.long (x1 ^^^ ((x1.toUInt64 >>> ((31 : Int32) &&& 0x3f).toInt64.toUInt64).toInt64)))]))
  refine Go.of (fun _ q => XS.lloadN X0.here hx rfl (hb hby d4_6) rfl q) ?_
  show Go _ _ _ _ _ _ _ (s₁.setTop (mkF m 7 #[.val (.long x1), .second, .unset, .unset, .unset, .unset, .unset, .unset, .unset, .unset] [(.long x1), (.long (x1 ^^^ ((x1.toUInt64 >>> ((31 : Int32) &&& 0x3f).toInt64.toUInt64).toInt64)))]))
  refine Go.of (fun _ q => XS.bipush X0.here hx rfl (hb hby d4_7) q) ?_
  show Go _ _ _ _ _ _ _ (s₁.setTop (mkF m 9 #[.val (.long x1), .second, .unset, .unset, .unset, .unset, .unset, .unset, .unset, .unset] [(.int (62 : Int32)), (.long x1), (.long (x1 ^^^ ((x1.toUInt64 >>> ((31 : Int32) &&& 0x3f).toInt64.toUInt64).toInt64)))]))
  refine Go.of (fun _ q => XS.lushr X0.here hx rfl (hb hby d4_9) rfl q) ?_
  show Go _ _ _ _ _ _ _ (s₁.setTop (mkF m 10 #[.val (.long x1), .second, .unset, .unset, .unset, .unset, .unset, .unset, .unset, .unset] [(.long ((x1.toUInt64 >>> ((62 : Int32) &&& 0x3f).toInt64.toUInt64).toInt64)), (.long (x1 ^^^ ((x1.toUInt64 >>> ((31 : Int32) &&& 0x3f).toInt64.toUInt64).toInt64)))]))
  refine Go.of (fun _ q => XS.lxor X0.here hx rfl (hb hby d4_10) rfl q) ?_
  show Go _ _ _ _ _ _ _ (s₁.setTop (mkF m 11 #[.val (.long x1), .second, .unset, .unset, .unset, .unset, .unset, .unset, .unset, .unset] [(.long ((x1 ^^^ ((x1.toUInt64 >>> ((31 : Int32) &&& 0x3f).toInt64.toUInt64).toInt64)) ^^^ ((x1.toUInt64 >>> ((62 : Int32) &&& 0x3f).toInt64.toUInt64).toInt64)))]))
  refine Go.of (fun _ q => XS.lstoreN X0.here hx rfl (hb hby d4_11) rfl (l' := #[.val (.long x1), .second, .val (.long ((x1 ^^^ ((x1.toUInt64 >>> ((31 : Int32) &&& 0x3f).toInt64.toUInt64).toInt64)) ^^^ ((x1.toUInt64 >>> ((62 : Int32) &&& 0x3f).toInt64.toUInt64).toInt64))), .second, .unset, .unset, .unset, .unset, .unset, .unset]) rfl q) ?_
  obtain ⟨v1, hv1⟩ : ∃ z, z = ((x1 ^^^ ((x1.toUInt64 >>> ((31 : Int32) &&& 0x3f).toInt64.toUInt64).toInt64)) ^^^ ((x1.toUInt64 >>> ((62 : Int32) &&& 0x3f).toInt64.toUInt64).toInt64)) := ⟨_, rfl⟩
  rw [← hv1]
  show Go _ _ _ _ _ _ _ (s₁.setTop (mkF m 12 #[.val (.long x1), .second, .val (.long v1), .second, .unset, .unset, .unset, .unset, .unset, .unset] []))
  refine Go.of (fun _ q => XS.lloadN X0.here hx rfl (hb hby d4_12) rfl q) ?_
  show Go _ _ _ _ _ _ _ (s₁.setTop (mkF m 13 #[.val (.long x1), .second, .val (.long v1), .second, .unset, .unset, .unset, .unset, .unset, .unset] [(.long v1)]))
  refine Go.of (fun _ q => X0.ldc2Long hx hown (mvT hZ (hw _ (List.mem_of_getElem? (i := 24) rfl))) (g := (mkF m 13 #[.val (.long x1), .second, .val (.long v1), .second, .unset, .unset, .unset, .unset, .unset, .unset] [(.long v1)])) rfl (hb hby d4_13) _ q) ?_
  show Go _ _ _ _ _ _ _ (s₁.setTop (mkF m 16 #[.val (.long x1), .second, .val (.long v1), .second, .unset, .unset, .unset, .unset, .unset, .unset] [(.long (-7723592293110705685 : Int64)), (.long v1)]))
  refine Go.static X0 hx hZ (y := (⟨"com/example/tundra_ascent/tundraascent/core/SeededRandomNextLongPinLaw", "inv", "(J)J"⟩ : MethodName)) (argsL := [(.long (-7723592293110705685 : Int64))]) hown (hw _ (List.mem_of_getElem? (i := 25) rfl)) (hw _ (List.mem_of_getElem? (i := 26) rfl)) (hw _ (List.mem_of_getElem? (i := 22) rfl)) (hw _ (List.mem_of_getElem? (i := 27) rfl)) (by decide) 2 e0 (rm5 l Z a0 hw (-7723592293110705685 : Int64) h0 n0 Zs ) (by decide) (by decide) (by decide) (by decide) (g := (mkF m 16 #[.val (.long x1), .second, .val (.long v1), .second, .unset, .unset, .unset, .unset, .unset, .unset] [(.long (-7723592293110705685 : Int64)), (.long v1)])) rfl (by rw [hml]; rfl) (rest := [(.long v1)]) (lenOf pd0 rfl) rfl (by show 2 * 0 + _ ≤ _; exact Nat.le_of_eq rfl) (hb hby d4_16) ?_
  intro T1 v1 L1 X1 q1
  obtain ⟨rfl, Nq1, e1⟩ := q1
  have N1 := Fr.app N0 Nq1
  show Go _ _ _ _ _ _ _ (T1.setTop (mkF m 19 #[.val (.long x1), .second, .val (.long v1), .second, .unset, .unset, .unset, .unset, .unset, .unset] [(.long (own_inv (-7723592293110705685 : Int64))), (.long v1)]))
  refine Go.of (fun _ q => XS.lmul X1.here hx rfl (hb hby d4_19) rfl q) ?_
  show Go _ _ _ _ _ _ _ (T1.setTop (mkF m 20 #[.val (.long x1), .second, .val (.long v1), .second, .unset, .unset, .unset, .unset, .unset, .unset] [(.long (v1 * (own_inv (-7723592293110705685 : Int64))))]))
  refine Go.of (fun _ q => XS.lstore X1.here hx rfl (hb hby d4_20) rfl (l' := #[.val (.long x1), .second, .val (.long v1), .second, .val (.long (v1 * (own_inv (-7723592293110705685 : Int64)))), .second, .unset, .unset, .unset, .unset]) rfl q) ?_
  obtain ⟨v2, hv2⟩ : ∃ z, z = (v1 * (own_inv (-7723592293110705685 : Int64))) := ⟨_, rfl⟩
  rw [← hv2]
  show Go _ _ _ _ _ _ _ (T1.setTop (mkF m 22 #[.val (.long x1), .second, .val (.long v1), .second, .val (.long v2), .second, .unset, .unset, .unset, .unset] []))
  refine Go.of (fun _ q => XS.lload X1.here hx rfl (hb hby d4_22) rfl q) ?_
  show Go _ _ _ _ _ _ _ (T1.setTop (mkF m 24 #[.val (.long x1), .second, .val (.long v1), .second, .val (.long v2), .second, .unset, .unset, .unset, .unset] [(.long v2)]))
  refine Go.of (fun _ q => XS.lload X1.here hx rfl (hb hby d4_24) rfl q) ?_
  show Go _ _ _ _ _ _ _ (T1.setTop (mkF m 26 #[.val (.long x1), .second, .val (.long v1), .second, .val (.long v2), .second, .unset, .unset, .unset, .unset] [(.long v2), (.long v2)]))
  refine Go.of (fun _ q => XS.bipush X1.here hx rfl (hb hby d4_26) q) ?_
  show Go _ _ _ _ _ _ _ (T1.setTop (mkF m 28 #[.val (.long x1), .second, .val (.long v1), .second, .val (.long v2), .second, .unset, .unset, .unset, .unset] [(.int (27 : Int32)), (.long v2), (.long v2)]))
  refine Go.of (fun _ q => XS.lushr X1.here hx rfl (hb hby d4_28) rfl q) ?_
  show Go _ _ _ _ _ _ _ (T1.setTop (mkF m 29 #[.val (.long x1), .second, .val (.long v1), .second, .val (.long v2), .second, .unset, .unset, .unset, .unset] [(.long ((v2.toUInt64 >>> ((27 : Int32) &&& 0x3f).toInt64.toUInt64).toInt64)), (.long v2)]))
  refine Go.of (fun _ q => XS.lxor X1.here hx rfl (hb hby d4_29) rfl q) ?_
  show Go _ _ _ _ _ _ _ (T1.setTop (mkF m 30 #[.val (.long x1), .second, .val (.long v1), .second, .val (.long v2), .second, .unset, .unset, .unset, .unset] [(.long (v2 ^^^ ((v2.toUInt64 >>> ((27 : Int32) &&& 0x3f).toInt64.toUInt64).toInt64)))]))
  refine Go.of (fun _ q => XS.lload X1.here hx rfl (hb hby d4_30) rfl q) ?_
  show Go _ _ _ _ _ _ _ (T1.setTop (mkF m 32 #[.val (.long x1), .second, .val (.long v1), .second, .val (.long v2), .second, .unset, .unset, .unset, .unset] [(.long v2), (.long (v2 ^^^ ((v2.toUInt64 >>> ((27 : Int32) &&& 0x3f).toInt64.toUInt64).toInt64)))]))
  refine Go.of (fun _ q => XS.bipush X1.here hx rfl (hb hby d4_32) q) ?_
  show Go _ _ _ _ _ _ _ (T1.setTop (mkF m 34 #[.val (.long x1), .second, .val (.long v1), .second, .val (.long v2), .second, .unset, .unset, .unset, .unset] [(.int (54 : Int32)), (.long v2), (.long (v2 ^^^ ((v2.toUInt64 >>> ((27 : Int32) &&& 0x3f).toInt64.toUInt64).toInt64)))]))
  refine Go.of (fun _ q => XS.lushr X1.here hx rfl (hb hby d4_34) rfl q) ?_
  show Go _ _ _ _ _ _ _ (T1.setTop (mkF m 35 #[.val (.long x1), .second, .val (.long v1), .second, .val (.long v2), .second, .unset, .unset, .unset, .unset] [(.long ((v2.toUInt64 >>> ((54 : Int32) &&& 0x3f).toInt64.toUInt64).toInt64)), (.long (v2 ^^^ ((v2.toUInt64 >>> ((27 : Int32) &&& 0x3f).toInt64.toUInt64).toInt64)))]))
  refine Go.of (fun _ q => XS.lxor X1.here hx rfl (hb hby d4_35) rfl q) ?_
  show Go _ _ _ _ _ _ _ (T1.setTop (mkF m 36 #[.val (.long x1), .second, .val (.long v1), .second, .val (.long v2), .second, .unset, .unset, .unset, .unset] [(.long ((v2 ^^^ ((v2.toUInt64 >>> ((27 : Int32) &&& 0x3f).toInt64.toUInt64).toInt64)) ^^^ ((v2.toUInt64 >>> ((54 : Int32) &&& 0x3f).toInt64.toUInt64).toInt64)))]))
  refine Go.of (fun _ q => XS.lstore X1.here hx rfl (hb hby d4_36) rfl (l' := #[.val (.long x1), .second, .val (.long v1), .second, .val (.long v2), .second, .val (.long ((v2 ^^^ ((v2.toUInt64 >>> ((27 : Int32) &&& 0x3f).toInt64.toUInt64).toInt64)) ^^^ ((v2.toUInt64 >>> ((54 : Int32) &&& 0x3f).toInt64.toUInt64).toInt64))), .second, .unset, .unset]) rfl q) ?_
  obtain ⟨v3, hv3⟩ : ∃ z, z = ((v2 ^^^ ((v2.toUInt64 >>> ((27 : Int32) &&& 0x3f).toInt64.toUInt64).toInt64)) ^^^ ((v2.toUInt64 >>> ((54 : Int32) &&& 0x3f).toInt64.toUInt64).toInt64)) := ⟨_, rfl⟩
  rw [← hv3]
  show Go _ _ _ _ _ _ _ (T1.setTop (mkF m 38 #[.val (.long x1), .second, .val (.long v1), .second, .val (.long v2), .second, .val (.long v3), .second, .unset, .unset] []))
  refine Go.of (fun _ q => XS.lload X1.here hx rfl (hb hby d4_38) rfl q) ?_
  show Go _ _ _ _ _ _ _ (T1.setTop (mkF m 40 #[.val (.long x1), .second, .val (.long v1), .second, .val (.long v2), .second, .val (.long v3), .second, .unset, .unset] [(.long v3)]))
  refine Go.of (fun _ q => X1.ldc2Long hx hown (mvT hZ (hw _ (List.mem_of_getElem? (i := 29) rfl))) (g := (mkF m 40 #[.val (.long x1), .second, .val (.long v1), .second, .val (.long v2), .second, .val (.long v3), .second, .unset, .unset] [(.long v3)])) rfl (hb hby d4_40) _ q) ?_
  show Go _ _ _ _ _ _ _ (T1.setTop (mkF m 43 #[.val (.long x1), .second, .val (.long v1), .second, .val (.long v2), .second, .val (.long v3), .second, .unset, .unset] [(.long (-4658895280553007687 : Int64)), (.long v3)]))
  refine Go.static X1 hx hZ (y := (⟨"com/example/tundra_ascent/tundraascent/core/SeededRandomNextLongPinLaw", "inv", "(J)J"⟩ : MethodName)) (argsL := [(.long (-4658895280553007687 : Int64))]) hown (hw _ (List.mem_of_getElem? (i := 25) rfl)) (hw _ (List.mem_of_getElem? (i := 26) rfl)) (hw _ (List.mem_of_getElem? (i := 22) rfl)) (hw _ (List.mem_of_getElem? (i := 27) rfl)) (by decide) 2 e1 (rm5 l Z a0 hw (-4658895280553007687 : Int64) h0 n0 Zs ) (by decide) (by decide) (by decide) (by decide) (g := (mkF m 43 #[.val (.long x1), .second, .val (.long v1), .second, .val (.long v2), .second, .val (.long v3), .second, .unset, .unset] [(.long (-4658895280553007687 : Int64)), (.long v3)])) rfl (by rw [hml]; rfl) (rest := [(.long v3)]) (lenOf pd0 rfl) rfl (by show 2 * 0 + _ ≤ _; exact Nat.le_of_eq rfl) (hb hby d4_43) ?_
  intro T2 v2 L2 X2 q2
  obtain ⟨rfl, Nq2, e2⟩ := q2
  have N2 := Fr.app N1 Nq2
  show Go _ _ _ _ _ _ _ (T2.setTop (mkF m 46 #[.val (.long x1), .second, .val (.long v1), .second, .val (.long v2), .second, .val (.long v3), .second, .unset, .unset] [(.long (own_inv (-4658895280553007687 : Int64))), (.long v3)]))
  refine Go.of (fun _ q => XS.lmul X2.here hx rfl (hb hby d4_46) rfl q) ?_
  show Go _ _ _ _ _ _ _ (T2.setTop (mkF m 47 #[.val (.long x1), .second, .val (.long v1), .second, .val (.long v2), .second, .val (.long v3), .second, .unset, .unset] [(.long (v3 * (own_inv (-4658895280553007687 : Int64))))]))
  refine Go.of (fun _ q => XS.lstore X2.here hx rfl (hb hby d4_47) rfl (l' := #[.val (.long x1), .second, .val (.long v1), .second, .val (.long v2), .second, .val (.long v3), .second, .val (.long (v3 * (own_inv (-4658895280553007687 : Int64)))), .second]) rfl q) ?_
  obtain ⟨v4, hv4⟩ : ∃ z, z = (v3 * (own_inv (-4658895280553007687 : Int64))) := ⟨_, rfl⟩
  rw [← hv4]
  show Go _ _ _ _ _ _ _ (T2.setTop (mkF m 49 #[.val (.long x1), .second, .val (.long v1), .second, .val (.long v2), .second, .val (.long v3), .second, .val (.long v4), .second] []))
  refine Go.of (fun _ q => XS.lload X2.here hx rfl (hb hby d4_49) rfl q) ?_
  show Go _ _ _ _ _ _ _ (T2.setTop (mkF m 51 #[.val (.long x1), .second, .val (.long v1), .second, .val (.long v2), .second, .val (.long v3), .second, .val (.long v4), .second] [(.long v4)]))
  refine Go.of (fun _ q => XS.lload X2.here hx rfl (hb hby d4_51) rfl q) ?_
  show Go _ _ _ _ _ _ _ (T2.setTop (mkF m 53 #[.val (.long x1), .second, .val (.long v1), .second, .val (.long v2), .second, .val (.long v3), .second, .val (.long v4), .second] [(.long v4), (.long v4)]))
  refine Go.of (fun _ q => XS.bipush X2.here hx rfl (hb hby d4_53) q) ?_
  show Go _ _ _ _ _ _ _ (T2.setTop (mkF m 55 #[.val (.long x1), .second, .val (.long v1), .second, .val (.long v2), .second, .val (.long v3), .second, .val (.long v4), .second] [(.int (30 : Int32)), (.long v4), (.long v4)]))
  refine Go.of (fun _ q => XS.lushr X2.here hx rfl (hb hby d4_55) rfl q) ?_
  show Go _ _ _ _ _ _ _ (T2.setTop (mkF m 56 #[.val (.long x1), .second, .val (.long v1), .second, .val (.long v2), .second, .val (.long v3), .second, .val (.long v4), .second] [(.long ((v4.toUInt64 >>> ((30 : Int32) &&& 0x3f).toInt64.toUInt64).toInt64)), (.long v4)]))
  refine Go.of (fun _ q => XS.lxor X2.here hx rfl (hb hby d4_56) rfl q) ?_
  show Go _ _ _ _ _ _ _ (T2.setTop (mkF m 57 #[.val (.long x1), .second, .val (.long v1), .second, .val (.long v2), .second, .val (.long v3), .second, .val (.long v4), .second] [(.long (v4 ^^^ ((v4.toUInt64 >>> ((30 : Int32) &&& 0x3f).toInt64.toUInt64).toInt64)))]))
  refine Go.of (fun _ q => XS.lload X2.here hx rfl (hb hby d4_57) rfl q) ?_
  show Go _ _ _ _ _ _ _ (T2.setTop (mkF m 59 #[.val (.long x1), .second, .val (.long v1), .second, .val (.long v2), .second, .val (.long v3), .second, .val (.long v4), .second] [(.long v4), (.long (v4 ^^^ ((v4.toUInt64 >>> ((30 : Int32) &&& 0x3f).toInt64.toUInt64).toInt64)))]))
  refine Go.of (fun _ q => XS.bipush X2.here hx rfl (hb hby d4_59) q) ?_
  show Go _ _ _ _ _ _ _ (T2.setTop (mkF m 61 #[.val (.long x1), .second, .val (.long v1), .second, .val (.long v2), .second, .val (.long v3), .second, .val (.long v4), .second] [(.int (60 : Int32)), (.long v4), (.long (v4 ^^^ ((v4.toUInt64 >>> ((30 : Int32) &&& 0x3f).toInt64.toUInt64).toInt64)))]))
  refine Go.of (fun _ q => XS.lushr X2.here hx rfl (hb hby d4_61) rfl q) ?_
  show Go _ _ _ _ _ _ _ (T2.setTop (mkF m 62 #[.val (.long x1), .second, .val (.long v1), .second, .val (.long v2), .second, .val (.long v3), .second, .val (.long v4), .second] [(.long ((v4.toUInt64 >>> ((60 : Int32) &&& 0x3f).toInt64.toUInt64).toInt64)), (.long (v4 ^^^ ((v4.toUInt64 >>> ((30 : Int32) &&& 0x3f).toInt64.toUInt64).toInt64)))]))
  refine Go.of (fun _ q => XS.lxor X2.here hx rfl (hb hby d4_62) rfl q) ?_
  show Go _ _ _ _ _ _ _ (T2.setTop (mkF m 63 #[.val (.long x1), .second, .val (.long v1), .second, .val (.long v2), .second, .val (.long v3), .second, .val (.long v4), .second] [(.long ((v4 ^^^ ((v4.toUInt64 >>> ((30 : Int32) &&& 0x3f).toInt64.toUInt64).toInt64)) ^^^ ((v4.toUInt64 >>> ((60 : Int32) &&& 0x3f).toInt64.toUInt64).toInt64)))]))
  refine Go.retJ X2 hx hlk hret (hb hby d4_63) (by decide) (by decide) ?_
  rw [e2]
  exact ⟨(by rw [hv4, hv3, hv2, hv1]; rfl), N2, rfl⟩
theorem pd1 : parseMethodDescriptor "(J)V" = some ⟨[.long], none⟩ := by decide +kernel
theorem pd2 : parseMethodDescriptor "()J" = some ⟨[], some .long⟩ := by decide +kernel
theorem ef_0 (m : MethodId) (x1 : Int64) : entryFrame m #[(.long x1)] maxLocals = mkF m 0 #[.val (.long x1), .second, .unset, .unset, .unset, .unset, .unset, .unset, .unset, .unset, .unset] [] := by first | (simp [entryFrame, mkF, argsToLocals, Value.category, maxLocals]; done) | rfl
def Q0 (Z : State) (x1 : Int64) (h0 : Heap) (n0 : Nat) (v : Option Value) (h : Heap) (L : List Loc) : Prop := v = some (.int (1 : Int32)) ∧ Fr n0 L
set_option maxRecDepth 65536 in
set_option maxHeartbeats 40000000 in
theorem rm0 (l : Launch) (Z : State) (a0 : Array Value) (hw : ∀ d ∈ tables_1, d.before a0 Z = true) (x1 : Int64) (h0 : Heap) (n0 : Nat) (Zs : n0 ≤ h0.size)  :
    Con l Z x code maxLocals ret room_1 #[(.long x1)] h0 (Q0 Z x1 h0 n0) := by
  refine Con.intro (plainFor_of_name pn1) (fun m => ef_0 m x1) ?_
  intro p e s m below meth c s₁ hx hby hml0 hZ hown hnm hret hlk X0 e0
  have hml : c.maxLocals = 11 := hml0
  have N0 := Fr.nil n0
  have Kp : Keep h0 h0 [] := Keep.refl h0 _
  show Go _ _ _ _ _ _ _ (s₁.setTop (mkF m 0 #[.val (.long x1), .second, .unset, .unset, .unset, .unset, .unset, .unset, .unset, .unset, .unset] []))
  refine Go.of (fun _ q => X0.ldc2Long hx hown (mvT hZ (hw _ (List.mem_of_getElem? (i := 0) rfl))) (g := (mkF m 0 #[.val (.long x1), .second, .unset, .unset, .unset, .unset, .unset, .unset, .unset, .unset, .unset] [])) rfl (hb hby at_0) _ q) ?_
  show Go _ _ _ _ _ _ _ (s₁.setTop (mkF m 3 #[.val (.long x1), .second, .unset, .unset, .unset, .unset, .unset, .unset, .unset, .unset, .unset] [(.long (-7046029254386353131 : Int64))]))
  refine Go.of (fun _ q => XS.lstoreN X0.here hx rfl (hb hby at_3) rfl (l' := #[.val (.long x1), .second, .val (.long (-7046029254386353131 : Int64)), .second, .unset, .unset, .unset, .unset, .unset, .unset, .unset]) rfl q) ?_
  show Go _ _ _ _ _ _ _ (s₁.setTop (mkF m 4 #[.val (.long x1), .second, .val (.long (-7046029254386353131 : Int64)), .second, .unset, .unset, .unset, .unset, .unset, .unset, .unset] []))
  obtain ⟨T1, h1, X1, e1, E1, A1, D1, -, st1⟩ := newO X0 hx hZ hown (hw _ (List.mem_of_getElem? (i := 1) rfl)) (hw _ (List.mem_of_getElem? (i := 2) rfl)) (hw _ (List.mem_of_getElem? (i := 3) rfl)) e0 (g := (mkF m 4 #[.val (.long x1), .second, .val (.long (-7046029254386353131 : Int64)), .second, .unset, .unset, .unset, .unset, .unset, .unset, .unset] [])) rfl (hb hby at_4) (by decide) (by decide)
  obtain ⟨b1, g1⟩ : ∃ z, z = h0.size := ⟨_, rfl⟩
  rw [← g1] at A1 D1 st1
  refine Go.of st1 ?_
  have g_b1 : n0 ≤ b1 := Nat.le_trans Zs (Nat.le_of_eq g1.symm)
  have sz_b1 : h0.size ≤ b1 := Nat.le_trans Kp.1 (Nat.le_of_eq g1.symm)
  have Zs := Nat.le_trans Zs E1.1
  have Kp := Kp.ext E1
  have E_b1 := A1
  have F_b1_state : Fld Z h1 b1 "com/example/tundra_ascent/tundraascent/core/SeededRandom" "state" "J" (.long (0 : Int64)) := D1 (Or.inl (hw _ (List.mem_of_getElem? (i := 11) rfl))) (ty := .long) (by decide)
  show Go _ _ _ _ _ _ _ (T1.setTop (mkF m 7 #[.val (.long x1), .second, .val (.long (-7046029254386353131 : Int64)), .second, .unset, .unset, .unset, .unset, .unset, .unset, .unset] [(.ref b1)]))
  refine Go.of (fun _ q => XS.dup X1.here hx rfl (hb hby at_7) rfl rfl q) ?_
  show Go _ _ _ _ _ _ _ (T1.setTop (mkF m 8 #[.val (.long x1), .second, .val (.long (-7046029254386353131 : Int64)), .second, .unset, .unset, .unset, .unset, .unset, .unset, .unset] [(.ref b1), (.ref b1)]))
  refine Go.of (fun _ q => XS.lloadN X1.here hx rfl (hb hby at_8) rfl q) ?_
  show Go _ _ _ _ _ _ _ (T1.setTop (mkF m 9 #[.val (.long x1), .second, .val (.long (-7046029254386353131 : Int64)), .second, .unset, .unset, .unset, .unset, .unset, .unset, .unset] [(.long x1), (.ref b1), (.ref b1)]))
  refine Go.special X1 hx hZ (y := (⟨"com/example/tundra_ascent/tundraascent/core/SeededRandom", "<init>", "(J)V"⟩ : MethodName)) (a := b1) (argsL := [(.long x1)]) rfl hown (hw _ (List.mem_of_getElem? (i := 4) rfl)) (hw _ (List.mem_of_getElem? (i := 5) rfl)) (hw _ (List.mem_of_getElem? (i := 3) rfl)) (hw _ (List.mem_of_getElem? (i := 6) rfl)) (by decide) 1 e1 (rm1 l Z a0 hw b1 x1 (0 : Int64) h1 n0 Zs E_b1 F_b1_state g_b1) (by decide) (by decide) (by decide) (by decide) (g := (mkF m 9 #[.val (.long x1), .second, .val (.long (-7046029254386353131 : Int64)), .second, .unset, .unset, .unset, .unset, .unset, .unset, .unset] [(.long x1), (.ref b1), (.ref b1)])) rfl (by rw [hml]; rfl) (rest := [(.ref b1)]) (lenOf pd1 rfl) rfl (by show 2 * 0 + _ ≤ _; exact Nat.le_of_eq rfl) (hb hby at_9) ?_
  intro T2 v2 L2 X2 q2
  obtain ⟨rfl, Nq2, K2, f2_0, f2_1⟩ := q2
  have N2 := Fr.app N0 Nq2
  have Zs := Nat.le_trans Zs K2.1
  have Kp := Kp.trans K2 (allS (P := fun x => x ∈ [] ∨ h0.size ≤ x) (Or.inr sz_b1) all0)
  have E_b1 := E_b1.keep K2
  have F_b1_state := f2_1
  show Go _ _ _ _ _ _ _ (T2.setTop (mkF m 12 #[.val (.long x1), .second, .val (.long (-7046029254386353131 : Int64)), .second, .unset, .unset, .unset, .unset, .unset, .unset, .unset] [(.ref b1)]))
  refine Go.of (fun _ q => XS.astore X2.here hx rfl (hb hby at_12) rfl rfl (l' := #[.val (.long x1), .second, .val (.long (-7046029254386353131 : Int64)), .second, .val (.ref b1), .unset, .unset, .unset, .unset, .unset, .unset]) rfl q) ?_
  show Go _ _ _ _ _ _ _ (T2.setTop (mkF m 14 #[.val (.long x1), .second, .val (.long (-7046029254386353131 : Int64)), .second, .val (.ref b1), .unset, .unset, .unset, .unset, .unset, .unset] []))
  refine Go.of (fun _ q => XS.aload X2.here hx rfl (hb hby at_14) rfl rfl q) ?_
  show Go _ _ _ _ _ _ _ (T2.setTop (mkF m 16 #[.val (.long x1), .second, .val (.long (-7046029254386353131 : Int64)), .second, .val (.ref b1), .unset, .unset, .unset, .unset, .unset, .unset] [(.ref b1)]))
  refine Go.virtual X2 hx hZ (y := (⟨"com/example/tundra_ascent/tundraascent/core/SeededRandom", "nextLong", "()J"⟩ : MethodName)) (z := (⟨"com/example/tundra_ascent/tundraascent/core/SeededRandom", "nextLong", "()J"⟩ : MethodName)) (a := b1) (argsL := []) hown (hw _ (List.mem_of_getElem? (i := 12) rfl)) (hw _ (List.mem_of_getElem? (i := 13) rfl)) (notFace_of_selects (args := #[]) (mvT hZ (hw _ (List.mem_of_getElem? (i := 15) rfl)))) (hw _ (List.mem_of_getElem? (i := 15) rfl)) (hw _ (List.mem_of_getElem? (i := 14) rfl)) (hw _ (List.mem_of_getElem? (i := 3) rfl)) (hw _ (List.mem_of_getElem? (i := 16) rfl)) (by decide) 0 rfl E_b1 (rm3 l Z a0 hw b1 x1 T2.heap n0 Zs E_b1 F_b1_state g_b1) (by decide) (by decide) (by decide) (by decide) (g := (mkF m 16 #[.val (.long x1), .second, .val (.long (-7046029254386353131 : Int64)), .second, .val (.ref b1), .unset, .unset, .unset, .unset, .unset, .unset] [(.ref b1)])) rfl (by rw [hml]; rfl) (rest := []) (lenOf pd2 rfl) rfl (by show 2 * 0 + _ ≤ _; exact Nat.le_of_eq rfl) (hb hby at_16) ?_
  intro T3 v3 L3 X3 q3
  obtain ⟨rfl, Nq3, K3, f3_0, f3_1⟩ := q3
  have N3 := Fr.app N2 Nq3
  have Zs := Nat.le_trans Zs K3.1
  have Kp := Kp.trans K3 (allS (P := fun x => x ∈ [] ∨ h0.size ≤ x) (Or.inr sz_b1) all0)
  have E_b1 := E_b1.keep K3
  have F_b1_state := f3_1
  show Go _ _ _ _ _ _ _ (T3.setTop (mkF m 19 #[.val (.long x1), .second, .val (.long (-7046029254386353131 : Int64)), .second, .val (.ref b1), .unset, .unset, .unset, .unset, .unset, .unset] [(.long (own_mix (x1 + (-7046029254386353131 : Int64))))]))
  refine Go.of (fun _ q => XS.lstore X3.here hx rfl (hb hby at_19) rfl (l' := #[.val (.long x1), .second, .val (.long (-7046029254386353131 : Int64)), .second, .val (.ref b1), .val (.long (own_mix (x1 + (-7046029254386353131 : Int64)))), .second, .unset, .unset, .unset, .unset]) rfl q) ?_
  show Go _ _ _ _ _ _ _ (T3.setTop (mkF m 21 #[.val (.long x1), .second, .val (.long (-7046029254386353131 : Int64)), .second, .val (.ref b1), .val (.long (own_mix (x1 + (-7046029254386353131 : Int64)))), .second, .unset, .unset, .unset, .unset] []))
  refine Go.of (fun _ q => XS.aload X3.here hx rfl (hb hby at_21) rfl rfl q) ?_
  show Go _ _ _ _ _ _ _ (T3.setTop (mkF m 23 #[.val (.long x1), .second, .val (.long (-7046029254386353131 : Int64)), .second, .val (.ref b1), .val (.long (own_mix (x1 + (-7046029254386353131 : Int64)))), .second, .unset, .unset, .unset, .unset] [(.ref b1)]))
  refine Go.virtual X3 hx hZ (y := (⟨"com/example/tundra_ascent/tundraascent/core/SeededRandom", "nextLong", "()J"⟩ : MethodName)) (z := (⟨"com/example/tundra_ascent/tundraascent/core/SeededRandom", "nextLong", "()J"⟩ : MethodName)) (a := b1) (argsL := []) hown (hw _ (List.mem_of_getElem? (i := 12) rfl)) (hw _ (List.mem_of_getElem? (i := 13) rfl)) (notFace_of_selects (args := #[]) (mvT hZ (hw _ (List.mem_of_getElem? (i := 15) rfl)))) (hw _ (List.mem_of_getElem? (i := 15) rfl)) (hw _ (List.mem_of_getElem? (i := 14) rfl)) (hw _ (List.mem_of_getElem? (i := 3) rfl)) (hw _ (List.mem_of_getElem? (i := 16) rfl)) (by decide) 0 rfl E_b1 (rm3 l Z a0 hw b1 (x1 + (-7046029254386353131 : Int64)) T3.heap n0 Zs E_b1 F_b1_state g_b1) (by decide) (by decide) (by decide) (by decide) (g := (mkF m 23 #[.val (.long x1), .second, .val (.long (-7046029254386353131 : Int64)), .second, .val (.ref b1), .val (.long (own_mix (x1 + (-7046029254386353131 : Int64)))), .second, .unset, .unset, .unset, .unset] [(.ref b1)])) rfl (by rw [hml]; rfl) (rest := []) (lenOf pd2 rfl) rfl (by show 2 * 0 + _ ≤ _; exact Nat.le_of_eq rfl) (hb hby at_23) ?_
  intro T4 v4 L4 X4 q4
  obtain ⟨rfl, Nq4, K4, f4_0, f4_1⟩ := q4
  have N4 := Fr.app N3 Nq4
  have Zs := Nat.le_trans Zs K4.1
  have Kp := Kp.trans K4 (allS (P := fun x => x ∈ [] ∨ h0.size ≤ x) (Or.inr sz_b1) all0)
  have E_b1 := E_b1.keep K4
  have F_b1_state := f4_1
  show Go _ _ _ _ _ _ _ (T4.setTop (mkF m 26 #[.val (.long x1), .second, .val (.long (-7046029254386353131 : Int64)), .second, .val (.ref b1), .val (.long (own_mix (x1 + (-7046029254386353131 : Int64)))), .second, .unset, .unset, .unset, .unset] [(.long (own_mix ((x1 + (-7046029254386353131 : Int64)) + (-7046029254386353131 : Int64))))]))
  refine Go.of (fun _ q => XS.lstore X4.here hx rfl (hb hby at_26) rfl (l' := #[.val (.long x1), .second, .val (.long (-7046029254386353131 : Int64)), .second, .val (.ref b1), .val (.long (own_mix (x1 + (-7046029254386353131 : Int64)))), .second, .val (.long (own_mix ((x1 + (-7046029254386353131 : Int64)) + (-7046029254386353131 : Int64)))), .second, .unset, .unset]) rfl q) ?_
  show Go _ _ _ _ _ _ _ (T4.setTop (mkF m 28 #[.val (.long x1), .second, .val (.long (-7046029254386353131 : Int64)), .second, .val (.ref b1), .val (.long (own_mix (x1 + (-7046029254386353131 : Int64)))), .second, .val (.long (own_mix ((x1 + (-7046029254386353131 : Int64)) + (-7046029254386353131 : Int64)))), .second, .unset, .unset] []))
  refine Go.of (fun _ q => XS.lload X4.here hx rfl (hb hby at_28) rfl q) ?_
  show Go _ _ _ _ _ _ _ (T4.setTop (mkF m 30 #[.val (.long x1), .second, .val (.long (-7046029254386353131 : Int64)), .second, .val (.ref b1), .val (.long (own_mix (x1 + (-7046029254386353131 : Int64)))), .second, .val (.long (own_mix ((x1 + (-7046029254386353131 : Int64)) + (-7046029254386353131 : Int64)))), .second, .unset, .unset] [(.long (own_mix (x1 + (-7046029254386353131 : Int64))))]))
  refine Go.static X4 hx hZ (y := (⟨"com/example/tundra_ascent/tundraascent/core/SeededRandomNextLongPinLaw", "unmix", "(J)J"⟩ : MethodName)) (argsL := [(.long (own_mix (x1 + (-7046029254386353131 : Int64))))]) hown (hw _ (List.mem_of_getElem? (i := 20) rfl)) (hw _ (List.mem_of_getElem? (i := 21) rfl)) (hw _ (List.mem_of_getElem? (i := 22) rfl)) (hw _ (List.mem_of_getElem? (i := 23) rfl)) (by decide) 0 rfl (rm4 l Z a0 hw (own_mix (x1 + (-7046029254386353131 : Int64))) T4.heap n0 Zs ) (by decide) (by decide) (by decide) (by decide) (g := (mkF m 30 #[.val (.long x1), .second, .val (.long (-7046029254386353131 : Int64)), .second, .val (.ref b1), .val (.long (own_mix (x1 + (-7046029254386353131 : Int64)))), .second, .val (.long (own_mix ((x1 + (-7046029254386353131 : Int64)) + (-7046029254386353131 : Int64)))), .second, .unset, .unset] [(.long (own_mix (x1 + (-7046029254386353131 : Int64))))])) rfl (by rw [hml]; rfl) (rest := []) (lenOf pd0 rfl) rfl (by show 2 * 0 + _ ≤ _; exact Nat.le_of_eq rfl) (hb hby at_30) ?_
  intro T5 v5 L5 X5 q5
  obtain ⟨rfl, Nq5, e5⟩ := q5
  have N5 := Fr.app N4 Nq5
  show Go _ _ _ _ _ _ _ (T5.setTop (mkF m 33 #[.val (.long x1), .second, .val (.long (-7046029254386353131 : Int64)), .second, .val (.ref b1), .val (.long (own_mix (x1 + (-7046029254386353131 : Int64)))), .second, .val (.long (own_mix ((x1 + (-7046029254386353131 : Int64)) + (-7046029254386353131 : Int64)))), .second, .unset, .unset] [(.long (own_unmix (own_mix (x1 + (-7046029254386353131 : Int64)))))]))
  refine Go.of (fun _ q => XS.lloadN X5.here hx rfl (hb hby at_33) rfl q) ?_
  show Go _ _ _ _ _ _ _ (T5.setTop (mkF m 34 #[.val (.long x1), .second, .val (.long (-7046029254386353131 : Int64)), .second, .val (.ref b1), .val (.long (own_mix (x1 + (-7046029254386353131 : Int64)))), .second, .val (.long (own_mix ((x1 + (-7046029254386353131 : Int64)) + (-7046029254386353131 : Int64)))), .second, .unset, .unset] [(.long x1), (.long (own_unmix (own_mix (x1 + (-7046029254386353131 : Int64)))))]))
  refine Go.of (fun _ q => XS.lloadN X5.here hx rfl (hb hby at_34) rfl q) ?_
  show Go _ _ _ _ _ _ _ (T5.setTop (mkF m 35 #[.val (.long x1), .second, .val (.long (-7046029254386353131 : Int64)), .second, .val (.ref b1), .val (.long (own_mix (x1 + (-7046029254386353131 : Int64)))), .second, .val (.long (own_mix ((x1 + (-7046029254386353131 : Int64)) + (-7046029254386353131 : Int64)))), .second, .unset, .unset] [(.long (-7046029254386353131 : Int64)), (.long x1), (.long (own_unmix (own_mix (x1 + (-7046029254386353131 : Int64)))))]))
  refine Go.of (fun _ q => XS.ladd X5.here hx rfl (hb hby at_35) rfl q) ?_
  show Go _ _ _ _ _ _ _ (T5.setTop (mkF m 36 #[.val (.long x1), .second, .val (.long (-7046029254386353131 : Int64)), .second, .val (.ref b1), .val (.long (own_mix (x1 + (-7046029254386353131 : Int64)))), .second, .val (.long (own_mix ((x1 + (-7046029254386353131 : Int64)) + (-7046029254386353131 : Int64)))), .second, .unset, .unset] [(.long (x1 + (-7046029254386353131 : Int64))), (.long (own_unmix (own_mix (x1 + (-7046029254386353131 : Int64)))))]))
  refine Go.of (fun _ q => XS.lcmp X5.here hx rfl (hb hby at_36) rfl q) ?_
  show Go _ _ _ _ _ _ _ (T5.setTop (mkF m 37 #[.val (.long x1), .second, .val (.long (-7046029254386353131 : Int64)), .second, .val (.ref b1), .val (.long (own_mix (x1 + (-7046029254386353131 : Int64)))), .second, .val (.long (own_mix ((x1 + (-7046029254386353131 : Int64)) + (-7046029254386353131 : Int64)))), .second, .unset, .unset] [(.int (lcmpW (own_unmix (own_mix (x1 + (-7046029254386353131 : Int64)))) (x1 + (-7046029254386353131 : Int64))))]))
  refine Go.of (fun _ q => XS.ifNo X5.here hx rfl (hb hby at_37) rfl ((if0 _ _).trans (teq ((lw_eq (own_unmix (own_mix (x1 + (-7046029254386353131 : Int64)))) (x1 + (-7046029254386353131 : Int64))).mpr (own_plain _))).2) q) ?_
  show Go _ _ _ _ _ _ _ (T5.setTop (mkF m 40 #[.val (.long x1), .second, .val (.long (-7046029254386353131 : Int64)), .second, .val (.ref b1), .val (.long (own_mix (x1 + (-7046029254386353131 : Int64)))), .second, .val (.long (own_mix ((x1 + (-7046029254386353131 : Int64)) + (-7046029254386353131 : Int64)))), .second, .unset, .unset] []))
  refine Go.of (fun _ q => XS.iconst X5.here hx rfl (hb hby at_40) q) ?_
  show Go _ _ _ _ _ _ _ (T5.setTop (mkF m 41 #[.val (.long x1), .second, .val (.long (-7046029254386353131 : Int64)), .second, .val (.ref b1), .val (.long (own_mix (x1 + (-7046029254386353131 : Int64)))), .second, .val (.long (own_mix ((x1 + (-7046029254386353131 : Int64)) + (-7046029254386353131 : Int64)))), .second, .unset, .unset] [(.int (1 : Int32))]))
  refine Go.of (fun _ q => XS.goto X5.here hx rfl (pc0 := 41) (pc' := 45) rfl (hb hby at_41) (by decide) (by decide) q) ?_
  show Go _ _ _ _ _ _ _ (T5.setTop (mkF m 45 #[.val (.long x1), .second, .val (.long (-7046029254386353131 : Int64)), .second, .val (.ref b1), .val (.long (own_mix (x1 + (-7046029254386353131 : Int64)))), .second, .val (.long (own_mix ((x1 + (-7046029254386353131 : Int64)) + (-7046029254386353131 : Int64)))), .second, .unset, .unset] [(.int (1 : Int32))]))
  refine Go.of (fun _ q => XS.istore X5.here hx rfl (hb hby at_45) rfl (l' := #[.val (.long x1), .second, .val (.long (-7046029254386353131 : Int64)), .second, .val (.ref b1), .val (.long (own_mix (x1 + (-7046029254386353131 : Int64)))), .second, .val (.long (own_mix ((x1 + (-7046029254386353131 : Int64)) + (-7046029254386353131 : Int64)))), .second, .val (.int (1 : Int32)), .unset]) rfl q) ?_
  show Go _ _ _ _ _ _ _ (T5.setTop (mkF m 47 #[.val (.long x1), .second, .val (.long (-7046029254386353131 : Int64)), .second, .val (.ref b1), .val (.long (own_mix (x1 + (-7046029254386353131 : Int64)))), .second, .val (.long (own_mix ((x1 + (-7046029254386353131 : Int64)) + (-7046029254386353131 : Int64)))), .second, .val (.int (1 : Int32)), .unset] []))
  refine Go.of (fun _ q => XS.lload X5.here hx rfl (hb hby at_47) rfl q) ?_
  show Go _ _ _ _ _ _ _ (T5.setTop (mkF m 49 #[.val (.long x1), .second, .val (.long (-7046029254386353131 : Int64)), .second, .val (.ref b1), .val (.long (own_mix (x1 + (-7046029254386353131 : Int64)))), .second, .val (.long (own_mix ((x1 + (-7046029254386353131 : Int64)) + (-7046029254386353131 : Int64)))), .second, .val (.int (1 : Int32)), .unset] [(.long (own_mix ((x1 + (-7046029254386353131 : Int64)) + (-7046029254386353131 : Int64))))]))
  refine Go.static X5 hx hZ (y := (⟨"com/example/tundra_ascent/tundraascent/core/SeededRandomNextLongPinLaw", "unmix", "(J)J"⟩ : MethodName)) (argsL := [(.long (own_mix ((x1 + (-7046029254386353131 : Int64)) + (-7046029254386353131 : Int64))))]) hown (hw _ (List.mem_of_getElem? (i := 20) rfl)) (hw _ (List.mem_of_getElem? (i := 21) rfl)) (hw _ (List.mem_of_getElem? (i := 22) rfl)) (hw _ (List.mem_of_getElem? (i := 23) rfl)) (by decide) 0 e5 (rm4 l Z a0 hw (own_mix ((x1 + (-7046029254386353131 : Int64)) + (-7046029254386353131 : Int64))) T4.heap n0 Zs ) (by decide) (by decide) (by decide) (by decide) (g := (mkF m 49 #[.val (.long x1), .second, .val (.long (-7046029254386353131 : Int64)), .second, .val (.ref b1), .val (.long (own_mix (x1 + (-7046029254386353131 : Int64)))), .second, .val (.long (own_mix ((x1 + (-7046029254386353131 : Int64)) + (-7046029254386353131 : Int64)))), .second, .val (.int (1 : Int32)), .unset] [(.long (own_mix ((x1 + (-7046029254386353131 : Int64)) + (-7046029254386353131 : Int64))))])) rfl (by rw [hml]; rfl) (rest := []) (lenOf pd0 rfl) rfl (by show 2 * 0 + _ ≤ _; exact Nat.le_of_eq rfl) (hb hby at_49) ?_
  intro T6 v6 L6 X6 q6
  obtain ⟨rfl, Nq6, e6⟩ := q6
  have N6 := Fr.app N5 Nq6
  show Go _ _ _ _ _ _ _ (T6.setTop (mkF m 52 #[.val (.long x1), .second, .val (.long (-7046029254386353131 : Int64)), .second, .val (.ref b1), .val (.long (own_mix (x1 + (-7046029254386353131 : Int64)))), .second, .val (.long (own_mix ((x1 + (-7046029254386353131 : Int64)) + (-7046029254386353131 : Int64)))), .second, .val (.int (1 : Int32)), .unset] [(.long (own_unmix (own_mix ((x1 + (-7046029254386353131 : Int64)) + (-7046029254386353131 : Int64)))))]))
  refine Go.of (fun _ q => XS.lloadN X6.here hx rfl (hb hby at_52) rfl q) ?_
  show Go _ _ _ _ _ _ _ (T6.setTop (mkF m 53 #[.val (.long x1), .second, .val (.long (-7046029254386353131 : Int64)), .second, .val (.ref b1), .val (.long (own_mix (x1 + (-7046029254386353131 : Int64)))), .second, .val (.long (own_mix ((x1 + (-7046029254386353131 : Int64)) + (-7046029254386353131 : Int64)))), .second, .val (.int (1 : Int32)), .unset] [(.long x1), (.long (own_unmix (own_mix ((x1 + (-7046029254386353131 : Int64)) + (-7046029254386353131 : Int64)))))]))
  refine Go.of (fun _ q => XS.lloadN X6.here hx rfl (hb hby at_53) rfl q) ?_
  show Go _ _ _ _ _ _ _ (T6.setTop (mkF m 54 #[.val (.long x1), .second, .val (.long (-7046029254386353131 : Int64)), .second, .val (.ref b1), .val (.long (own_mix (x1 + (-7046029254386353131 : Int64)))), .second, .val (.long (own_mix ((x1 + (-7046029254386353131 : Int64)) + (-7046029254386353131 : Int64)))), .second, .val (.int (1 : Int32)), .unset] [(.long (-7046029254386353131 : Int64)), (.long x1), (.long (own_unmix (own_mix ((x1 + (-7046029254386353131 : Int64)) + (-7046029254386353131 : Int64)))))]))
  refine Go.of (fun _ q => XS.ladd X6.here hx rfl (hb hby at_54) rfl q) ?_
  show Go _ _ _ _ _ _ _ (T6.setTop (mkF m 55 #[.val (.long x1), .second, .val (.long (-7046029254386353131 : Int64)), .second, .val (.ref b1), .val (.long (own_mix (x1 + (-7046029254386353131 : Int64)))), .second, .val (.long (own_mix ((x1 + (-7046029254386353131 : Int64)) + (-7046029254386353131 : Int64)))), .second, .val (.int (1 : Int32)), .unset] [(.long (x1 + (-7046029254386353131 : Int64))), (.long (own_unmix (own_mix ((x1 + (-7046029254386353131 : Int64)) + (-7046029254386353131 : Int64)))))]))
  refine Go.of (fun _ q => XS.lloadN X6.here hx rfl (hb hby at_55) rfl q) ?_
  show Go _ _ _ _ _ _ _ (T6.setTop (mkF m 56 #[.val (.long x1), .second, .val (.long (-7046029254386353131 : Int64)), .second, .val (.ref b1), .val (.long (own_mix (x1 + (-7046029254386353131 : Int64)))), .second, .val (.long (own_mix ((x1 + (-7046029254386353131 : Int64)) + (-7046029254386353131 : Int64)))), .second, .val (.int (1 : Int32)), .unset] [(.long (-7046029254386353131 : Int64)), (.long (x1 + (-7046029254386353131 : Int64))), (.long (own_unmix (own_mix ((x1 + (-7046029254386353131 : Int64)) + (-7046029254386353131 : Int64)))))]))
  refine Go.of (fun _ q => XS.ladd X6.here hx rfl (hb hby at_56) rfl q) ?_
  show Go _ _ _ _ _ _ _ (T6.setTop (mkF m 57 #[.val (.long x1), .second, .val (.long (-7046029254386353131 : Int64)), .second, .val (.ref b1), .val (.long (own_mix (x1 + (-7046029254386353131 : Int64)))), .second, .val (.long (own_mix ((x1 + (-7046029254386353131 : Int64)) + (-7046029254386353131 : Int64)))), .second, .val (.int (1 : Int32)), .unset] [(.long ((x1 + (-7046029254386353131 : Int64)) + (-7046029254386353131 : Int64))), (.long (own_unmix (own_mix ((x1 + (-7046029254386353131 : Int64)) + (-7046029254386353131 : Int64)))))]))
  refine Go.of (fun _ q => XS.lcmp X6.here hx rfl (hb hby at_57) rfl q) ?_
  show Go _ _ _ _ _ _ _ (T6.setTop (mkF m 58 #[.val (.long x1), .second, .val (.long (-7046029254386353131 : Int64)), .second, .val (.ref b1), .val (.long (own_mix (x1 + (-7046029254386353131 : Int64)))), .second, .val (.long (own_mix ((x1 + (-7046029254386353131 : Int64)) + (-7046029254386353131 : Int64)))), .second, .val (.int (1 : Int32)), .unset] [(.int (lcmpW (own_unmix (own_mix ((x1 + (-7046029254386353131 : Int64)) + (-7046029254386353131 : Int64)))) ((x1 + (-7046029254386353131 : Int64)) + (-7046029254386353131 : Int64))))]))
  refine Go.of (fun _ q => XS.ifNo X6.here hx rfl (hb hby at_58) rfl ((if0 _ _).trans (teq ((lw_eq (own_unmix (own_mix ((x1 + (-7046029254386353131 : Int64)) + (-7046029254386353131 : Int64)))) ((x1 + (-7046029254386353131 : Int64)) + (-7046029254386353131 : Int64))).mpr (own_plain _))).2) q) ?_
  show Go _ _ _ _ _ _ _ (T6.setTop (mkF m 61 #[.val (.long x1), .second, .val (.long (-7046029254386353131 : Int64)), .second, .val (.ref b1), .val (.long (own_mix (x1 + (-7046029254386353131 : Int64)))), .second, .val (.long (own_mix ((x1 + (-7046029254386353131 : Int64)) + (-7046029254386353131 : Int64)))), .second, .val (.int (1 : Int32)), .unset] []))
  refine Go.of (fun _ q => XS.iconst X6.here hx rfl (hb hby at_61) q) ?_
  show Go _ _ _ _ _ _ _ (T6.setTop (mkF m 62 #[.val (.long x1), .second, .val (.long (-7046029254386353131 : Int64)), .second, .val (.ref b1), .val (.long (own_mix (x1 + (-7046029254386353131 : Int64)))), .second, .val (.long (own_mix ((x1 + (-7046029254386353131 : Int64)) + (-7046029254386353131 : Int64)))), .second, .val (.int (1 : Int32)), .unset] [(.int (1 : Int32))]))
  refine Go.of (fun _ q => XS.goto X6.here hx rfl (pc0 := 62) (pc' := 66) rfl (hb hby at_62) (by decide) (by decide) q) ?_
  show Go _ _ _ _ _ _ _ (T6.setTop (mkF m 66 #[.val (.long x1), .second, .val (.long (-7046029254386353131 : Int64)), .second, .val (.ref b1), .val (.long (own_mix (x1 + (-7046029254386353131 : Int64)))), .second, .val (.long (own_mix ((x1 + (-7046029254386353131 : Int64)) + (-7046029254386353131 : Int64)))), .second, .val (.int (1 : Int32)), .unset] [(.int (1 : Int32))]))
  refine Go.of (fun _ q => XS.istore X6.here hx rfl (hb hby at_66) rfl (l' := #[.val (.long x1), .second, .val (.long (-7046029254386353131 : Int64)), .second, .val (.ref b1), .val (.long (own_mix (x1 + (-7046029254386353131 : Int64)))), .second, .val (.long (own_mix ((x1 + (-7046029254386353131 : Int64)) + (-7046029254386353131 : Int64)))), .second, .val (.int (1 : Int32)), .val (.int (1 : Int32))]) rfl q) ?_
  show Go _ _ _ _ _ _ _ (T6.setTop (mkF m 68 #[.val (.long x1), .second, .val (.long (-7046029254386353131 : Int64)), .second, .val (.ref b1), .val (.long (own_mix (x1 + (-7046029254386353131 : Int64)))), .second, .val (.long (own_mix ((x1 + (-7046029254386353131 : Int64)) + (-7046029254386353131 : Int64)))), .second, .val (.int (1 : Int32)), .val (.int (1 : Int32))] []))
  refine Go.of (fun _ q => XS.iload X6.here hx rfl (hb hby at_68) rfl q) ?_
  show Go _ _ _ _ _ _ _ (T6.setTop (mkF m 70 #[.val (.long x1), .second, .val (.long (-7046029254386353131 : Int64)), .second, .val (.ref b1), .val (.long (own_mix (x1 + (-7046029254386353131 : Int64)))), .second, .val (.long (own_mix ((x1 + (-7046029254386353131 : Int64)) + (-7046029254386353131 : Int64)))), .second, .val (.int (1 : Int32)), .val (.int (1 : Int32))] [(.int (1 : Int32))]))
  refine Go.of (fun _ q => XS.ifNo X6.here hx rfl (hb hby at_70) rfl ((if0 _ _).trans (feq (by decide)).1) q) ?_
  show Go _ _ _ _ _ _ _ (T6.setTop (mkF m 73 #[.val (.long x1), .second, .val (.long (-7046029254386353131 : Int64)), .second, .val (.ref b1), .val (.long (own_mix (x1 + (-7046029254386353131 : Int64)))), .second, .val (.long (own_mix ((x1 + (-7046029254386353131 : Int64)) + (-7046029254386353131 : Int64)))), .second, .val (.int (1 : Int32)), .val (.int (1 : Int32))] []))
  refine Go.of (fun _ q => XS.iload X6.here hx rfl (hb hby at_73) rfl q) ?_
  show Go _ _ _ _ _ _ _ (T6.setTop (mkF m 75 #[.val (.long x1), .second, .val (.long (-7046029254386353131 : Int64)), .second, .val (.ref b1), .val (.long (own_mix (x1 + (-7046029254386353131 : Int64)))), .second, .val (.long (own_mix ((x1 + (-7046029254386353131 : Int64)) + (-7046029254386353131 : Int64)))), .second, .val (.int (1 : Int32)), .val (.int (1 : Int32))] [(.int (1 : Int32))]))
  refine Go.of (fun _ q => XS.ifNo X6.here hx rfl (hb hby at_75) rfl ((if0 _ _).trans (feq (by decide)).1) q) ?_
  show Go _ _ _ _ _ _ _ (T6.setTop (mkF m 78 #[.val (.long x1), .second, .val (.long (-7046029254386353131 : Int64)), .second, .val (.ref b1), .val (.long (own_mix (x1 + (-7046029254386353131 : Int64)))), .second, .val (.long (own_mix ((x1 + (-7046029254386353131 : Int64)) + (-7046029254386353131 : Int64)))), .second, .val (.int (1 : Int32)), .val (.int (1 : Int32))] []))
  refine Go.of (fun _ q => XS.iconst X6.here hx rfl (hb hby at_78) q) ?_
  show Go _ _ _ _ _ _ _ (T6.setTop (mkF m 79 #[.val (.long x1), .second, .val (.long (-7046029254386353131 : Int64)), .second, .val (.ref b1), .val (.long (own_mix (x1 + (-7046029254386353131 : Int64)))), .second, .val (.long (own_mix ((x1 + (-7046029254386353131 : Int64)) + (-7046029254386353131 : Int64)))), .second, .val (.int (1 : Int32)), .val (.int (1 : Int32))] [(.int (1 : Int32))]))
  refine Go.of (fun _ q => XS.goto X6.here hx rfl (pc0 := 79) (pc' := 83) rfl (hb hby at_79) (by decide) (by decide) q) ?_
  show Go _ _ _ _ _ _ _ (T6.setTop (mkF m 83 #[.val (.long x1), .second, .val (.long (-7046029254386353131 : Int64)), .second, .val (.ref b1), .val (.long (own_mix (x1 + (-7046029254386353131 : Int64)))), .second, .val (.long (own_mix ((x1 + (-7046029254386353131 : Int64)) + (-7046029254386353131 : Int64)))), .second, .val (.int (1 : Int32)), .val (.int (1 : Int32))] [(.int (1 : Int32))]))
  refine Go.retN X6 hx hlk (t := .boolean) hret (by simp) (hb hby at_83) rfl (by decide) (by decide) ?_
  rw [e6]
  exact ⟨rfl, N6⟩
set_option maxRecDepth 65536 in
set_option maxHeartbeats 40000000 in
theorem comes_1 {Post : Tables → Env → Array Value → State → Outcome → State → Prop} (hpost : ∀ tb e args s v u, (limb_1_1.after args s (.returned v) u = true ∧ limb_1_2.after args s (.returned v) u = true ∧ True) → FrameEnd s (.returned v) u (Jvm.fieldLocs frame_1_writes args s ++ Jvm.arrayLocs frame_1_arrays args s ++ Jvm.staticLocs frame_1_statics s) 16 128 → Post tb e args s (.returned v) u) :
    ArmFor flags0 classFile x code maxLocals ret World_1 tables_1 room_1 Calls_1 rest_1 Pre_1 Post := by
  intro l hfl _ _ p e ha hc hk s m args below hf hA hF happ hP
  obtain ⟨hcalls, hrest, hpre⟩ := hP
  obtain ⟨-, -, -, hnamed, -, -, -, hat⟩ := (Spec.applies_iff hf).mp happ
  obtain ⟨hg, hn⟩ := and_e (Cond.before_iff.mp (show (Jvm.Cond.and given_1 narrow_1).before args s = true from hpre))
  obtain ⟨g1, g2⟩ := and_e hg
  obtain ⟨w0, rfl⟩ : ∃ w0 : Value, args = #[w0] := by
    have hs : args.size = 1 := by simpa [Cond.value, given_1] using g1
    obtain ⟨L⟩ := args
    match L, hs with
    | [w0], _ => exact ⟨w0, rfl⟩
  have hw := fun d (hd : d ∈ tables_1) => atoms_spec (ws := Jvm.Cond.code x code maxLocals ret :: tables_1) hat d (List.mem_cons_of_mem _ hd)
  have hfit : Fit s := fun {y c} hc i hi => by
    obtain ⟨ha, rfl⟩ := Array.getElem?_eq_some_iff.mp hc
    have q := List.all_eq_true.mp ((Array.all_eq_true_iff_forall_mem.mp hF) _ (Array.getElem_mem ha)) i (List.mem_range.mpr hi)
    simpa [Array.getElem?_eq_getElem hi] using q
  obtain ⟨i0, ei0⟩ := isL_v g2
  obtain rfl : w0 = (.long i0) := Option.some.inj ei0
  obtain ⟨n, o, h1, h2, h3, _, L, rfl, ⟨rfl, N⟩, hq⟩ := rm0 l s _ hw i0 s.heap s.heap.size (Nat.le_refl _)  tables_1 p e ha hc hk s m _ below hf ((Spec.applies_iff_loose hf).mp happ).1 ⟨rfl, State.Warmed39.refl s, rfl⟩ trivial
  refine ⟨n, _, h1, h2, h3, hpost _ _ _ _ _ _ ⟨Cond.after_iff.mpr rfl, Cond.after_iff.mpr (eq_i res_at (Term.int_eval (1)) rfl), trivial⟩ ⟨hq.1, hq.2.1, (hq.2.2.sift fun y hy => Or.inr (N y hy)).mono (by decide) (by decide)⟩⟩
theorem main_1_1 : Claimed_1_1 := comes_1 fun _ _ _ _ _ _ h hF => ⟨h.1, hF⟩
theorem main_1_2 : Claimed_1_2 := comes_1 fun _ _ _ _ _ _ h hF => ⟨h.2.1, hF⟩
end Jvm.Pilot.@@N@@
namespace Jvm.Pilot.@@N@@
open Jvm Jvm.ClassFile Sem Op Lib Jvm.Free Jvm.Stand Jvm.Pilot.@@N@@.Jvm.D
/-! MADE BY PROGRAM (witnessworld.py) out of the Statement's table words and the real class files: 9 classes; the members and pool entries that the words name. The judged class is class 1, her method 3. -/
namespace start1
open Jvm.ClassFile
def u (s : String) : CpInfo := .utf8 (stringToUtf16 s)
/-- a pool by its gaps: so many unusable entries, then the entry; so many at the end -/
def gap : Nat → List CpInfo → List CpInfo
  | 0, r => r
  | n + 1, r => .unusable :: gap n r
def poolList (es : List (Nat × CpInfo)) (last : Nat) : List CpInfo := es.foldr (fun e r => gap e.1 (e.2 :: r)) (gap last [])
def pool (es : List (Nat × CpInfo)) (last : Nat) : Array CpInfo := ⟨poolList es last⟩
def fileOf (pool : Array CpInfo) (this : Nat) (attrs : Array Attribute := #[]) (ms : Array MethodInfo := #[]) (fl : Nat := 33) (sup : Nat := 0) (ifs : Array Nat := #[]) (fds : Array FieldInfo := #[]) : ClassFile where
  minorVersion := 0
  majorVersion := 65
  constantPool := pool
  accessFlags := fl
  thisClass := this
  superClass := sup
  interfaces := ifs
  fields := fds
  methods := ms
  attributes := attrs
def plain (name : String) (sup : Option ClassId) : Class where
  name := name
  kind := .ordinary
  loader := none
  accessFlags := 33
  super := sup
  interfaces := #[]
  cf := none
  fields := #[]
  methods := #[]
  instanceTypes := #[]
  staticTypes := #[]
  resolved := #[]
  callSites := []
  init := .initialized
  statics := none
  mirror := none

def pool0 : Array CpInfo := pool [(5, u "<init>"), (0, u "()V"), (1, .class_ 10), (1, u "java/lang/Object")] 113

def k0c0 : Code := { maxStack := 0, maxLocals := 1, code := object_method_1_code, exceptionTable := #[], attributes := #[] }
def k0m0 : Method := { name := "<init>", desc := "()V", sig := { parameters := [], returnType := none }, accessFlags := 1, code := some k0c0 }
/-- java/lang/Object -/
def k0 : Class := { plain "java/lang/Object" none with
  accessFlags := 33
  interfaces := #[]
  cf := some (fileOf pool0 8 #[] #[{ accessFlags := 1, nameIndex := 5, descriptorIndex := 6, attributes := #[] }] 33 0 #[] #[])
  fields := #[]
  methods := #[k0m0]
  instanceTypes := #[]
  staticTypes := #[]
  resolved := Array.replicate 124 none
  statics := none }

def pool1 : Array CpInfo := pool [(2, .class_ 4), (1, u "java/lang/Object"), (0, u "<init>"), (0, u "()V"), (0, .long 2), (1, .long 10723151780598845931), (1, .methodref 12 13), (0, .class_ 14), (0, .nameAndType 15 16), (0, u "com/example/tundra_ascent/tundraascent/core/SeededRandomNextLongPinLaw"), (0, u "inv"), (0, u "(J)J"), (0, .long 13787848793156543929), (1, .long 11400714819323198485), (1, .class_ 22), (0, u "com/example/tundra_ascent/tundraascent/core/SeededRandom"), (0, .methodref 21 24), (0, .nameAndType 5 25), (0, u "(J)V"), (0, .methodref 21 27), (0, .nameAndType 28 29), (0, u "nextLong"), (0, u "()J"), (0, .methodref 12 31), (0, .nameAndType 32 16), (0, u "unmix"), (2, u "law"), (0, u "(J)Z")] 3

def k1m0 : Method := { name := "<init>", desc := "()V", sig := { parameters := [], returnType := none }, accessFlags := 1, code := none }
def k1c1 : Code := { maxStack := 8, maxLocals := 4, code := method_2_code, exceptionTable := #[], attributes := #[] }
def k1m1 : Method := { name := "inv", desc := "(J)J", sig := { parameters := [.long], returnType := some .long }, accessFlags := 10, code := some k1c1 }
def k1c2 : Code := { maxStack := 5, maxLocals := 10, code := method_3_code, exceptionTable := #[], attributes := #[] }
def k1m2 : Method := { name := "unmix", desc := "(J)J", sig := { parameters := [.long], returnType := some .long }, accessFlags := 10, code := some k1c2 }
def k1c3 : Code := { maxStack := 6, maxLocals := 11, code := code, exceptionTable := #[], attributes := #[] }
def k1m3 : Method := { name := "law", desc := "(J)Z", sig := { parameters := [.long], returnType := some .boolean }, accessFlags := 9, code := some k1c3 }
/-- com/example/tundra_ascent/tundraascent/core/SeededRandomNextLongPinLaw -/
def k1 : Class := { plain "com/example/tundra_ascent/tundraascent/core/SeededRandomNextLongPinLaw" (some 0) with
  accessFlags := 49
  interfaces := #[]
  cf := some (fileOf pool1 12 #[] #[{ accessFlags := 1, nameIndex := 5, descriptorIndex := 6, attributes := #[] }, { accessFlags := 10, nameIndex := 15, descriptorIndex := 16, attributes := #[] }, { accessFlags := 10, nameIndex := 32, descriptorIndex := 16, attributes := #[] }, { accessFlags := 9, nameIndex := 35, descriptorIndex := 36, attributes := #[] }] 49 2 #[] #[])
  fields := #[]
  methods := #[k1m0, k1m1, k1m2, k1m3]
  instanceTypes := #[]
  staticTypes := #[]
  resolved := Array.replicate 40 none
  statics := none }

def pool2 : Array CpInfo := pool [(1, .methodref 2 3), (0, .class_ 4), (0, .nameAndType 5 6), (0, u "java/lang/Object"), (0, u "<init>"), (0, u "()V"), (0, .fieldref 8 9), (0, .class_ 10), (0, .nameAndType 11 12), (0, u "com/example/tundra_ascent/tundraascent/core/SeededRandom"), (0, u "state"), (0, u "J"), (0, .long 11400714819323198485), (1, .long 13787848793156543929), (1, .long 10723151780598845931), (16, u "nextLong"), (0, u "()J"), (0, u "(J)V")] 22

def k2c0 : Code := { maxStack := 3, maxLocals := 3, code := prog_7_method_1_code, exceptionTable := #[], attributes := #[] }
def k2m0 : Method := { name := "<init>", desc := "(J)V", sig := { parameters := [.long], returnType := none }, accessFlags := 1, code := some k2c0 }
def k2c1 : Code := { maxStack := 5, maxLocals := 3, code := prog_7_method_2_code, exceptionTable := #[], attributes := #[] }
def k2m1 : Method := { name := "nextLong", desc := "()J", sig := { parameters := [], returnType := some .long }, accessFlags := 1, code := some k2c1 }
/-- com/example/tundra_ascent/tundraascent/core/SeededRandom -/
def k2 : Class := { plain "com/example/tundra_ascent/tundraascent/core/SeededRandom" (some 0) with
  accessFlags := 49
  interfaces := #[]
  cf := some (fileOf pool2 8 #[] #[{ accessFlags := 1, nameIndex := 5, descriptorIndex := 36, attributes := #[] }, { accessFlags := 1, nameIndex := 34, descriptorIndex := 35, attributes := #[] }] 49 2 #[] #[{ accessFlags := 2, nameIndex := 11, descriptorIndex := 12, attributes := #[] }])
  fields := #[{ name := "state", type := .long, accessFlags := 2, slot := 0, constantValue := 0 }]
  methods := #[k2m0, k2m1]
  instanceTypes := #[.long]
  staticTypes := #[]
  resolved := Array.replicate 59 none
  statics := none }

def pool3 : Array CpInfo := pool [(1, u "java/lang/Cloneable"), (0, .class_ 1), (0, u "java/lang/Object"), (0, .class_ 3)] 3

/-- java/lang/Cloneable -/
def k3 : Class := { plain "java/lang/Cloneable" (some 0) with
  accessFlags := 1537
  interfaces := #[]
  cf := some (fileOf pool3 2 #[] #[] 1537 4 #[] #[])
  fields := #[]
  methods := #[]
  instanceTypes := #[]
  staticTypes := #[]
  resolved := Array.replicate 8 none
  statics := none }

def pool4 : Array CpInfo := pool [(1, u "java/io/Serializable"), (0, .class_ 1), (0, u "java/lang/Object"), (0, .class_ 3)] 3

/-- java/io/Serializable -/
def k4 : Class := { plain "java/io/Serializable" (some 0) with
  accessFlags := 1537
  interfaces := #[]
  cf := some (fileOf pool4 2 #[] #[] 1537 4 #[] #[])
  fields := #[]
  methods := #[]
  instanceTypes := #[]
  staticTypes := #[]
  resolved := Array.replicate 8 none
  statics := none }

/-- the primitive byte -/
def k5 : Class := { plain "byte" none with kind := .primitive 'B', accessFlags := 0x411 }
/-- [B -/
def k6 : Class := { plain "[B" (some 0) with kind := .array 5 .byte, interfaces := #[3, 4], accessFlags := 1041 }

/-- the primitive int -/
def k7 : Class := { plain "int" none with kind := .primitive 'I', accessFlags := 0x411 }
/-- [I -/
def k8 : Class := { plain "[I" (some 0) with kind := .array 7 .int, interfaces := #[3, 4], accessFlags := 1041 }

def heap : Heap := #[]
def classes : Array Class := #[k0, k1, k2, k3, k4, k5, k6, k7, k8]
def interned : List (Array UInt16 × Addr) := []
def slotsUsed : Nat := 0
def theMethod : MethodId := ⟨1, 3⟩
def args0 : Array Value := #[.long 5]
def aboutOver (below : List Frame) : State where
  vm := { classes := classes, interned := interned.toArray }
  heap := heap
  slotsUsed := slotsUsed
  threads := #[{ frames := .invoking theMethod args0 :: below }]
def below0 : List Frame := [.native { method := ⟨0, 0⟩, args := #[] }]
def about1 : State := aboutOver below0
def p0 : Program := .bare "" "" ""
def e0 : Env := launch0.env 0 0 0
theorem w_frames : about1.frames = Frame.invoking theMethod args0 :: below0 := rfl
set_option maxRecDepth 65536 in
theorem w_args : argsFit about1.vm theMethod args0 = true := by decide +kernel
set_option maxRecDepth 65536 in
theorem w_heap : heapFits about1 = true := by decide +kernel
set_option maxRecDepth 65536 in
theorem w_runnable : about1.curStatus? = some .runnable := by decide +kernel
set_option maxRecDepth 65536 in
theorem w_alone : about1.alone = true := by decide +kernel
set_option maxRecDepth 65536 in
theorem w_named : about1.methodNamed? x = some theMethod := by decide +kernel
set_option maxRecDepth 65536 in
theorem w_hears : about1.hears theMethod below0 = true := by decide +kernel
set_option maxRecDepth 65536 in
theorem w_ripe : about1.ripe theMethod args0 below0 = true := by decide +kernel
theorem w_running : about1.status = .running := rfl
set_option maxRecDepth 65536 in
theorem w_room : about1.hasRoom e0.platform room_1 = true :=
  launch0.hasRoom_least _ room_1 (by decide +kernel) (by decide +kernel) (by decide +kernel) (by decide +kernel) (by decide +kernel) (by decide +kernel)
theorem allAtoms_all (ts : List Jvm.Cond) (a : Array Jvm.Value) (st : Jvm.State) : (allAtoms ts).before a st = ts.all (fun c => c.before a st) := by
  induction ts with
  | nil => rfl
  | cons c t ih =>
    show (Jvm.Cond.and c (allAtoms t)).before a st = _
    rw [Jvm.Cond.before_and, ih, List.all_cons]
def words1 : List Jvm.Cond := Jvm.Cond.code x code maxLocals ret :: tables_1
/-- a 'code' word, met by the world's own term for the bytes: nothing is compared byte by byte -/
theorem code_word {y : MethodName} {bytes : ByteArray} {mx : Nat} {rt : Option FieldType} {a : Array Value} {s : State} {m : MethodId} {meth : Method} {c : Code} (h1 : s.methodNamed? y = some m) (h2 : s.vm.method? m = some meth) (h3 : meth.code = some c) (h4 : c.code = bytes)
    (h5 : (c.maxLocals == mx && c.exceptionTable.isEmpty && decide (c.maxStack ≤ mostOperands) && decide (meth.sig.returnType = rt) && !meth.locks && decide (parseMethodDescriptor y.desc = some meth.sig)) = true) : (Jvm.Cond.code y bytes mx rt).before a s = true := by
  simp only [Bool.and_eq_true, beq_iff_eq, Bool.not_eq_true', decide_eq_true_eq] at h5
  obtain ⟨⟨⟨⟨⟨g1, g2⟩, g3⟩, g4⟩, g5⟩, g6⟩ := h5
  simp [Cond.before, Cond.holds, Cond.value, h1, h2, h3, h4, g1, g2, g3, g4, g5, g6]
def isCode : Jvm.Cond → Bool
  | .code _ _ _ _ => true
  | _ => false
theorem all_split {L : List Jvm.Cond} {P : Jvm.Cond → Bool} (h1 : L.all (fun c => isCode c || P c) = true) (h2 : ∀ c ∈ L.filter isCode, P c = true) : L.all P = true := by
  refine List.all_eq_true.mpr fun c hc => ?_
  have h := List.all_eq_true.mp h1 c hc
  rcases Bool.eq_false_or_eq_true (isCode c) with hi | hi
  · exact h2 c (List.mem_filter.mpr ⟨hc, hi⟩)
  · simpa [hi] using h
set_option maxRecDepth 65536 in
theorem w_c0 : (Jvm.Cond.code x code maxLocals ret).before args0 about1 = true := code_word (m := ⟨1, 3⟩) (meth := k1m3) (c := k1c3) (by decide +kernel) rfl rfl rfl (by decide +kernel)
set_option maxRecDepth 65536 in
theorem w_c1 : (Jvm.Cond.code ({ cls := "com/example/tundra_ascent/tundraascent/core/SeededRandom", name := "<init>", desc := "(J)V" } : Jvm.MethodName) prog_7_method_1_code (3 : Nat) (Option.none : Option Jvm.ClassFile.FieldType)).before args0 about1 = true := code_word (m := ⟨2, 0⟩) (meth := k2m0) (c := k2c0) (by decide +kernel) rfl rfl rfl (by decide +kernel)
set_option maxRecDepth 65536 in
theorem w_c2 : (Jvm.Cond.code ({ cls := "java/lang/Object", name := "<init>", desc := "()V" } : Jvm.MethodName) object_method_1_code (1 : Nat) (Option.none : Option Jvm.ClassFile.FieldType)).before args0 about1 = true := code_word (m := ⟨0, 0⟩) (meth := k0m0) (c := k0c0) (by decide +kernel) rfl rfl rfl (by decide +kernel)
set_option maxRecDepth 65536 in
theorem w_c3 : (Jvm.Cond.code ({ cls := "com/example/tundra_ascent/tundraascent/core/SeededRandom", name := "nextLong", desc := "()J" } : Jvm.MethodName) prog_7_method_2_code (3 : Nat) (Option.some Jvm.ClassFile.FieldType.long)).before args0 about1 = true := code_word (m := ⟨2, 1⟩) (meth := k2m1) (c := k2c1) (by decide +kernel) rfl rfl rfl (by decide +kernel)
set_option maxRecDepth 65536 in
theorem w_c4 : (Jvm.Cond.code ({ cls := "com/example/tundra_ascent/tundraascent/core/SeededRandomNextLongPinLaw", name := "unmix", desc := "(J)J" } : Jvm.MethodName) method_3_code (10 : Nat) (Option.some Jvm.ClassFile.FieldType.long)).before args0 about1 = true := code_word (m := ⟨1, 2⟩) (meth := k1m2) (c := k1c2) (by decide +kernel) rfl rfl rfl (by decide +kernel)
set_option maxRecDepth 65536 in
theorem w_c5 : (Jvm.Cond.code ({ cls := "com/example/tundra_ascent/tundraascent/core/SeededRandomNextLongPinLaw", name := "inv", desc := "(J)J" } : Jvm.MethodName) method_2_code (4 : Nat) (Option.some Jvm.ClassFile.FieldType.long)).before args0 about1 = true := code_word (m := ⟨1, 1⟩) (meth := k1m1) (c := k1c1) (by decide +kernel) rfl rfl rfl (by decide +kernel)
def codes1 : List Jvm.Cond := [Jvm.Cond.code x code maxLocals ret, Jvm.Cond.code ({ cls := "com/example/tundra_ascent/tundraascent/core/SeededRandom", name := "<init>", desc := "(J)V" } : Jvm.MethodName) prog_7_method_1_code (3 : Nat) (Option.none : Option Jvm.ClassFile.FieldType), Jvm.Cond.code ({ cls := "java/lang/Object", name := "<init>", desc := "()V" } : Jvm.MethodName) object_method_1_code (1 : Nat) (Option.none : Option Jvm.ClassFile.FieldType), Jvm.Cond.code ({ cls := "com/example/tundra_ascent/tundraascent/core/SeededRandom", name := "nextLong", desc := "()J" } : Jvm.MethodName) prog_7_method_2_code (3 : Nat) (Option.some Jvm.ClassFile.FieldType.long), Jvm.Cond.code ({ cls := "com/example/tundra_ascent/tundraascent/core/SeededRandomNextLongPinLaw", name := "unmix", desc := "(J)J" } : Jvm.MethodName) method_3_code (10 : Nat) (Option.some Jvm.ClassFile.FieldType.long), Jvm.Cond.code ({ cls := "com/example/tundra_ascent/tundraascent/core/SeededRandomNextLongPinLaw", name := "inv", desc := "(J)J" } : Jvm.MethodName) method_2_code (4 : Nat) (Option.some Jvm.ClassFile.FieldType.long)]
set_option maxRecDepth 65536 in
theorem codes_eq : words1.filter isCode = codes1 := rfl
theorem w_codes : ∀ c ∈ words1.filter isCode, c.before args0 about1 = true := by
  rw [codes_eq]
  intro c hc
  simp only [codes1, List.mem_cons, List.not_mem_nil, or_false] at hc
  rcases hc with rfl | rfl | rfl | rfl | rfl | rfl
  · exact w_c0
  · exact w_c1
  · exact w_c2
  · exact w_c3
  · exact w_c4
  · exact w_c5
set_option maxRecDepth 65536 in
theorem w_t1 : (words1.take 24).all (fun c => isCode c || c.before args0 about1) = true := by decide +kernel
set_option maxRecDepth 65536 in
theorem w_t2 : (words1.drop 24).all (fun c => isCode c || c.before args0 about1) = true := by decide +kernel
theorem w_tables : (allAtoms (Jvm.Cond.code x code maxLocals ret :: tables_1)).before args0 about1 = true := by
  rw [allAtoms_all]
  show words1.all (fun c => c.before args0 about1) = true
  refine all_split ?_ w_codes
  rw [← List.take_append_drop 24 words1, List.all_append, w_t1, w_t2]
  rfl
set_option maxRecDepth 65536 in
theorem w_case : (Jvm.Cond.and given_1 narrow_1).before args0 about1 = true := by decide +kernel
theorem w_applies : (headSpec (Jvm.Cond.code x code maxLocals ret :: tables_1) room_1).applies x e0.platform about1 = true :=
  (Spec.applies_iff w_frames).mpr ⟨w_running, w_runnable, w_alone, w_named, w_hears, w_ripe, w_room, w_tables⟩
theorem atStart : AtStart classFile x code maxLocals ret World_1 tables_1 room_1 Calls_1 rest_1 Pre_1 launch0 p0 e0 about1 theMethod args0 below0 :=
  ⟨lists_1, trivial, launch0.admits_env _ _ _, launch0.least_env, fairChoices_fair.cas, fairChoices_fair.clock, w_frames, w_args, w_heap, w_applies, trivial, trivial, w_case⟩
end start1
theorem witness_1 : WitnessClaimed_1 := ⟨start1.p0, start1.e0, start1.about1, start1.theMethod, start1.args0, start1.below0, start1.atStart⟩
end Jvm.Pilot.@@N@@
