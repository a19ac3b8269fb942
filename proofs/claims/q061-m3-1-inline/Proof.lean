import JvmDerived
import JvmDerived.Pilot.@@N@@Statement
import JvmDerived.Pilot.@@N@@Code
set_option linter.unusedVariables false
set_option linter.unusedSimpArgs false
@@BLOCK:NumsL.lean.txt@@
namespace Jvm.Pilot.@@N@@
open Jvm Jvm.ClassFile Sem Op Lib Jvm.Free Jvm.Stand Jvm.LawKit Jvm.RoadKit Bundle Jvm.Pilot.@@N@@.Jvm.D

section Own
variable {p : Program} {l : Launch} {e : Env} {R : Room} {s : State} {m : MethodId} {args : Array Value} {below : List Frame} {meth : Method} {c : Code} {S0 : State} {n0 : Nat} {h h' : Heap} {ce sl ce' sl' : Nat} {f f' : JFrame} {Z : State} {a0 : Array Value}
/-- the walk stands at the frame f over the heap h; it has made ce cells and sl slots; what it wrote lies at or above n0 -/
def own_R (p : Program) (l : Launch) (e : Env) (R : Room) (s : State) (m : MethodId) (args : Array Value) (below : List Frame) (meth : Method) (c : Code) (S0 : State) (n0 : Nat) (h : Heap) (ce sl : Nat) (f : JFrame) : Prop :=
  ∃ T L, Stand p l e R s m args below meth c T L ce sl ∧ T.heap = h ∧ Fr n0 L ∧ Steps p.tables e below S0 (T.setTop f)
/-- the walk has returned, and Q holds of what it returned and of the heap -/
def own_E (p : Program) (e : Env) (R : Room) (s : State) (below : List Frame) (S0 : State) (n0 : Nat) (Q : Option Value → Heap → Prop) : Prop :=
  ∃ s₂ v L, Steps p.tables e below S0 s₂ ∧ s₂.status = .running ∧ Ended s₂ below (.returned v) ∧ (Q v s₂.heap ∧ Fr n0 L) ∧ FrameEnd s (.returned v) s₂ L R.cells R.slots
/-- a body's contract -/
def own_M (l : Launch) (Z : State) (y : MethodName) (bytes : ByteArray) (maxL : Nat) (ret : Option FieldType) (ws : List Cond) (rm : Room) (as : Array Value) (h0 : Heap) (n0 : Nat) (Q : Option Value → Heap → Prop) : Prop :=
  MetFree l y (head1 (Cond.code y bytes maxL ret :: ws) rm) (fun a U => a = as ∧ Z.Warmed39 U.vm ∧ U.heap = h0) (fun _ _ _ _ _ => True) (fun _ U o U' => ∃ v L, o = .returned v ∧ (Q v U'.heap ∧ Fr n0 L) ∧ FrameEnd U o U' L rm.cells rm.slots)
theorem own_M.of {y : MethodName} {bytes : ByteArray} {maxL : Nat} {ret : Option FieldType} {ws : List Cond} {rm : Room} {as : Array Value} {h0 : Heap} {Q : Option Value → Heap → Prop} (pn : plainFor y = true)
    (body : ∀ (p : Program) (e : Env) (s : State) (m : MethodId) (below : List Frame) (meth : Method) (c : Code) (S0 : State), p.tables.exec = Jvm.exec → c.code = bytes → c.maxLocals = maxL → s.vm.findClass y.cls = some m.cls → meth.name = y.name → meth.sig.returnType = ret → meth.locks = false → Z.Warmed39 s.vm →
      own_R p l e rm s m as below meth c S0 n0 h0 0 0 (entryFrame m as maxL) → own_E p e rm s below S0 n0 Q) :
    own_M l Z y bytes maxL ret ws rm as h0 n0 Q := by
  refine MetFree.of_bodySF pn hisR ?_
  intro p e s m args below meth c s₁ Bd hml0 hP hK
  obtain ⟨rfl, hZ, hh⟩ := hP
  have e0 : s₁.heap = h0 := by rw [← hh, Bd.state]; rfl
  obtain ⟨s₂, v, L, k, hrun, hend, hq, hF⟩ := body p e s m below meth c _ Bd.exec Bd.bytes hml0 (findClass_of_methodNamed Bd.named) (name_of_methodNamed Bd.named Bd.method).1 Bd.returns Bd.notSynchronized hZ ⟨s₁, [], Stand.of_body Bd, e0, Fr.nil n0, Steps.refl _⟩
  exact ⟨s₂, _, k, hrun, hend, v, L, rfl, hq, hF⟩
theorem own_R.cast (A : own_R p l e R s m args below meth c S0 n0 h ce sl f) (q : f = f') : own_R p l e R s m args below meth c S0 n0 h ce sl f' := q ▸ A
theorem own_R.go (A : own_R p l e R s m args below meth c S0 n0 h ce sl f)
    (st : ∀ T L, Stand p l e R s m args below meth c T L ce sl → ∀ target, Steps p.tables e below (T.setTop f') target → Steps p.tables e below (T.setTop f) target) :
    own_R p l e R s m args below meth c S0 n0 h ce sl f' := by
  obtain ⟨T, L, X, eT, N, k⟩ := A
  exact ⟨T, L, X, eT, N, k.trans (st T L X _ (Steps.refl _))⟩
theorem own_R.law (A : own_R p l e R s m args below meth c S0 n0 h ce sl f)
    (st : ∀ T L, Stand p l e R s m args below meth c T L ce sl → T.heap = h → Fr n0 L → ∃ T' L', Stand p l e R s m args below meth c T' L' ce' sl' ∧ T'.heap = h' ∧ Fr n0 L' ∧ ∀ target, Steps p.tables e below (T'.setTop f') target → Steps p.tables e below (T.setTop f) target) :
    own_R p l e R s m args below meth c S0 n0 h' ce' sl' f' := by
  obtain ⟨T, L, X, eT, N, k⟩ := A
  obtain ⟨T', L', X', e', N', k'⟩ := st T L X eT N
  exact ⟨T', L', X', e', N', k.trans (k' _ (Steps.refl _))⟩
theorem own_R.getF {pc : Nat} {Ls : Array Slot} {rest : List Value} {a : Addr} {v : Value} {own R0 O n d : String} {index : Nat}
    (A : own_R p l e R s m args below meth c S0 n0 h ce sl (mkF m pc Ls (.ref a :: rest))) (hx : p.tables.exec = Jvm.exec) (hZ : Z.Warmed39 s.vm) (hown : s.vm.findClass own = some m.cls)
    (hd : decode c.code pc = .ok (.getfield index, 3)) (w : (Cond.fieldLink own index R0 n d).before a0 Z = true) (via : Via Z R0 O n d) (F : Fld Z h a O n d v) :
    own_R p l e R s m args below meth c S0 n0 h ce sl (mkF m (pc + 3) Ls (v :: rest)) := A.law fun T L X eT N => by
  obtain ⟨T', X', e', st⟩ := RoadKit.getF X hx hZ hown (host := "") (Or.inl w) via eT F (g := mkF m pc Ls (.ref a :: rest)) rfl rfl hd
  exact ⟨T', L, X', e', N, st⟩
theorem own_R.getS {pc : Nat} {Ls : Array Slot} {st : List Value} {v : Value} {own R0 O n d : String} {index : Nat}
    (A : own_R p l e R s m args below meth c S0 n0 h ce sl (mkF m pc Ls st)) (hx : p.tables.exec = Jvm.exec) (hZ : Z.Warmed39 s.vm) (hown : s.vm.findClass own = some m.cls)
    (hd : decode c.code pc = .ok (.getstatic index, 3)) (w : (Cond.fieldLink own index R0 n d).before a0 Z = true) (via : Via Z R0 O n d) (F : Sta Z h O n d v) :
    own_R p l e R s m args below meth c S0 n0 h ce sl (mkF m (pc + 3) Ls (v :: st)) := A.law fun T L X eT N => by
  obtain ⟨T', X', e', k⟩ := RoadKit.getS X hx hZ hown (host := "") w via eT F (g := mkF m pc Ls st) rfl hd
  exact ⟨T', L, X', e', N, k⟩
theorem own_R.ldcI {pc : Nat} {Ls : Array Slot} {st : List Value} {v : Int32} {own : String} {index : Nat}
    (A : own_R p l e R s m args below meth c S0 n0 h ce sl (mkF m pc Ls st)) (hx : p.tables.exec = Jvm.exec) (hZ : Z.Warmed39 s.vm) (hown : s.vm.findClass own = some m.cls)
    (hd : decode c.code pc = .ok (.ldc index, 2)) (w : (Cond.constant own index v).before a0 Z = true) :
    own_R p l e R s m args below meth c S0 n0 h ce sl (mkF m (pc + 2) Ls (.int v :: st)) := A.go fun T L X t k =>
  X.ldcInt hx hown (mvT hZ w) (g := mkF m pc Ls st) rfl hd t k
theorem own_R.ldcL {pc : Nat} {Ls : Array Slot} {st : List Value} {v : Int64} {own : String} {index : Nat}
    (A : own_R p l e R s m args below meth c S0 n0 h ce sl (mkF m pc Ls st)) (hx : p.tables.exec = Jvm.exec) (hZ : Z.Warmed39 s.vm) (hown : s.vm.findClass own = some m.cls)
    (hd : decode c.code pc = .ok (.ldc2_w index, 3)) (w : (Cond.constantLong own index v).before a0 Z = true) :
    own_R p l e R s m args below meth c S0 n0 h ce sl (mkF m (pc + 3) Ls (.long v :: st)) := A.go fun T L X t k =>
  X.ldc2Long hx hown (mvT hZ w) (g := mkF m pc Ls st) rfl hd t k
theorem own_R.ldcD {pc : Nat} {Ls : Array Slot} {st : List Value} {v : UInt64} {own : String} {index : Nat}
    (A : own_R p l e R s m args below meth c S0 n0 h ce sl (mkF m pc Ls st)) (hx : p.tables.exec = Jvm.exec) (hZ : Z.Warmed39 s.vm) (hown : s.vm.findClass own = some m.cls)
    (hd : decode c.code pc = .ok (.ldc2_w index, 3)) (w : (Cond.constantDouble own index v).before a0 Z = true) :
    own_R p l e R s m args below meth c S0 n0 h ce sl (mkF m (pc + 3) Ls (.double v :: st)) := A.go fun T L X t k =>
  X.ldc2DoubleC hx hown (mvT hZ w) (g := mkF m pc Ls st) rfl hd t k
theorem own_R.callS {pc : Nat} {Ls : Array Slot} {st : List Value} {own : String} {index W : Nat} {y : MethodName} {bytes : ByteArray} {maxL : Nat} {ret : Option FieldType} {rm : Room} {as : Array Value} {Q : Option Value → Heap → Prop} {argsL rest : List Value}
    (A : own_R p l e R s m args below meth c S0 n0 h ce sl (mkF m pc Ls st)) (M : own_M l Z y bytes maxL ret [] rm as h n0 Q) (hx : p.tables.exec = Jvm.exec) (hZ : Z.Warmed39 s.vm) (hown : s.vm.findClass own = some m.cls)
    (hd : decode c.code pc = .ok (.invokestatic index, 3)) (w1 : (Cond.methodLink own index y).before a0 Z = true) (w2 : (Cond.static y).before a0 Z = true) (w3 : (Cond.initialized y.cls).before a0 Z = true) (w4 : (Cond.code y bytes maxL ret).before a0 Z = true)
    (hy : y.cls ≠ "java/lang/invoke/MethodHandle" ∧ y.cls ≠ "java/lang/invoke/VarHandle") (hlen : ∀ sig, parseMethodDescriptor y.desc = some sig → argsL.length = sig.parameters.length) (hst : st = argsL.reverse ++ rest) (has : argsL.toArray = as)
    (hsz : Ls.size = c.maxLocals) (hW : (rest.map fun v => v.category).sum ≤ W) (hf : rm.frames + 1 ≤ R.frames) (hl : W + (maxL + 11) + rm.locals ≤ R.locals) (hc : ce + rm.cells ≤ R.cells) (hs : sl + rm.slots ≤ R.slots) :
    ∃ v h', Q v h' ∧ own_R p l e R s m args below meth c S0 n0 h' (ce + rm.cells) (sl + rm.slots) (mkF m (pc + 3) Ls (v.toList ++ rest)) := by
  obtain ⟨T, L, X, eT, N, k⟩ := A
  obtain ⟨v, vm₁, ⟨T', L', k', n'⟩, -, X', ⟨Lc, hQ, l1, l2, l3⟩, sT⟩ := Jvm.LawKit.callS X hx (y := y) hown (mvT hZ w1) (mvT hZ w2) (mvT hZ w3) (mvT hZ w4) hy (backOf (W := W) (Q := fun v h' L => Q v h' ∧ Fr n0 L) M hZ w4 w3 hf hl) (g := mkF m pc Ls st) rfl hsz (argsL := argsL) (rest := rest) hlen hst (by show 2 * 0 + _ ≤ _; omega) hd (fun _ _ => ⟨has, eT, hc, hs⟩)
  dsimp only [Pt.U, Pt.locs, Pt.cells, Pt.slots] at X' l1 l2 l3 sT hQ
  subst l1 l2 l3
  exact ⟨v, _, hQ.1, T', _, X', rfl, Fr.app N hQ.2, k.trans (sT _ (Steps.refl _))⟩
theorem own_R.callV {pc : Nat} {Ls : Array Slot} {st : List Value} {own C : String} {index W : Nat} {y z : MethodName} {bytes : ByteArray} {maxL : Nat} {ret : Option FieldType} {rm : Room} {as : Array Value} {Q : Option Value → Heap → Prop} {b : Addr} {argsL rest : List Value}
    (A : own_R p l e R s m args below meth c S0 n0 h ce sl (mkF m pc Ls st)) (M : own_M l Z z bytes maxL ret [] rm as h n0 Q) (E : Exa Z h b C) (hx : p.tables.exec = Jvm.exec) (hZ : Z.Warmed39 s.vm) (hown : s.vm.findClass own = some m.cls)
    (hd : decode c.code pc = .ok (.invokevirtual index, 3)) (w1 : (Cond.methodLink own index y).before a0 Z = true) (w2 : (Cond.declares y).before a0 Z = true) (w3 : (Cond.selects C y z).before a0 Z = true) (w4 : (Cond.instanceMethod z).before a0 Z = true) (w5 : (Cond.code z bytes maxL ret).before a0 Z = true) (w6 : (Cond.initialized z.cls).before a0 Z = true) (hnf : ∀ s' : State, Z.Warmed39 s'.vm → NotFace s' y)
    (hy : y.cls ≠ "java/lang/invoke/MethodHandle" ∧ y.cls ≠ "java/lang/invoke/VarHandle") (hlen : ∀ sig, parseMethodDescriptor y.desc = some sig → argsL.length = sig.parameters.length) (hst : st = argsL.reverse ++ .ref b :: rest) (has : (Value.ref b :: argsL).toArray = as)
    (hsz : Ls.size = c.maxLocals) (hW : (rest.map fun v => v.category).sum ≤ W) (hf : rm.frames + 1 ≤ R.frames) (hl : W + (maxL + 11) + rm.locals ≤ R.locals) (hc : ce + rm.cells ≤ R.cells) (hs : sl + rm.slots ≤ R.slots) :
    ∃ v h', Q v h' ∧ own_R p l e R s m args below meth c S0 n0 h' (ce + rm.cells) (sl + rm.slots) (mkF m (pc + 3) Ls (v.toList ++ rest)) := by
  obtain ⟨T, L, X, eT, N, k⟩ := A
  obtain ⟨cq, kq, qa, qb, qc⟩ := isOf hZ eT E
  obtain ⟨v, vm₁, ⟨T', L', k', n'⟩, -, X', ⟨Lc, hQ, l1, l2, l3⟩, sT⟩ := X.virtualBack hx (y := y) (z := z) hown (mvT hZ w1) (mvT hZ w2) (hnf s hZ) (mvT hZ w3) (mvT hZ w4) hy (backOf (W := W) (Q := fun v h' L => Q v h' ∧ Fr n0 L) M hZ w5 w6 hf hl) qa qc (g := mkF m pc Ls st) rfl hsz (Steps.refl _) (argsL := argsL) (rest := rest) hlen hst (by show 2 * 0 + _ ≤ _; omega) hd (fun _ _ => ⟨has, eT, hc, hs⟩)
  dsimp only [Pt.U, Pt.locs, Pt.cells, Pt.slots] at X' l1 l2 l3 sT hQ
  subst l1 l2 l3
  exact ⟨v, _, hQ.1, T', _, X', rfl, Fr.app N hQ.2, k.trans sT⟩
theorem own_R.callI {pc : Nat} {Ls : Array Slot} {st : List Value} {own : String} {index W : Nat} {y : MethodName} {bytes : ByteArray} {maxL : Nat} {rm : Room} {as : Array Value} {Q : Option Value → Heap → Prop} {b : Addr} {argsL rest : List Value}
    (A : own_R p l e R s m args below meth c S0 n0 h ce sl (mkF m pc Ls st)) (M : own_M l Z y bytes maxL none [] rm as h n0 Q) (hx : p.tables.exec = Jvm.exec) (hZ : Z.Warmed39 s.vm) (hown : s.vm.findClass own = some m.cls)
    (hd : decode c.code pc = .ok (.invokespecial index, 3)) (hy1 : y.name = "<init>") (w1 : (Cond.methodLink own index y).before a0 Z = true) (w2 : (Cond.instanceMethod y).before a0 Z = true) (w3 : (Cond.code y bytes maxL none).before a0 Z = true) (w4 : (Cond.initialized y.cls).before a0 Z = true)
    (hy : y.cls ≠ "java/lang/invoke/MethodHandle" ∧ y.cls ≠ "java/lang/invoke/VarHandle") (hlen : ∀ sig, parseMethodDescriptor y.desc = some sig → argsL.length = sig.parameters.length) (hst : st = argsL.reverse ++ .ref b :: rest) (has : (Value.ref b :: argsL).toArray = as)
    (hsz : Ls.size = c.maxLocals) (hW : (rest.map fun v => v.category).sum ≤ W) (hf : rm.frames + 1 ≤ R.frames) (hl : W + (maxL + 11) + rm.locals ≤ R.locals) (hc : ce + rm.cells ≤ R.cells) (hs : sl + rm.slots ≤ R.slots) :
    ∃ v h', Q v h' ∧ own_R p l e R s m args below meth c S0 n0 h' (ce + rm.cells) (sl + rm.slots) (mkF m (pc + 3) Ls (v.toList ++ rest)) := by
  obtain ⟨T, L, X, eT, N, k⟩ := A
  obtain ⟨v, vm₁, ⟨T', L', k', n'⟩, -, X', ⟨Lc, hQ, l1, l2, l3⟩, sT⟩ := X.specialBack hx (y := y) hy1 hown (mvT hZ w1) (mvT hZ w2) (mvT hZ w3) hy (backOf (W := W) (Q := fun v h' L => Q v h' ∧ Fr n0 L) M hZ w3 w4 hf hl) (g := mkF m pc Ls st) rfl hsz (Steps.refl _) (a := b) (argsL := argsL) (rest := rest) hlen hst (by show 2 * 0 + _ ≤ _; omega) hd (fun _ _ => ⟨has, eT, hc, hs⟩)
  dsimp only [Pt.U, Pt.locs, Pt.cells, Pt.slots] at X' l1 l2 l3 sT hQ
  subst l1 l2 l3
  exact ⟨v, _, hQ.1, T', _, X', rfl, Fr.app N hQ.2, k.trans sT⟩
theorem own_R.ret {pc : Nat} {Ls : Array Slot} {rest : List Value} {w : Value} {t : FieldType} {i : Instr} {Q : Option Value → Heap → Prop}
    (A : own_R p l e R s m args below meth c S0 n0 h ce sl (mkF m pc Ls (w :: rest))) (hx : p.tables.exec = Jvm.exec) (hlk : meth.locks = false) (hret : meth.sig.returnType = some t) (hd : decode c.code pc = .ok (i, 1)) (hn : narrow t w = w)
    (hi : (i = .ireturn ∧ (t = .int ∨ t = .boolean ∨ t = .byte ∨ t = .char ∨ t = .short) ∧ ∃ z, w = .int z) ∨ (i = .lreturn ∧ t = .long ∧ ∃ z, w = .long z) ∨ (i = .dreturn ∧ t = .double ∧ ∃ z, w = .double z) ∨ (i = .freturn ∧ t = .float ∧ ∃ z, w = .float z) ∨ (i = .areturn ∧ t.isReference = true ∧ w.isRef = true))
    (hc : ce ≤ R.cells) (hs : sl ≤ R.slots) (q : Q (some w) h) : own_E p e R s below S0 n0 Q := by
  obtain ⟨T, L, X, eT, N, k⟩ := A
  obtain ⟨fs, hr, hrun, hended, hW, hsame⟩ := X.leave (v := some w) (fun h => by rw [hret] at h; cases h) hlk
  refine ⟨_, _, _, k.trans (retOut X hx hret hn hi hd hr), hrun, hended, ⟨?_, N⟩, ⟨_, rfl⟩, hW, hsame.mono hc hs⟩
  show Q _ T.heap
  rw [eT]; exact q
theorem own_R.retV {pc : Nat} {Ls : Array Slot} {Q : Option Value → Heap → Prop}
    (A : own_R p l e R s m args below meth c S0 n0 h ce sl (mkF m pc Ls [])) (hx : p.tables.exec = Jvm.exec) (hlk : meth.locks = false) (hret : meth.sig.returnType = none) (hd : decode c.code pc = .ok (.return_, 1))
    (hc : ce ≤ R.cells) (hs : sl ≤ R.slots) (q : Q none h) : own_E p e R s below S0 n0 Q := by
  obtain ⟨T, L, X, eT, N, k⟩ := A
  obtain ⟨fs, hr, hrun, hended, hW, hsame⟩ := X.leave (v := none) (fun _ => rfl) hlk
  refine ⟨_, _, _, k.trans (X.returnOut hx hret hd hr), hrun, hended, ⟨?_, N⟩, ⟨_, rfl⟩, hW, hsame.mono hc hs⟩
  show Q _ T.heap
  rw [eT]; exact q
end Own
section Own2
variable {p : Program} {l : Launch} {e : Env} {R : Room} {s : State} {m : MethodId} {args : Array Value} {below : List Frame} {meth : Method} {c : Code} {S0 : State} {n0 : Nat} {h h' : Heap} {ce sl : Nat} {Z : State} {a0 : Array Value} {pc : Nat} {Ls : Array Slot} {rest : List Value} {a b : Addr} {ty : FieldType} {vs : List Value} {ws : List Addr} {v : Value} {i : Nat}
/-- an array whose components are listed -/
def own_Ar (Z : State) (h : Heap) (a : Addr) (ty : FieldType) (vs : List Value) : Prop := ∃ cl : Cell, Arr Z h a cl ty ∧ cl.slots.toList = vs
theorem own_Ar.ext (F : own_Ar Z h a ty vs) (E : Ext h h') : own_Ar Z h' a ty vs := by obtain ⟨cl, A, q⟩ := F; exact ⟨cl, A.ext E, q⟩
theorem own_Ar.other (F : own_Ar Z h a ty vs) (W : Wr h h' b i v) (q : a ≠ b) : own_Ar Z h' a ty vs := by obtain ⟨cl, A, r⟩ := F; exact ⟨cl, A.other W q, r⟩
theorem own_Ar.same (F : own_Ar Z h a ty vs) (W : Wr h h' a i v) : own_Ar Z h' a ty (vs.set i v) := by
  obtain ⟨cl, A, rfl⟩ := F
  exact ⟨_, A.same W, by simp [Cell.setSlot, Array.toList_setIfInBounds]⟩
theorem own_Ar.keep (F : own_Ar Z h a ty vs) (K : Keep h h' ws) (q : a ∉ ws) : own_Ar Z h' a ty vs := by obtain ⟨cl, A, r⟩ := F; exact ⟨cl, ⟨K.2.1 a cl A.1 q, A.2⟩, r⟩
theorem own_Ar.lt (F : own_Ar Z h a ty vs) : a < h.size := by obtain ⟨cl, A, -⟩ := F; exact A.lt
theorem own_R.newP {n : Int32} {aty : ArrayType} {cap : Nat} (A : own_R p l e R s m args below meth c S0 n0 h ce sl (mkF m pc Ls (.int n :: rest))) (hx : p.tables.exec = Jvm.exec) (hZ : Z.Warmed39 s.vm)
    (hd : decode c.code pc = .ok (.newarray aty, 2)) (w : (Cond.arrayClass (newarray.typeOf aty)).before a0 Z = true) (hn : ¬ n < 0) (hcap : n.toNatClampNeg ≤ cap) (hb : cap * 8 ≤ 536870912) (hc : ce + 1 ≤ R.cells) (hl : sl + cap ≤ R.slots) :
    ∃ h', Ext h h' ∧ own_Ar Z h' h.size (newarray.typeOf aty) (List.replicate n.toNatClampNeg (defaultValue (newarray.typeOf aty))) ∧ own_R p l e R s m args below meth c S0 n0 h' (ce + 1) (sl + cap) (mkF m (pc + 2) Ls (.ref h.size :: rest)) := by
  obtain ⟨T, L, X, eT, N, k⟩ := A
  obtain ⟨T', h', cA, X', e', E, AA, st⟩ := RoadKit.newP X hx hZ w eT (g := mkF m pc Ls (.int n :: rest)) rfl hd rfl hn hcap hb hc hl
  exact ⟨h', E, ⟨_, AA, by simp [newA]⟩, T', L, X', e', N, k.trans (st _ (Steps.refl _))⟩
theorem own_R.newO {own C : String} {index n : Nat} (A : own_R p l e R s m args below meth c S0 n0 h ce sl (mkF m pc Ls rest)) (hx : p.tables.exec = Jvm.exec) (hZ : Z.Warmed39 s.vm) (hown : s.vm.findClass own = some m.cls)
    (hd : decode c.code pc = .ok (.new index, 3)) (w : (Cond.classLink own index C).before a0 Z = true) (wi : (Cond.instantiable C n).before a0 Z = true) (wz : (Cond.initialized C).before a0 Z = true) (hc : ce + 1 ≤ R.cells) (hl : sl + n ≤ R.slots) :
    ∃ h', Ext h h' ∧ Exa Z h' h.size C ∧ (∀ {O nm d : String} {ty : FieldType}, Laid Z a0 C O nm d → parseFieldDescriptor d = some ty → Fld Z h' h.size O nm d (defaultValue ty)) ∧ own_R p l e R s m args below meth c S0 n0 h' (ce + 1) (sl + n) (mkF m (pc + 3) Ls (.ref h.size :: rest)) := by
  obtain ⟨T, L, X, eT, N, k⟩ := A
  obtain ⟨T', h', X', e', E, AA, D, -, st⟩ := RoadKit.newO X hx hZ hown w wi wz eT (g := mkF m pc Ls rest) rfl hd hc hl
  exact ⟨h', E, AA, D, T', L, X', e', N, k.trans (st _ (Steps.refl _))⟩
theorem own_R.putF {own O n d C : String} {index kk : Nat} {v old : Value} (A : own_R p l e R s m args below meth c S0 n0 h ce sl (mkF m pc Ls (v :: .ref a :: rest))) (hx : p.tables.exec = Jvm.exec) (hZ : Z.Warmed39 s.vm) (hown : s.vm.findClass own = some m.cls)
    (hd : decode c.code pc = .ok (.putfield index, 3)) (w : (Cond.fieldLink own index O n d).before a0 Z = true) (F : Fld Z h a O n d old) (E : Exa Z h a C) (L : (Cond.lays C O n d).before a0 Z = true ∨ ((Cond.laysFinal C O n d).before a0 Z = true ∧ own = O ∧ meth.name = "<init>")) (wi : (Cond.instantiable C kk).before a0 Z = true)
    (hty : parseFieldDescriptor d = some ty) (hn : narrow ty v = v) (hf : fits ty v = true) (q : n0 ≤ a) :
    ∃ h', Wr h h' a (RoadKit.slotOf Z O n d) v ∧ own_R p l e R s m args below meth c S0 n0 h' ce sl (mkF m (pc + 3) Ls rest) := by
  obtain ⟨T, Lc, X, eT, N, k⟩ := A
  obtain ⟨T', h', X', e', W, st⟩ := RoadKit.putF X hx hZ hown (host := "") (Or.inl w) Via.refl eT F E L wi hty hn hf (g := mkF m pc Ls (v :: .ref a :: rest)) rfl rfl hd
  exact ⟨h', W, T', _, X', e', Fr.snoc X' N q, k.trans (st _ (Steps.refl _))⟩
theorem own_R.initO {own : String} {idx W : Nat} (A : own_R p l e R s m args below meth c S0 n0 h ce sl (mkF m pc Ls (.ref a :: rest))) (hx : p.tables.exec = Jvm.exec) (hZ : Z.Warmed39 s.vm) (hown : s.vm.findClass own = some m.cls)
    (hd : decode c.code pc = .ok (.invokespecial idx, 3)) (w1 : (Cond.methodLink own idx Lib.objectInit).before a0 Z = true) (w2 : (Cond.instanceMethod Lib.objectInit).before a0 Z = true) (w3 : (Cond.code Lib.objectInit ⟨#[0xb1]⟩ 1 none).before a0 Z = true)
    (hsz : Ls.size = c.maxLocals) (hW : (rest.map fun v => v.category).sum ≤ W) (hf : 1 ≤ R.frames) (hl : W + 12 ≤ R.locals) : own_R p l e R s m args below meth c S0 n0 h ce sl (mkF m (pc + 3) Ls rest) := A.law fun T L X eT N => by
  obtain ⟨T', X', e', st⟩ := RoadKit.initO X hx hZ hown w1 w2 w3 eT (g := mkF m pc Ls (.ref a :: rest)) rfl hsz rfl hd hf (by show 2 * 0 + _ ≤ _; exact (Nat.zero_add _).symm ▸ hW) hl
  exact ⟨T', L, X', e', N, st⟩
theorem own_R.stI {j x : Int32} (A : own_R p l e R s m args below meth c S0 n0 h ce sl (mkF m pc Ls (.int x :: .int j :: .ref a :: rest))) (hx : p.tables.exec = Jvm.exec) (hZ : Z.Warmed39 s.vm)
    (hd : decode c.code pc = .ok (.iastore, 1)) (F : own_Ar Z h a .int vs) (hj : ¬ j < 0) (hi : j.toNatClampNeg < vs.length) (q : n0 ≤ a) :
    ∃ h', Wr h h' a j.toNatClampNeg (.int x) ∧ own_R p l e R s m args below meth c S0 n0 h' ce sl (mkF m (pc + 1) Ls rest) := by
  obtain ⟨cl, F, rfl⟩ := F
  obtain ⟨T, Lc, X, eT, N, k⟩ := A
  obtain ⟨T', h', X', e', W, st⟩ := RoadKit.stI X hx hZ eT F (j := j) (fun z => z.elim hj fun u => by rw [Array.length_toList] at hi; omega) (g := mkF m pc Ls (.int x :: .int j :: .ref a :: rest)) rfl rfl hd
  exact ⟨h', W, T', _, X', e', Fr.snoc X' N q, k.trans (st _ (Steps.refl _))⟩
theorem own_R.stB {j x : Int32} (A : own_R p l e R s m args below meth c S0 n0 h ce sl (mkF m pc Ls (.int x :: .int j :: .ref a :: rest))) (hx : p.tables.exec = Jvm.exec) (hZ : Z.Warmed39 s.vm)
    (hd : decode c.code pc = .ok (.bastore, 1)) (F : own_Ar Z h a .byte vs) (hj : ¬ j < 0) (hi : j.toNatClampNeg < vs.length) (q : n0 ≤ a) :
    ∃ h', Wr h h' a j.toNatClampNeg (.int (nar .byte x)) ∧ own_R p l e R s m args below meth c S0 n0 h' ce sl (mkF m (pc + 1) Ls rest) := by
  obtain ⟨cl, F, rfl⟩ := F
  obtain ⟨T, Lc, X, eT, N, k⟩ := A
  obtain ⟨T', h', X', e', W, st⟩ := RoadKit.stB X hx hZ eT F (j := j) (fun z => z.elim hj fun u => by rw [Array.length_toList] at hi; omega) (g := mkF m pc Ls (.int x :: .int j :: .ref a :: rest)) rfl rfl hd
  exact ⟨h', W, T', _, X', e', Fr.snoc X' N q, k.trans (st _ (Steps.refl _))⟩
theorem own_R.ldI {j : Int32} (A : own_R p l e R s m args below meth c S0 n0 h ce sl (mkF m pc Ls (.int j :: .ref a :: rest))) (hx : p.tables.exec = Jvm.exec) (hZ : Z.Warmed39 s.vm)
    (hd : decode c.code pc = .ok (.iaload, 1)) (F : own_Ar Z h a .int vs) (hj : ¬ j < 0) (hv : vs[j.toNatClampNeg]? = some v) :
    own_R p l e R s m args below meth c S0 n0 h ce sl (mkF m (pc + 1) Ls (v :: rest)) := A.law fun T L X eT N => by
  obtain ⟨cl, F, rfl⟩ := F
  rw [Array.getElem?_toList] at hv
  have hlt := (Array.getElem?_eq_some_iff.mp hv).1
  exact ⟨T, L, X, eT, N, fun t k => X.iaload hx (j := j) (v := v) (by rw [eT]; exact F.1) (State.isArrayOf_alike hZ.alike F.2.1) F.2.2 (fun z => z.elim hj fun u => by omega) hv (g := mkF m pc Ls (.int j :: .ref a :: rest)) rfl rfl hd t k⟩
theorem own_R.ldB {j : Int32} (A : own_R p l e R s m args below meth c S0 n0 h ce sl (mkF m pc Ls (.int j :: .ref a :: rest))) (hx : p.tables.exec = Jvm.exec) (hZ : Z.Warmed39 s.vm)
    (hd : decode c.code pc = .ok (.baload, 1)) (F : own_Ar Z h a .byte vs) (hj : ¬ j < 0) (hv : vs[j.toNatClampNeg]? = some v) :
    own_R p l e R s m args below meth c S0 n0 h ce sl (mkF m (pc + 1) Ls (v :: rest)) := A.law fun T L X eT N => by
  obtain ⟨cl, F, rfl⟩ := F
  rw [Array.getElem?_toList] at hv
  have hlt := (Array.getElem?_eq_some_iff.mp hv).1
  exact ⟨T, L, X, eT, N, fun t k => X.baloadBytes hx (j := j) (v := v) (by rw [eT]; exact F.1) (State.isArrayOf_alike hZ.alike F.2.1) F.2.2 (fun z => z.elim hj fun u => by omega) hv (g := mkF m pc Ls (.int j :: .ref a :: rest)) rfl rfl hd t k⟩
theorem own_R.stD {j : Int32} {x : UInt64} (A : own_R p l e R s m args below meth c S0 n0 h ce sl (mkF m pc Ls (.double x :: .int j :: .ref a :: rest))) (hx : p.tables.exec = Jvm.exec) (hZ : Z.Warmed39 s.vm)
    (hd : decode c.code pc = .ok (.dastore, 1)) (F : own_Ar Z h a .double vs) (hj : ¬ j < 0) (hi : j.toNatClampNeg < vs.length) (q : n0 ≤ a) :
    ∃ h', Wr h h' a j.toNatClampNeg (.double x) ∧ own_R p l e R s m args below meth c S0 n0 h' ce sl (mkF m (pc + 1) Ls rest) := by
  obtain ⟨cl, F, rfl⟩ := F
  obtain ⟨T, Lc, X, eT, N, k⟩ := A
  obtain ⟨T', h', X', e', W, st⟩ := RoadKit.stD X hx hZ eT F (j := j) (fun z => z.elim hj fun u => by rw [Array.length_toList] at hi; omega) (g := mkF m pc Ls (.double x :: .int j :: .ref a :: rest)) rfl rfl hd
  exact ⟨h', W, T', _, X', e', Fr.snoc X' N q, k.trans (st _ (Steps.refl _))⟩
theorem own_R.stC {j : Int32} {x : Int32} (A : own_R p l e R s m args below meth c S0 n0 h ce sl (mkF m pc Ls (.int x :: .int j :: .ref a :: rest))) (hx : p.tables.exec = Jvm.exec) (hZ : Z.Warmed39 s.vm)
    (hd : decode c.code pc = .ok (.castore, 1)) (F : own_Ar Z h a .char vs) (hj : ¬ j < 0) (hi : j.toNatClampNeg < vs.length) (q : n0 ≤ a) :
    ∃ h', Wr h h' a j.toNatClampNeg (.int (nar .char x)) ∧ own_R p l e R s m args below meth c S0 n0 h' ce sl (mkF m (pc + 1) Ls rest) := by
  obtain ⟨cl, F, rfl⟩ := F
  obtain ⟨T, Lc, X, eT, N, k⟩ := A
  obtain ⟨T', h', X', e', W, st⟩ := RoadKit.stC X hx hZ eT F (j := j) (fun z => z.elim hj fun u => by rw [Array.length_toList] at hi; omega) (g := mkF m pc Ls (.int x :: .int j :: .ref a :: rest)) rfl rfl hd
  exact ⟨h', W, T', _, X', e', Fr.snoc X' N q, k.trans (st _ (Steps.refl _))⟩
theorem own_R.stL {j : Int32} {x : Int64} (A : own_R p l e R s m args below meth c S0 n0 h ce sl (mkF m pc Ls (.long x :: .int j :: .ref a :: rest))) (hx : p.tables.exec = Jvm.exec) (hZ : Z.Warmed39 s.vm)
    (hd : decode c.code pc = .ok (.lastore, 1)) (F : own_Ar Z h a .long vs) (hj : ¬ j < 0) (hi : j.toNatClampNeg < vs.length) (q : n0 ≤ a) :
    ∃ h', Wr h h' a j.toNatClampNeg (.long x) ∧ own_R p l e R s m args below meth c S0 n0 h' ce sl (mkF m (pc + 1) Ls rest) := by
  obtain ⟨cl, F, rfl⟩ := F
  obtain ⟨T, Lc, X, eT, N, k⟩ := A
  obtain ⟨T', h', X', e', W, st⟩ := RoadKit.stJ X hx hZ eT F (j := j) (fun z => z.elim hj fun u => by rw [Array.length_toList] at hi; omega) (g := mkF m pc Ls (.long x :: .int j :: .ref a :: rest)) rfl rfl hd
  exact ⟨h', W, T', _, X', e', Fr.snoc X' N q, k.trans (st _ (Steps.refl _))⟩
theorem own_R.ldD {j : Int32} (A : own_R p l e R s m args below meth c S0 n0 h ce sl (mkF m pc Ls (.int j :: .ref a :: rest))) (hx : p.tables.exec = Jvm.exec) (hZ : Z.Warmed39 s.vm)
    (hd : decode c.code pc = .ok (.daload, 1)) (F : own_Ar Z h a .double vs) (hj : ¬ j < 0) (hv : vs[j.toNatClampNeg]? = some v) :
    own_R p l e R s m args below meth c S0 n0 h ce sl (mkF m (pc + 1) Ls (v :: rest)) := A.law fun T L X eT N => by
  obtain ⟨cl, F, rfl⟩ := F
  rw [Array.getElem?_toList] at hv
  have hlt := (Array.getElem?_eq_some_iff.mp hv).1
  exact ⟨T, L, X, eT, N, fun t k => X.daload hx (j := j) (v := v) (by rw [eT]; exact F.1) (State.isArrayOf_alike hZ.alike F.2.1) F.2.2 (fun z => z.elim hj fun u => by omega) hv (g := mkF m pc Ls (.int j :: .ref a :: rest)) rfl rfl hd t k⟩
theorem own_R.ldC {j : Int32} (A : own_R p l e R s m args below meth c S0 n0 h ce sl (mkF m pc Ls (.int j :: .ref a :: rest))) (hx : p.tables.exec = Jvm.exec) (hZ : Z.Warmed39 s.vm)
    (hd : decode c.code pc = .ok (.caload, 1)) (F : own_Ar Z h a .char vs) (hj : ¬ j < 0) (hv : vs[j.toNatClampNeg]? = some v) :
    own_R p l e R s m args below meth c S0 n0 h ce sl (mkF m (pc + 1) Ls (v :: rest)) := A.law fun T L X eT N => by
  obtain ⟨cl, F, rfl⟩ := F
  rw [Array.getElem?_toList] at hv
  have hlt := (Array.getElem?_eq_some_iff.mp hv).1
  exact ⟨T, L, X, eT, N, fun t k => X.caload hx (j := j) (v := v) (by rw [eT]; exact F.1) (State.isArrayOf_alike hZ.alike F.2.1) F.2.2 (fun z => z.elim hj fun u => by omega) hv (g := mkF m pc Ls (.int j :: .ref a :: rest)) rfl rfl hd t k⟩
theorem own_R.ldL {j : Int32} (A : own_R p l e R s m args below meth c S0 n0 h ce sl (mkF m pc Ls (.int j :: .ref a :: rest))) (hx : p.tables.exec = Jvm.exec) (hZ : Z.Warmed39 s.vm)
    (hd : decode c.code pc = .ok (.laload, 1)) (F : own_Ar Z h a .long vs) (hj : ¬ j < 0) (hv : vs[j.toNatClampNeg]? = some v) :
    own_R p l e R s m args below meth c S0 n0 h ce sl (mkF m (pc + 1) Ls (v :: rest)) := A.law fun T L X eT N => by
  obtain ⟨cl, F, rfl⟩ := F
  rw [Array.getElem?_toList] at hv
  have hlt := (Array.getElem?_eq_some_iff.mp hv).1
  exact ⟨T, L, X, eT, N, fun t k => X.laload hx (j := j) (v := v) (by rw [eT]; exact F.1) (State.isArrayOf_alike hZ.alike F.2.1) F.2.2 (fun z => z.elim hj fun u => by omega) hv (g := mkF m pc Ls (.int j :: .ref a :: rest)) rfl rfl hd t k⟩
theorem own_R.len (A : own_R p l e R s m args below meth c S0 n0 h ce sl (mkF m pc Ls (.ref a :: rest))) (hx : p.tables.exec = Jvm.exec) (hZ : Z.Warmed39 s.vm)
    (hd : decode c.code pc = .ok (.arraylength, 1)) (F : own_Ar Z h a ty vs) :
    own_R p l e R s m args below meth c S0 n0 h ce sl (mkF m (pc + 1) Ls (.int vs.length.toInt32 :: rest)) := A.law fun T L X eT N => by
  obtain ⟨cl, F, rfl⟩ := F
  exact ⟨T, L, X, eT, N, fun t k => X.arraylength hx (by rw [eT]; exact F.1) (State.isArrayOf_alike hZ.alike F.2.1) (g := mkF m pc Ls (.ref a :: rest)) rfl rfl hd t (by rw [Array.length_toList] at k; exact k)⟩
end Own2
section Own2b
variable {p : Program} {l : Launch} {e : Env} {R : Room} {s : State} {m : MethodId} {args : Array Value} {below : List Frame} {meth : Method} {c : Code} {S0 : State} {n0 : Nat} {h h' : Heap} {ce sl : Nat} {Z : State} {a0 : Array Value} {pc : Nat} {Ls : Array Slot} {rest : List Value} {a : Addr}
theorem own_R.instY {own K : String} {index : Nat} (A : own_R p l e R s m args below meth c S0 n0 h ce sl (mkF m pc Ls (.ref a :: rest))) (hx : p.tables.exec = Jvm.exec) (hZ : Z.Warmed39 s.vm) (hown : s.vm.findClass own = some m.cls)
    (hd : decode c.code pc = .ok (.instanceof index, 3)) (w : (Cond.classLink own index K).before a0 Z = true) (F : Ins Z h a K true) : own_R p l e R s m args below meth c S0 n0 h ce sl (mkF m (pc + 3) Ls (.int 1 :: rest)) := A.law fun T L X eT N => by
  obtain ⟨T', X', e', st⟩ := RoadKit.instY X hx hZ hown w eT F (g := mkF m pc Ls (.ref a :: rest)) rfl rfl hd
  exact ⟨T', L, X', e', N, st⟩
theorem own_R.castY {own K : String} {index : Nat} (A : own_R p l e R s m args below meth c S0 n0 h ce sl (mkF m pc Ls (.ref a :: rest))) (hx : p.tables.exec = Jvm.exec) (hZ : Z.Warmed39 s.vm) (hown : s.vm.findClass own = some m.cls)
    (hd : decode c.code pc = .ok (.checkcast index, 3)) (w : (Cond.classLink own index K).before a0 Z = true) (F : Ins Z h a K true) : own_R p l e R s m args below meth c S0 n0 h ce sl (mkF m (pc + 3) Ls (.ref a :: rest)) := A.law fun T L X eT N => by
  obtain ⟨T', X', e', st⟩ := RoadKit.castY X hx hZ hown w eT F (g := mkF m pc Ls (.ref a :: rest)) rfl rfl hd
  exact ⟨T', L, X', e', N, st⟩
theorem own_eqI {args : Array Value} {t : Term} {k : Int32} (h : (Cond.eq t (.int k)).value args Z none Z [] = some true) : t.eval args Z none [] Z = some (.int k) := by
  simp only [Cond.value, Term.int_eval] at h
  cases hv : t.eval args Z none [] Z with
  | none => rw [hv] at h; cases h
  | some w =>
    rw [hv] at h
    cases w <;> simp at h
    rw [h]
theorem own_Ar.start3 {args : Array Value} {t : Term} {x y z : Int32} (ev : t.eval args Z none [] Z = some (.ref a)) (hA : (Cond.arrayOf t .byte).value args Z none Z [] = some true) (hL : (Cond.eq (.length t) (.int 3)).value args Z none Z [] = some true)
    (h0 : (Cond.eq (.elem t (.int 0)) (.int x)).value args Z none Z [] = some true) (h1 : (Cond.eq (.elem t (.int 1)) (.int y)).value args Z none Z [] = some true) (h2 : (Cond.eq (.elem t (.int 2)) (.int z)).value args Z none Z [] = some true) : own_Ar Z Z.heap a .byte [.int x, .int y, .int z] := by
  obtain ⟨cl, A⟩ := Arr.start ev hA
  have e0 := (elem_in (own_eqI h0) ev (Term.int_eval _) A.1).2
  have e1 := (elem_in (own_eqI h1) ev (Term.int_eval _) A.1).2
  have e2 := (elem_in (own_eqI h2) ev (Term.int_eval _) A.1).2
  have q0 : (0 : Int32).toNatClampNeg = 0 := by decide
  have q1 : (1 : Int32).toNatClampNeg = 1 := by decide
  have q2 : (2 : Int32).toNatClampNeg = 2 := by decide
  rw [q0] at e0
  rw [q1] at e1
  rw [q2] at e2
  have ha : Z.arrayAt? a = some cl := Arr.fin (U := Z) (State.Warmed39.refl Z).alike A
  have hl := own_eqI hL
  simp only [Term.eval, ev, ha, Option.bind_eq_bind, Option.bind_some, Option.pure_def] at hl
  have hsz : cl.slots.size = 3 := by
    split at hl
    · rename_i hlt
      have e3 : cl.slots.size.toInt32 = 3 := by simpa using hl
      have e4 := len_toInt hlt
      rw [e3] at e4
      have e5 : (3 : Int32).toInt = 3 := by decide
      omega
    · cases hl
  refine ⟨cl, A, ?_⟩
  apply List.ext_getElem?
  intro i
  rw [Array.getElem?_toList]
  match i with
  | 0 => exact e0
  | 1 => exact e1
  | 2 => exact e2
  | n + 3 => rw [Array.getElem?_eq_none (by omega)]; rfl
end Own2b
section Own3
variable {p : Program} {l : Launch} {e : Env} {R : Room} {s : State} {vm0 vmS : Vm} {k0 : Nat} {m : MethodId} {args : Array Value} {below : List Frame} {meth : Method} {c : Code} {S0 : State} {n0 : Nat} {h h' hS0 : Heap} {ce sl : Nat} {Z : State} {a0 : Array Value} {pc : Nat} {Ls : Array Slot} {rest st : List Value} {EL : List (String × Nat)} {own : String}
/-- the end of a walk that may have interned -/
def own_ES (Z : State) (EL : List (String × Nat)) (p : Program) (e : Env) (R : Room) (s : State) (below : List Frame) (S0 : State) (n0 : Nat) (Q : Option Value → Heap → Prop) : Prop :=
  ∃ s₂ v L, Steps p.tables e below S0 s₂ ∧ s₂.status = .running ∧ Ended s₂ below (.returned v) ∧ (Q v s₂.heap ∧ Fr n0 L) ∧ CHr Z EL s.vm s.heap s₂.vm s₂.heap ∧ ReturnedEndW s (.returned v) s₂ L R.cells R.slots
/-- the contract of a body that may intern -/
def own_MS (l : Launch) (Z : State) (EL : List (String × Nat)) (y : MethodName) (bytes : ByteArray) (maxL : Nat) (ret : Option FieldType) (ws : List Cond) (rm : Room) (as : Array Value) (h0 : Heap) (n0 : Nat) (Q : Option Value → Heap → Prop) : Prop :=
  MetFree l y (head1 (Cond.code y bytes maxL ret :: ws) rm) (fun a U => a = as ∧ Z.Warmed39 U.vm ∧ U.heap = h0 ∧ CHv Z EL U.vm h0) (fun _ _ _ _ _ => True) (fun _ U o U' => ∃ v L, o = .returned v ∧ (Q v U'.heap ∧ Fr n0 L) ∧ CHr Z EL U.vm U.heap U'.vm U'.heap ∧ ReturnedEndW U o U' L rm.cells rm.slots)
theorem own_MS.of {y : MethodName} {bytes : ByteArray} {maxL : Nat} {ret : Option FieldType} {ws : List Cond} {rm : Room} {as : Array Value} {h0 : Heap} {Q : Option Value → Heap → Prop} (pn : plainFor y = true)
    (body : ∀ (p : Program) (e : Env) (s : State) (m : MethodId) (below : List Frame) (meth : Method) (c : Code) (S0 : State) (vm0 : Vm) (k0 : Nat), p.tables.exec = Jvm.exec → c.code = bytes → c.maxLocals = maxL → vm0.findClass y.cls = some m.cls → meth.name = y.name → meth.sig.returnType = ret → meth.locks = false → Z.Warmed39 vm0 →
      s.Since vm0 k0 → k0 ≤ h0.size → CHr Z EL s.vm s.heap vm0 h0 → own_R p l e rm (s.setVm vm0) m as below meth c S0 n0 h0 0 0 (entryFrame m as maxL) → own_ES Z EL p e rm s below S0 n0 Q) :
    own_MS l Z EL y bytes maxL ret ws rm as h0 n0 Q := by
  refine MetFree.of_bodySF pn hisR ?_
  intro p e s m args below meth c s₁ Bd hml0 hP hK
  obtain ⟨rfl, hZ, hh, HC⟩ := hP
  have e0 : s₁.heap = h0 := by rw [← hh, Bd.state]; rfl
  have X0 : Stand p l e rm (s.setVm s.vm) m args below meth c s₁ [] 0 0 := Stand.of_body Bd
  obtain ⟨s₂, v, L, k, hrun, hend, hq, hC, hF⟩ := body p e s m below meth c _ s.vm h0.size Bd.exec Bd.bytes hml0 (findClass_of_methodNamed Bd.named) (name_of_methodNamed Bd.named Bd.method).1 Bd.returns Bd.notSynchronized hZ ((State.WarmedH.refl s).since _) (Nat.le_refl _) (by rw [hh]; exact CHr.refl HC) ⟨s₁, [], X0, e0, Fr.nil n0, Steps.refl _⟩
  exact ⟨s₂, _, k, hrun, hend, v, L, rfl, hq, hC, hF⟩
theorem own_Ar.safe {a : Addr} {ty : FieldType} {vs : List Value} {vm : Vm} (hal : Z.vm.Alike vm) (F : own_Ar Z h a ty vs) (ht : ty ≠ .byte) : Safe Z EL vm h a := by
  obtain ⟨cl, A, -⟩ := F
  exact Safe.arr hal A ht
theorem own_Ar.of_arv {a : Addr} {k : ClassId} {ty : FieldType} {z : Int32} {vs : List Value} {d : Value} (A : Arv Z h a k ty z vs d) (hl : z.toNatClampNeg = vs.length) : own_Ar Z h a ty vs := by
  obtain ⟨cl, A1, -, hs, -, hH, -⟩ := A
  refine ⟨cl, A1, ?_⟩
  apply List.ext_getElem?
  intro i
  rw [Array.getElem?_toList]
  by_cases hi : i < cl.slots.size
  · have hi' : i < vs.length := by omega
    rw [hH i hi, List.getD_eq_getElem?_getD, List.getElem?_eq_getElem hi']
    rfl
  · have hi' : ¬ i < vs.length := by omega
    rw [List.getElem?_eq_none (Nat.le_of_not_lt hi'), Array.getElem?_eq_none (Nat.le_of_not_lt hi)]
theorem own_R.ldcS {text : String} {index n : Nat} {vs : List Value} {z : Int32} (A : own_R p l e R (s.setVm vm0) m args below meth c S0 n0 h ce sl (mkF m pc Ls st)) (hx : p.tables.exec = Jvm.exec) (hZ : Z.Warmed39 vm0) (hown : vm0.findClass own = some m.cls)
    (hd : decode c.code pc = .ok (.ldc index, 2)) (w : (Cond.stringLink own index text).before a0 Z = true) (wS : ∀ a ∈ Bundle.stringAtoms, a.before a0 Z = true) (hS : s.Since vm0 k0) (hk : k0 ≤ h.size) (hEL : EW Z a0 EL) (hmem : (own, index) ∈ EL) (HC : CHr Z EL vmS hS0 vm0 h)
    (ht : (∀ c ∈ text.toList, c.toNat < 256) ∧ text.toList.map (fun c => Value.int (Jvm.Lit.byteI c.toNat.toUInt16)) = vs) (hz : ¬ z < 0) (hl : z.toNatClampNeg = vs.length) (hn : 4 * text.toList.length ≤ n) (hbig : n ≤ 536870912) (hc : ce + 2 ≤ R.cells) (hl' : sl + (n + 4) ≤ R.slots) :
    ∃ a b vm1 k1 h', Ext h h' ∧ Exa Z h' a "java/lang/String" ∧ Fld Z h' a "java/lang/String" "coder" "B" (.int 0) ∧ Fld Z h' a "java/lang/String" "value" "[B" (.ref b) ∧ own_Ar Z h' b .byte vs ∧ (∀ x, Safe Z EL vm1 h' x → x ≠ a ∧ x ≠ b) ∧
      s.Since vm1 k1 ∧ k1 ≤ h'.size ∧ Z.Warmed39 vm1 ∧ vm1.findClass own = some m.cls ∧ CHr Z EL vmS hS0 vm1 h' ∧ Lit (s.setVm vm1) own index a ∧ own_R p l e R (s.setVm vm1) m args below meth c S0 n0 h' (ce + 2) (sl + (n + 4)) (mkF m (pc + 2) Ls (.ref a :: st)) := by
  obtain ⟨T, L, X, eT, N, k⟩ := A
  obtain ⟨a, T', h', k1, b, kc, X', e', E, hS', hk', hZ', hown', E1, F1, F2, V, -, -, HC', HL, hne, sT⟩ := ldcCH X hx hZ hown w wS eT hS hk hEL hmem HC.1 ht hz hl (g := mkF m pc Ls st) rfl hd hn hbig hc hl'
  exact ⟨a, b, T'.vm, k1, h', E, E1, F1, F2, own_Ar.of_arv V hl, hne, hS', hk', hZ', hown', HC.trans HC', HL, T', L, X', e', N, k.trans (sT _ (Steps.refl _))⟩
theorem own_R.ldcO {text : String} {index n : Nat} (A : own_R p l e R (s.setVm vm0) m args below meth c S0 n0 h ce sl (mkF m pc Ls st)) (hx : p.tables.exec = Jvm.exec) (hZ : Z.Warmed39 vm0) (hown : vm0.findClass own = some m.cls)
    (hd : decode c.code pc = .ok (.ldc index, 2)) (w : (Cond.stringLink own index text).before a0 Z = true) (wS : ∀ a ∈ Bundle.stringAtoms, a.before a0 Z = true) (hS : s.Since vm0 k0) (hk : k0 ≤ h.size) (hEL : EW Z a0 EL) (HC : CHr Z EL vmS hS0 vm0 h)
    (hn : 4 * text.toList.length ≤ n) (hbig : n ≤ 536870912) (hc : ce + 2 ≤ R.cells) (hl' : sl + (n + 4) ≤ R.slots) :
    ∃ a vm1 k1 h', Ext h h' ∧ s.Since vm1 k1 ∧ k1 ≤ h'.size ∧ Z.Warmed39 vm1 ∧ vm1.findClass own = some m.cls ∧ CHr Z EL vmS hS0 vm1 h' ∧ own_R p l e R (s.setVm vm1) m args below meth c S0 n0 h' (ce + 2) (sl + (n + 4)) (mkF m (pc + 2) Ls (.ref a :: st)) := by
  obtain ⟨T, L, X, eT, N, k⟩ := A
  obtain ⟨a, T', h', k1, X', e', E, hS', hk', hZ', hown', HC', HL, sT⟩ := ldcOH X hx hZ hown w wS eT hS hk hEL HC.1 (g := mkF m pc Ls st) rfl hd hn hbig hc hl'
  exact ⟨a, T'.vm, k1, h', E, hS', hk', hZ', hown', HC.trans HC', T', L, X', e', N, k.trans (sT _ (Steps.refl _))⟩
theorem own_R.callSS {index W : Nat} {y : MethodName} {bytes : ByteArray} {maxL : Nat} {ret : Option FieldType} {rm : Room} {as : Array Value} {Q : Option Value → Heap → Prop} {argsL : List Value}
    (A : own_R p l e R (s.setVm vm0) m args below meth c S0 n0 h ce sl (mkF m pc Ls st)) (M : own_MS l Z EL y bytes maxL ret [] rm as h n0 Q) (hx : p.tables.exec = Jvm.exec) (hZ : Z.Warmed39 vm0) (hown : vm0.findClass own = some m.cls)
    (hd : decode c.code pc = .ok (.invokestatic index, 3)) (w1 : (Cond.methodLink own index y).before a0 Z = true) (w2 : (Cond.static y).before a0 Z = true) (w3 : (Cond.initialized y.cls).before a0 Z = true) (w4 : (Cond.code y bytes maxL ret).before a0 Z = true) (hS : s.Since vm0 k0) (hk : k0 ≤ h.size) (hEL : EW Z a0 EL) (HC : CHr Z EL vmS hS0 vm0 h)
    (hy : y.cls ≠ "java/lang/invoke/MethodHandle" ∧ y.cls ≠ "java/lang/invoke/VarHandle") (hlen : ∀ sig, parseMethodDescriptor y.desc = some sig → argsL.length = sig.parameters.length) (hst : st = argsL.reverse ++ rest) (has : argsL.toArray = as)
    (hsz : Ls.size = c.maxLocals) (hW : (rest.map fun v => v.category).sum ≤ W) (hf : rm.frames + 1 ≤ R.frames) (hl : W + (maxL + 11) + rm.locals ≤ R.locals) (hc : ce + rm.cells ≤ R.cells) (hs : sl + rm.slots ≤ R.slots) :
    ∃ v vm1 k1 h', Q v h' ∧ s.Since vm1 k1 ∧ k1 ≤ h'.size ∧ Z.Warmed39 vm1 ∧ vm1.findClass own = some m.cls ∧ CHr Z EL vmS hS0 vm1 h' ∧ h.size ≤ h'.size ∧ (∀ vm2, vm2 = vm0 → (s.setVm vm2).Warmed39 vm1) ∧ own_R p l e R (s.setVm vm1) m args below meth c S0 n0 h' (ce + rm.cells) (sl + rm.slots) (mkF m (pc + 3) Ls (v.toList ++ rest)) := by
  obtain ⟨T, L, X, eT, N, k⟩ := A
  have hZs : Z.Warmed39 (s.setVm vm0).vm := hZ
  obtain ⟨v, vm₁, ⟨T', L', k', n'⟩, -, X', hS', hgr, ⟨Lc, hQ, l1, l2, l3, HC'⟩, sT⟩ := RoadKit.callSS X hx (y := y) hown (mvT hZs w1) (mvT hZs w2) (mvT hZs w3) (mvT hZs w4) hy (backOfSH (W := W) (Q := fun v h' L => Q v h' ∧ Fr n0 L) M hZ w4 w3 hf hl hEL HC.1) (g := mkF m pc Ls st) rfl hsz (argsL := argsL) (rest := rest) hlen hst (by show 2 * 0 + _ ≤ _; omega) hd (fun _ _ => ⟨has, eT, hc, hs⟩)
  dsimp only [Pt.U, Pt.locs, Pt.cells, Pt.slots] at X' l1 l2 l3 sT hQ hS' hgr HC'
  subst l1 l2 l3
  rw [eT] at hgr
  obtain ⟨X2, hS2, hZ2, hown2⟩ := rebS hS hk X' hS' hgr hZs hown
  exact ⟨v, T'.vm, _, _, hQ.1, hS2, Nat.le_refl _, hZ2, hown2, HC.trans HC', hgr, fun _ q => q ▸ hS'.1, T', _, X2, rfl, Fr.app N hQ.2, k.trans sT⟩
theorem own_R.callVS {C : String} {index W : Nat} {y z : MethodName} {bytes : ByteArray} {maxL : Nat} {ret : Option FieldType} {rm : Room} {as : Array Value} {Q : Option Value → Heap → Prop} {b : Addr} {argsL : List Value}
    (A : own_R p l e R (s.setVm vm0) m args below meth c S0 n0 h ce sl (mkF m pc Ls st)) (M : own_MS l Z EL z bytes maxL ret [] rm as h n0 Q) (E : Exa Z h b C) (hx : p.tables.exec = Jvm.exec) (hZ : Z.Warmed39 vm0) (hown : vm0.findClass own = some m.cls)
    (hd : decode c.code pc = .ok (.invokevirtual index, 3)) (w1 : (Cond.methodLink own index y).before a0 Z = true) (w2 : (Cond.declares y).before a0 Z = true) (w3 : (Cond.selects C y z).before a0 Z = true) (w4 : (Cond.instanceMethod z).before a0 Z = true) (w5 : (Cond.code z bytes maxL ret).before a0 Z = true) (w6 : (Cond.initialized z.cls).before a0 Z = true) (hnf : ∀ s' : State, Z.Warmed39 s'.vm → NotFace s' y) (hS : s.Since vm0 k0) (hk : k0 ≤ h.size) (hEL : EW Z a0 EL) (HC : CHr Z EL vmS hS0 vm0 h)
    (hy : y.cls ≠ "java/lang/invoke/MethodHandle" ∧ y.cls ≠ "java/lang/invoke/VarHandle") (hlen : ∀ sig, parseMethodDescriptor y.desc = some sig → argsL.length = sig.parameters.length) (hst : st = argsL.reverse ++ .ref b :: rest) (has : (Value.ref b :: argsL).toArray = as)
    (hsz : Ls.size = c.maxLocals) (hW : (rest.map fun v => v.category).sum ≤ W) (hf : rm.frames + 1 ≤ R.frames) (hl : W + (maxL + 11) + rm.locals ≤ R.locals) (hc : ce + rm.cells ≤ R.cells) (hs : sl + rm.slots ≤ R.slots) :
    ∃ v vm1 k1 h', Q v h' ∧ s.Since vm1 k1 ∧ k1 ≤ h'.size ∧ Z.Warmed39 vm1 ∧ vm1.findClass own = some m.cls ∧ CHr Z EL vmS hS0 vm1 h' ∧ h.size ≤ h'.size ∧ (∀ vm2, vm2 = vm0 → (s.setVm vm2).Warmed39 vm1) ∧ own_R p l e R (s.setVm vm1) m args below meth c S0 n0 h' (ce + rm.cells) (sl + rm.slots) (mkF m (pc + 3) Ls (v.toList ++ rest)) := by
  obtain ⟨T, L, X, eT, N, k⟩ := A
  have hZs : Z.Warmed39 (s.setVm vm0).vm := hZ
  obtain ⟨cq, kq, qa, qb, qc⟩ := isOf hZs eT E
  obtain ⟨v, vm₁, ⟨T', L', k', n'⟩, -, X', hS', hgr, ⟨Lc, hQ, l1, l2, l3, HC'⟩, sT⟩ := X.virtualBackS hx (y := y) (z := z) hown (mvT hZs w1) (mvT hZs w2) (hnf _ hZs) (mvT hZs w3) (mvT hZs w4) hy (backOfSH (W := W) (Q := fun v h' L => Q v h' ∧ Fr n0 L) M hZ w5 w6 hf hl hEL HC.1) qa qc (g := mkF m pc Ls st) rfl hsz (Steps.refl _) (argsL := argsL) (rest := rest) hlen hst (by show 2 * 0 + _ ≤ _; omega) hd (fun _ _ => ⟨has, eT, hc, hs⟩)
  dsimp only [Pt.U, Pt.locs, Pt.cells, Pt.slots] at X' l1 l2 l3 sT hQ hS' hgr HC'
  subst l1 l2 l3
  rw [eT] at hgr
  obtain ⟨X2, hS2, hZ2, hown2⟩ := rebS hS hk X' hS' hgr hZs hown
  exact ⟨v, T'.vm, _, _, hQ.1, hS2, Nat.le_refl _, hZ2, hown2, HC.trans HC', hgr, fun _ q => q ▸ hS'.1, T', _, X2, rfl, Fr.app N hQ.2, k.trans sT⟩
theorem own_R.callIS {index W : Nat} {y : MethodName} {bytes : ByteArray} {maxL : Nat} {rm : Room} {as : Array Value} {Q : Option Value → Heap → Prop} {b : Addr} {argsL : List Value}
    (A : own_R p l e R (s.setVm vm0) m args below meth c S0 n0 h ce sl (mkF m pc Ls st)) (M : own_MS l Z EL y bytes maxL none [] rm as h n0 Q) (hx : p.tables.exec = Jvm.exec) (hZ : Z.Warmed39 vm0) (hown : vm0.findClass own = some m.cls)
    (hd : decode c.code pc = .ok (.invokespecial index, 3)) (hy1 : y.name = "<init>") (w1 : (Cond.methodLink own index y).before a0 Z = true) (w2 : (Cond.instanceMethod y).before a0 Z = true) (w3 : (Cond.code y bytes maxL none).before a0 Z = true) (w4 : (Cond.initialized y.cls).before a0 Z = true) (hS : s.Since vm0 k0) (hk : k0 ≤ h.size) (hEL : EW Z a0 EL) (HC : CHr Z EL vmS hS0 vm0 h)
    (hy : y.cls ≠ "java/lang/invoke/MethodHandle" ∧ y.cls ≠ "java/lang/invoke/VarHandle") (hlen : ∀ sig, parseMethodDescriptor y.desc = some sig → argsL.length = sig.parameters.length) (hst : st = argsL.reverse ++ .ref b :: rest) (has : (Value.ref b :: argsL).toArray = as)
    (hsz : Ls.size = c.maxLocals) (hW : (rest.map fun v => v.category).sum ≤ W) (hf : rm.frames + 1 ≤ R.frames) (hl : W + (maxL + 11) + rm.locals ≤ R.locals) (hc : ce + rm.cells ≤ R.cells) (hs : sl + rm.slots ≤ R.slots) :
    ∃ v vm1 k1 h', Q v h' ∧ s.Since vm1 k1 ∧ k1 ≤ h'.size ∧ Z.Warmed39 vm1 ∧ vm1.findClass own = some m.cls ∧ CHr Z EL vmS hS0 vm1 h' ∧ h.size ≤ h'.size ∧ (∀ vm2, vm2 = vm0 → (s.setVm vm2).Warmed39 vm1) ∧ own_R p l e R (s.setVm vm1) m args below meth c S0 n0 h' (ce + rm.cells) (sl + rm.slots) (mkF m (pc + 3) Ls (v.toList ++ rest)) := by
  obtain ⟨T, L, X, eT, N, k⟩ := A
  have hZs : Z.Warmed39 (s.setVm vm0).vm := hZ
  obtain ⟨v, vm₁, ⟨T', L', k', n'⟩, -, X', hS', hgr, ⟨Lc, hQ, l1, l2, l3, HC'⟩, sT⟩ := X.specialBackS hx (y := y) hy1 hown (mvT hZs w1) (mvT hZs w2) (mvT hZs w3) hy (backOfSH (W := W) (Q := fun v h' L => Q v h' ∧ Fr n0 L) M hZ w3 w4 hf hl hEL HC.1) (g := mkF m pc Ls st) rfl hsz (Steps.refl _) (a := b) (argsL := argsL) (rest := rest) hlen hst (by show 2 * 0 + _ ≤ _; omega) hd (fun _ _ => ⟨has, eT, hc, hs⟩)
  dsimp only [Pt.U, Pt.locs, Pt.cells, Pt.slots] at X' l1 l2 l3 sT hQ hS' hgr HC'
  subst l1 l2 l3
  rw [eT] at hgr
  obtain ⟨X2, hS2, hZ2, hown2⟩ := rebS hS hk X' hS' hgr hZs hown
  exact ⟨v, T'.vm, _, _, hQ.1, hS2, Nat.le_refl _, hZ2, hown2, HC.trans HC', hgr, fun _ q => q ▸ hS'.1, T', _, X2, rfl, Fr.app N hQ.2, k.trans sT⟩
theorem own_R.retSS {w : Value} {t : FieldType} {i : Instr} {Q : Option Value → Heap → Prop}
    (A : own_R p l e R (s.setVm vm0) m args below meth c S0 n0 h ce sl (mkF m pc Ls (w :: rest))) (hx : p.tables.exec = Jvm.exec) (hlk : meth.locks = false) (hZ : Z.Warmed39 vm0) (hS : s.Since vm0 k0) (hk : k0 ≤ h.size) (hEL : EW Z a0 EL) (HC : CHr Z EL s.vm s.heap vm0 h) (hret : meth.sig.returnType = some t) (hd : decode c.code pc = .ok (i, 1)) (hn : narrow t w = w)
    (hi : (i = .ireturn ∧ (t = .int ∨ t = .boolean ∨ t = .byte ∨ t = .char ∨ t = .short) ∧ ∃ z, w = .int z) ∨ (i = .lreturn ∧ t = .long ∧ ∃ z, w = .long z) ∨ (i = .dreturn ∧ t = .double ∧ ∃ z, w = .double z) ∨ (i = .freturn ∧ t = .float ∧ ∃ z, w = .float z) ∨ (i = .areturn ∧ t.isReference = true ∧ w.isRef = true))
    (hc : ce ≤ R.cells) (hs : sl ≤ R.slots) (q : Q (some w) h) : own_ES Z EL p e R s below S0 n0 Q := by
  obtain ⟨T, L, X, eT, N, k⟩ := A
  obtain ⟨fs, hr, hrun, hended, hW⟩ := X.leaveW hS (by rw [eT]; exact hk) (v := some w) (fun h => by rw [hret] at h; cases h) hlk
  have HC2 := HC.trans (CHv.at X hZ hEL HC.1)
  refine ⟨_, _, _, k.trans (retOut X hx hret hn hi hd hr), hrun, hended, ⟨?_, N⟩, ?_, hW.1, hW.2.1, hW.2.2.1, hW.2.2.2.mono hc hs⟩
  · show Q _ T.heap
    rw [eT]; exact q
  · show CHr Z EL s.vm s.heap T.vm T.heap
    rw [eT]; exact HC2
theorem own_R.retVS {Q : Option Value → Heap → Prop}
    (A : own_R p l e R (s.setVm vm0) m args below meth c S0 n0 h ce sl (mkF m pc Ls [])) (hx : p.tables.exec = Jvm.exec) (hlk : meth.locks = false) (hZ : Z.Warmed39 vm0) (hS : s.Since vm0 k0) (hk : k0 ≤ h.size) (hEL : EW Z a0 EL) (HC : CHr Z EL s.vm s.heap vm0 h) (hret : meth.sig.returnType = none) (hd : decode c.code pc = .ok (.return_, 1))
    (hc : ce ≤ R.cells) (hs : sl ≤ R.slots) (q : Q none h) : own_ES Z EL p e R s below S0 n0 Q := by
  obtain ⟨T, L, X, eT, N, k⟩ := A
  obtain ⟨fs, hr, hrun, hended, hW⟩ := X.leaveW hS (by rw [eT]; exact hk) (v := none) (fun _ => rfl) hlk
  have HC2 := HC.trans (CHv.at X hZ hEL HC.1)
  refine ⟨_, _, _, k.trans (X.returnOut hx hret hd hr), hrun, hended, ⟨?_, N⟩, ?_, hW.1, hW.2.1, hW.2.2.1, hW.2.2.2.mono hc hs⟩
  · show Q _ T.heap
    rw [eT]; exact q
  · show CHr Z EL s.vm s.heap T.vm T.heap
    rw [eT]; exact HC2
end Own3
section Own4
variable {p : Program} {l : Launch} {e : Env} {R : Room} {s : State} {m : MethodId} {args : Array Value} {below : List Frame} {meth : Method} {c : Code} {S0 : State} {n0 : Nat} {h h' : Heap} {ce sl : Nat} {Z : State} {a0 : Array Value} {pc : Nat} {Ls : Array Slot} {rest st : List Value} {a b : Addr} {ty : FieldType} {vs : List Value} {ws : List Addr} {v : Value} {i : Nat} {own C : String}
theorem own_declares {y : MethodName} {bytes : ByteArray} {maxL : Nat} {ret : Option FieldType} (w4 : (Cond.instanceMethod y).before a0 Z = true) (w5 : (Cond.code y bytes maxL ret).before a0 Z = true) : (Cond.declares y).before a0 Z = true := by
  obtain ⟨mk, me, hn, hm, hs, -⟩ := Cond.instanceMethod_spec w4
  obtain ⟨me', ck, hm', -, -, -, -, -, -, hd⟩ := Cond.code_spec hn w5
  cases hm.symm.trans hm'
  simp [Cond.before, Cond.holds, Cond.value, hn, hm, hs, hd]
theorem own_nf {y y' : MethodName} (w : (Cond.selects C y' y').before a0 Z = true) (hc : y'.cls = y.cls) (s' : State) (hZ : Z.Warmed39 s'.vm) : NotFace s' y := by
  intro r0 h0
  obtain ⟨c1, r1, m1, -, -, hm, -, mk, hk, hi⟩ := Cond.selects_spec (mvT (args := #[]) hZ w)
  have e1 := findClass_of_methodNamed hm
  have e2 := findClass_of_methodNamed h0
  rw [hc, e2] at e1
  rw [← Option.some.inj e1] at hk
  exact ⟨mk, hk, hi⟩
theorem own_same {y y' : MethodName} (w : (Cond.selects C y' y').before a0 Z = true) (hc : y'.cls = y.cls) (w3 : (Cond.instanceMethod y).before a0 Z = true) (hy : y.cls ≠ "java/lang/invoke/MethodHandle" ∧ y.cls ≠ "java/lang/invoke/VarHandle") : (Cond.sameMethod y.cls y.cls y.name y.desc).before a0 Z = true := by
  obtain ⟨mk, me, hn, hm, hs, -⟩ := Cond.instanceMethod_spec w3
  obtain ⟨c1, r1, m1, -, -, hm1, -, kk, hk, hi⟩ := Cond.selects_spec w
  have e1 := findClass_of_methodNamed hm1
  have e2 := findClass_of_methodNamed hn
  have e3 := State.methodFound?_of_named hn hy
  rw [hc, e2] at e1
  rw [← Option.some.inj e1] at hk
  have hn' : Z.methodNamed? ⟨y.cls, y.name, y.desc⟩ = some mk := hn
  simp [Cond.before, Cond.holds, Cond.value, e2, e3, hn', hk, hi]
theorem own_R.callU {K : String} {index W : Nat} {y : MethodName} {bytes : ByteArray} {maxL : Nat} {ret : Option FieldType} {rm : Room} {as : Array Value} {Q : Option Value → Heap → Prop} {b : Addr} {argsL : List Value}
    (A : own_R p l e R s m args below meth c S0 n0 h ce sl (mkF m pc Ls st)) (M : own_M l Z y bytes maxL ret [] rm as h n0 Q) (E : Exa Z h b K) (hx : p.tables.exec = Jvm.exec) (hZ : Z.Warmed39 s.vm) (hown : s.vm.findClass own = some m.cls)
    (hd : decode c.code pc = .ok (.invokespecial index, 3)) (hn : y.name ≠ "<init>") (w1 : (Cond.methodLink own index y).before a0 Z = true) (w2 : (Cond.sameMethod y.cls y.cls y.name y.desc).before a0 Z = true) (w3 : (Cond.instanceMethod y).before a0 Z = true) (w4 : (Cond.superclass own y.cls).before a0 Z = true) (w5 : (Cond.code y bytes maxL ret).before a0 Z = true) (w6 : (Cond.initialized y.cls).before a0 Z = true)
    (hlen : ∀ sig, parseMethodDescriptor y.desc = some sig → argsL.length = sig.parameters.length) (hst : st = argsL.reverse ++ .ref b :: rest) (has : (Value.ref b :: argsL).toArray = as)
    (hsz : Ls.size = c.maxLocals) (hW : (rest.map fun v => v.category).sum ≤ W) (hf : rm.frames + 1 ≤ R.frames) (hl : W + (maxL + 11) + rm.locals ≤ R.locals) (hc : ce + rm.cells ≤ R.cells) (hs : sl + rm.slots ≤ R.slots) :
    ∃ v h', Q v h' ∧ own_R p l e R s m args below meth c S0 n0 h' (ce + rm.cells) (sl + rm.slots) (mkF m (pc + 3) Ls (v.toList ++ rest)) := by
  obtain ⟨T, L, X, eT, N, k⟩ := A
  obtain ⟨v, vm₁, ⟨T', L', k', n'⟩, -, X', ⟨Lc, hQ, l1, l2, l3⟩, sT⟩ := superBack X hx hZ hown w1 w2 w3 w4 hn (backOf (W := W) (Q := fun v h' L => Q v h' ∧ Fr n0 L) M hZ w5 w6 hf hl) eT (Ins.self E) (g := mkF m pc Ls st) rfl hsz w5 (argsL := argsL) (rest := rest) hlen hst (by show 2 * 0 + _ ≤ _; omega) hd (fun _ _ => ⟨has, eT, hc, hs⟩)
  dsimp only [Pt.U, Pt.locs, Pt.cells, Pt.slots] at X' l1 l2 l3 sT hQ
  subst l1 l2 l3
  exact ⟨v, _, hQ.1, T', _, X', rfl, Fr.app N hQ.2, k.trans sT⟩
theorem own_R.callF {index count W : Nat} {y z : MethodName} {bytes : ByteArray} {maxL : Nat} {ret : Option FieldType} {rm : Room} {as : Array Value} {Q : Option Value → Heap → Prop} {b : Addr} {argsL : List Value}
    (A : own_R p l e R s m args below meth c S0 n0 h ce sl (mkF m pc Ls st)) (M : own_M l Z z bytes maxL ret [] rm as h n0 Q) (E : Exa Z h b C) (hx : p.tables.exec = Jvm.exec) (hZ : Z.Warmed39 s.vm) (hown : s.vm.findClass own = some m.cls)
    (hd : decode c.code pc = .ok (.invokeinterface index count, 5)) (w1 : (Cond.methodLink own index y).before a0 Z = true) (w2 : (Cond.declares y).before a0 Z = true) (w2' : (Cond.interfaceMethod y.cls y.cls y.name y.desc).before a0 Z = true) (w3 : (Cond.selects C y z).before a0 Z = true) (w4 : (Cond.instanceMethod z).before a0 Z = true)
    (w7 : (Cond.publicMethod z).before a0 Z = true) (w8 : (Cond.unhidden C y.name y.desc).before a0 Z = true) (w9 : (Cond.castable C y.cls).before a0 Z = true) (w5 : (Cond.code z bytes maxL ret).before a0 Z = true) (w6 : (Cond.initialized z.cls).before a0 Z = true)
    (hy : y.cls ≠ "java/lang/invoke/MethodHandle" ∧ y.cls ≠ "java/lang/invoke/VarHandle") (hlen : ∀ sig, parseMethodDescriptor y.desc = some sig → argsL.length = sig.parameters.length) (hst : st = argsL.reverse ++ .ref b :: rest) (has : (Value.ref b :: argsL).toArray = as)
    (hsz : Ls.size = c.maxLocals) (hW : (rest.map fun v => v.category).sum ≤ W) (hf : rm.frames + 1 ≤ R.frames) (hl : W + (maxL + 11) + rm.locals ≤ R.locals) (hc : ce + rm.cells ≤ R.cells) (hs : sl + rm.slots ≤ R.slots) :
    ∃ v h', Q v h' ∧ own_R p l e R s m args below meth c S0 n0 h' (ce + rm.cells) (sl + rm.slots) (mkF m (pc + 5) Ls (v.toList ++ rest)) := by
  obtain ⟨T, L, X, eT, N, k⟩ := A
  obtain ⟨cq, kq, qa, qb, qc⟩ := isOf hZ eT E
  obtain ⟨v, vm₁, ⟨T', L', k', n'⟩, -, X', ⟨Lc, hQ, l1, l2, l3⟩, sT⟩ := X.interfaceBack hx (xi := y) (y := z) hown (mvT hZ w1) (mvT hZ w2) (mvT hZ w2' (by simp [Cond.onTables, Cond.keepsFace, Cond.keeps, Cond.steady, Cond.faceAtom, hy.1, hy.2])) (mvT hZ w3) (mvT hZ w4) (mvT hZ w7) (mvT hZ w8) (mvT hZ w9) hy (backOf (W := W) (Q := fun v h' L => Q v h' ∧ Fr n0 L) M hZ w5 w6 hf hl) qa qb qc (g := mkF m pc Ls st) rfl hsz (Steps.refl _) (argsL := argsL) (rest := rest) hlen hst (by show 2 * 0 + _ ≤ _; omega) hd (fun _ _ => ⟨has, eT, hc, hs⟩)
  dsimp only [Pt.U, Pt.locs, Pt.cells, Pt.slots] at X' l1 l2 l3 sT hQ
  subst l1 l2 l3
  exact ⟨v, _, hQ.1, T', _, X', rfl, Fr.app N hQ.2, k.trans sT⟩
theorem own_Ar.arv {z : Int32} {dv : Value} (F : own_Ar Z h a ty vs) (f : ∀ v ∈ vs, fits ty v = true) (hz : z.toNatClampNeg = vs.length) (hn : ¬ z < 0) : ∃ k, Arv Z h a k ty z vs dv := by
  obtain ⟨cl, A, rfl⟩ := F
  have g : ∀ i, i < cl.slots.size → cl.slots[i]? = some (cl.slots.toList.getD i dv) := fun i hi => by
    rw [List.getD_eq_getElem?_getD, Array.getElem?_toList, Array.getElem?_eq_getElem hi]; rfl
  refine ⟨_, cl, A, rfl, by rw [hz, Array.length_toList], hn, g, fun i hi => f _ ?_⟩
  have q := g i hi
  rw [← Array.getElem?_toList] at q
  exact List.mem_of_getElem? q
theorem own_R.cpA {index W : Nat} {vd vr : List Value} {sp dp nn z1 z2 : Int32} (A : own_R p l e R s m args below meth c S0 n0 h ce sl (mkF m pc Ls (.int nn :: .int dp :: .ref b :: .int sp :: .ref a :: rest))) (hx : p.tables.exec = Jvm.exec) (hZ : Z.Warmed39 s.vm) (hown : s.vm.findClass own = some m.cls)
    (hd : decode c.code pc = .ok (.invokestatic index, 3)) (w1 : (Cond.methodLink own index Jvm.Stand.acN).before a0 Z = true) (w2 : (Cond.native Jvm.Stand.acN).before a0 Z = true) (w3 : (Cond.static Jvm.Stand.acN).before a0 Z = true) (w4 : (Cond.initialized "java/lang/System").before a0 Z = true)
    (F : own_Ar Z h a ty vs) (G : own_Ar Z h b ty vd) (hty : refKind ty = false) (f1 : ∀ v ∈ vs, fits ty v = true) (f2 : ∀ v ∈ vd, fits ty v = true) (e1 : z1.toNatClampNeg = vs.length) (e2 : z2.toNatClampNeg = vd.length) (p1 : ¬ z1 < 0) (p2 : ¬ z2 < 0)
    (h1 : ¬ sp < 0) (h2 : ¬ dp < 0) (h3 : ¬ nn < 0) (h4 : sp.toNatClampNeg + nn.toNatClampNeg ≤ vs.length) (h5 : dp.toNatClampNeg + nn.toNatClampNeg ≤ vd.length)
    (hr : vd.take dp.toNatClampNeg ++ ((List.range nn.toNatClampNeg).map fun i => vs.getD (sp.toNatClampNeg + i) .null) ++ vd.drop (dp.toNatClampNeg + nn.toNatClampNeg) = vr) (hlr : vr.length = vd.length)
    (q : n0 ≤ b) (hsz : Ls.size = c.maxLocals) (hW : (rest.map fun v => v.category).sum ≤ W) (hf : 1 ≤ R.frames) (hl : W + 18 ≤ R.locals) :
    ∃ h', Keep h h' [b] ∧ own_Ar Z h' b ty vr ∧ own_R p l e R s m args below meth c S0 n0 h' ce sl (mkF m (pc + 3) Ls rest) := by
  obtain ⟨T, L, X, eT, N, k⟩ := A
  have hnw : nativeFrameWords "java/lang/System" "arraycopy" 5 = 7 := by decide
  obtain ⟨k1, V1⟩ := F.arv (dv := .null) f1 e1 p1
  obtain ⟨k2, V2⟩ := G.arv (dv := .null) f2 e2 p2
  obtain ⟨T', h', L', X', e', N', K, V, st⟩ := RoadKit.cpA X hx hZ hown w1 w2 w3 w4 eT V1 V2 (Or.inl ⟨rfl, hty⟩) h1 h2 h3 (by omega) (by omega) rfl h5 N q (g := mkF m pc Ls (.int nn :: .int dp :: .ref b :: .int sp :: .ref a :: rest)) rfl hsz rfl hd hf (W := W) (by show 2 * 0 + _ ≤ _; omega) (by omega)
  rw [hr] at V
  exact ⟨h', K, own_Ar.of_arv V (by omega), T', _, X', e', N', k.trans (st _ (Steps.refl _))⟩
theorem own_Ar.nostat (F : own_Ar Z h a ty vs) : ∀ cell : Cell, h[a]? = some cell → cell.vm.isStatics = false := by
  obtain ⟨cl, A, -⟩ := F
  exact Arr.nostat A
theorem own_staK {O n d : String} {w : Value} (F : Sta Z h O n d w) (K : Keep h h' ws) (hn : ∀ x ∈ ws, ∀ cell : Cell, h[x]? = some cell → cell.vm.isStatics = false) : Sta Z h' O n d w := by
  obtain ⟨cf, i, k, f, st, cell, h1, h2, h3, h4, h5, h6, h7⟩ := F
  refine ⟨cf, i, k, f, st, cell, h1, h2, h3, h4, K.2.1 _ _ h5 fun q => ?_, h6, h7⟩
  have := hn _ q _ h5
  rw [h6] at this
  cases this
theorem own_and16 (x : Int32) : ¬ (x &&& 65535) < 0 ∧ ¬ (65535 : Int32) < (x &&& 65535) := by
  have h : (x &&& 65535).toInt = ((x.toBitVec.toNat &&& 65535 : Nat) : Int) := by
    show (x.toBitVec &&& (65535#32)).toInt = _
    have e : (x.toBitVec &&& (65535#32)).toNat = x.toBitVec.toNat &&& 65535 := by rw [BitVec.toNat_and]; rfl
    have le : x.toBitVec.toNat &&& 65535 ≤ 65535 := Nat.and_le_right
    rw [BitVec.toInt_eq_toNat_of_lt (by omega), e]
  have le : x.toBitVec.toNat &&& 65535 ≤ 65535 := Nat.and_le_right
  have e0 : (0 : Int32).toInt = 0 := by decide
  have e1 : (65535 : Int32).toInt = 65535 := by decide
  constructor
  · rw [Int32.lt_iff_toInt_lt, h, e0]; omega
  · rw [Int32.lt_iff_toInt_lt, h, e1]; omega
theorem own_fold {g : Nat → Option Bool} : ∀ (L : List Nat) (acc : Option Bool), L.foldl (fun acc i => match acc with | some true => g i | x => x) acc = some true → acc = some true
  | [], _, h => h
  | i :: r, acc, h => by
    have q := own_fold r _ h
    match acc, q with
    | some true, _ => rfl
    | some false, q => cases q
    | none, q => cases q
theorem own_digS {args : Array Value} {dig : Addr} (ev : (Term.static "java/lang/Integer" "DigitOnes" "[B").eval args Z none [] Z = some (.ref dig)) (hx : (Cond.exactly (Term.static "java/lang/Integer" "DigitOnes" "[B") "[B").value args Z none Z [] = some true) (wa : (Cond.arrayClass .byte).before a0 Z = true)
    (hl : (Cond.eq (.length (Term.static "java/lang/Integer" "DigitOnes" "[B")) (.int 100)).value args Z none Z [] = some true)
    (hall : (Cond.all (Term.static "java/lang/Integer" "DigitOnes" "[B") (.eq (.elem (Term.static "java/lang/Integer" "DigitOnes" "[B") (.index 0)) (.add (.int 48) (.rem (.index 0) (.int 10))))).value args Z none Z [] = some true) : ∃ ds, own_Ar Z Z.heap dig .byte ds ∧ ds[0]? = some (.int (48 : Int32)) := by
  obtain ⟨a, SA, e1, harr, e2⟩ := Term.length_spec (own_eqI hl)
  cases ev.symm.trans e1
  obtain ⟨a3, c3, cell3, k3, f1, f2, f3, f4, f5, f6, -⟩ := Cond.exactly_spec (Cond.before_iff.mpr hx)
  cases ev.symm.trans f1
  obtain ⟨c4, k4, comp, w1, w2, w3⟩ := Cond.arrayClass_spec wa
  have hcell : Z.heap[dig]? = some SA ∧ SA.vm ≠ .unknown := by
    have harr' := harr
    simp only [State.arrayAt?, Option.bind_eq_bind] at harr'
    cases q : Z.heap[dig]? with
    | none => simp [q] at harr'
    | some x => simp only [q, Option.bind_some] at harr'; grind
  cases hcell.1.symm.trans f3
  cases (show Z.vm.findClass "[B" = some c4 from w1).symm.trans f2
  have hA : Z.isArrayOf SA .byte := ⟨(fun q r => by rw [r] at f5; cases f5), k4, by rw [f6]; exact w2, comp, w3⟩
  refine ⟨_, ⟨SA, ⟨hcell.1, hA, hcell.2⟩, rfl⟩, ?_⟩
  have hn : SA.slots.size ≠ 0 := fun q => by rw [q] at e2; exact absurd e2 (by decide)
  obtain ⟨n, hn'⟩ := Nat.exists_eq_succ_of_ne_zero hn
  simp only [Cond.value, ev, harr, hn'] at hall
  rw [List.range_succ_eq_map, List.foldl_cons] at hall
  have q := own_fold _ _ hall
  have q1 : (Cond.eq (.elem (Term.static "java/lang/Integer" "DigitOnes" "[B") (.index 0)) (.add (.int 48) (.rem (.index 0) (.int 10)))).value args Z none Z [0] = some true := q
  have ev0 : (Term.static "java/lang/Integer" "DigitOnes" "[B").eval args Z none [0] Z = some (.ref dig) := ev
  have er : (Term.add (.int 48) (.rem (.index 0) (.int 10))).eval args Z none [0] Z = some (.int (48 : Int32)) := rfl
  simp only [Cond.value, er] at q1
  cases hv : (Term.elem (Term.static "java/lang/Integer" "DigitOnes" "[B") (.index 0)).eval args Z none [0] Z with
  | none => rw [hv] at q1; cases q1
  | some w =>
    rw [hv] at q1
    cases w <;> simp at q1
    subst q1
    have := (elem_in hv ev0 (j := 0) rfl hcell.1).2
    rw [Array.getElem?_toList]
    exact this
end Own4

def own_EL : List (String × Nat) := [("com/example/periwinkle/periwinkle/server/ServerSettings", 3), ("com/example/periwinkle/periwinkle/server/ServerSettings", 188), ("com/example/periwinkle/periwinkle/server/ServerSettings", 190), ("com/example/periwinkle/periwinkle/server/ServerSettings", 202)]
theorem pd__28_29B : parseMethodDescriptor "()B" = some ⟨[], some .byte⟩ := by decide +kernel
theorem pd__28_29I : parseMethodDescriptor "()I" = some ⟨[], some .int⟩ := by decide +kernel
theorem pd__28_29Ljava_2flang_2fString_3b : parseMethodDescriptor "()Ljava/lang/String;" = some ⟨[], some (.object "java/lang/String")⟩ := by decide +kernel
theorem pd__28_29Ljava_2ftime_2fDuration_3b : parseMethodDescriptor "()Ljava/time/Duration;" = some ⟨[], some (.object "java/time/Duration")⟩ := by decide +kernel
theorem pd__28_29V : parseMethodDescriptor "()V" = some ⟨[], none⟩ := by decide +kernel
theorem pd__28_29Z : parseMethodDescriptor "()Z" = some ⟨[], some .boolean⟩ := by decide +kernel
theorem pd__28_29_5bB : parseMethodDescriptor "()[B" = some ⟨[], some (.array .byte)⟩ := by decide +kernel
theorem pd__28I_29I : parseMethodDescriptor "(I)I" = some ⟨[.int], some .int⟩ := by decide +kernel
theorem pd__28I_29Lcom_2fexample_2fperiwinkle_2fperiwinkle_2fserver_2fServerSettings_3b : parseMethodDescriptor "(I)Lcom/example/periwinkle/periwinkle/server/ServerSettings;" = some ⟨[.int], some (.object "com/example/periwinkle/periwinkle/server/ServerSettings")⟩ := by decide +kernel
theorem pd__28I_29Ljava_2flang_2fAbstractStringBuilder_3b : parseMethodDescriptor "(I)Ljava/lang/AbstractStringBuilder;" = some ⟨[.int], some (.object "java/lang/AbstractStringBuilder")⟩ := by decide +kernel
theorem pd__28I_29Ljava_2flang_2fString_3b : parseMethodDescriptor "(I)Ljava/lang/String;" = some ⟨[.int], some (.object "java/lang/String")⟩ := by decide +kernel
theorem pd__28I_29Ljava_2flang_2fStringBuilder_3b : parseMethodDescriptor "(I)Ljava/lang/StringBuilder;" = some ⟨[.int], some (.object "java/lang/StringBuilder")⟩ := by decide +kernel
theorem pd__28I_29V : parseMethodDescriptor "(I)V" = some ⟨[.int], none⟩ := by decide +kernel
theorem pd__28II_29I : parseMethodDescriptor "(II)I" = some ⟨[.int, .int], some .int⟩ := by decide +kernel
theorem pd__28II_29V : parseMethodDescriptor "(II)V" = some ⟨[.int, .int], none⟩ := by decide +kernel
theorem pd__28III_29I : parseMethodDescriptor "(III)I" = some ⟨[.int, .int, .int], some .int⟩ := by decide +kernel
theorem pd__28II_5bB_29I : parseMethodDescriptor "(II[B)I" = some ⟨[.int, .int, (.array .byte)], some .int⟩ := by decide +kernel
theorem pd__28ILjava_2flang_2fString_3b_29V : parseMethodDescriptor "(ILjava/lang/String;)V" = some ⟨[.int, (.object "java/lang/String")], none⟩ := by decide +kernel
theorem pd__28J_29Ljava_2ftime_2fDuration_3b : parseMethodDescriptor "(J)Ljava/time/Duration;" = some ⟨[.long], some (.object "java/time/Duration")⟩ := by decide +kernel
theorem pd__28JI_29Ljava_2ftime_2fDuration_3b : parseMethodDescriptor "(JI)Ljava/time/Duration;" = some ⟨[.long, .int], some (.object "java/time/Duration")⟩ := by decide +kernel
theorem pd__28JI_29V : parseMethodDescriptor "(JI)V" = some ⟨[.long, .int], none⟩ := by decide +kernel
theorem pd__28Ljava_2flang_2fAbstractStringBuilder_3bLjava_2flang_2fVoid_3b_29V : parseMethodDescriptor "(Ljava/lang/AbstractStringBuilder;Ljava/lang/Void;)V" = some ⟨[(.object "java/lang/AbstractStringBuilder"), (.object "java/lang/Void")], none⟩ := by decide +kernel
theorem pd__28Ljava_2flang_2fCharSequence_3b_29Z : parseMethodDescriptor "(Ljava/lang/CharSequence;)Z" = some ⟨[(.object "java/lang/CharSequence")], some .boolean⟩ := by decide +kernel
theorem pd__28Ljava_2flang_2fObject_3b_29Z : parseMethodDescriptor "(Ljava/lang/Object;)Z" = some ⟨[(.object "java/lang/Object")], some .boolean⟩ := by decide +kernel
theorem pd__28Ljava_2flang_2fString_3b_29I : parseMethodDescriptor "(Ljava/lang/String;)I" = some ⟨[(.object "java/lang/String")], some .int⟩ := by decide +kernel
theorem pd__28Ljava_2flang_2fString_3b_29Ljava_2flang_2fAbstractStringBuilder_3b : parseMethodDescriptor "(Ljava/lang/String;)Ljava/lang/AbstractStringBuilder;" = some ⟨[(.object "java/lang/String")], some (.object "java/lang/AbstractStringBuilder")⟩ := by decide +kernel
theorem pd__28Ljava_2flang_2fString_3b_29Ljava_2flang_2fStringBuilder_3b : parseMethodDescriptor "(Ljava/lang/String;)Ljava/lang/StringBuilder;" = some ⟨[(.object "java/lang/String")], some (.object "java/lang/StringBuilder")⟩ := by decide +kernel
theorem pd__28Ljava_2flang_2fString_3b_29V : parseMethodDescriptor "(Ljava/lang/String;)V" = some ⟨[(.object "java/lang/String")], none⟩ := by decide +kernel
theorem pd__28Ljava_2flang_2fString_3bILjava_2fnio_2ffile_2fPath_3bLjava_2fnio_2ffile_2fPath_3bLjava_2ftime_2fDuration_3b_29V : parseMethodDescriptor "(Ljava/lang/String;ILjava/nio/file/Path;Ljava/nio/file/Path;Ljava/time/Duration;)V" = some ⟨[(.object "java/lang/String"), .int, (.object "java/nio/file/Path"), (.object "java/nio/file/Path"), (.object "java/time/Duration")], none⟩ := by decide +kernel
theorem pd__28Ljava_2flang_2fStringBuilder_3b_29V : parseMethodDescriptor "(Ljava/lang/StringBuilder;)V" = some ⟨[(.object "java/lang/StringBuilder")], none⟩ := by decide +kernel
theorem pd__28_5bBI_29_5bB : parseMethodDescriptor "([BI)[B" = some ⟨[(.array .byte), .int], some (.array .byte)⟩ := by decide +kernel
theorem pd__28_5bBIB_29V : parseMethodDescriptor "([BIB)V" = some ⟨[(.array .byte), .int, .byte], none⟩ := by decide +kernel
theorem pd__28_5bBII_29_5bB : parseMethodDescriptor "([BII)[B" = some ⟨[(.array .byte), .int, .int], some (.array .byte)⟩ := by decide +kernel
theorem pd__28_5bBI_5bBII_29I : parseMethodDescriptor "([BI[BII)I" = some ⟨[(.array .byte), .int, (.array .byte), .int, .int], some .int⟩ := by decide +kernel
theorem pd__28_5bB_5bB_29I : parseMethodDescriptor "([B[B)I" = some ⟨[(.array .byte), (.array .byte)], some .int⟩ := by decide +kernel
theorem pd__28_5bB_5bB_29Z : parseMethodDescriptor "([B[B)Z" = some ⟨[(.array .byte), (.array .byte)], some .boolean⟩ := by decide +kernel
theorem dm4_0 : decode jdk_2316_method_17_code 0 = .ok (.aload_n 0, 1) := by decide +kernel
theorem dm4_1 : decode jdk_2316_method_17_code 1 = .ok (.invokespecial 218, 3) := by decide +kernel
theorem dm4_4 : decode jdk_2316_method_17_code 4 = .ok (.aload_n 0, 1) := by decide +kernel
theorem dm4_5 : decode jdk_2316_method_17_code 5 = .ok (.lload_n 1, 1) := by decide +kernel
theorem dm4_6 : decode jdk_2316_method_17_code 6 = .ok (.putfield 221, 3) := by decide +kernel
theorem dm4_9 : decode jdk_2316_method_17_code 9 = .ok (.aload_n 0, 1) := by decide +kernel
theorem dm4_10 : decode jdk_2316_method_17_code 10 = .ok (.iload_n 3, 1) := by decide +kernel
theorem dm4_11 : decode jdk_2316_method_17_code 11 = .ok (.putfield 224, 3) := by decide +kernel
theorem dm4_14 : decode jdk_2316_method_17_code 14 = .ok (.return_, 1) := by decide +kernel
theorem dm3_0 : decode jdk_2316_method_16_code 0 = .ok (.lload_n 0, 1) := by decide +kernel
theorem dm3_1 : decode jdk_2316_method_16_code 1 = .ok (.iload_n 2, 1) := by decide +kernel
theorem dm3_2 : decode jdk_2316_method_16_code 2 = .ok (.i2l, 1) := by decide +kernel
theorem dm3_3 : decode jdk_2316_method_16_code 3 = .ok (.lor, 1) := by decide +kernel
theorem dm3_4 : decode jdk_2316_method_16_code 4 = .ok (.lconst 0, 1) := by decide +kernel
theorem dm3_5 : decode jdk_2316_method_16_code 5 = .ok (.lcmp, 1) := by decide +kernel
theorem dm3_6 : decode jdk_2316_method_16_code 6 = .ok (.ifCond .ne 7, 3) := by decide +kernel
theorem dm3_13 : decode jdk_2316_method_16_code 13 = .ok (.new 11, 3) := by decide +kernel
theorem dm3_16 : decode jdk_2316_method_16_code 16 = .ok (.dup, 1) := by decide +kernel
theorem dm3_17 : decode jdk_2316_method_16_code 17 = .ok (.lload_n 0, 1) := by decide +kernel
theorem dm3_18 : decode jdk_2316_method_16_code 18 = .ok (.iload_n 2, 1) := by decide +kernel
theorem dm3_19 : decode jdk_2316_method_16_code 19 = .ok (.invokespecial 215, 3) := by decide +kernel
theorem dm3_22 : decode jdk_2316_method_16_code 22 = .ok (.areturn, 1) := by decide +kernel
theorem dm2_0 : decode jdk_2316_method_4_code 0 = .ok (.lload_n 0, 1) := by decide +kernel
theorem dm2_1 : decode jdk_2316_method_4_code 1 = .ok (.iconst 0, 1) := by decide +kernel
theorem dm2_2 : decode jdk_2316_method_4_code 2 = .ok (.invokestatic 10, 3) := by decide +kernel
theorem dm2_5 : decode jdk_2316_method_4_code 5 = .ok (.areturn, 1) := by decide +kernel
theorem dm6_0 : decode prog_37_method_2_code 0 = .ok (.aload_n 0, 1) := by decide +kernel
theorem dm6_1 : decode prog_37_method_2_code 1 = .ok (.invokespecial 17, 3) := by decide +kernel
theorem dm6_4 : decode prog_37_method_2_code 4 = .ok (.aload_n 0, 1) := by decide +kernel
theorem dm6_5 : decode prog_37_method_2_code 5 = .ok (.aload_n 1, 1) := by decide +kernel
theorem dm6_6 : decode prog_37_method_2_code 6 = .ok (.putfield 22, 3) := by decide +kernel
theorem dm6_9 : decode prog_37_method_2_code 9 = .ok (.aload_n 0, 1) := by decide +kernel
theorem dm6_10 : decode prog_37_method_2_code 10 = .ok (.iload_n 2, 1) := by decide +kernel
theorem dm6_11 : decode prog_37_method_2_code 11 = .ok (.putfield 26, 3) := by decide +kernel
theorem dm6_14 : decode prog_37_method_2_code 14 = .ok (.aload_n 0, 1) := by decide +kernel
theorem dm6_15 : decode prog_37_method_2_code 15 = .ok (.aload_n 3, 1) := by decide +kernel
theorem dm6_16 : decode prog_37_method_2_code 16 = .ok (.putfield 30, 3) := by decide +kernel
theorem dm6_19 : decode prog_37_method_2_code 19 = .ok (.aload_n 0, 1) := by decide +kernel
theorem dm6_20 : decode prog_37_method_2_code 20 = .ok (.aload 4, 2) := by decide +kernel
theorem dm6_22 : decode prog_37_method_2_code 22 = .ok (.putfield 34, 3) := by decide +kernel
theorem dm6_25 : decode prog_37_method_2_code 25 = .ok (.aload_n 0, 1) := by decide +kernel
theorem dm6_26 : decode prog_37_method_2_code 26 = .ok (.aload 5, 2) := by decide +kernel
theorem dm6_28 : decode prog_37_method_2_code 28 = .ok (.putfield 37, 3) := by decide +kernel
theorem dm6_31 : decode prog_37_method_2_code 31 = .ok (.return_, 1) := by decide +kernel
theorem dm1_0 : decode prog_37_method_1_code 0 = .ok (.aload_n 0, 1) := by decide +kernel
theorem dm1_1 : decode prog_37_method_1_code 1 = .ok (.ldc 3, 2) := by decide +kernel
theorem dm1_3 : decode prog_37_method_1_code 3 = .ok (.sipush 9911, 3) := by decide +kernel
theorem dm1_6 : decode prog_37_method_1_code 6 = .ok (.aconst_null, 1) := by decide +kernel
theorem dm1_7 : decode prog_37_method_1_code 7 = .ok (.aconst_null, 1) := by decide +kernel
theorem dm1_8 : decode prog_37_method_1_code 8 = .ok (.ldc2_w 5, 3) := by decide +kernel
theorem dm1_11 : decode prog_37_method_1_code 11 = .ok (.invokestatic 7, 3) := by decide +kernel
theorem dm1_14 : decode prog_37_method_1_code 14 = .ok (.invokespecial 13, 3) := by decide +kernel
theorem dm1_17 : decode prog_37_method_1_code 17 = .ok (.return_, 1) := by decide +kernel
theorem dm8_0 : decode prog_37_method_8_code 0 = .ok (.iload_n 0, 1) := by decide +kernel
theorem dm8_1 : decode prog_37_method_8_code 1 = .ok (.ifCond .lt 9, 3) := by decide +kernel
theorem dm8_4 : decode prog_37_method_8_code 4 = .ok (.iload_n 0, 1) := by decide +kernel
theorem dm8_5 : decode prog_37_method_8_code 5 = .ok (.ldc 114, 2) := by decide +kernel
theorem dm8_7 : decode prog_37_method_8_code 7 = .ok (.if_icmp .le 30, 3) := by decide +kernel
theorem dm8_37 : decode prog_37_method_8_code 37 = .ok (.return_, 1) := by decide +kernel
theorem dm7_0 : decode prog_37_method_4_code 0 = .ok (.iload_n 1, 1) := by decide +kernel
theorem dm7_1 : decode prog_37_method_4_code 1 = .ok (.invokestatic 45, 3) := by decide +kernel
theorem dm7_4 : decode prog_37_method_4_code 4 = .ok (.new 1, 3) := by decide +kernel
theorem dm7_7 : decode prog_37_method_4_code 7 = .ok (.dup, 1) := by decide +kernel
theorem dm7_8 : decode prog_37_method_4_code 8 = .ok (.aload_n 0, 1) := by decide +kernel
theorem dm7_9 : decode prog_37_method_4_code 9 = .ok (.getfield 22, 3) := by decide +kernel
theorem dm7_12 : decode prog_37_method_4_code 12 = .ok (.iload_n 1, 1) := by decide +kernel
theorem dm7_13 : decode prog_37_method_4_code 13 = .ok (.aload_n 0, 1) := by decide +kernel
theorem dm7_14 : decode prog_37_method_4_code 14 = .ok (.getfield 30, 3) := by decide +kernel
theorem dm7_17 : decode prog_37_method_4_code 17 = .ok (.aload_n 0, 1) := by decide +kernel
theorem dm7_18 : decode prog_37_method_4_code 18 = .ok (.getfield 34, 3) := by decide +kernel
theorem dm7_21 : decode prog_37_method_4_code 21 = .ok (.aload_n 0, 1) := by decide +kernel
theorem dm7_22 : decode prog_37_method_4_code 22 = .ok (.getfield 37, 3) := by decide +kernel
theorem dm7_25 : decode prog_37_method_4_code 25 = .ok (.invokespecial 13, 3) := by decide +kernel
theorem dm7_28 : decode prog_37_method_4_code 28 = .ok (.areturn, 1) := by decide +kernel
theorem dm9_0 : decode prog_37_method_13_code 0 = .ok (.aload_n 0, 1) := by decide +kernel
theorem dm9_1 : decode prog_37_method_13_code 1 = .ok (.getfield 26, 3) := by decide +kernel
theorem dm9_4 : decode prog_37_method_13_code 4 = .ok (.ireturn, 1) := by decide +kernel
theorem dm10_0 : decode prog_37_method_14_code 0 = .ok (.aload_n 0, 1) := by decide +kernel
theorem dm10_1 : decode prog_37_method_14_code 1 = .ok (.getfield 37, 3) := by decide +kernel
theorem dm10_4 : decode prog_37_method_14_code 4 = .ok (.areturn, 1) := by decide +kernel
theorem dm13_0 : decode jdk_42_method_126_code 0 = .ok (.aload_n 0, 1) := by decide +kernel
theorem dm13_1 : decode jdk_42_method_126_code 1 = .ok (.areturn, 1) := by decide +kernel
theorem dm15_0 : decode jdk_42_method_152_code 0 = .ok (.getstatic 38, 3) := by decide +kernel
theorem dm15_3 : decode jdk_42_method_152_code 3 = .ok (.ifCond .eq 10, 3) := by decide +kernel
theorem dm15_6 : decode jdk_42_method_152_code 6 = .ok (.aload_n 0, 1) := by decide +kernel
theorem dm15_7 : decode jdk_42_method_152_code 7 = .ok (.getfield 15, 3) := by decide +kernel
theorem dm15_10 : decode jdk_42_method_152_code 10 = .ok (.goto 4, 3) := by decide +kernel
theorem dm15_14 : decode jdk_42_method_152_code 14 = .ok (.ireturn, 1) := by decide +kernel
theorem dm16_0 : decode jdk_42_method_154_code 0 = .ok (.getstatic 38, 3) := by decide +kernel
theorem dm16_3 : decode jdk_42_method_154_code 3 = .ok (.ifCond .eq 14, 3) := by decide +kernel
theorem dm16_6 : decode jdk_42_method_154_code 6 = .ok (.aload_n 0, 1) := by decide +kernel
theorem dm16_7 : decode jdk_42_method_154_code 7 = .ok (.getfield 15, 3) := by decide +kernel
theorem dm16_10 : decode jdk_42_method_154_code 10 = .ok (.ifCond .ne 7, 3) := by decide +kernel
theorem dm16_13 : decode jdk_42_method_154_code 13 = .ok (.iconst 1, 1) := by decide +kernel
theorem dm16_14 : decode jdk_42_method_154_code 14 = .ok (.goto 4, 3) := by decide +kernel
theorem dm16_18 : decode jdk_42_method_154_code 18 = .ok (.ireturn, 1) := by decide +kernel
theorem dm18_0 : decode jdk_43_method_25_code 0 = .ok (.aload_n 2, 1) := by decide +kernel
theorem dm18_1 : decode jdk_43_method_25_code 1 = .ok (.iconst 0, 1) := by decide +kernel
theorem dm18_2 : decode jdk_43_method_25_code 2 = .ok (.baload, 1) := by decide +kernel
theorem dm18_3 : decode jdk_43_method_25_code 3 = .ok (.istore 5, 2) := by decide +kernel
theorem dm18_5 : decode jdk_43_method_25_code 5 = .ok (.iload_n 1, 1) := by decide +kernel
theorem dm18_6 : decode jdk_43_method_25_code 6 = .ok (.iload_n 3, 1) := by decide +kernel
theorem dm18_7 : decode jdk_43_method_25_code 7 = .ok (.isub, 1) := by decide +kernel
theorem dm18_8 : decode jdk_43_method_25_code 8 = .ok (.istore 6, 2) := by decide +kernel
theorem dm18_10 : decode jdk_43_method_25_code 10 = .ok (.iload 4, 2) := by decide +kernel
theorem dm18_12 : decode jdk_43_method_25_code 12 = .ok (.istore 7, 2) := by decide +kernel
theorem dm18_14 : decode jdk_43_method_25_code 14 = .ok (.iload 7, 2) := by decide +kernel
theorem dm18_16 : decode jdk_43_method_25_code 16 = .ok (.iload 6, 2) := by decide +kernel
theorem dm18_18 : decode jdk_43_method_25_code 18 = .ok (.if_icmp .gt 101, 3) := by decide +kernel
theorem dm18_21 : decode jdk_43_method_25_code 21 = .ok (.aload_n 0, 1) := by decide +kernel
theorem dm18_22 : decode jdk_43_method_25_code 22 = .ok (.iload 7, 2) := by decide +kernel
theorem dm18_24 : decode jdk_43_method_25_code 24 = .ok (.baload, 1) := by decide +kernel
theorem dm18_25 : decode jdk_43_method_25_code 25 = .ok (.iload 5, 2) := by decide +kernel
theorem dm18_27 : decode jdk_43_method_25_code 27 = .ok (.if_icmp .eq 25, 3) := by decide +kernel
theorem dm18_30 : decode jdk_43_method_25_code 30 = .ok (.iinc 7 1, 3) := by decide +kernel
theorem dm18_33 : decode jdk_43_method_25_code 33 = .ok (.iload 7, 2) := by decide +kernel
theorem dm18_35 : decode jdk_43_method_25_code 35 = .ok (.iload 6, 2) := by decide +kernel
theorem dm18_37 : decode jdk_43_method_25_code 37 = .ok (.if_icmp .gt 15, 3) := by decide +kernel
theorem dm18_40 : decode jdk_43_method_25_code 40 = .ok (.aload_n 0, 1) := by decide +kernel
theorem dm18_41 : decode jdk_43_method_25_code 41 = .ok (.iload 7, 2) := by decide +kernel
theorem dm18_43 : decode jdk_43_method_25_code 43 = .ok (.baload, 1) := by decide +kernel
theorem dm18_44 : decode jdk_43_method_25_code 44 = .ok (.iload 5, 2) := by decide +kernel
theorem dm18_46 : decode jdk_43_method_25_code 46 = .ok (.if_icmp .eq 6, 3) := by decide +kernel
theorem dm18_49 : decode jdk_43_method_25_code 49 = .ok (.goto (-19), 3) := by decide +kernel
theorem dm18_52 : decode jdk_43_method_25_code 52 = .ok (.iload 7, 2) := by decide +kernel
theorem dm18_54 : decode jdk_43_method_25_code 54 = .ok (.iload 6, 2) := by decide +kernel
theorem dm18_56 : decode jdk_43_method_25_code 56 = .ok (.if_icmp .gt 57, 3) := by decide +kernel
theorem dm18_113 : decode jdk_43_method_25_code 113 = .ok (.iinc 7 1, 3) := by decide +kernel
theorem dm18_116 : decode jdk_43_method_25_code 116 = .ok (.goto (-102), 3) := by decide +kernel
theorem dm18_119 : decode jdk_43_method_25_code 119 = .ok (.iconst (-1), 1) := by decide +kernel
theorem dm18_120 : decode jdk_43_method_25_code 120 = .ok (.ireturn, 1) := by decide +kernel
theorem dm17_0 : decode jdk_43_method_24_code 0 = .ok (.aload_n 1, 1) := by decide +kernel
theorem dm17_1 : decode jdk_43_method_24_code 1 = .ok (.arraylength, 1) := by decide +kernel
theorem dm17_2 : decode jdk_43_method_24_code 2 = .ok (.ifCond .ne 5, 3) := by decide +kernel
theorem dm17_7 : decode jdk_43_method_24_code 7 = .ok (.aload_n 0, 1) := by decide +kernel
theorem dm17_8 : decode jdk_43_method_24_code 8 = .ok (.arraylength, 1) := by decide +kernel
theorem dm17_9 : decode jdk_43_method_24_code 9 = .ok (.ifCond .ne 5, 3) := by decide +kernel
theorem dm17_14 : decode jdk_43_method_24_code 14 = .ok (.aload_n 0, 1) := by decide +kernel
theorem dm17_15 : decode jdk_43_method_24_code 15 = .ok (.aload_n 0, 1) := by decide +kernel
theorem dm17_16 : decode jdk_43_method_24_code 16 = .ok (.arraylength, 1) := by decide +kernel
theorem dm17_17 : decode jdk_43_method_24_code 17 = .ok (.aload_n 1, 1) := by decide +kernel
theorem dm17_18 : decode jdk_43_method_24_code 18 = .ok (.aload_n 1, 1) := by decide +kernel
theorem dm17_19 : decode jdk_43_method_24_code 19 = .ok (.arraylength, 1) := by decide +kernel
theorem dm17_20 : decode jdk_43_method_24_code 20 = .ok (.iconst 0, 1) := by decide +kernel
theorem dm17_21 : decode jdk_43_method_24_code 21 = .ok (.invokestatic 99, 3) := by decide +kernel
theorem dm17_24 : decode jdk_43_method_24_code 24 = .ok (.ireturn, 1) := by decide +kernel
theorem dm14_0 : decode jdk_42_method_84_code 0 = .ok (.aload_n 0, 1) := by decide +kernel
theorem dm14_1 : decode jdk_42_method_84_code 1 = .ok (.invokevirtual 335, 3) := by decide +kernel
theorem dm14_4 : decode jdk_42_method_84_code 4 = .ok (.istore_n 2, 1) := by decide +kernel
theorem dm14_5 : decode jdk_42_method_84_code 5 = .ok (.iload_n 2, 1) := by decide +kernel
theorem dm14_6 : decode jdk_42_method_84_code 6 = .ok (.aload_n 1, 1) := by decide +kernel
theorem dm14_7 : decode jdk_42_method_84_code 7 = .ok (.invokevirtual 335, 3) := by decide +kernel
theorem dm14_10 : decode jdk_42_method_84_code 10 = .ok (.if_icmp .ne 36, 3) := by decide +kernel
theorem dm14_13 : decode jdk_42_method_84_code 13 = .ok (.aload_n 0, 1) := by decide +kernel
theorem dm14_14 : decode jdk_42_method_84_code 14 = .ok (.invokevirtual 492, 3) := by decide +kernel
theorem dm14_17 : decode jdk_42_method_84_code 17 = .ok (.ifCond .eq 17, 3) := by decide +kernel
theorem dm14_20 : decode jdk_42_method_84_code 20 = .ok (.aload_n 0, 1) := by decide +kernel
theorem dm14_21 : decode jdk_42_method_84_code 21 = .ok (.getfield 9, 3) := by decide +kernel
theorem dm14_24 : decode jdk_42_method_84_code 24 = .ok (.aload_n 1, 1) := by decide +kernel
theorem dm14_25 : decode jdk_42_method_84_code 25 = .ok (.getfield 9, 3) := by decide +kernel
theorem dm14_28 : decode jdk_42_method_84_code 28 = .ok (.invokestatic 647, 3) := by decide +kernel
theorem dm14_31 : decode jdk_42_method_84_code 31 = .ok (.goto 14, 3) := by decide +kernel
theorem dm14_45 : decode jdk_42_method_84_code 45 = .ok (.ireturn, 1) := by decide +kernel
theorem dm12_0 : decode jdk_42_method_97_code 0 = .ok (.aload_n 0, 1) := by decide +kernel
theorem dm12_1 : decode jdk_42_method_97_code 1 = .ok (.aload_n 1, 1) := by decide +kernel
theorem dm12_2 : decode jdk_42_method_97_code 2 = .ok (.invokeinterface 710 1, 5) := by decide +kernel
theorem dm12_7 : decode jdk_42_method_97_code 7 = .ok (.invokevirtual 711, 3) := by decide +kernel
theorem dm12_10 : decode jdk_42_method_97_code 10 = .ok (.ifCond .lt 7, 3) := by decide +kernel
theorem dm12_17 : decode jdk_42_method_97_code 17 = .ok (.iconst 0, 1) := by decide +kernel
theorem dm12_18 : decode jdk_42_method_97_code 18 = .ok (.ireturn, 1) := by decide +kernel
theorem dm20_0 : decode jdk_68_method_2_code 0 = .ok (.aload_n 0, 1) := by decide +kernel
theorem dm20_1 : decode jdk_68_method_2_code 1 = .ok (.invokespecial 3, 3) := by decide +kernel
theorem dm20_4 : decode jdk_68_method_2_code 4 = .ok (.getstatic 18, 3) := by decide +kernel
theorem dm20_7 : decode jdk_68_method_2_code 7 = .ok (.ifCond .eq 18, 3) := by decide +kernel
theorem dm20_10 : decode jdk_68_method_2_code 10 = .ok (.aload_n 0, 1) := by decide +kernel
theorem dm20_11 : decode jdk_68_method_2_code 11 = .ok (.iload_n 1, 1) := by decide +kernel
theorem dm20_12 : decode jdk_68_method_2_code 12 = .ok (.newarray .byte, 2) := by decide +kernel
theorem dm20_14 : decode jdk_68_method_2_code 14 = .ok (.putfield 15, 3) := by decide +kernel
theorem dm20_17 : decode jdk_68_method_2_code 17 = .ok (.aload_n 0, 1) := by decide +kernel
theorem dm20_18 : decode jdk_68_method_2_code 18 = .ok (.iconst 0, 1) := by decide +kernel
theorem dm20_19 : decode jdk_68_method_2_code 19 = .ok (.putfield 22, 3) := by decide +kernel
theorem dm20_22 : decode jdk_68_method_2_code 22 = .ok (.goto 16, 3) := by decide +kernel
theorem dm20_38 : decode jdk_68_method_2_code 38 = .ok (.return_, 1) := by decide +kernel
theorem dm19_0 : decode jdk_67_method_1_code 0 = .ok (.aload_n 0, 1) := by decide +kernel
theorem dm19_1 : decode jdk_67_method_1_code 1 = .ok (.bipush 16, 2) := by decide +kernel
theorem dm19_3 : decode jdk_67_method_1_code 3 = .ok (.invokespecial 1, 3) := by decide +kernel
theorem dm19_6 : decode jdk_67_method_1_code 6 = .ok (.return_, 1) := by decide +kernel
theorem dm23_0 : decode jdk_42_method_54_code 0 = .ok (.aload_n 0, 1) := by decide +kernel
theorem dm23_1 : decode jdk_42_method_54_code 1 = .ok (.getfield 9, 3) := by decide +kernel
theorem dm23_4 : decode jdk_42_method_54_code 4 = .ok (.arraylength, 1) := by decide +kernel
theorem dm23_5 : decode jdk_42_method_54_code 5 = .ok (.aload_n 0, 1) := by decide +kernel
theorem dm23_6 : decode jdk_42_method_54_code 6 = .ok (.invokevirtual 335, 3) := by decide +kernel
theorem dm23_9 : decode jdk_42_method_54_code 9 = .ok (.ishr, 1) := by decide +kernel
theorem dm23_10 : decode jdk_42_method_54_code 10 = .ok (.ireturn, 1) := by decide +kernel
theorem dm24_0 : decode jdk_68_method_9_code 0 = .ok (.aload_n 0, 1) := by decide +kernel
theorem dm24_1 : decode jdk_68_method_9_code 1 = .ok (.getfield 15, 3) := by decide +kernel
theorem dm24_4 : decode jdk_68_method_9_code 4 = .ok (.arraylength, 1) := by decide +kernel
theorem dm24_5 : decode jdk_68_method_9_code 5 = .ok (.aload_n 0, 1) := by decide +kernel
theorem dm24_6 : decode jdk_68_method_9_code 6 = .ok (.getfield 22, 3) := by decide +kernel
theorem dm24_9 : decode jdk_68_method_9_code 9 = .ok (.ishr, 1) := by decide +kernel
theorem dm24_10 : decode jdk_68_method_9_code 10 = .ok (.istore_n 2, 1) := by decide +kernel
theorem dm24_11 : decode jdk_68_method_9_code 11 = .ok (.iload_n 1, 1) := by decide +kernel
theorem dm24_12 : decode jdk_68_method_9_code 12 = .ok (.iload_n 2, 1) := by decide +kernel
theorem dm24_13 : decode jdk_68_method_9_code 13 = .ok (.isub, 1) := by decide +kernel
theorem dm24_14 : decode jdk_68_method_9_code 14 = .ok (.ifCond .le 24, 3) := by decide +kernel
theorem dm24_17 : decode jdk_68_method_9_code 17 = .ok (.aload_n 0, 1) := by decide +kernel
theorem dm24_18 : decode jdk_68_method_9_code 18 = .ok (.aload_n 0, 1) := by decide +kernel
theorem dm24_19 : decode jdk_68_method_9_code 19 = .ok (.getfield 15, 3) := by decide +kernel
theorem dm24_22 : decode jdk_68_method_9_code 22 = .ok (.aload_n 0, 1) := by decide +kernel
theorem dm24_23 : decode jdk_68_method_9_code 23 = .ok (.iload_n 1, 1) := by decide +kernel
theorem dm24_24 : decode jdk_68_method_9_code 24 = .ok (.invokevirtual 104, 3) := by decide +kernel
theorem dm24_27 : decode jdk_68_method_9_code 27 = .ok (.aload_n 0, 1) := by decide +kernel
theorem dm24_28 : decode jdk_68_method_9_code 28 = .ok (.getfield 22, 3) := by decide +kernel
theorem dm24_31 : decode jdk_68_method_9_code 31 = .ok (.ishl, 1) := by decide +kernel
theorem dm24_32 : decode jdk_68_method_9_code 32 = .ok (.invokestatic 108, 3) := by decide +kernel
theorem dm24_35 : decode jdk_68_method_9_code 35 = .ok (.putfield 15, 3) := by decide +kernel
theorem dm24_38 : decode jdk_68_method_9_code 38 = .ok (.return_, 1) := by decide +kernel
theorem dm26_0 : decode jdk_68_method_71_code 0 = .ok (.getstatic 18, 3) := by decide +kernel
theorem dm26_3 : decode jdk_68_method_71_code 3 = .ok (.ifCond .eq 18, 3) := by decide +kernel
theorem dm26_6 : decode jdk_68_method_71_code 6 = .ok (.aload_n 0, 1) := by decide +kernel
theorem dm26_7 : decode jdk_68_method_71_code 7 = .ok (.getfield 22, 3) := by decide +kernel
theorem dm26_10 : decode jdk_68_method_71_code 10 = .ok (.aload_n 1, 1) := by decide +kernel
theorem dm26_11 : decode jdk_68_method_71_code 11 = .ok (.invokevirtual 40, 3) := by decide +kernel
theorem dm26_14 : decode jdk_68_method_71_code 14 = .ok (.if_icmp .eq 7, 3) := by decide +kernel
theorem dm26_21 : decode jdk_68_method_71_code 21 = .ok (.return_, 1) := by decide +kernel
theorem dm27_0 : decode jdk_42_method_147_code 0 = .ok (.aload_n 0, 1) := by decide +kernel
theorem dm27_1 : decode jdk_42_method_147_code 1 = .ok (.invokevirtual 335, 3) := by decide +kernel
theorem dm27_4 : decode jdk_42_method_147_code 4 = .ok (.iload_n 3, 1) := by decide +kernel
theorem dm27_5 : decode jdk_42_method_147_code 5 = .ok (.if_icmp .ne 23, 3) := by decide +kernel
theorem dm27_8 : decode jdk_42_method_147_code 8 = .ok (.aload_n 0, 1) := by decide +kernel
theorem dm27_9 : decode jdk_42_method_147_code 9 = .ok (.getfield 9, 3) := by decide +kernel
theorem dm27_12 : decode jdk_42_method_147_code 12 = .ok (.iconst 0, 1) := by decide +kernel
theorem dm27_13 : decode jdk_42_method_147_code 13 = .ok (.aload_n 1, 1) := by decide +kernel
theorem dm27_14 : decode jdk_42_method_147_code 14 = .ok (.iload_n 2, 1) := by decide +kernel
theorem dm27_15 : decode jdk_42_method_147_code 15 = .ok (.iload_n 3, 1) := by decide +kernel
theorem dm27_16 : decode jdk_42_method_147_code 16 = .ok (.ishl, 1) := by decide +kernel
theorem dm27_17 : decode jdk_42_method_147_code 17 = .ok (.aload_n 0, 1) := by decide +kernel
theorem dm27_18 : decode jdk_42_method_147_code 18 = .ok (.getfield 9, 3) := by decide +kernel
theorem dm27_21 : decode jdk_42_method_147_code 21 = .ok (.arraylength, 1) := by decide +kernel
theorem dm27_22 : decode jdk_42_method_147_code 22 = .ok (.invokestatic 212, 3) := by decide +kernel
theorem dm27_25 : decode jdk_42_method_147_code 25 = .ok (.goto 18, 3) := by decide +kernel
theorem dm27_43 : decode jdk_42_method_147_code 43 = .ok (.return_, 1) := by decide +kernel
theorem dm25_0 : decode jdk_68_method_73_code 0 = .ok (.aload_n 0, 1) := by decide +kernel
theorem dm25_1 : decode jdk_68_method_73_code 1 = .ok (.aload_n 2, 1) := by decide +kernel
theorem dm25_2 : decode jdk_68_method_73_code 2 = .ok (.invokevirtual 397, 3) := by decide +kernel
theorem dm25_5 : decode jdk_68_method_73_code 5 = .ok (.aload_n 2, 1) := by decide +kernel
theorem dm25_6 : decode jdk_68_method_73_code 6 = .ok (.aload_n 0, 1) := by decide +kernel
theorem dm25_7 : decode jdk_68_method_73_code 7 = .ok (.getfield 15, 3) := by decide +kernel
theorem dm25_10 : decode jdk_68_method_73_code 10 = .ok (.iload_n 1, 1) := by decide +kernel
theorem dm25_11 : decode jdk_68_method_73_code 11 = .ok (.aload_n 0, 1) := by decide +kernel
theorem dm25_12 : decode jdk_68_method_73_code 12 = .ok (.getfield 22, 3) := by decide +kernel
theorem dm25_15 : decode jdk_68_method_73_code 15 = .ok (.invokevirtual 399, 3) := by decide +kernel
theorem dm25_18 : decode jdk_68_method_73_code 18 = .ok (.return_, 1) := by decide +kernel
theorem dm22_0 : decode jdk_68_method_22_code 0 = .ok (.aload_n 1, 1) := by decide +kernel
theorem dm22_1 : decode jdk_68_method_22_code 1 = .ok (.ifnonnull 8, 3) := by decide +kernel
theorem dm22_9 : decode jdk_68_method_22_code 9 = .ok (.aload_n 1, 1) := by decide +kernel
theorem dm22_10 : decode jdk_68_method_22_code 10 = .ok (.invokevirtual 32, 3) := by decide +kernel
theorem dm22_13 : decode jdk_68_method_22_code 13 = .ok (.istore_n 2, 1) := by decide +kernel
theorem dm22_14 : decode jdk_68_method_22_code 14 = .ok (.aload_n 0, 1) := by decide +kernel
theorem dm22_15 : decode jdk_68_method_22_code 15 = .ok (.aload_n 0, 1) := by decide +kernel
theorem dm22_16 : decode jdk_68_method_22_code 16 = .ok (.getfield 79, 3) := by decide +kernel
theorem dm22_19 : decode jdk_68_method_22_code 19 = .ok (.iload_n 2, 1) := by decide +kernel
theorem dm22_20 : decode jdk_68_method_22_code 20 = .ok (.iadd, 1) := by decide +kernel
theorem dm22_21 : decode jdk_68_method_22_code 21 = .ok (.invokevirtual 100, 3) := by decide +kernel
theorem dm22_24 : decode jdk_68_method_22_code 24 = .ok (.aload_n 0, 1) := by decide +kernel
theorem dm22_25 : decode jdk_68_method_22_code 25 = .ok (.aload_n 0, 1) := by decide +kernel
theorem dm22_26 : decode jdk_68_method_22_code 26 = .ok (.getfield 79, 3) := by decide +kernel
theorem dm22_29 : decode jdk_68_method_22_code 29 = .ok (.aload_n 1, 1) := by decide +kernel
theorem dm22_30 : decode jdk_68_method_22_code 30 = .ok (.invokevirtual 208, 3) := by decide +kernel
theorem dm22_33 : decode jdk_68_method_22_code 33 = .ok (.aload_n 0, 1) := by decide +kernel
theorem dm22_34 : decode jdk_68_method_22_code 34 = .ok (.dup, 1) := by decide +kernel
theorem dm22_35 : decode jdk_68_method_22_code 35 = .ok (.getfield 79, 3) := by decide +kernel
theorem dm22_38 : decode jdk_68_method_22_code 38 = .ok (.iload_n 2, 1) := by decide +kernel
theorem dm22_39 : decode jdk_68_method_22_code 39 = .ok (.iadd, 1) := by decide +kernel
theorem dm22_40 : decode jdk_68_method_22_code 40 = .ok (.putfield 79, 3) := by decide +kernel
theorem dm22_43 : decode jdk_68_method_22_code 43 = .ok (.aload_n 0, 1) := by decide +kernel
theorem dm22_44 : decode jdk_68_method_22_code 44 = .ok (.areturn, 1) := by decide +kernel
theorem dm21_0 : decode jdk_67_method_7_code 0 = .ok (.aload_n 0, 1) := by decide +kernel
theorem dm21_1 : decode jdk_67_method_7_code 1 = .ok (.aload_n 1, 1) := by decide +kernel
theorem dm21_2 : decode jdk_67_method_7_code 2 = .ok (.invokespecial 29, 3) := by decide +kernel
theorem dm21_5 : decode jdk_67_method_7_code 5 = .ok (.pop, 1) := by decide +kernel
theorem dm21_6 : decode jdk_67_method_7_code 6 = .ok (.aload_n 0, 1) := by decide +kernel
theorem dm21_7 : decode jdk_67_method_7_code 7 = .ok (.areturn, 1) := by decide +kernel
theorem dm30_0 : decode jdk_29_method_65_code 0 = .ok (.iload_n 0, 1) := by decide +kernel
theorem dm30_1 : decode jdk_29_method_65_code 1 = .ok (.iload_n 1, 1) := by decide +kernel
theorem dm30_2 : decode jdk_29_method_65_code 2 = .ok (.if_icmp .lt 7, 3) := by decide +kernel
theorem dm30_9 : decode jdk_29_method_65_code 9 = .ok (.iload_n 1, 1) := by decide +kernel
theorem dm30_10 : decode jdk_29_method_65_code 10 = .ok (.ireturn, 1) := by decide +kernel
theorem dm29_0 : decode jdk_48_method_27_code 0 = .ok (.iload_n 0, 1) := by decide +kernel
theorem dm29_1 : decode jdk_48_method_27_code 1 = .ok (.iload_n 1, 1) := by decide +kernel
theorem dm29_2 : decode jdk_48_method_27_code 2 = .ok (.iload_n 2, 1) := by decide +kernel
theorem dm29_3 : decode jdk_48_method_27_code 3 = .ok (.invokestatic 194, 3) := by decide +kernel
theorem dm29_6 : decode jdk_48_method_27_code 6 = .ok (.iadd, 1) := by decide +kernel
theorem dm29_7 : decode jdk_48_method_27_code 7 = .ok (.istore_n 3, 1) := by decide +kernel
theorem dm29_8 : decode jdk_48_method_27_code 8 = .ok (.iconst 0, 1) := by decide +kernel
theorem dm29_9 : decode jdk_48_method_27_code 9 = .ok (.iload_n 3, 1) := by decide +kernel
theorem dm29_10 : decode jdk_48_method_27_code 10 = .ok (.if_icmp .ge 11, 3) := by decide +kernel
theorem dm29_13 : decode jdk_48_method_27_code 13 = .ok (.iload_n 3, 1) := by decide +kernel
theorem dm29_14 : decode jdk_48_method_27_code 14 = .ok (.ldc 200, 2) := by decide +kernel
theorem dm29_16 : decode jdk_48_method_27_code 16 = .ok (.if_icmp .gt 5, 3) := by decide +kernel
theorem dm29_19 : decode jdk_48_method_27_code 19 = .ok (.iload_n 3, 1) := by decide +kernel
theorem dm29_20 : decode jdk_48_method_27_code 20 = .ok (.ireturn, 1) := by decide +kernel
theorem dm28_0 : decode jdk_68_method_10_code 0 = .ok (.aload_n 0, 1) := by decide +kernel
theorem dm28_1 : decode jdk_68_method_10_code 1 = .ok (.getfield 15, 3) := by decide +kernel
theorem dm28_4 : decode jdk_68_method_10_code 4 = .ok (.arraylength, 1) := by decide +kernel
theorem dm28_5 : decode jdk_68_method_10_code 5 = .ok (.istore_n 2, 1) := by decide +kernel
theorem dm28_6 : decode jdk_68_method_10_code 6 = .ok (.iload_n 1, 1) := by decide +kernel
theorem dm28_7 : decode jdk_68_method_10_code 7 = .ok (.aload_n 0, 1) := by decide +kernel
theorem dm28_8 : decode jdk_68_method_10_code 8 = .ok (.getfield 22, 3) := by decide +kernel
theorem dm28_11 : decode jdk_68_method_10_code 11 = .ok (.ishl, 1) := by decide +kernel
theorem dm28_12 : decode jdk_68_method_10_code 12 = .ok (.istore_n 3, 1) := by decide +kernel
theorem dm28_13 : decode jdk_68_method_10_code 13 = .ok (.iload_n 3, 1) := by decide +kernel
theorem dm28_14 : decode jdk_68_method_10_code 14 = .ok (.iload_n 2, 1) := by decide +kernel
theorem dm28_15 : decode jdk_68_method_10_code 15 = .ok (.isub, 1) := by decide +kernel
theorem dm28_16 : decode jdk_68_method_10_code 16 = .ok (.istore 4, 2) := by decide +kernel
theorem dm28_18 : decode jdk_68_method_10_code 18 = .ok (.iload_n 2, 1) := by decide +kernel
theorem dm28_19 : decode jdk_68_method_10_code 19 = .ok (.iload 4, 2) := by decide +kernel
theorem dm28_21 : decode jdk_68_method_10_code 21 = .ok (.iload_n 2, 1) := by decide +kernel
theorem dm28_22 : decode jdk_68_method_10_code 22 = .ok (.iconst 2, 1) := by decide +kernel
theorem dm28_23 : decode jdk_68_method_10_code 23 = .ok (.aload_n 0, 1) := by decide +kernel
theorem dm28_24 : decode jdk_68_method_10_code 24 = .ok (.getfield 22, 3) := by decide +kernel
theorem dm28_27 : decode jdk_68_method_10_code 27 = .ok (.ishl, 1) := by decide +kernel
theorem dm28_28 : decode jdk_68_method_10_code 28 = .ok (.iadd, 1) := by decide +kernel
theorem dm28_29 : decode jdk_68_method_10_code 29 = .ok (.invokestatic 114, 3) := by decide +kernel
theorem dm28_32 : decode jdk_68_method_10_code 32 = .ok (.istore 5, 2) := by decide +kernel
theorem dm28_34 : decode jdk_68_method_10_code 34 = .ok (.iload 5, 2) := by decide +kernel
theorem dm28_36 : decode jdk_68_method_10_code 36 = .ok (.ldc 39, 2) := by decide +kernel
theorem dm28_38 : decode jdk_68_method_10_code 38 = .ok (.if_icmp .ne 13, 3) := by decide +kernel
theorem dm28_51 : decode jdk_68_method_10_code 51 = .ok (.iload 5, 2) := by decide +kernel
theorem dm28_53 : decode jdk_68_method_10_code 53 = .ok (.aload_n 0, 1) := by decide +kernel
theorem dm28_54 : decode jdk_68_method_10_code 54 = .ok (.getfield 22, 3) := by decide +kernel
theorem dm28_57 : decode jdk_68_method_10_code 57 = .ok (.ishr, 1) := by decide +kernel
theorem dm28_58 : decode jdk_68_method_10_code 58 = .ok (.ireturn, 1) := by decide +kernel
theorem dm32_0 : decode jdk_29_method_69_code 0 = .ok (.iload_n 0, 1) := by decide +kernel
theorem dm32_1 : decode jdk_29_method_69_code 1 = .ok (.iload_n 1, 1) := by decide +kernel
theorem dm32_2 : decode jdk_29_method_69_code 2 = .ok (.if_icmp .gt 7, 3) := by decide +kernel
theorem dm32_5 : decode jdk_29_method_69_code 5 = .ok (.iload_n 0, 1) := by decide +kernel
theorem dm32_6 : decode jdk_29_method_69_code 6 = .ok (.goto 4, 3) := by decide +kernel
theorem dm32_9 : decode jdk_29_method_69_code 9 = .ok (.iload_n 1, 1) := by decide +kernel
theorem dm32_10 : decode jdk_29_method_69_code 10 = .ok (.ireturn, 1) := by decide +kernel
theorem dm31_0 : decode jdk_65_method_121_code 0 = .ok (.iload_n 1, 1) := by decide +kernel
theorem dm31_1 : decode jdk_65_method_121_code 1 = .ok (.aload_n 0, 1) := by decide +kernel
theorem dm31_2 : decode jdk_65_method_121_code 2 = .ok (.arraylength, 1) := by decide +kernel
theorem dm31_3 : decode jdk_65_method_121_code 3 = .ok (.if_icmp .ne 11, 3) := by decide +kernel
theorem dm31_14 : decode jdk_65_method_121_code 14 = .ok (.iload_n 1, 1) := by decide +kernel
theorem dm31_15 : decode jdk_65_method_121_code 15 = .ok (.newarray .byte, 2) := by decide +kernel
theorem dm31_17 : decode jdk_65_method_121_code 17 = .ok (.astore_n 2, 1) := by decide +kernel
theorem dm31_18 : decode jdk_65_method_121_code 18 = .ok (.aload_n 0, 1) := by decide +kernel
theorem dm31_19 : decode jdk_65_method_121_code 19 = .ok (.iconst 0, 1) := by decide +kernel
theorem dm31_20 : decode jdk_65_method_121_code 20 = .ok (.aload_n 2, 1) := by decide +kernel
theorem dm31_21 : decode jdk_65_method_121_code 21 = .ok (.iconst 0, 1) := by decide +kernel
theorem dm31_22 : decode jdk_65_method_121_code 22 = .ok (.aload_n 0, 1) := by decide +kernel
theorem dm31_23 : decode jdk_65_method_121_code 23 = .ok (.arraylength, 1) := by decide +kernel
theorem dm31_24 : decode jdk_65_method_121_code 24 = .ok (.iload_n 1, 1) := by decide +kernel
theorem dm31_25 : decode jdk_65_method_121_code 25 = .ok (.invokestatic 304, 3) := by decide +kernel
theorem dm31_28 : decode jdk_65_method_121_code 28 = .ok (.invokestatic 150, 3) := by decide +kernel
theorem dm31_31 : decode jdk_65_method_121_code 31 = .ok (.aload_n 2, 1) := by decide +kernel
theorem dm31_32 : decode jdk_65_method_121_code 32 = .ok (.areturn, 1) := by decide +kernel
theorem dm35_0 : decode jdk_33_method_13_code 0 = .ok (.iconst 1, 1) := by decide +kernel
theorem dm35_1 : decode jdk_33_method_13_code 1 = .ok (.istore_n 1, 1) := by decide +kernel
theorem dm35_2 : decode jdk_33_method_13_code 2 = .ok (.iload_n 0, 1) := by decide +kernel
theorem dm35_3 : decode jdk_33_method_13_code 3 = .ok (.ifCond .lt 8, 3) := by decide +kernel
theorem dm35_6 : decode jdk_33_method_13_code 6 = .ok (.iconst 0, 1) := by decide +kernel
theorem dm35_7 : decode jdk_33_method_13_code 7 = .ok (.istore_n 1, 1) := by decide +kernel
theorem dm35_8 : decode jdk_33_method_13_code 8 = .ok (.iload_n 0, 1) := by decide +kernel
theorem dm35_9 : decode jdk_33_method_13_code 9 = .ok (.ineg, 1) := by decide +kernel
theorem dm35_10 : decode jdk_33_method_13_code 10 = .ok (.istore_n 0, 1) := by decide +kernel
theorem dm35_11 : decode jdk_33_method_13_code 11 = .ok (.bipush (-10), 2) := by decide +kernel
theorem dm35_13 : decode jdk_33_method_13_code 13 = .ok (.istore_n 2, 1) := by decide +kernel
theorem dm35_14 : decode jdk_33_method_13_code 14 = .ok (.iconst 1, 1) := by decide +kernel
theorem dm35_15 : decode jdk_33_method_13_code 15 = .ok (.istore_n 3, 1) := by decide +kernel
theorem dm35_16 : decode jdk_33_method_13_code 16 = .ok (.iload_n 3, 1) := by decide +kernel
theorem dm35_17 : decode jdk_33_method_13_code 17 = .ok (.bipush 10, 2) := by decide +kernel
theorem dm35_19 : decode jdk_33_method_13_code 19 = .ok (.if_icmp .ge 23, 3) := by decide +kernel
theorem dm35_22 : decode jdk_33_method_13_code 22 = .ok (.iload_n 0, 1) := by decide +kernel
theorem dm35_23 : decode jdk_33_method_13_code 23 = .ok (.iload_n 2, 1) := by decide +kernel
theorem dm35_24 : decode jdk_33_method_13_code 24 = .ok (.if_icmp .le 7, 3) := by decide +kernel
theorem dm35_27 : decode jdk_33_method_13_code 27 = .ok (.iload_n 3, 1) := by decide +kernel
theorem dm35_28 : decode jdk_33_method_13_code 28 = .ok (.iload_n 1, 1) := by decide +kernel
theorem dm35_29 : decode jdk_33_method_13_code 29 = .ok (.iadd, 1) := by decide +kernel
theorem dm35_30 : decode jdk_33_method_13_code 30 = .ok (.ireturn, 1) := by decide +kernel
theorem dm36_0 : decode jdk_68_method_68_code 0 = .ok (.getstatic 18, 3) := by decide +kernel
theorem dm36_3 : decode jdk_68_method_68_code 3 = .ok (.ifCond .eq 14, 3) := by decide +kernel
theorem dm36_6 : decode jdk_68_method_68_code 6 = .ok (.aload_n 0, 1) := by decide +kernel
theorem dm36_7 : decode jdk_68_method_68_code 7 = .ok (.getfield 22, 3) := by decide +kernel
theorem dm36_10 : decode jdk_68_method_68_code 10 = .ok (.ifCond .ne 7, 3) := by decide +kernel
theorem dm36_13 : decode jdk_68_method_68_code 13 = .ok (.iconst 1, 1) := by decide +kernel
theorem dm36_14 : decode jdk_68_method_68_code 14 = .ok (.goto 4, 3) := by decide +kernel
theorem dm36_18 : decode jdk_68_method_68_code 18 = .ok (.ireturn, 1) := by decide +kernel
theorem dm37_0 : decode jdk_33_method_12_code 0 = .ok (.iload_n 1, 1) := by decide +kernel
theorem dm37_1 : decode jdk_33_method_12_code 1 = .ok (.istore 5, 2) := by decide +kernel
theorem dm37_3 : decode jdk_33_method_12_code 3 = .ok (.iload_n 0, 1) := by decide +kernel
theorem dm37_4 : decode jdk_33_method_12_code 4 = .ok (.ifCond .ge 7, 3) := by decide +kernel
theorem dm37_11 : decode jdk_33_method_12_code 11 = .ok (.iconst 0, 1) := by decide +kernel
theorem dm37_12 : decode jdk_33_method_12_code 12 = .ok (.istore 6, 2) := by decide +kernel
theorem dm37_14 : decode jdk_33_method_12_code 14 = .ok (.iload 6, 2) := by decide +kernel
theorem dm37_16 : decode jdk_33_method_12_code 16 = .ok (.ifCond .ne 6, 3) := by decide +kernel
theorem dm37_19 : decode jdk_33_method_12_code 19 = .ok (.iload_n 0, 1) := by decide +kernel
theorem dm37_20 : decode jdk_33_method_12_code 20 = .ok (.ineg, 1) := by decide +kernel
theorem dm37_21 : decode jdk_33_method_12_code 21 = .ok (.istore_n 0, 1) := by decide +kernel
theorem dm37_22 : decode jdk_33_method_12_code 22 = .ok (.iload_n 0, 1) := by decide +kernel
theorem dm37_23 : decode jdk_33_method_12_code 23 = .ok (.bipush (-100), 2) := by decide +kernel
theorem dm37_25 : decode jdk_33_method_12_code 25 = .ok (.if_icmp .gt 47, 3) := by decide +kernel
theorem dm37_72 : decode jdk_33_method_12_code 72 = .ok (.aload_n 2, 1) := by decide +kernel
theorem dm37_73 : decode jdk_33_method_12_code 73 = .ok (.iinc 5 (-1), 3) := by decide +kernel
theorem dm37_76 : decode jdk_33_method_12_code 76 = .ok (.iload 5, 2) := by decide +kernel
theorem dm37_78 : decode jdk_33_method_12_code 78 = .ok (.getstatic 83, 3) := by decide +kernel
theorem dm37_81 : decode jdk_33_method_12_code 81 = .ok (.iload_n 0, 1) := by decide +kernel
theorem dm37_82 : decode jdk_33_method_12_code 82 = .ok (.ineg, 1) := by decide +kernel
theorem dm37_83 : decode jdk_33_method_12_code 83 = .ok (.baload, 1) := by decide +kernel
theorem dm37_84 : decode jdk_33_method_12_code 84 = .ok (.bastore, 1) := by decide +kernel
theorem dm37_85 : decode jdk_33_method_12_code 85 = .ok (.iload_n 0, 1) := by decide +kernel
theorem dm37_86 : decode jdk_33_method_12_code 86 = .ok (.bipush (-9), 2) := by decide +kernel
theorem dm37_88 : decode jdk_33_method_12_code 88 = .ok (.if_icmp .ge 16, 3) := by decide +kernel
theorem dm37_104 : decode jdk_33_method_12_code 104 = .ok (.iload 6, 2) := by decide +kernel
theorem dm37_106 : decode jdk_33_method_12_code 106 = .ok (.ifCond .eq 12, 3) := by decide +kernel
theorem dm37_118 : decode jdk_33_method_12_code 118 = .ok (.iload 5, 2) := by decide +kernel
theorem dm37_120 : decode jdk_33_method_12_code 120 = .ok (.ireturn, 1) := by decide +kernel
theorem dm34_0 : decode jdk_68_method_32_code 0 = .ok (.aload_n 0, 1) := by decide +kernel
theorem dm34_1 : decode jdk_68_method_32_code 1 = .ok (.getfield 79, 3) := by decide +kernel
theorem dm34_4 : decode jdk_68_method_32_code 4 = .ok (.istore_n 2, 1) := by decide +kernel
theorem dm34_5 : decode jdk_68_method_32_code 5 = .ok (.iload_n 2, 1) := by decide +kernel
theorem dm34_6 : decode jdk_68_method_32_code 6 = .ok (.iload_n 1, 1) := by decide +kernel
theorem dm34_7 : decode jdk_68_method_32_code 7 = .ok (.invokestatic 245, 3) := by decide +kernel
theorem dm34_10 : decode jdk_68_method_32_code 10 = .ok (.iadd, 1) := by decide +kernel
theorem dm34_11 : decode jdk_68_method_32_code 11 = .ok (.istore_n 3, 1) := by decide +kernel
theorem dm34_12 : decode jdk_68_method_32_code 12 = .ok (.aload_n 0, 1) := by decide +kernel
theorem dm34_13 : decode jdk_68_method_32_code 13 = .ok (.iload_n 3, 1) := by decide +kernel
theorem dm34_14 : decode jdk_68_method_32_code 14 = .ok (.invokevirtual 100, 3) := by decide +kernel
theorem dm34_17 : decode jdk_68_method_32_code 17 = .ok (.aload_n 0, 1) := by decide +kernel
theorem dm34_18 : decode jdk_68_method_32_code 18 = .ok (.invokevirtual 83, 3) := by decide +kernel
theorem dm34_21 : decode jdk_68_method_32_code 21 = .ok (.ifCond .eq 16, 3) := by decide +kernel
theorem dm34_24 : decode jdk_68_method_32_code 24 = .ok (.iload_n 1, 1) := by decide +kernel
theorem dm34_25 : decode jdk_68_method_32_code 25 = .ok (.iload_n 3, 1) := by decide +kernel
theorem dm34_26 : decode jdk_68_method_32_code 26 = .ok (.aload_n 0, 1) := by decide +kernel
theorem dm34_27 : decode jdk_68_method_32_code 27 = .ok (.getfield 15, 3) := by decide +kernel
theorem dm34_30 : decode jdk_68_method_32_code 30 = .ok (.invokestatic 248, 3) := by decide +kernel
theorem dm34_33 : decode jdk_68_method_32_code 33 = .ok (.pop, 1) := by decide +kernel
theorem dm34_34 : decode jdk_68_method_32_code 34 = .ok (.goto 14, 3) := by decide +kernel
theorem dm34_48 : decode jdk_68_method_32_code 48 = .ok (.aload_n 0, 1) := by decide +kernel
theorem dm34_49 : decode jdk_68_method_32_code 49 = .ok (.iload_n 3, 1) := by decide +kernel
theorem dm34_50 : decode jdk_68_method_32_code 50 = .ok (.putfield 79, 3) := by decide +kernel
theorem dm34_53 : decode jdk_68_method_32_code 53 = .ok (.aload_n 0, 1) := by decide +kernel
theorem dm34_54 : decode jdk_68_method_32_code 54 = .ok (.areturn, 1) := by decide +kernel
theorem dm33_0 : decode jdk_67_method_15_code 0 = .ok (.aload_n 0, 1) := by decide +kernel
theorem dm33_1 : decode jdk_67_method_15_code 1 = .ok (.iload_n 1, 1) := by decide +kernel
theorem dm33_2 : decode jdk_67_method_15_code 2 = .ok (.invokespecial 53, 3) := by decide +kernel
theorem dm33_5 : decode jdk_67_method_15_code 5 = .ok (.pop, 1) := by decide +kernel
theorem dm33_6 : decode jdk_67_method_15_code 6 = .ok (.aload_n 0, 1) := by decide +kernel
theorem dm33_7 : decode jdk_67_method_15_code 7 = .ok (.areturn, 1) := by decide +kernel
theorem dm41_0 : decode jdk_68_method_64_code 0 = .ok (.aload_n 0, 1) := by decide +kernel
theorem dm41_1 : decode jdk_68_method_64_code 1 = .ok (.getfield 15, 3) := by decide +kernel
theorem dm41_4 : decode jdk_68_method_64_code 4 = .ok (.areturn, 1) := by decide +kernel
theorem dm43_0 : decode jdk_68_method_6_code 0 = .ok (.aload_n 0, 1) := by decide +kernel
theorem dm43_1 : decode jdk_68_method_6_code 1 = .ok (.getfield 79, 3) := by decide +kernel
theorem dm43_4 : decode jdk_68_method_6_code 4 = .ok (.ireturn, 1) := by decide +kernel
theorem dm42_0 : decode jdk_67_method_93_code 0 = .ok (.aload_n 0, 1) := by decide +kernel
theorem dm42_1 : decode jdk_67_method_93_code 1 = .ok (.invokespecial 343, 3) := by decide +kernel
theorem dm42_4 : decode jdk_67_method_93_code 4 = .ok (.ireturn, 1) := by decide +kernel
theorem dm46_0 : decode jdk_65_method_131_code 0 = .ok (.iload_n 1, 1) := by decide +kernel
theorem dm46_1 : decode jdk_65_method_131_code 1 = .ok (.iload_n 0, 1) := by decide +kernel
theorem dm46_2 : decode jdk_65_method_131_code 2 = .ok (.if_icmp .ge 35, 3) := by decide +kernel
theorem dm46_37 : decode jdk_65_method_131_code 37 = .ok (.return_, 1) := by decide +kernel
theorem dm45_0 : decode jdk_65_method_133_code 0 = .ok (.iload_n 1, 1) := by decide +kernel
theorem dm45_1 : decode jdk_65_method_133_code 1 = .ok (.iload_n 2, 1) := by decide +kernel
theorem dm45_2 : decode jdk_65_method_133_code 2 = .ok (.invokestatic 343, 3) := by decide +kernel
theorem dm45_5 : decode jdk_65_method_133_code 5 = .ok (.iload_n 2, 1) := by decide +kernel
theorem dm45_6 : decode jdk_65_method_133_code 6 = .ok (.iload_n 1, 1) := by decide +kernel
theorem dm45_7 : decode jdk_65_method_133_code 7 = .ok (.isub, 1) := by decide +kernel
theorem dm45_8 : decode jdk_65_method_133_code 8 = .ok (.istore_n 3, 1) := by decide +kernel
theorem dm45_9 : decode jdk_65_method_133_code 9 = .ok (.iload_n 3, 1) := by decide +kernel
theorem dm45_10 : decode jdk_65_method_133_code 10 = .ok (.newarray .byte, 2) := by decide +kernel
theorem dm45_12 : decode jdk_65_method_133_code 12 = .ok (.astore 4, 2) := by decide +kernel
theorem dm45_14 : decode jdk_65_method_133_code 14 = .ok (.aload_n 0, 1) := by decide +kernel
theorem dm45_15 : decode jdk_65_method_133_code 15 = .ok (.iload_n 1, 1) := by decide +kernel
theorem dm45_16 : decode jdk_65_method_133_code 16 = .ok (.aload 4, 2) := by decide +kernel
theorem dm45_18 : decode jdk_65_method_133_code 18 = .ok (.iconst 0, 1) := by decide +kernel
theorem dm45_19 : decode jdk_65_method_133_code 19 = .ok (.aload_n 0, 1) := by decide +kernel
theorem dm45_20 : decode jdk_65_method_133_code 20 = .ok (.arraylength, 1) := by decide +kernel
theorem dm45_21 : decode jdk_65_method_133_code 21 = .ok (.iload_n 1, 1) := by decide +kernel
theorem dm45_22 : decode jdk_65_method_133_code 22 = .ok (.isub, 1) := by decide +kernel
theorem dm45_23 : decode jdk_65_method_133_code 23 = .ok (.iload_n 3, 1) := by decide +kernel
theorem dm45_24 : decode jdk_65_method_133_code 24 = .ok (.invokestatic 304, 3) := by decide +kernel
theorem dm45_27 : decode jdk_65_method_133_code 27 = .ok (.invokestatic 150, 3) := by decide +kernel
theorem dm45_30 : decode jdk_65_method_133_code 30 = .ok (.aload 4, 2) := by decide +kernel
theorem dm45_32 : decode jdk_65_method_133_code 32 = .ok (.areturn, 1) := by decide +kernel
theorem dm44_0 : decode jdk_65_method_132_code 0 = .ok (.iload_n 1, 1) := by decide +kernel
theorem dm44_1 : decode jdk_65_method_132_code 1 = .ok (.ifCond .ne 9, 3) := by decide +kernel
theorem dm44_4 : decode jdk_65_method_132_code 4 = .ok (.iload_n 2, 1) := by decide +kernel
theorem dm44_5 : decode jdk_65_method_132_code 5 = .ok (.aload_n 0, 1) := by decide +kernel
theorem dm44_6 : decode jdk_65_method_132_code 6 = .ok (.arraylength, 1) := by decide +kernel
theorem dm44_7 : decode jdk_65_method_132_code 7 = .ok (.if_icmp .eq 10, 3) := by decide +kernel
theorem dm44_10 : decode jdk_65_method_132_code 10 = .ok (.aload_n 0, 1) := by decide +kernel
theorem dm44_11 : decode jdk_65_method_132_code 11 = .ok (.iload_n 1, 1) := by decide +kernel
theorem dm44_12 : decode jdk_65_method_132_code 12 = .ok (.iload_n 2, 1) := by decide +kernel
theorem dm44_13 : decode jdk_65_method_132_code 13 = .ok (.invokestatic 339, 3) := by decide +kernel
theorem dm44_16 : decode jdk_65_method_132_code 16 = .ok (.areturn, 1) := by decide +kernel
theorem dm40_0 : decode jdk_42_method_150_code 0 = .ok (.aload_n 0, 1) := by decide +kernel
theorem dm40_1 : decode jdk_42_method_150_code 1 = .ok (.invokespecial 1, 3) := by decide +kernel
theorem dm40_4 : decode jdk_42_method_150_code 4 = .ok (.aload_n 1, 1) := by decide +kernel
theorem dm40_5 : decode jdk_42_method_150_code 5 = .ok (.invokevirtual 552, 3) := by decide +kernel
theorem dm40_8 : decode jdk_42_method_150_code 8 = .ok (.astore_n 3, 1) := by decide +kernel
theorem dm40_9 : decode jdk_42_method_150_code 9 = .ok (.aload_n 1, 1) := by decide +kernel
theorem dm40_10 : decode jdk_42_method_150_code 10 = .ok (.invokevirtual 549, 3) := by decide +kernel
theorem dm40_13 : decode jdk_42_method_150_code 13 = .ok (.istore 4, 2) := by decide +kernel
theorem dm40_15 : decode jdk_42_method_150_code 15 = .ok (.aload_n 1, 1) := by decide +kernel
theorem dm40_16 : decode jdk_42_method_150_code 16 = .ok (.invokevirtual 1047, 3) := by decide +kernel
theorem dm40_19 : decode jdk_42_method_150_code 19 = .ok (.ifCond .eq 22, 3) := by decide +kernel
theorem dm40_22 : decode jdk_42_method_150_code 22 = .ok (.aload_n 0, 1) := by decide +kernel
theorem dm40_23 : decode jdk_42_method_150_code 23 = .ok (.iconst 0, 1) := by decide +kernel
theorem dm40_24 : decode jdk_42_method_150_code 24 = .ok (.putfield 15, 3) := by decide +kernel
theorem dm40_27 : decode jdk_42_method_150_code 27 = .ok (.aload_n 0, 1) := by decide +kernel
theorem dm40_28 : decode jdk_42_method_150_code 28 = .ok (.aload_n 3, 1) := by decide +kernel
theorem dm40_29 : decode jdk_42_method_150_code 29 = .ok (.iconst 0, 1) := by decide +kernel
theorem dm40_30 : decode jdk_42_method_150_code 30 = .ok (.iload 4, 2) := by decide +kernel
theorem dm40_32 : decode jdk_42_method_150_code 32 = .ok (.invokestatic 54, 3) := by decide +kernel
theorem dm40_35 : decode jdk_42_method_150_code 35 = .ok (.putfield 9, 3) := by decide +kernel
theorem dm40_38 : decode jdk_42_method_150_code 38 = .ok (.goto 59, 3) := by decide +kernel
theorem dm40_97 : decode jdk_42_method_150_code 97 = .ok (.return_, 1) := by decide +kernel
theorem dm39_0 : decode jdk_42_method_53_code 0 = .ok (.aload_n 0, 1) := by decide +kernel
theorem dm39_1 : decode jdk_42_method_53_code 1 = .ok (.aload_n 1, 1) := by decide +kernel
theorem dm39_2 : decode jdk_42_method_53_code 2 = .ok (.aconst_null, 1) := by decide +kernel
theorem dm39_3 : decode jdk_42_method_53_code 3 = .ok (.invokespecial 489, 3) := by decide +kernel
theorem dm39_6 : decode jdk_42_method_53_code 6 = .ok (.return_, 1) := by decide +kernel
theorem dm38_0 : decode jdk_67_method_42_code 0 = .ok (.new 18, 3) := by decide +kernel
theorem dm38_3 : decode jdk_67_method_42_code 3 = .ok (.dup, 1) := by decide +kernel
theorem dm38_4 : decode jdk_67_method_42_code 4 = .ok (.aload_n 0, 1) := by decide +kernel
theorem dm38_5 : decode jdk_67_method_42_code 5 = .ok (.invokespecial 137, 3) := by decide +kernel
theorem dm38_8 : decode jdk_67_method_42_code 8 = .ok (.areturn, 1) := by decide +kernel
theorem dm11_0 : decode prog_37_method_17_code 0 = .ok (.aload_n 0, 1) := by decide +kernel
theorem dm11_1 : decode prog_37_method_17_code 1 = .ok (.getfield 30, 3) := by decide +kernel
theorem dm11_4 : decode prog_37_method_17_code 4 = .ok (.ifnull 8, 3) := by decide +kernel
theorem dm11_12 : decode prog_37_method_17_code 12 = .ok (.ldc 188, 2) := by decide +kernel
theorem dm11_14 : decode prog_37_method_17_code 14 = .ok (.astore_n 2, 1) := by decide +kernel
theorem dm11_15 : decode prog_37_method_17_code 15 = .ok (.aload_n 0, 1) := by decide +kernel
theorem dm11_16 : decode prog_37_method_17_code 16 = .ok (.getfield 22, 3) := by decide +kernel
theorem dm11_19 : decode prog_37_method_17_code 19 = .ok (.ldc 190, 2) := by decide +kernel
theorem dm11_21 : decode prog_37_method_17_code 21 = .ok (.invokevirtual 192, 3) := by decide +kernel
theorem dm11_24 : decode prog_37_method_17_code 24 = .ok (.ifCond .eq 33, 3) := by decide +kernel
theorem dm11_57 : decode prog_37_method_17_code 57 = .ok (.aload_n 0, 1) := by decide +kernel
theorem dm11_58 : decode prog_37_method_17_code 58 = .ok (.getfield 22, 3) := by decide +kernel
theorem dm11_61 : decode prog_37_method_17_code 61 = .ok (.astore_n 3, 1) := by decide +kernel
theorem dm11_62 : decode prog_37_method_17_code 62 = .ok (.new 93, 3) := by decide +kernel
theorem dm11_65 : decode prog_37_method_17_code 65 = .ok (.dup, 1) := by decide +kernel
theorem dm11_66 : decode prog_37_method_17_code 66 = .ok (.invokespecial 95, 3) := by decide +kernel
theorem dm11_69 : decode prog_37_method_17_code 69 = .ok (.aload_n 2, 1) := by decide +kernel
theorem dm11_70 : decode prog_37_method_17_code 70 = .ok (.invokevirtual 98, 3) := by decide +kernel
theorem dm11_73 : decode prog_37_method_17_code 73 = .ok (.ldc 202, 2) := by decide +kernel
theorem dm11_75 : decode prog_37_method_17_code 75 = .ok (.invokevirtual 98, 3) := by decide +kernel
theorem dm11_78 : decode prog_37_method_17_code 78 = .ok (.aload_n 3, 1) := by decide +kernel
theorem dm11_79 : decode prog_37_method_17_code 79 = .ok (.invokevirtual 98, 3) := by decide +kernel
theorem dm11_82 : decode prog_37_method_17_code 82 = .ok (.ldc 190, 2) := by decide +kernel
theorem dm11_84 : decode prog_37_method_17_code 84 = .ok (.invokevirtual 98, 3) := by decide +kernel
theorem dm11_87 : decode prog_37_method_17_code 87 = .ok (.iload_n 1, 1) := by decide +kernel
theorem dm11_88 : decode prog_37_method_17_code 88 = .ok (.invokevirtual 117, 3) := by decide +kernel
theorem dm11_91 : decode prog_37_method_17_code 91 = .ok (.invokevirtual 108, 3) := by decide +kernel
theorem dm11_94 : decode prog_37_method_17_code 94 = .ok (.areturn, 1) := by decide +kernel
theorem dm48_0 : decode jdk_43_method_13_code 0 = .ok (.aload_n 0, 1) := by decide +kernel
theorem dm48_1 : decode jdk_43_method_13_code 1 = .ok (.arraylength, 1) := by decide +kernel
theorem dm48_2 : decode jdk_43_method_13_code 2 = .ok (.aload_n 1, 1) := by decide +kernel
theorem dm48_3 : decode jdk_43_method_13_code 3 = .ok (.arraylength, 1) := by decide +kernel
theorem dm48_4 : decode jdk_43_method_13_code 4 = .ok (.if_icmp .ne 30, 3) := by decide +kernel
theorem dm48_7 : decode jdk_43_method_13_code 7 = .ok (.iconst 0, 1) := by decide +kernel
theorem dm48_8 : decode jdk_43_method_13_code 8 = .ok (.istore_n 2, 1) := by decide +kernel
theorem dm48_9 : decode jdk_43_method_13_code 9 = .ok (.iload_n 2, 1) := by decide +kernel
theorem dm48_10 : decode jdk_43_method_13_code 10 = .ok (.aload_n 0, 1) := by decide +kernel
theorem dm48_11 : decode jdk_43_method_13_code 11 = .ok (.arraylength, 1) := by decide +kernel
theorem dm48_12 : decode jdk_43_method_13_code 12 = .ok (.if_icmp .ge 20, 3) := by decide +kernel
theorem dm48_15 : decode jdk_43_method_13_code 15 = .ok (.aload_n 0, 1) := by decide +kernel
theorem dm48_16 : decode jdk_43_method_13_code 16 = .ok (.iload_n 2, 1) := by decide +kernel
theorem dm48_17 : decode jdk_43_method_13_code 17 = .ok (.baload, 1) := by decide +kernel
theorem dm48_18 : decode jdk_43_method_13_code 18 = .ok (.aload_n 1, 1) := by decide +kernel
theorem dm48_19 : decode jdk_43_method_13_code 19 = .ok (.iload_n 2, 1) := by decide +kernel
theorem dm48_20 : decode jdk_43_method_13_code 20 = .ok (.baload, 1) := by decide +kernel
theorem dm48_21 : decode jdk_43_method_13_code 21 = .ok (.if_icmp .eq 5, 3) := by decide +kernel
theorem dm48_26 : decode jdk_43_method_13_code 26 = .ok (.iinc 2 1, 3) := by decide +kernel
theorem dm48_29 : decode jdk_43_method_13_code 29 = .ok (.goto (-20), 3) := by decide +kernel
theorem dm48_32 : decode jdk_43_method_13_code 32 = .ok (.iconst 1, 1) := by decide +kernel
theorem dm48_33 : decode jdk_43_method_13_code 33 = .ok (.ireturn, 1) := by decide +kernel
theorem dm47_0 : decode jdk_42_method_66_code 0 = .ok (.aload_n 0, 1) := by decide +kernel
theorem dm47_1 : decode jdk_42_method_66_code 1 = .ok (.aload_n 1, 1) := by decide +kernel
theorem dm47_2 : decode jdk_42_method_66_code 2 = .ok (.if_acmp .ne 5, 3) := by decide +kernel
theorem dm47_7 : decode jdk_42_method_66_code 7 = .ok (.aload_n 1, 1) := by decide +kernel
theorem dm47_8 : decode jdk_42_method_66_code 8 = .ok (.instanceof 10, 3) := by decide +kernel
theorem dm47_11 : decode jdk_42_method_66_code 11 = .ok (.ifCond .eq 43, 3) := by decide +kernel
theorem dm47_14 : decode jdk_42_method_66_code 14 = .ok (.aload_n 1, 1) := by decide +kernel
theorem dm47_15 : decode jdk_42_method_66_code 15 = .ok (.checkcast 10, 3) := by decide +kernel
theorem dm47_18 : decode jdk_42_method_66_code 18 = .ok (.astore_n 2, 1) := by decide +kernel
theorem dm47_19 : decode jdk_42_method_66_code 19 = .ok (.getstatic 38, 3) := by decide +kernel
theorem dm47_22 : decode jdk_42_method_66_code 22 = .ok (.ifCond .eq 14, 3) := by decide +kernel
theorem dm47_25 : decode jdk_42_method_66_code 25 = .ok (.aload_n 0, 1) := by decide +kernel
theorem dm47_26 : decode jdk_42_method_66_code 26 = .ok (.getfield 15, 3) := by decide +kernel
theorem dm47_29 : decode jdk_42_method_66_code 29 = .ok (.aload_n 2, 1) := by decide +kernel
theorem dm47_30 : decode jdk_42_method_66_code 30 = .ok (.getfield 15, 3) := by decide +kernel
theorem dm47_33 : decode jdk_42_method_66_code 33 = .ok (.if_icmp .ne 21, 3) := by decide +kernel
theorem dm47_36 : decode jdk_42_method_66_code 36 = .ok (.aload_n 0, 1) := by decide +kernel
theorem dm47_37 : decode jdk_42_method_66_code 37 = .ok (.getfield 9, 3) := by decide +kernel
theorem dm47_40 : decode jdk_42_method_66_code 40 = .ok (.aload_n 2, 1) := by decide +kernel
theorem dm47_41 : decode jdk_42_method_66_code 41 = .ok (.getfield 9, 3) := by decide +kernel
theorem dm47_44 : decode jdk_42_method_66_code 44 = .ok (.invokestatic 541, 3) := by decide +kernel
theorem dm47_47 : decode jdk_42_method_66_code 47 = .ok (.ifCond .eq 7, 3) := by decide +kernel
theorem dm47_50 : decode jdk_42_method_66_code 50 = .ok (.iconst 1, 1) := by decide +kernel
theorem dm47_51 : decode jdk_42_method_66_code 51 = .ok (.goto 4, 3) := by decide +kernel
theorem dm47_55 : decode jdk_42_method_66_code 55 = .ok (.ireturn, 1) := by decide +kernel
theorem dm0_0 : decode code 0 = .ok (.iload_n 0, 1) := at_0
theorem dm0_1 : decode code 1 = .ok (.ldc 7, 2) := at_1
theorem dm0_3 : decode code 3 = .ok (.iand, 1) := at_3
theorem dm0_4 : decode code 4 = .ok (.istore_n 2, 1) := at_4
theorem dm0_5 : decode code 5 = .ok (.iload_n 1, 1) := at_5
theorem dm0_6 : decode code 6 = .ok (.ldc 7, 2) := at_6
theorem dm0_8 : decode code 8 = .ok (.iand, 1) := at_8
theorem dm0_9 : decode code 9 = .ok (.istore_n 3, 1) := at_9
theorem dm0_10 : decode code 10 = .ok (.new 8, 3) := at_10
theorem dm0_13 : decode code 13 = .ok (.dup, 1) := at_13
theorem dm0_14 : decode code 14 = .ok (.invokespecial 10, 3) := at_14
theorem dm0_17 : decode code 17 = .ok (.astore 4, 2) := at_17
theorem dm0_19 : decode code 19 = .ok (.aload 4, 2) := at_19
theorem dm0_21 : decode code 21 = .ok (.iload_n 2, 1) := at_21
theorem dm0_22 : decode code 22 = .ok (.invokevirtual 11, 3) := at_22
theorem dm0_25 : decode code 25 = .ok (.astore 5, 2) := at_25
theorem dm0_27 : decode code 27 = .ok (.aload 5, 2) := at_27
theorem dm0_29 : decode code 29 = .ok (.iload_n 3, 1) := at_29
theorem dm0_30 : decode code 30 = .ok (.invokevirtual 11, 3) := at_30
theorem dm0_33 : decode code 33 = .ok (.astore 6, 2) := at_33
theorem dm0_35 : decode code 35 = .ok (.aload 5, 2) := at_35
theorem dm0_37 : decode code 37 = .ok (.invokevirtual 15, 3) := at_37
theorem dm0_40 : decode code 40 = .ok (.iload_n 2, 1) := at_40
theorem dm0_41 : decode code 41 = .ok (.if_icmp .ne 16, 3) := at_41
theorem dm0_44 : decode code 44 = .ok (.aload 6, 2) := at_44
theorem dm0_46 : decode code 46 = .ok (.invokevirtual 15, 3) := at_46
theorem dm0_49 : decode code 49 = .ok (.iload_n 3, 1) := at_49
theorem dm0_50 : decode code 50 = .ok (.if_icmp .ne 7, 3) := at_50
theorem dm0_53 : decode code 53 = .ok (.iconst 1, 1) := at_53
theorem dm0_54 : decode code 54 = .ok (.goto 4, 3) := at_54
theorem dm0_58 : decode code 58 = .ok (.istore 7, 2) := at_58
theorem dm0_60 : decode code 60 = .ok (.aload 4, 2) := at_60
theorem dm0_62 : decode code 62 = .ok (.invokevirtual 15, 3) := at_62
theorem dm0_65 : decode code 65 = .ok (.sipush 9911, 3) := at_65
theorem dm0_68 : decode code 68 = .ok (.if_icmp .ne 7, 3) := at_68
theorem dm0_71 : decode code 71 = .ok (.iconst 1, 1) := at_71
theorem dm0_72 : decode code 72 = .ok (.goto 4, 3) := at_72
theorem dm0_76 : decode code 76 = .ok (.istore 8, 2) := at_76
theorem dm0_78 : decode code 78 = .ok (.aload 5, 2) := at_78
theorem dm0_80 : decode code 80 = .ok (.invokevirtual 19, 3) := at_80
theorem dm0_83 : decode code 83 = .ok (.aload 4, 2) := at_83
theorem dm0_85 : decode code 85 = .ok (.invokevirtual 19, 3) := at_85
theorem dm0_88 : decode code 88 = .ok (.if_acmp .ne 7, 3) := at_88
theorem dm0_91 : decode code 91 = .ok (.iconst 1, 1) := at_91
theorem dm0_92 : decode code 92 = .ok (.goto 4, 3) := at_92
theorem dm0_96 : decode code 96 = .ok (.istore 9, 2) := at_96
theorem dm0_98 : decode code 98 = .ok (.aload 6, 2) := at_98
theorem dm0_100 : decode code 100 = .ok (.iconst 0, 1) := at_100
theorem dm0_101 : decode code 101 = .ok (.invokevirtual 23, 3) := at_101
theorem dm0_104 : decode code 104 = .ok (.aload 4, 2) := at_104
theorem dm0_106 : decode code 106 = .ok (.iconst 0, 1) := at_106
theorem dm0_107 : decode code 107 = .ok (.invokevirtual 23, 3) := at_107
theorem dm0_110 : decode code 110 = .ok (.invokevirtual 27, 3) := at_110
theorem dm0_113 : decode code 113 = .ok (.istore 10, 2) := at_113
theorem dm0_115 : decode code 115 = .ok (.iload 7, 2) := at_115
theorem dm0_117 : decode code 117 = .ok (.ifCond .eq 22, 3) := at_117
theorem dm0_120 : decode code 120 = .ok (.iload 8, 2) := at_120
theorem dm0_122 : decode code 122 = .ok (.ifCond .eq 17, 3) := at_122
theorem dm0_125 : decode code 125 = .ok (.iload 9, 2) := at_125
theorem dm0_127 : decode code 127 = .ok (.ifCond .eq 12, 3) := at_127
theorem dm0_130 : decode code 130 = .ok (.iload 10, 2) := at_130
theorem dm0_132 : decode code 132 = .ok (.ifCond .eq 7, 3) := at_132
theorem dm0_135 : decode code 135 = .ok (.iconst 1, 1) := at_135
theorem dm0_136 : decode code 136 = .ok (.goto 4, 3) := at_136
theorem dm0_140 : decode code 140 = .ok (.ireturn, 1) := at_140
theorem ef_own_c5 (m : MethodId) (o0 : Addr) : entryFrame m #[(.ref o0), (.long (3600 : Int64)), (.int (0 : Int32))] 4 = mkF m 0 #[.val (.ref o0), .val (.long (3600 : Int64)), .second, .val (.int (0 : Int32))] [] := by first | (simp [entryFrame, mkF, argsToLocals, Value.category, maxLocals]; done) | rfl
set_option maxRecDepth 65536 in
set_option maxHeartbeats 40000000 in
theorem own_c5 (l : Launch) (Z : State) (a0 : Array Value) (hw : ∀ d ∈ tables_1, d.before a0 Z = true) (o0 : Addr) (h0 : Heap) (n0 : Nat) (Z0 : n0 ≤ h0.size) (E_o0 : Exa Z h0 o0 "java/time/Duration") (F_o0_seconds : Fld Z h0 o0 "java/time/Duration" "seconds" "J" (.long (0 : Int64))) (F_o0_nanos : Fld Z h0 o0 "java/time/Duration" "nanos" "I" (.int (0 : Int32))) (g_o0 : n0 ≤ o0) :
    own_M l Z (⟨"java/time/Duration", "<init>", "(JI)V"⟩ : MethodName) jdk_2316_method_17_code 4 none [] ({ frames := 1, cells := 0, slots := 0, locals := 12 } : Room) #[(.ref o0), (.long (3600 : Int64)), (.int (0 : Int32))] h0 n0 (fun v h => v = none ∧ Keep h0 h [o0] ∧ Fld Z h o0 "java/time/Duration" "seconds" "J" (.long (3600 : Int64)) ∧ Fld Z h o0 "java/time/Duration" "nanos" "I" (.int (0 : Int32))) := by
  refine own_M.of (plainFor_of_name (by first | (simp [plainName, overriddenIn]; done) | decide +kernel)) ?_
  intro p e s m below meth c S0 hx hby hml hown hnm hret hlk hZ A00
  have A0 := A00.cast (ef_own_c5 m o0)
  have KK : Keep h0 h0 ([o0] : List Addr) := Keep.refl _ _
  have A1 := A0.go (f' := mkF m 1 #[.val (.ref o0), .val (.long (3600 : Int64)), .second, .val (.int (0 : Int32))] [(.ref o0)]) fun _ _ X _ k => XS.aloadN X.here hx rfl (hb hby dm4_0) rfl rfl k
  have A2 : own_R p l e _ _ m _ below meth c S0 n0 h0 0 0 (mkF m 4 #[.val (.ref o0), .val (.long (3600 : Int64)), .second, .val (.int (0 : Int32))] []) := A1.initO hx hZ hown (hb hby dm4_1) (hw _ (List.mem_of_getElem? (i := 29) rfl)) (hw _ (List.mem_of_getElem? (i := 30) rfl)) (hw _ (List.mem_of_getElem? (i := 31) rfl)) (by rw [hml]; rfl) (W := 0) (Nat.le_of_eq rfl) (by decide) (by decide)
  have A3 := A2.go (f' := mkF m 5 #[.val (.ref o0), .val (.long (3600 : Int64)), .second, .val (.int (0 : Int32))] [(.ref o0)]) fun _ _ X _ k => XS.aloadN X.here hx rfl (hb hby dm4_4) rfl rfl k
  have A4 := A3.go (f' := mkF m 6 #[.val (.ref o0), .val (.long (3600 : Int64)), .second, .val (.int (0 : Int32))] [(.long (3600 : Int64)), (.ref o0)]) fun _ _ X _ k => XS.lloadN X.here hx rfl (hb hby dm4_5) rfl k
  obtain ⟨h5, W6, A7⟩ := A4.putF hx hZ hown (hb hby dm4_6) (hw _ (List.mem_of_getElem? (i := 32) rfl)) F_o0_seconds E_o0 (Or.inr ⟨(hw _ (List.mem_of_getElem? (i := 33) rfl)), rfl, hnm⟩) (hw _ (List.mem_of_getElem? (i := 24) rfl)) (ty := .long) (by decide) rfl rfl g_o0
  have E_o0 : Exa Z h5 o0 "java/time/Duration" := E_o0.wr W6
  have F_o0_seconds : Fld Z h5 o0 "java/time/Duration" "seconds" "J" (.long (3600 : Int64)) := F_o0_seconds.same W6
  have F_o0_nanos : Fld Z h5 o0 "java/time/Duration" "nanos" "I" (.int (0 : Int32)) := F_o0_nanos.other W6 (Or.inr (slot_ne (Or.inr (hw _ (List.mem_of_getElem? (i := 35) rfl))) (Or.inr (hw _ (List.mem_of_getElem? (i := 33) rfl))) (by decide) (t := .int) (t' := .long) (by decide) (by decide)))
  have Z0 : n0 ≤ h5.size := by rw [W6.size]; exact Z0
  have KK : Keep h0 h5 [o0] := KK.wr W6 (Or.inl (by simp))
  have A8 : own_R p l e _ _ m _ below meth c S0 n0 h5 0 0 (mkF m 9 #[.val (.ref o0), .val (.long (3600 : Int64)), .second, .val (.int (0 : Int32))] []) := A7
  have A9 := A8.go (f' := mkF m 10 #[.val (.ref o0), .val (.long (3600 : Int64)), .second, .val (.int (0 : Int32))] [(.ref o0)]) fun _ _ X _ k => XS.aloadN X.here hx rfl (hb hby dm4_9) rfl rfl k
  have A10 := A9.go (f' := mkF m 11 #[.val (.ref o0), .val (.long (3600 : Int64)), .second, .val (.int (0 : Int32))] [(.int (0 : Int32)), (.ref o0)]) fun _ _ X _ k => XS.iloadN X.here hx rfl (hb hby dm4_10) rfl k
  obtain ⟨h11, W12, A13⟩ := A10.putF hx hZ hown (hb hby dm4_11) (hw _ (List.mem_of_getElem? (i := 34) rfl)) F_o0_nanos E_o0 (Or.inr ⟨(hw _ (List.mem_of_getElem? (i := 35) rfl)), rfl, hnm⟩) (hw _ (List.mem_of_getElem? (i := 24) rfl)) (ty := .int) (by decide) rfl rfl g_o0
  have E_o0 : Exa Z h11 o0 "java/time/Duration" := E_o0.wr W12
  have F_o0_seconds : Fld Z h11 o0 "java/time/Duration" "seconds" "J" (.long (3600 : Int64)) := F_o0_seconds.other W12 (Or.inr (slot_ne (Or.inr (hw _ (List.mem_of_getElem? (i := 33) rfl))) (Or.inr (hw _ (List.mem_of_getElem? (i := 35) rfl))) (by decide) (t := .long) (t' := .int) (by decide) (by decide)))
  have F_o0_nanos : Fld Z h11 o0 "java/time/Duration" "nanos" "I" (.int (0 : Int32)) := F_o0_nanos.same W12
  have Z0 : n0 ≤ h11.size := by rw [W12.size]; exact Z0
  have KK : Keep h0 h11 [o0] := KK.wr W12 (Or.inl (by simp))
  have A14 : own_R p l e _ _ m _ below meth c S0 n0 h11 0 0 (mkF m 14 #[.val (.ref o0), .val (.long (3600 : Int64)), .second, .val (.int (0 : Int32))] []) := A13
  exact A14.retV hx hlk hret (hb hby dm4_14) (by decide) (by decide) ⟨rfl, KK, F_o0_seconds, F_o0_nanos⟩
theorem ef_own_c6 (m : MethodId)  : entryFrame m #[(.long (3600 : Int64)), (.int (0 : Int32))] 3 = mkF m 0 #[.val (.long (3600 : Int64)), .second, .val (.int (0 : Int32))] [] := by first | (simp [entryFrame, mkF, argsToLocals, Value.category, maxLocals]; done) | rfl
set_option maxRecDepth 65536 in
set_option maxHeartbeats 40000000 in
theorem own_c6 (l : Launch) (Z : State) (a0 : Array Value) (hw : ∀ d ∈ tables_1, d.before a0 Z = true)  (h0 : Heap) (n0 : Nat) (Z0 : n0 ≤ h0.size)  :
    own_M l Z (⟨"java/time/Duration", "create", "(JI)Ljava/time/Duration;"⟩ : MethodName) jdk_2316_method_16_code 3 (some (.object "java/time/Duration")) [] ({ frames := 2, cells := 1, slots := 2, locals := 28 } : Room) #[(.long (3600 : Int64)), (.int (0 : Int32))] h0 n0 (fun v h => ∃ x1 : Addr, v = some (.ref x1) ∧ Keep h0 h [] ∧ h0.size ≤ x1 ∧ Exa Z h x1 "java/time/Duration" ∧ Fld Z h x1 "java/time/Duration" "seconds" "J" (.long (3600 : Int64)) ∧ Fld Z h x1 "java/time/Duration" "nanos" "I" (.int (0 : Int32))) := by
  refine own_M.of (plainFor_of_name (by first | (simp [plainName, overriddenIn]; done) | decide +kernel)) ?_
  intro p e s m below meth c S0 hx hby hml hown hnm hret hlk hZ A00
  have A0 := A00.cast (ef_own_c6 m )
  have KK : Keep h0 h0 ([] : List Addr) := Keep.refl _ _
  have A1 := A0.go (f' := mkF m 1 #[.val (.long (3600 : Int64)), .second, .val (.int (0 : Int32))] [(.long (3600 : Int64))]) fun _ _ X _ k => XS.lloadN X.here hx rfl (hb hby dm3_0) rfl k
  have A2 := A1.go (f' := mkF m 2 #[.val (.long (3600 : Int64)), .second, .val (.int (0 : Int32))] [(.int (0 : Int32)), (.long (3600 : Int64))]) fun _ _ X _ k => XS.iloadN X.here hx rfl (hb hby dm3_1) rfl k
  have A3 := A2.go (f' := mkF m 3 #[.val (.long (3600 : Int64)), .second, .val (.int (0 : Int32))] [(.long (0 : Int64)), (.long (3600 : Int64))]) fun _ _ X _ k => XS.i2l X.here hx rfl (hb hby dm3_2) rfl k
  have A4 := A3.go (f' := mkF m 4 #[.val (.long (3600 : Int64)), .second, .val (.int (0 : Int32))] [(.long (3600 : Int64))]) fun _ _ X _ k => XS.lor X.here hx rfl (hb hby dm3_3) rfl k
  have A5 := A4.go (f' := mkF m 5 #[.val (.long (3600 : Int64)), .second, .val (.int (0 : Int32))] [(.long (0 : Int64)), (.long (3600 : Int64))]) fun _ _ X _ k => XS.lconst X.here hx rfl (hb hby dm3_4) k
  have A6 := A5.go (f' := mkF m 6 #[.val (.long (3600 : Int64)), .second, .val (.int (0 : Int32))] [(.int (1 : Int32))]) fun _ _ X _ k => XS.lcmp X.here hx rfl (hb hby dm3_5) rfl k
  have q7 : ¬ ((1 : Int32) = (0 : Int32)) := by decide
  have A8 := A6.go (f' := mkF m 13 #[.val (.long (3600 : Int64)), .second, .val (.int (0 : Int32))] []) fun _ _ X _ k => XS.ifYes X.here hx rfl (pc0 := 6) (pc' := 13) rfl (hb hby dm3_6) rfl ((if0 _ _).trans (feq q7).2) (by decide) (by decide) k
  obtain ⟨h9, E10, E_x1, D_x1, A11⟩ := A8.newO hx hZ hown (hb hby dm3_13) (hw _ (List.mem_of_getElem? (i := 23) rfl)) (hw _ (List.mem_of_getElem? (i := 24) rfl)) (hw _ (List.mem_of_getElem? (i := 18) rfl)) (by decide) (by decide)
  obtain ⟨x1, gx1⟩ : ∃ z, z = h0.size := ⟨_, rfl⟩
  rw [← gx1] at E_x1 D_x1 A11
  have g_x1 : n0 ≤ x1 := by rw [gx1]; exact Z0
  have sz_x1 : h0.size ≤ x1 := by rw [gx1]; exact KK.1
  have Z0 : n0 ≤ h9.size := Nat.le_trans Z0 E10.1
  have KK : Keep h0 h9 [] := KK.ext E10
  have F_x1_seconds : Fld Z h9 x1 "java/time/Duration" "seconds" "J" (.long (0 : Int64)) := D_x1 (Or.inr (hw _ (List.mem_of_getElem? (i := 33) rfl))) (ty := .long) (by decide)
  have F_x1_nanos : Fld Z h9 x1 "java/time/Duration" "nanos" "I" (.int (0 : Int32)) := D_x1 (Or.inr (hw _ (List.mem_of_getElem? (i := 35) rfl))) (ty := .int) (by decide)
  have A12 : own_R p l e _ _ m _ below meth c S0 n0 h9 1 2 (mkF m 16 #[.val (.long (3600 : Int64)), .second, .val (.int (0 : Int32))] [(.ref x1)]) := A11
  have A13 := A12.go (f' := mkF m 17 #[.val (.long (3600 : Int64)), .second, .val (.int (0 : Int32))] [(.ref x1), (.ref x1)]) fun _ _ X _ k => XS.dup X.here hx rfl (hb hby dm3_16) rfl rfl k
  have A14 := A13.go (f' := mkF m 18 #[.val (.long (3600 : Int64)), .second, .val (.int (0 : Int32))] [(.long (3600 : Int64)), (.ref x1), (.ref x1)]) fun _ _ X _ k => XS.lloadN X.here hx rfl (hb hby dm3_17) rfl k
  have A15 := A14.go (f' := mkF m 19 #[.val (.long (3600 : Int64)), .second, .val (.int (0 : Int32))] [(.int (0 : Int32)), (.long (3600 : Int64)), (.ref x1), (.ref x1)]) fun _ _ X _ k => XS.iloadN X.here hx rfl (hb hby dm3_18) rfl k
  obtain ⟨vA16, hA16, ⟨rfl, KA16, P_F_x1_seconds, P_F_x1_nanos⟩, A16⟩ := A15.callI (b := x1) (own_c5 l Z a0 hw x1 h9 n0 Z0 E_x1 F_x1_seconds F_x1_nanos g_x1) hx hZ hown (hb hby dm3_19) rfl (hw _ (List.mem_of_getElem? (i := 25) rfl)) (hw _ (List.mem_of_getElem? (i := 26) rfl)) (hw _ (List.mem_of_getElem? (i := 28) rfl)) (hw _ (List.mem_of_getElem? (i := 18) rfl)) ⟨by decide, by decide⟩ (lenOf pd__28JI_29V rfl) (argsL := [(.long (3600 : Int64)), (.int (0 : Int32))]) (rest := [(.ref x1)]) rfl rfl (by rw [hml]; rfl) (W := 1) (Nat.le_of_eq rfl) (by decide) (by decide) (by decide) (by decide)
  have E_x1 : Exa Z hA16 x1 "java/time/Duration" := E_x1.keep KA16
  have Z0 : n0 ≤ hA16.size := Nat.le_trans Z0 KA16.1
  have KK : Keep h0 hA16 [] := KK.trans KA16 (allS (P := fun x => x ∈ ([] : List Addr) ∨ h0.size ≤ x) (Or.inr sz_x1) all0)
  have F_x1_seconds : Fld Z hA16 x1 "java/time/Duration" "seconds" "J" (.long (3600 : Int64)) := P_F_x1_seconds
  have F_x1_nanos : Fld Z hA16 x1 "java/time/Duration" "nanos" "I" (.int (0 : Int32)) := P_F_x1_nanos
  have A17 : own_R p l e _ _ m _ below meth c S0 n0 hA16 1 2 (mkF m 22 #[.val (.long (3600 : Int64)), .second, .val (.int (0 : Int32))] [(.ref x1)]) := A16
  exact A17.ret hx hlk hret (hb hby dm3_22) rfl (Or.inr (Or.inr (Or.inr (Or.inr ⟨rfl, rfl, rfl⟩)))) (by decide) (by decide) ⟨x1, rfl, KK, sz_x1, E_x1, F_x1_seconds, F_x1_nanos⟩
theorem ef_own_c7 (m : MethodId)  : entryFrame m #[(.long (3600 : Int64))] 2 = mkF m 0 #[.val (.long (3600 : Int64)), .second] [] := by first | (simp [entryFrame, mkF, argsToLocals, Value.category, maxLocals]; done) | rfl
set_option maxRecDepth 65536 in
set_option maxHeartbeats 40000000 in
theorem own_c7 (l : Launch) (Z : State) (a0 : Array Value) (hw : ∀ d ∈ tables_1, d.before a0 Z = true)  (h0 : Heap) (n0 : Nat) (Z0 : n0 ≤ h0.size)  :
    own_M l Z (⟨"java/time/Duration", "ofSeconds", "(J)Ljava/time/Duration;"⟩ : MethodName) jdk_2316_method_4_code 2 (some (.object "java/time/Duration")) [] ({ frames := 3, cells := 1, slots := 2, locals := 42 } : Room) #[(.long (3600 : Int64))] h0 n0 (fun v h => ∃ x1 : Addr, v = some (.ref x1) ∧ Keep h0 h [] ∧ h0.size ≤ x1 ∧ Exa Z h x1 "java/time/Duration" ∧ Fld Z h x1 "java/time/Duration" "seconds" "J" (.long (3600 : Int64)) ∧ Fld Z h x1 "java/time/Duration" "nanos" "I" (.int (0 : Int32))) := by
  refine own_M.of (plainFor_of_name (by first | (simp [plainName, overriddenIn]; done) | decide +kernel)) ?_
  intro p e s m below meth c S0 hx hby hml hown hnm hret hlk hZ A00
  have A0 := A00.cast (ef_own_c7 m )
  have KK : Keep h0 h0 ([] : List Addr) := Keep.refl _ _
  have A1 := A0.go (f' := mkF m 1 #[.val (.long (3600 : Int64)), .second] [(.long (3600 : Int64))]) fun _ _ X _ k => XS.lloadN X.here hx rfl (hb hby dm2_0) rfl k
  have A2 := A1.go (f' := mkF m 2 #[.val (.long (3600 : Int64)), .second] [(.int (0 : Int32)), (.long (3600 : Int64))]) fun _ _ X _ k => XS.iconst X.here hx rfl (hb hby dm2_1) k
  obtain ⟨vA3, hA3, ⟨x1, rfl, KA3, zz_x1, P_E_x1, P_F_x1_seconds, P_F_x1_nanos⟩, A3⟩ := A2.callS (own_c6 l Z a0 hw h0 n0 Z0) hx hZ hown (hb hby dm2_2) (hw _ (List.mem_of_getElem? (i := 20) rfl)) (hw _ (List.mem_of_getElem? (i := 21) rfl)) (hw _ (List.mem_of_getElem? (i := 18) rfl)) (hw _ (List.mem_of_getElem? (i := 22) rfl)) ⟨by decide, by decide⟩ (lenOf pd__28JI_29Ljava_2ftime_2fDuration_3b rfl) (argsL := [(.long (3600 : Int64)), (.int (0 : Int32))]) (rest := []) rfl rfl (by rw [hml]; rfl) (W := 0) (Nat.le_of_eq rfl) (by decide) (by decide) (by decide) (by decide)
  have g_x1 : n0 ≤ x1 := Nat.le_trans Z0 zz_x1
  have sz_x1 : h0.size ≤ x1 := Nat.le_trans KK.1 zz_x1
  have Z0 : n0 ≤ hA3.size := Nat.le_trans Z0 KA3.1
  have KK : Keep h0 hA3 [] := KK.trans KA3 all0
  have E_x1 : Exa Z hA3 x1 "java/time/Duration" := P_E_x1
  have F_x1_seconds : Fld Z hA3 x1 "java/time/Duration" "seconds" "J" (.long (3600 : Int64)) := P_F_x1_seconds
  have F_x1_nanos : Fld Z hA3 x1 "java/time/Duration" "nanos" "I" (.int (0 : Int32)) := P_F_x1_nanos
  have A4 : own_R p l e _ _ m _ below meth c S0 n0 hA3 1 2 (mkF m 5 #[.val (.long (3600 : Int64)), .second] [(.ref x1)]) := A3
  exact A4.ret hx hlk hret (hb hby dm2_5) rfl (Or.inr (Or.inr (Or.inr (Or.inr ⟨rfl, rfl, rfl⟩)))) (by decide) (by decide) ⟨x1, rfl, KK, sz_x1, E_x1, F_x1_seconds, F_x1_nanos⟩
theorem ef_own_c9 (m : MethodId) (o0 : Addr) (o1 : Addr) (o2 : Addr) : entryFrame m #[(.ref o0), (.ref o1), (.int (9911 : Int32)), .null, .null, (.ref o2)] 6 = mkF m 0 #[.val (.ref o0), .val (.ref o1), .val (.int (9911 : Int32)), .val .null, .val .null, .val (.ref o2)] [] := by first | (simp [entryFrame, mkF, argsToLocals, Value.category, maxLocals]; done) | rfl
set_option maxRecDepth 65536 in
set_option maxHeartbeats 40000000 in
theorem own_c9 (l : Launch) (Z : State) (a0 : Array Value) (hw : ∀ d ∈ tables_1, d.before a0 Z = true) (o0 o1 o2 : Addr) (h0 : Heap) (n0 : Nat) (Z0 : n0 ≤ h0.size) (E_o0 : Exa Z h0 o0 "com/example/periwinkle/periwinkle/server/ServerSettings") (F_o0_host : Fld Z h0 o0 "com/example/periwinkle/periwinkle/server/ServerSettings" "host" "Ljava/lang/String;" .null) (F_o0_port : Fld Z h0 o0 "com/example/periwinkle/periwinkle/server/ServerSettings" "port" "I" (.int (0 : Int32))) (F_o0_tlsCertificate : Fld Z h0 o0 "com/example/periwinkle/periwinkle/server/ServerSettings" "tlsCertificate" "Ljava/nio/file/Path;" .null) (F_o0_tlsKey : Fld Z h0 o0 "com/example/periwinkle/periwinkle/server/ServerSettings" "tlsKey" "Ljava/nio/file/Path;" .null) (F_o0_tokenLifetime : Fld Z h0 o0 "com/example/periwinkle/periwinkle/server/ServerSettings" "tokenLifetime" "Ljava/time/Duration;" .null) (g_o0 : n0 ≤ o0) :
    own_M l Z (⟨"com/example/periwinkle/periwinkle/server/ServerSettings", "<init>", "(Ljava/lang/String;ILjava/nio/file/Path;Ljava/nio/file/Path;Ljava/time/Duration;)V"⟩ : MethodName) prog_37_method_2_code 6 none [] ({ frames := 1, cells := 0, slots := 0, locals := 12 } : Room) #[(.ref o0), (.ref o1), (.int (9911 : Int32)), .null, .null, (.ref o2)] h0 n0 (fun v h => v = none ∧ Keep h0 h [o0] ∧ Fld Z h o0 "com/example/periwinkle/periwinkle/server/ServerSettings" "host" "Ljava/lang/String;" (.ref o1) ∧ Fld Z h o0 "com/example/periwinkle/periwinkle/server/ServerSettings" "port" "I" (.int (9911 : Int32)) ∧ Fld Z h o0 "com/example/periwinkle/periwinkle/server/ServerSettings" "tlsCertificate" "Ljava/nio/file/Path;" .null ∧ Fld Z h o0 "com/example/periwinkle/periwinkle/server/ServerSettings" "tlsKey" "Ljava/nio/file/Path;" .null ∧ Fld Z h o0 "com/example/periwinkle/periwinkle/server/ServerSettings" "tokenLifetime" "Ljava/time/Duration;" (.ref o2)) := by
  refine own_M.of (plainFor_of_name (by first | (simp [plainName, overriddenIn]; done) | decide +kernel)) ?_
  intro p e s m below meth c S0 hx hby hml hown hnm hret hlk hZ A00
  have A0 := A00.cast (ef_own_c9 m o0 o1 o2)
  have KK : Keep h0 h0 ([o0] : List Addr) := Keep.refl _ _
  have A1 := A0.go (f' := mkF m 1 #[.val (.ref o0), .val (.ref o1), .val (.int (9911 : Int32)), .val .null, .val .null, .val (.ref o2)] [(.ref o0)]) fun _ _ X _ k => XS.aloadN X.here hx rfl (hb hby dm6_0) rfl rfl k
  have A2 : own_R p l e _ _ m _ below meth c S0 n0 h0 0 0 (mkF m 4 #[.val (.ref o0), .val (.ref o1), .val (.int (9911 : Int32)), .val .null, .val .null, .val (.ref o2)] []) := A1.initO hx hZ hown (hb hby dm6_1) (hw _ (List.mem_of_getElem? (i := 39) rfl)) (hw _ (List.mem_of_getElem? (i := 30) rfl)) (hw _ (List.mem_of_getElem? (i := 31) rfl)) (by rw [hml]; rfl) (W := 0) (Nat.le_of_eq rfl) (by decide) (by decide)
  have A3 := A2.go (f' := mkF m 5 #[.val (.ref o0), .val (.ref o1), .val (.int (9911 : Int32)), .val .null, .val .null, .val (.ref o2)] [(.ref o0)]) fun _ _ X _ k => XS.aloadN X.here hx rfl (hb hby dm6_4) rfl rfl k
  have A4 := A3.go (f' := mkF m 6 #[.val (.ref o0), .val (.ref o1), .val (.int (9911 : Int32)), .val .null, .val .null, .val (.ref o2)] [(.ref o1), (.ref o0)]) fun _ _ X _ k => XS.aloadN X.here hx rfl (hb hby dm6_5) rfl rfl k
  obtain ⟨h5, W6, A7⟩ := A4.putF hx hZ hown (hb hby dm6_6) (hw _ (List.mem_of_getElem? (i := 40) rfl)) F_o0_host E_o0 (Or.inr ⟨(hw _ (List.mem_of_getElem? (i := 41) rfl)), rfl, hnm⟩) (hw _ (List.mem_of_getElem? (i := 2) rfl)) (ty := (.object "java/lang/String")) (by decide) rfl rfl g_o0
  have E_o0 : Exa Z h5 o0 "com/example/periwinkle/periwinkle/server/ServerSettings" := E_o0.wr W6
  have F_o0_host : Fld Z h5 o0 "com/example/periwinkle/periwinkle/server/ServerSettings" "host" "Ljava/lang/String;" (.ref o1) := F_o0_host.same W6
  have F_o0_port : Fld Z h5 o0 "com/example/periwinkle/periwinkle/server/ServerSettings" "port" "I" (.int (0 : Int32)) := F_o0_port.other W6 (Or.inr (slot_ne (Or.inr (hw _ (List.mem_of_getElem? (i := 43) rfl))) (Or.inr (hw _ (List.mem_of_getElem? (i := 41) rfl))) (by decide) (t := .int) (t' := (.object "java/lang/String")) (by decide) (by decide)))
  have F_o0_tlsCertificate : Fld Z h5 o0 "com/example/periwinkle/periwinkle/server/ServerSettings" "tlsCertificate" "Ljava/nio/file/Path;" .null := F_o0_tlsCertificate.other W6 (Or.inr (slot_ne (Or.inr (hw _ (List.mem_of_getElem? (i := 45) rfl))) (Or.inr (hw _ (List.mem_of_getElem? (i := 41) rfl))) (by decide) (t := (.object "java/nio/file/Path")) (t' := (.object "java/lang/String")) (by decide) (by decide)))
  have F_o0_tlsKey : Fld Z h5 o0 "com/example/periwinkle/periwinkle/server/ServerSettings" "tlsKey" "Ljava/nio/file/Path;" .null := F_o0_tlsKey.other W6 (Or.inr (slot_ne (Or.inr (hw _ (List.mem_of_getElem? (i := 47) rfl))) (Or.inr (hw _ (List.mem_of_getElem? (i := 41) rfl))) (by decide) (t := (.object "java/nio/file/Path")) (t' := (.object "java/lang/String")) (by decide) (by decide)))
  have F_o0_tokenLifetime : Fld Z h5 o0 "com/example/periwinkle/periwinkle/server/ServerSettings" "tokenLifetime" "Ljava/time/Duration;" .null := F_o0_tokenLifetime.other W6 (Or.inr (slot_ne (Or.inr (hw _ (List.mem_of_getElem? (i := 49) rfl))) (Or.inr (hw _ (List.mem_of_getElem? (i := 41) rfl))) (by decide) (t := (.object "java/time/Duration")) (t' := (.object "java/lang/String")) (by decide) (by decide)))
  have Z0 : n0 ≤ h5.size := by rw [W6.size]; exact Z0
  have KK : Keep h0 h5 [o0] := KK.wr W6 (Or.inl (by simp))
  have A8 : own_R p l e _ _ m _ below meth c S0 n0 h5 0 0 (mkF m 9 #[.val (.ref o0), .val (.ref o1), .val (.int (9911 : Int32)), .val .null, .val .null, .val (.ref o2)] []) := A7
  have A9 := A8.go (f' := mkF m 10 #[.val (.ref o0), .val (.ref o1), .val (.int (9911 : Int32)), .val .null, .val .null, .val (.ref o2)] [(.ref o0)]) fun _ _ X _ k => XS.aloadN X.here hx rfl (hb hby dm6_9) rfl rfl k
  have A10 := A9.go (f' := mkF m 11 #[.val (.ref o0), .val (.ref o1), .val (.int (9911 : Int32)), .val .null, .val .null, .val (.ref o2)] [(.int (9911 : Int32)), (.ref o0)]) fun _ _ X _ k => XS.iloadN X.here hx rfl (hb hby dm6_10) rfl k
  obtain ⟨h11, W12, A13⟩ := A10.putF hx hZ hown (hb hby dm6_11) (hw _ (List.mem_of_getElem? (i := 42) rfl)) F_o0_port E_o0 (Or.inr ⟨(hw _ (List.mem_of_getElem? (i := 43) rfl)), rfl, hnm⟩) (hw _ (List.mem_of_getElem? (i := 2) rfl)) (ty := .int) (by decide) rfl rfl g_o0
  have E_o0 : Exa Z h11 o0 "com/example/periwinkle/periwinkle/server/ServerSettings" := E_o0.wr W12
  have F_o0_host : Fld Z h11 o0 "com/example/periwinkle/periwinkle/server/ServerSettings" "host" "Ljava/lang/String;" (.ref o1) := F_o0_host.other W12 (Or.inr (slot_ne (Or.inr (hw _ (List.mem_of_getElem? (i := 41) rfl))) (Or.inr (hw _ (List.mem_of_getElem? (i := 43) rfl))) (by decide) (t := (.object "java/lang/String")) (t' := .int) (by decide) (by decide)))
  have F_o0_port : Fld Z h11 o0 "com/example/periwinkle/periwinkle/server/ServerSettings" "port" "I" (.int (9911 : Int32)) := F_o0_port.same W12
  have F_o0_tlsCertificate : Fld Z h11 o0 "com/example/periwinkle/periwinkle/server/ServerSettings" "tlsCertificate" "Ljava/nio/file/Path;" .null := F_o0_tlsCertificate.other W12 (Or.inr (slot_ne (Or.inr (hw _ (List.mem_of_getElem? (i := 45) rfl))) (Or.inr (hw _ (List.mem_of_getElem? (i := 43) rfl))) (by decide) (t := (.object "java/nio/file/Path")) (t' := .int) (by decide) (by decide)))
  have F_o0_tlsKey : Fld Z h11 o0 "com/example/periwinkle/periwinkle/server/ServerSettings" "tlsKey" "Ljava/nio/file/Path;" .null := F_o0_tlsKey.other W12 (Or.inr (slot_ne (Or.inr (hw _ (List.mem_of_getElem? (i := 47) rfl))) (Or.inr (hw _ (List.mem_of_getElem? (i := 43) rfl))) (by decide) (t := (.object "java/nio/file/Path")) (t' := .int) (by decide) (by decide)))
  have F_o0_tokenLifetime : Fld Z h11 o0 "com/example/periwinkle/periwinkle/server/ServerSettings" "tokenLifetime" "Ljava/time/Duration;" .null := F_o0_tokenLifetime.other W12 (Or.inr (slot_ne (Or.inr (hw _ (List.mem_of_getElem? (i := 49) rfl))) (Or.inr (hw _ (List.mem_of_getElem? (i := 43) rfl))) (by decide) (t := (.object "java/time/Duration")) (t' := .int) (by decide) (by decide)))
  have Z0 : n0 ≤ h11.size := by rw [W12.size]; exact Z0
  have KK : Keep h0 h11 [o0] := KK.wr W12 (Or.inl (by simp))
  have A14 : own_R p l e _ _ m _ below meth c S0 n0 h11 0 0 (mkF m 14 #[.val (.ref o0), .val (.ref o1), .val (.int (9911 : Int32)), .val .null, .val .null, .val (.ref o2)] []) := A13
  have A15 := A14.go (f' := mkF m 15 #[.val (.ref o0), .val (.ref o1), .val (.int (9911 : Int32)), .val .null, .val .null, .val (.ref o2)] [(.ref o0)]) fun _ _ X _ k => XS.aloadN X.here hx rfl (hb hby dm6_14) rfl rfl k
  have A16 := A15.go (f' := mkF m 16 #[.val (.ref o0), .val (.ref o1), .val (.int (9911 : Int32)), .val .null, .val .null, .val (.ref o2)] [.null, (.ref o0)]) fun _ _ X _ k => XS.aloadN X.here hx rfl (hb hby dm6_15) rfl rfl k
  obtain ⟨h17, W18, A19⟩ := A16.putF hx hZ hown (hb hby dm6_16) (hw _ (List.mem_of_getElem? (i := 44) rfl)) F_o0_tlsCertificate E_o0 (Or.inr ⟨(hw _ (List.mem_of_getElem? (i := 45) rfl)), rfl, hnm⟩) (hw _ (List.mem_of_getElem? (i := 2) rfl)) (ty := (.object "java/nio/file/Path")) (by decide) rfl rfl g_o0
  have E_o0 : Exa Z h17 o0 "com/example/periwinkle/periwinkle/server/ServerSettings" := E_o0.wr W18
  have F_o0_host : Fld Z h17 o0 "com/example/periwinkle/periwinkle/server/ServerSettings" "host" "Ljava/lang/String;" (.ref o1) := F_o0_host.other W18 (Or.inr (slot_ne (Or.inr (hw _ (List.mem_of_getElem? (i := 41) rfl))) (Or.inr (hw _ (List.mem_of_getElem? (i := 45) rfl))) (by decide) (t := (.object "java/lang/String")) (t' := (.object "java/nio/file/Path")) (by decide) (by decide)))
  have F_o0_port : Fld Z h17 o0 "com/example/periwinkle/periwinkle/server/ServerSettings" "port" "I" (.int (9911 : Int32)) := F_o0_port.other W18 (Or.inr (slot_ne (Or.inr (hw _ (List.mem_of_getElem? (i := 43) rfl))) (Or.inr (hw _ (List.mem_of_getElem? (i := 45) rfl))) (by decide) (t := .int) (t' := (.object "java/nio/file/Path")) (by decide) (by decide)))
  have F_o0_tlsCertificate : Fld Z h17 o0 "com/example/periwinkle/periwinkle/server/ServerSettings" "tlsCertificate" "Ljava/nio/file/Path;" .null := F_o0_tlsCertificate.same W18
  have F_o0_tlsKey : Fld Z h17 o0 "com/example/periwinkle/periwinkle/server/ServerSettings" "tlsKey" "Ljava/nio/file/Path;" .null := F_o0_tlsKey.other W18 (Or.inr (slot_ne (Or.inr (hw _ (List.mem_of_getElem? (i := 47) rfl))) (Or.inr (hw _ (List.mem_of_getElem? (i := 45) rfl))) (by decide) (t := (.object "java/nio/file/Path")) (t' := (.object "java/nio/file/Path")) (by decide) (by decide)))
  have F_o0_tokenLifetime : Fld Z h17 o0 "com/example/periwinkle/periwinkle/server/ServerSettings" "tokenLifetime" "Ljava/time/Duration;" .null := F_o0_tokenLifetime.other W18 (Or.inr (slot_ne (Or.inr (hw _ (List.mem_of_getElem? (i := 49) rfl))) (Or.inr (hw _ (List.mem_of_getElem? (i := 45) rfl))) (by decide) (t := (.object "java/time/Duration")) (t' := (.object "java/nio/file/Path")) (by decide) (by decide)))
  have Z0 : n0 ≤ h17.size := by rw [W18.size]; exact Z0
  have KK : Keep h0 h17 [o0] := KK.wr W18 (Or.inl (by simp))
  have A20 : own_R p l e _ _ m _ below meth c S0 n0 h17 0 0 (mkF m 19 #[.val (.ref o0), .val (.ref o1), .val (.int (9911 : Int32)), .val .null, .val .null, .val (.ref o2)] []) := A19
  have A21 := A20.go (f' := mkF m 20 #[.val (.ref o0), .val (.ref o1), .val (.int (9911 : Int32)), .val .null, .val .null, .val (.ref o2)] [(.ref o0)]) fun _ _ X _ k => XS.aloadN X.here hx rfl (hb hby dm6_19) rfl rfl k
  have A22 := A21.go (f' := mkF m 22 #[.val (.ref o0), .val (.ref o1), .val (.int (9911 : Int32)), .val .null, .val .null, .val (.ref o2)] [.null, (.ref o0)]) fun _ _ X _ k => XS.aload X.here hx rfl (hb hby dm6_20) rfl rfl k
  obtain ⟨h23, W24, A25⟩ := A22.putF hx hZ hown (hb hby dm6_22) (hw _ (List.mem_of_getElem? (i := 46) rfl)) F_o0_tlsKey E_o0 (Or.inr ⟨(hw _ (List.mem_of_getElem? (i := 47) rfl)), rfl, hnm⟩) (hw _ (List.mem_of_getElem? (i := 2) rfl)) (ty := (.object "java/nio/file/Path")) (by decide) rfl rfl g_o0
  have E_o0 : Exa Z h23 o0 "com/example/periwinkle/periwinkle/server/ServerSettings" := E_o0.wr W24
  have F_o0_host : Fld Z h23 o0 "com/example/periwinkle/periwinkle/server/ServerSettings" "host" "Ljava/lang/String;" (.ref o1) := F_o0_host.other W24 (Or.inr (slot_ne (Or.inr (hw _ (List.mem_of_getElem? (i := 41) rfl))) (Or.inr (hw _ (List.mem_of_getElem? (i := 47) rfl))) (by decide) (t := (.object "java/lang/String")) (t' := (.object "java/nio/file/Path")) (by decide) (by decide)))
  have F_o0_port : Fld Z h23 o0 "com/example/periwinkle/periwinkle/server/ServerSettings" "port" "I" (.int (9911 : Int32)) := F_o0_port.other W24 (Or.inr (slot_ne (Or.inr (hw _ (List.mem_of_getElem? (i := 43) rfl))) (Or.inr (hw _ (List.mem_of_getElem? (i := 47) rfl))) (by decide) (t := .int) (t' := (.object "java/nio/file/Path")) (by decide) (by decide)))
  have F_o0_tlsCertificate : Fld Z h23 o0 "com/example/periwinkle/periwinkle/server/ServerSettings" "tlsCertificate" "Ljava/nio/file/Path;" .null := F_o0_tlsCertificate.other W24 (Or.inr (slot_ne (Or.inr (hw _ (List.mem_of_getElem? (i := 45) rfl))) (Or.inr (hw _ (List.mem_of_getElem? (i := 47) rfl))) (by decide) (t := (.object "java/nio/file/Path")) (t' := (.object "java/nio/file/Path")) (by decide) (by decide)))
  have F_o0_tlsKey : Fld Z h23 o0 "com/example/periwinkle/periwinkle/server/ServerSettings" "tlsKey" "Ljava/nio/file/Path;" .null := F_o0_tlsKey.same W24
  have F_o0_tokenLifetime : Fld Z h23 o0 "com/example/periwinkle/periwinkle/server/ServerSettings" "tokenLifetime" "Ljava/time/Duration;" .null := F_o0_tokenLifetime.other W24 (Or.inr (slot_ne (Or.inr (hw _ (List.mem_of_getElem? (i := 49) rfl))) (Or.inr (hw _ (List.mem_of_getElem? (i := 47) rfl))) (by decide) (t := (.object "java/time/Duration")) (t' := (.object "java/nio/file/Path")) (by decide) (by decide)))
  have Z0 : n0 ≤ h23.size := by rw [W24.size]; exact Z0
  have KK : Keep h0 h23 [o0] := KK.wr W24 (Or.inl (by simp))
  have A26 : own_R p l e _ _ m _ below meth c S0 n0 h23 0 0 (mkF m 25 #[.val (.ref o0), .val (.ref o1), .val (.int (9911 : Int32)), .val .null, .val .null, .val (.ref o2)] []) := A25
  have A27 := A26.go (f' := mkF m 26 #[.val (.ref o0), .val (.ref o1), .val (.int (9911 : Int32)), .val .null, .val .null, .val (.ref o2)] [(.ref o0)]) fun _ _ X _ k => XS.aloadN X.here hx rfl (hb hby dm6_25) rfl rfl k
  have A28 := A27.go (f' := mkF m 28 #[.val (.ref o0), .val (.ref o1), .val (.int (9911 : Int32)), .val .null, .val .null, .val (.ref o2)] [(.ref o2), (.ref o0)]) fun _ _ X _ k => XS.aload X.here hx rfl (hb hby dm6_26) rfl rfl k
  obtain ⟨h29, W30, A31⟩ := A28.putF hx hZ hown (hb hby dm6_28) (hw _ (List.mem_of_getElem? (i := 48) rfl)) F_o0_tokenLifetime E_o0 (Or.inr ⟨(hw _ (List.mem_of_getElem? (i := 49) rfl)), rfl, hnm⟩) (hw _ (List.mem_of_getElem? (i := 2) rfl)) (ty := (.object "java/time/Duration")) (by decide) rfl rfl g_o0
  have E_o0 : Exa Z h29 o0 "com/example/periwinkle/periwinkle/server/ServerSettings" := E_o0.wr W30
  have F_o0_host : Fld Z h29 o0 "com/example/periwinkle/periwinkle/server/ServerSettings" "host" "Ljava/lang/String;" (.ref o1) := F_o0_host.other W30 (Or.inr (slot_ne (Or.inr (hw _ (List.mem_of_getElem? (i := 41) rfl))) (Or.inr (hw _ (List.mem_of_getElem? (i := 49) rfl))) (by decide) (t := (.object "java/lang/String")) (t' := (.object "java/time/Duration")) (by decide) (by decide)))
  have F_o0_port : Fld Z h29 o0 "com/example/periwinkle/periwinkle/server/ServerSettings" "port" "I" (.int (9911 : Int32)) := F_o0_port.other W30 (Or.inr (slot_ne (Or.inr (hw _ (List.mem_of_getElem? (i := 43) rfl))) (Or.inr (hw _ (List.mem_of_getElem? (i := 49) rfl))) (by decide) (t := .int) (t' := (.object "java/time/Duration")) (by decide) (by decide)))
  have F_o0_tlsCertificate : Fld Z h29 o0 "com/example/periwinkle/periwinkle/server/ServerSettings" "tlsCertificate" "Ljava/nio/file/Path;" .null := F_o0_tlsCertificate.other W30 (Or.inr (slot_ne (Or.inr (hw _ (List.mem_of_getElem? (i := 45) rfl))) (Or.inr (hw _ (List.mem_of_getElem? (i := 49) rfl))) (by decide) (t := (.object "java/nio/file/Path")) (t' := (.object "java/time/Duration")) (by decide) (by decide)))
  have F_o0_tlsKey : Fld Z h29 o0 "com/example/periwinkle/periwinkle/server/ServerSettings" "tlsKey" "Ljava/nio/file/Path;" .null := F_o0_tlsKey.other W30 (Or.inr (slot_ne (Or.inr (hw _ (List.mem_of_getElem? (i := 47) rfl))) (Or.inr (hw _ (List.mem_of_getElem? (i := 49) rfl))) (by decide) (t := (.object "java/nio/file/Path")) (t' := (.object "java/time/Duration")) (by decide) (by decide)))
  have F_o0_tokenLifetime : Fld Z h29 o0 "com/example/periwinkle/periwinkle/server/ServerSettings" "tokenLifetime" "Ljava/time/Duration;" (.ref o2) := F_o0_tokenLifetime.same W30
  have Z0 : n0 ≤ h29.size := by rw [W30.size]; exact Z0
  have KK : Keep h0 h29 [o0] := KK.wr W30 (Or.inl (by simp))
  have A32 : own_R p l e _ _ m _ below meth c S0 n0 h29 0 0 (mkF m 31 #[.val (.ref o0), .val (.ref o1), .val (.int (9911 : Int32)), .val .null, .val .null, .val (.ref o2)] []) := A31
  exact A32.retV hx hlk hret (hb hby dm6_31) (by decide) (by decide) ⟨rfl, KK, F_o0_host, F_o0_port, F_o0_tlsCertificate, F_o0_tlsKey, F_o0_tokenLifetime⟩
theorem ef_own_c10 (m : MethodId) (o0 : Addr) : entryFrame m #[(.ref o0)] 1 = mkF m 0 #[.val (.ref o0)] [] := by first | (simp [entryFrame, mkF, argsToLocals, Value.category, maxLocals]; done) | rfl
set_option maxRecDepth 65536 in
set_option maxHeartbeats 40000000 in
theorem own_c10 (l : Launch) (Z : State) (a0 : Array Value) (hw : ∀ d ∈ tables_1, d.before a0 Z = true) (o0 : Addr) (h0 : Heap) (n0 : Nat) (Z0 : n0 ≤ h0.size) (hEL : EW Z a0 own_EL) (own_wS : ∀ a ∈ Bundle.stringAtoms, a.before a0 Z = true) (E_o0 : Exa Z h0 o0 "com/example/periwinkle/periwinkle/server/ServerSettings") (F_o0_host : Fld Z h0 o0 "com/example/periwinkle/periwinkle/server/ServerSettings" "host" "Ljava/lang/String;" .null) (F_o0_port : Fld Z h0 o0 "com/example/periwinkle/periwinkle/server/ServerSettings" "port" "I" (.int (0 : Int32))) (F_o0_tlsCertificate : Fld Z h0 o0 "com/example/periwinkle/periwinkle/server/ServerSettings" "tlsCertificate" "Ljava/nio/file/Path;" .null) (F_o0_tlsKey : Fld Z h0 o0 "com/example/periwinkle/periwinkle/server/ServerSettings" "tlsKey" "Ljava/nio/file/Path;" .null) (F_o0_tokenLifetime : Fld Z h0 o0 "com/example/periwinkle/periwinkle/server/ServerSettings" "tokenLifetime" "Ljava/time/Duration;" .null) (g_o0 : n0 ≤ o0) :
    own_MS l Z own_EL (⟨"com/example/periwinkle/periwinkle/server/ServerSettings", "<init>", "()V"⟩ : MethodName) prog_37_method_1_code 1 none [] ({ frames := 4, cells := 3, slots := 42, locals := 60 } : Room) #[(.ref o0)] h0 n0 (fun v h => ∃ x1 x3 x2 : Addr, v = none ∧ Keep h0 h [o0] ∧ h0.size ≤ x3 ∧ x3 ≠ x1 ∧ x2 ≠ x3 ∧ x1 ≠ o0 ∧ x2 ≠ o0 ∧ Fld Z h o0 "com/example/periwinkle/periwinkle/server/ServerSettings" "host" "Ljava/lang/String;" (.ref x1) ∧ Fld Z h o0 "com/example/periwinkle/periwinkle/server/ServerSettings" "port" "I" (.int (9911 : Int32)) ∧ Fld Z h o0 "com/example/periwinkle/periwinkle/server/ServerSettings" "tlsCertificate" "Ljava/nio/file/Path;" .null ∧ Fld Z h o0 "com/example/periwinkle/periwinkle/server/ServerSettings" "tlsKey" "Ljava/nio/file/Path;" .null ∧ Fld Z h o0 "com/example/periwinkle/periwinkle/server/ServerSettings" "tokenLifetime" "Ljava/time/Duration;" (.ref x3) ∧ Exa Z h x1 "java/lang/String" ∧ Fld Z h x1 "java/lang/String" "coder" "B" (.int (0 : Int32)) ∧ Fld Z h x1 "java/lang/String" "value" "[B" (.ref x2) ∧ Exa Z h x3 "java/time/Duration" ∧ Fld Z h x3 "java/time/Duration" "seconds" "J" (.long (3600 : Int64)) ∧ Fld Z h x3 "java/time/Duration" "nanos" "I" (.int (0 : Int32)) ∧ own_Ar Z h x2 .byte [(.int (49 : Int32)), (.int (50 : Int32)), (.int (55 : Int32)), (.int (46 : Int32)), (.int (48 : Int32)), (.int (46 : Int32)), (.int (48 : Int32)), (.int (46 : Int32)), (.int (49 : Int32))]) := by
  refine own_MS.of (plainFor_of_name (by first | (simp [plainName, overriddenIn]; done) | decide +kernel)) ?_
  intro p e s m below meth c S0 vm0 k0 hx hby hml hown hnm hret hlk hZ hS hk HC A00
  have A0 := A00.cast (ef_own_c10 m o0)
  have KK : Keep h0 h0 ([o0] : List Addr) := Keep.refl _ _
  have A1 := A0.go (f' := mkF m 1 #[.val (.ref o0)] [(.ref o0)]) fun _ _ X _ k => XS.aloadN X.here hx rfl (hb hby dm1_0) rfl rfl k
  obtain ⟨x1, x2, vmA4, kA4, h2, E3, E_x1, F_x1_coder, F_x1_value, V_x2, ns_x1, hS, hk, hZ, hown, HCs, hLA4, A4⟩ := A1.ldcS hx hZ hown (hb hby dm1_1) (hw _ (List.mem_of_getElem? (i := 7) rfl)) own_wS hS hk hEL (by simp +decide [own_EL]) (CHr.refl HC.1) (vs := [(.int (49 : Int32)), (.int (50 : Int32)), (.int (55 : Int32)), (.int (46 : Int32)), (.int (48 : Int32)), (.int (46 : Int32)), (.int (48 : Int32)), (.int (46 : Int32)), (.int (49 : Int32))]) (z := (9 : Int32)) ⟨by decide, by decide⟩ (by decide) (by decide) (n := 36) (by decide) (by decide) (by decide) (by decide)
  have HC := HC.trans HCs
  have E_o0 : Exa Z h2 o0 "com/example/periwinkle/periwinkle/server/ServerSettings" := E_o0.ext E3
  have F_o0_host : Fld Z h2 o0 "com/example/periwinkle/periwinkle/server/ServerSettings" "host" "Ljava/lang/String;" .null := F_o0_host.ext E3
  have F_o0_port : Fld Z h2 o0 "com/example/periwinkle/periwinkle/server/ServerSettings" "port" "I" (.int (0 : Int32)) := F_o0_port.ext E3
  have F_o0_tlsCertificate : Fld Z h2 o0 "com/example/periwinkle/periwinkle/server/ServerSettings" "tlsCertificate" "Ljava/nio/file/Path;" .null := F_o0_tlsCertificate.ext E3
  have F_o0_tlsKey : Fld Z h2 o0 "com/example/periwinkle/periwinkle/server/ServerSettings" "tlsKey" "Ljava/nio/file/Path;" .null := F_o0_tlsKey.ext E3
  have F_o0_tokenLifetime : Fld Z h2 o0 "com/example/periwinkle/periwinkle/server/ServerSettings" "tokenLifetime" "Ljava/time/Duration;" .null := F_o0_tokenLifetime.ext E3
  have Z0 : n0 ≤ h2.size := Nat.le_trans Z0 E3.1
  have KK : Keep h0 h2 [o0] := KK.ext E3
  have SX_o0 : Safe Z own_EL _ h2 o0 := Safe.exa hZ.alike E_o0 (by decide) (by decide)
  have ne_o0_x1 : o0 ≠ x1 := (ns_x1 _ SX_o0).1
  have ne_x1_o0 := Ne.symm ne_o0_x1
  have ne_o0_x2 : o0 ≠ x2 := (ns_x1 _ SX_o0).2
  have ne_x2_o0 := Ne.symm ne_o0_x2
  have A5 : own_R p l e _ _ m _ below meth c S0 n0 h2 2 40 (mkF m 3 #[.val (.ref o0)] [(.ref x1), (.ref o0)]) := A4
  have A6 := A5.go (f' := mkF m 6 #[.val (.ref o0)] [(.int (9911 : Int32)), (.ref x1), (.ref o0)]) fun _ _ X _ k => XS.sipush X.here hx rfl (hb hby dm1_3) k
  have A7 := A6.go (f' := mkF m 7 #[.val (.ref o0)] [.null, (.int (9911 : Int32)), (.ref x1), (.ref o0)]) fun _ _ X _ k => XS.aconstNull X.here hx rfl (hb hby dm1_6) k
  have A8 := A7.go (f' := mkF m 8 #[.val (.ref o0)] [.null, .null, (.int (9911 : Int32)), (.ref x1), (.ref o0)]) fun _ _ X _ k => XS.aconstNull X.here hx rfl (hb hby dm1_7) k
  have A9 : own_R p l e _ _ m _ below meth c S0 n0 h2 2 40 (mkF m 11 #[.val (.ref o0)] [(.long (3600 : Int64)), .null, .null, (.int (9911 : Int32)), (.ref x1), (.ref o0)]) := A8.ldcL hx hZ hown (hb hby dm1_8) (hw _ (List.mem_of_getElem? (i := 15) rfl))
  obtain ⟨vA10, hA10, ⟨x3, rfl, KA10, zz_x3, P_E_x3, P_F_x3_seconds, P_F_x3_nanos⟩, A10⟩ := A9.callS (own_c7 l Z a0 hw h2 n0 Z0) hx hZ hown (hb hby dm1_11) (hw _ (List.mem_of_getElem? (i := 16) rfl)) (hw _ (List.mem_of_getElem? (i := 17) rfl)) (hw _ (List.mem_of_getElem? (i := 18) rfl)) (hw _ (List.mem_of_getElem? (i := 19) rfl)) ⟨by decide, by decide⟩ (lenOf pd__28J_29Ljava_2ftime_2fDuration_3b rfl) (argsL := [(.long (3600 : Int64))]) (rest := [.null, .null, (.int (9911 : Int32)), (.ref x1), (.ref o0)]) rfl rfl (by rw [hml]; rfl) (W := 5) (Nat.le_of_eq rfl) (by decide) (by decide) (by decide) (by decide)
  have ne_o0_x3 : o0 ≠ x3 := Nat.ne_of_lt (Nat.lt_of_lt_of_le E_o0.lt zz_x3)
  have ne_x3_o0 := Ne.symm ne_o0_x3
  have ne_x1_x3 : x1 ≠ x3 := Nat.ne_of_lt (Nat.lt_of_lt_of_le E_x1.lt zz_x3)
  have ne_x3_x1 := Ne.symm ne_x1_x3
  have ne_x2_x3 : x2 ≠ x3 := Nat.ne_of_lt (Nat.lt_of_lt_of_le V_x2.lt zz_x3)
  have ne_x3_x2 := Ne.symm ne_x2_x3
  have g_x3 : n0 ≤ x3 := Nat.le_trans Z0 zz_x3
  have sz_x3 : h0.size ≤ x3 := Nat.le_trans KK.1 zz_x3
  have hsA : ∀ x ∈ ([] : List Addr), Safe Z own_EL vmA4 h2 x := all0
  have HC := HC.trans (CHr.keep KA10 hsA HC.1)
  have hk := Nat.le_trans hk KA10.1
  have E_o0 : Exa Z hA10 o0 "com/example/periwinkle/periwinkle/server/ServerSettings" := E_o0.keep KA10
  have F_o0_host : Fld Z hA10 o0 "com/example/periwinkle/periwinkle/server/ServerSettings" "host" "Ljava/lang/String;" .null := F_o0_host.keep KA10 nin0
  have F_o0_port : Fld Z hA10 o0 "com/example/periwinkle/periwinkle/server/ServerSettings" "port" "I" (.int (0 : Int32)) := F_o0_port.keep KA10 nin0
  have F_o0_tlsCertificate : Fld Z hA10 o0 "com/example/periwinkle/periwinkle/server/ServerSettings" "tlsCertificate" "Ljava/nio/file/Path;" .null := F_o0_tlsCertificate.keep KA10 nin0
  have F_o0_tlsKey : Fld Z hA10 o0 "com/example/periwinkle/periwinkle/server/ServerSettings" "tlsKey" "Ljava/nio/file/Path;" .null := F_o0_tlsKey.keep KA10 nin0
  have F_o0_tokenLifetime : Fld Z hA10 o0 "com/example/periwinkle/periwinkle/server/ServerSettings" "tokenLifetime" "Ljava/time/Duration;" .null := F_o0_tokenLifetime.keep KA10 nin0
  have E_x1 : Exa Z hA10 x1 "java/lang/String" := E_x1.keep KA10
  have F_x1_coder : Fld Z hA10 x1 "java/lang/String" "coder" "B" (.int (0 : Int32)) := F_x1_coder.keep KA10 nin0
  have F_x1_value : Fld Z hA10 x1 "java/lang/String" "value" "[B" (.ref x2) := F_x1_value.keep KA10 nin0
  have V_x2 : own_Ar Z hA10 x2 .byte [(.int (49 : Int32)), (.int (50 : Int32)), (.int (55 : Int32)), (.int (46 : Int32)), (.int (48 : Int32)), (.int (46 : Int32)), (.int (48 : Int32)), (.int (46 : Int32)), (.int (49 : Int32))] := V_x2.keep KA10 nin0
  have Z0 : n0 ≤ hA10.size := Nat.le_trans Z0 KA10.1
  have KK : Keep h0 hA10 [o0] := KK.trans KA10 all0
  have E_x3 : Exa Z hA10 x3 "java/time/Duration" := P_E_x3
  have F_x3_seconds : Fld Z hA10 x3 "java/time/Duration" "seconds" "J" (.long (3600 : Int64)) := P_F_x3_seconds
  have F_x3_nanos : Fld Z hA10 x3 "java/time/Duration" "nanos" "I" (.int (0 : Int32)) := P_F_x3_nanos
  have A11 : own_R p l e _ _ m _ below meth c S0 n0 hA10 3 42 (mkF m 14 #[.val (.ref o0)] [(.ref x3), .null, .null, (.int (9911 : Int32)), (.ref x1), (.ref o0)]) := A10
  obtain ⟨vA12, hA12, ⟨rfl, KA12, P_F_o0_host, P_F_o0_port, P_F_o0_tlsCertificate, P_F_o0_tlsKey, P_F_o0_tokenLifetime⟩, A12⟩ := A11.callI (b := o0) (own_c9 l Z a0 hw o0 x1 x3 hA10 n0 Z0 E_o0 F_o0_host F_o0_port F_o0_tlsCertificate F_o0_tlsKey F_o0_tokenLifetime g_o0) hx hZ hown (hb hby dm1_14) rfl (hw _ (List.mem_of_getElem? (i := 36) rfl)) (hw _ (List.mem_of_getElem? (i := 37) rfl)) (hw _ (List.mem_of_getElem? (i := 38) rfl)) (hw _ (List.mem_of_getElem? (i := 3) rfl)) ⟨by decide, by decide⟩ (lenOf pd__28Ljava_2flang_2fString_3bILjava_2fnio_2ffile_2fPath_3bLjava_2fnio_2ffile_2fPath_3bLjava_2ftime_2fDuration_3b_29V rfl) (argsL := [(.ref x1), (.int (9911 : Int32)), .null, .null, (.ref x3)]) (rest := []) rfl rfl (by rw [hml]; rfl) (W := 0) (Nat.le_of_eq rfl) (by decide) (by decide) (by decide) (by decide)
  have SX_o0 : Safe Z own_EL _ hA10 o0 := Safe.exa hZ.alike E_o0 (by decide) (by decide)
  have hsA : ∀ x ∈ ([o0] : List Addr), Safe Z own_EL vmA4 hA10 x := (allS SX_o0 all0)
  have HC := HC.trans (CHr.keep KA12 hsA HC.1)
  have hk := Nat.le_trans hk KA12.1
  have E_o0 : Exa Z hA12 o0 "com/example/periwinkle/periwinkle/server/ServerSettings" := E_o0.keep KA12
  have E_x1 : Exa Z hA12 x1 "java/lang/String" := E_x1.keep KA12
  have F_x1_coder : Fld Z hA12 x1 "java/lang/String" "coder" "B" (.int (0 : Int32)) := F_x1_coder.keep KA12 (ninS ne_x1_o0 nin0)
  have F_x1_value : Fld Z hA12 x1 "java/lang/String" "value" "[B" (.ref x2) := F_x1_value.keep KA12 (ninS ne_x1_o0 nin0)
  have V_x2 : own_Ar Z hA12 x2 .byte [(.int (49 : Int32)), (.int (50 : Int32)), (.int (55 : Int32)), (.int (46 : Int32)), (.int (48 : Int32)), (.int (46 : Int32)), (.int (48 : Int32)), (.int (46 : Int32)), (.int (49 : Int32))] := V_x2.keep KA12 (ninS ne_x2_o0 nin0)
  have E_x3 : Exa Z hA12 x3 "java/time/Duration" := E_x3.keep KA12
  have F_x3_seconds : Fld Z hA12 x3 "java/time/Duration" "seconds" "J" (.long (3600 : Int64)) := F_x3_seconds.keep KA12 (ninS ne_x3_o0 nin0)
  have F_x3_nanos : Fld Z hA12 x3 "java/time/Duration" "nanos" "I" (.int (0 : Int32)) := F_x3_nanos.keep KA12 (ninS ne_x3_o0 nin0)
  have Z0 : n0 ≤ hA12.size := Nat.le_trans Z0 KA12.1
  have KK : Keep h0 hA12 [o0] := KK.trans KA12 (allS (P := fun x => x ∈ ([o0] : List Addr) ∨ h0.size ≤ x) (Or.inl (by simp)) all0)
  have F_o0_host : Fld Z hA12 o0 "com/example/periwinkle/periwinkle/server/ServerSettings" "host" "Ljava/lang/String;" (.ref x1) := P_F_o0_host
  have F_o0_port : Fld Z hA12 o0 "com/example/periwinkle/periwinkle/server/ServerSettings" "port" "I" (.int (9911 : Int32)) := P_F_o0_port
  have F_o0_tlsCertificate : Fld Z hA12 o0 "com/example/periwinkle/periwinkle/server/ServerSettings" "tlsCertificate" "Ljava/nio/file/Path;" .null := P_F_o0_tlsCertificate
  have F_o0_tlsKey : Fld Z hA12 o0 "com/example/periwinkle/periwinkle/server/ServerSettings" "tlsKey" "Ljava/nio/file/Path;" .null := P_F_o0_tlsKey
  have F_o0_tokenLifetime : Fld Z hA12 o0 "com/example/periwinkle/periwinkle/server/ServerSettings" "tokenLifetime" "Ljava/time/Duration;" (.ref x3) := P_F_o0_tokenLifetime
  have A13 : own_R p l e _ _ m _ below meth c S0 n0 hA12 3 42 (mkF m 17 #[.val (.ref o0)] []) := A12
  exact A13.retVS hx hlk hZ hS hk hEL HC hret (hb hby dm1_17) (by decide) (by decide) ⟨x1, x3, x2, rfl, KK, sz_x3, ne_x3_x1, ne_x2_x3, ne_x1_o0, ne_x2_o0, F_o0_host, F_o0_port, F_o0_tlsCertificate, F_o0_tlsKey, F_o0_tokenLifetime, E_x1, F_x1_coder, F_x1_value, E_x3, F_x3_seconds, F_x3_nanos, V_x2⟩
theorem ef_own_c13 (m : MethodId) (j0 : Int32) : entryFrame m #[(.int j0)] 1 = mkF m 0 #[.val (.int j0)] [] := by first | (simp [entryFrame, mkF, argsToLocals, Value.category, maxLocals]; done) | rfl
set_option maxRecDepth 65536 in
set_option maxHeartbeats 40000000 in
theorem own_c13 (l : Launch) (Z : State) (a0 : Array Value) (hw : ∀ d ∈ tables_1, d.before a0 Z = true) (j0 : Int32) (h0 : Heap) (n0 : Nat) (Z0 : n0 ≤ h0.size) (hj0 : ¬ (j0 < (0 : Int32))) (hj1 : ¬ ((65535 : Int32) < j0)) :
    own_M l Z (⟨"com/example/periwinkle/periwinkle/server/ServerSettings", "checkPort", "(I)V"⟩ : MethodName) prog_37_method_8_code 1 none [] ({ frames := 0, cells := 0, slots := 0, locals := 0 } : Room) #[(.int j0)] h0 n0 (fun v h => v = none ∧ h0 = h) := by
  refine own_M.of (plainFor_of_name (by first | (simp [plainName, overriddenIn]; done) | decide +kernel)) ?_
  intro p e s m below meth c S0 hx hby hml hown hnm hret hlk hZ A00
  have A0 := A00.cast (ef_own_c13 m j0)
  have KK : Keep h0 h0 ([] : List Addr) := Keep.refl _ _
  have A1 := A0.go (f' := mkF m 1 #[.val (.int j0)] [(.int j0)]) fun _ _ X _ k => XS.iloadN X.here hx rfl (hb hby dm8_0) rfl k
  have A2 := A1.go (f' := mkF m 4 #[.val (.int j0)] []) fun _ _ X _ k => XS.ifNo X.here hx rfl (hb hby dm8_1) rfl ((if0 _ _).trans (flt hj0).1) k
  have A3 := A2.go (f' := mkF m 5 #[.val (.int j0)] [(.int j0)]) fun _ _ X _ k => XS.iloadN X.here hx rfl (hb hby dm8_4) rfl k
  have A4 : own_R p l e _ _ m _ below meth c S0 n0 h0 0 0 (mkF m 7 #[.val (.int j0)] [(.int (65535 : Int32)), (.int j0)]) := A3.ldcI hx hZ hown (hb hby dm8_5) (hw _ (List.mem_of_getElem? (i := 58) rfl))
  have A5 := A4.go (f' := mkF m 37 #[.val (.int j0)] []) fun _ _ X _ k => XS.icmpYes X.here hx rfl (pc0 := 7) (pc' := 37) rfl (hb hby dm8_7) rfl ((flt hj1).2.2.2) (by decide) (by decide) k
  exact A5.retV hx hlk hret (hb hby dm8_37) (by decide) (by decide) ⟨rfl, rfl⟩
theorem ef_own_c15 (m : MethodId) (o0 : Addr) (o1 : Addr) (j0 : Int32) (o2 : Addr) : entryFrame m #[(.ref o0), (.ref o1), (.int j0), .null, .null, (.ref o2)] 6 = mkF m 0 #[.val (.ref o0), .val (.ref o1), .val (.int j0), .val .null, .val .null, .val (.ref o2)] [] := by first | (simp [entryFrame, mkF, argsToLocals, Value.category, maxLocals]; done) | rfl
set_option maxRecDepth 65536 in
set_option maxHeartbeats 40000000 in
theorem own_c15 (l : Launch) (Z : State) (a0 : Array Value) (hw : ∀ d ∈ tables_1, d.before a0 Z = true) (o0 o1 o2 : Addr) (j0 : Int32) (h0 : Heap) (n0 : Nat) (Z0 : n0 ≤ h0.size) (E_o0 : Exa Z h0 o0 "com/example/periwinkle/periwinkle/server/ServerSettings") (F_o0_host : Fld Z h0 o0 "com/example/periwinkle/periwinkle/server/ServerSettings" "host" "Ljava/lang/String;" .null) (F_o0_port : Fld Z h0 o0 "com/example/periwinkle/periwinkle/server/ServerSettings" "port" "I" (.int (0 : Int32))) (F_o0_tlsCertificate : Fld Z h0 o0 "com/example/periwinkle/periwinkle/server/ServerSettings" "tlsCertificate" "Ljava/nio/file/Path;" .null) (F_o0_tlsKey : Fld Z h0 o0 "com/example/periwinkle/periwinkle/server/ServerSettings" "tlsKey" "Ljava/nio/file/Path;" .null) (F_o0_tokenLifetime : Fld Z h0 o0 "com/example/periwinkle/periwinkle/server/ServerSettings" "tokenLifetime" "Ljava/time/Duration;" .null) (g_o0 : n0 ≤ o0) :
    own_M l Z (⟨"com/example/periwinkle/periwinkle/server/ServerSettings", "<init>", "(Ljava/lang/String;ILjava/nio/file/Path;Ljava/nio/file/Path;Ljava/time/Duration;)V"⟩ : MethodName) prog_37_method_2_code 6 none [] ({ frames := 1, cells := 0, slots := 0, locals := 12 } : Room) #[(.ref o0), (.ref o1), (.int j0), .null, .null, (.ref o2)] h0 n0 (fun v h => v = none ∧ Keep h0 h [o0] ∧ Fld Z h o0 "com/example/periwinkle/periwinkle/server/ServerSettings" "host" "Ljava/lang/String;" (.ref o1) ∧ Fld Z h o0 "com/example/periwinkle/periwinkle/server/ServerSettings" "port" "I" (.int j0) ∧ Fld Z h o0 "com/example/periwinkle/periwinkle/server/ServerSettings" "tlsCertificate" "Ljava/nio/file/Path;" .null ∧ Fld Z h o0 "com/example/periwinkle/periwinkle/server/ServerSettings" "tlsKey" "Ljava/nio/file/Path;" .null ∧ Fld Z h o0 "com/example/periwinkle/periwinkle/server/ServerSettings" "tokenLifetime" "Ljava/time/Duration;" (.ref o2)) := by
  refine own_M.of (plainFor_of_name (by first | (simp [plainName, overriddenIn]; done) | decide +kernel)) ?_
  intro p e s m below meth c S0 hx hby hml hown hnm hret hlk hZ A00
  have A0 := A00.cast (ef_own_c15 m o0 o1 j0 o2)
  have KK : Keep h0 h0 ([o0] : List Addr) := Keep.refl _ _
  have A1 := A0.go (f' := mkF m 1 #[.val (.ref o0), .val (.ref o1), .val (.int j0), .val .null, .val .null, .val (.ref o2)] [(.ref o0)]) fun _ _ X _ k => XS.aloadN X.here hx rfl (hb hby dm6_0) rfl rfl k
  have A2 : own_R p l e _ _ m _ below meth c S0 n0 h0 0 0 (mkF m 4 #[.val (.ref o0), .val (.ref o1), .val (.int j0), .val .null, .val .null, .val (.ref o2)] []) := A1.initO hx hZ hown (hb hby dm6_1) (hw _ (List.mem_of_getElem? (i := 39) rfl)) (hw _ (List.mem_of_getElem? (i := 30) rfl)) (hw _ (List.mem_of_getElem? (i := 31) rfl)) (by rw [hml]; rfl) (W := 0) (Nat.le_of_eq rfl) (by decide) (by decide)
  have A3 := A2.go (f' := mkF m 5 #[.val (.ref o0), .val (.ref o1), .val (.int j0), .val .null, .val .null, .val (.ref o2)] [(.ref o0)]) fun _ _ X _ k => XS.aloadN X.here hx rfl (hb hby dm6_4) rfl rfl k
  have A4 := A3.go (f' := mkF m 6 #[.val (.ref o0), .val (.ref o1), .val (.int j0), .val .null, .val .null, .val (.ref o2)] [(.ref o1), (.ref o0)]) fun _ _ X _ k => XS.aloadN X.here hx rfl (hb hby dm6_5) rfl rfl k
  obtain ⟨h5, W6, A7⟩ := A4.putF hx hZ hown (hb hby dm6_6) (hw _ (List.mem_of_getElem? (i := 40) rfl)) F_o0_host E_o0 (Or.inr ⟨(hw _ (List.mem_of_getElem? (i := 41) rfl)), rfl, hnm⟩) (hw _ (List.mem_of_getElem? (i := 2) rfl)) (ty := (.object "java/lang/String")) (by decide) rfl rfl g_o0
  have E_o0 : Exa Z h5 o0 "com/example/periwinkle/periwinkle/server/ServerSettings" := E_o0.wr W6
  have F_o0_host : Fld Z h5 o0 "com/example/periwinkle/periwinkle/server/ServerSettings" "host" "Ljava/lang/String;" (.ref o1) := F_o0_host.same W6
  have F_o0_port : Fld Z h5 o0 "com/example/periwinkle/periwinkle/server/ServerSettings" "port" "I" (.int (0 : Int32)) := F_o0_port.other W6 (Or.inr (slot_ne (Or.inr (hw _ (List.mem_of_getElem? (i := 43) rfl))) (Or.inr (hw _ (List.mem_of_getElem? (i := 41) rfl))) (by decide) (t := .int) (t' := (.object "java/lang/String")) (by decide) (by decide)))
  have F_o0_tlsCertificate : Fld Z h5 o0 "com/example/periwinkle/periwinkle/server/ServerSettings" "tlsCertificate" "Ljava/nio/file/Path;" .null := F_o0_tlsCertificate.other W6 (Or.inr (slot_ne (Or.inr (hw _ (List.mem_of_getElem? (i := 45) rfl))) (Or.inr (hw _ (List.mem_of_getElem? (i := 41) rfl))) (by decide) (t := (.object "java/nio/file/Path")) (t' := (.object "java/lang/String")) (by decide) (by decide)))
  have F_o0_tlsKey : Fld Z h5 o0 "com/example/periwinkle/periwinkle/server/ServerSettings" "tlsKey" "Ljava/nio/file/Path;" .null := F_o0_tlsKey.other W6 (Or.inr (slot_ne (Or.inr (hw _ (List.mem_of_getElem? (i := 47) rfl))) (Or.inr (hw _ (List.mem_of_getElem? (i := 41) rfl))) (by decide) (t := (.object "java/nio/file/Path")) (t' := (.object "java/lang/String")) (by decide) (by decide)))
  have F_o0_tokenLifetime : Fld Z h5 o0 "com/example/periwinkle/periwinkle/server/ServerSettings" "tokenLifetime" "Ljava/time/Duration;" .null := F_o0_tokenLifetime.other W6 (Or.inr (slot_ne (Or.inr (hw _ (List.mem_of_getElem? (i := 49) rfl))) (Or.inr (hw _ (List.mem_of_getElem? (i := 41) rfl))) (by decide) (t := (.object "java/time/Duration")) (t' := (.object "java/lang/String")) (by decide) (by decide)))
  have Z0 : n0 ≤ h5.size := by rw [W6.size]; exact Z0
  have KK : Keep h0 h5 [o0] := KK.wr W6 (Or.inl (by simp))
  have A8 : own_R p l e _ _ m _ below meth c S0 n0 h5 0 0 (mkF m 9 #[.val (.ref o0), .val (.ref o1), .val (.int j0), .val .null, .val .null, .val (.ref o2)] []) := A7
  have A9 := A8.go (f' := mkF m 10 #[.val (.ref o0), .val (.ref o1), .val (.int j0), .val .null, .val .null, .val (.ref o2)] [(.ref o0)]) fun _ _ X _ k => XS.aloadN X.here hx rfl (hb hby dm6_9) rfl rfl k
  have A10 := A9.go (f' := mkF m 11 #[.val (.ref o0), .val (.ref o1), .val (.int j0), .val .null, .val .null, .val (.ref o2)] [(.int j0), (.ref o0)]) fun _ _ X _ k => XS.iloadN X.here hx rfl (hb hby dm6_10) rfl k
  obtain ⟨h11, W12, A13⟩ := A10.putF hx hZ hown (hb hby dm6_11) (hw _ (List.mem_of_getElem? (i := 42) rfl)) F_o0_port E_o0 (Or.inr ⟨(hw _ (List.mem_of_getElem? (i := 43) rfl)), rfl, hnm⟩) (hw _ (List.mem_of_getElem? (i := 2) rfl)) (ty := .int) (by decide) rfl rfl g_o0
  have E_o0 : Exa Z h11 o0 "com/example/periwinkle/periwinkle/server/ServerSettings" := E_o0.wr W12
  have F_o0_host : Fld Z h11 o0 "com/example/periwinkle/periwinkle/server/ServerSettings" "host" "Ljava/lang/String;" (.ref o1) := F_o0_host.other W12 (Or.inr (slot_ne (Or.inr (hw _ (List.mem_of_getElem? (i := 41) rfl))) (Or.inr (hw _ (List.mem_of_getElem? (i := 43) rfl))) (by decide) (t := (.object "java/lang/String")) (t' := .int) (by decide) (by decide)))
  have F_o0_port : Fld Z h11 o0 "com/example/periwinkle/periwinkle/server/ServerSettings" "port" "I" (.int j0) := F_o0_port.same W12
  have F_o0_tlsCertificate : Fld Z h11 o0 "com/example/periwinkle/periwinkle/server/ServerSettings" "tlsCertificate" "Ljava/nio/file/Path;" .null := F_o0_tlsCertificate.other W12 (Or.inr (slot_ne (Or.inr (hw _ (List.mem_of_getElem? (i := 45) rfl))) (Or.inr (hw _ (List.mem_of_getElem? (i := 43) rfl))) (by decide) (t := (.object "java/nio/file/Path")) (t' := .int) (by decide) (by decide)))
  have F_o0_tlsKey : Fld Z h11 o0 "com/example/periwinkle/periwinkle/server/ServerSettings" "tlsKey" "Ljava/nio/file/Path;" .null := F_o0_tlsKey.other W12 (Or.inr (slot_ne (Or.inr (hw _ (List.mem_of_getElem? (i := 47) rfl))) (Or.inr (hw _ (List.mem_of_getElem? (i := 43) rfl))) (by decide) (t := (.object "java/nio/file/Path")) (t' := .int) (by decide) (by decide)))
  have F_o0_tokenLifetime : Fld Z h11 o0 "com/example/periwinkle/periwinkle/server/ServerSettings" "tokenLifetime" "Ljava/time/Duration;" .null := F_o0_tokenLifetime.other W12 (Or.inr (slot_ne (Or.inr (hw _ (List.mem_of_getElem? (i := 49) rfl))) (Or.inr (hw _ (List.mem_of_getElem? (i := 43) rfl))) (by decide) (t := (.object "java/time/Duration")) (t' := .int) (by decide) (by decide)))
  have Z0 : n0 ≤ h11.size := by rw [W12.size]; exact Z0
  have KK : Keep h0 h11 [o0] := KK.wr W12 (Or.inl (by simp))
  have A14 : own_R p l e _ _ m _ below meth c S0 n0 h11 0 0 (mkF m 14 #[.val (.ref o0), .val (.ref o1), .val (.int j0), .val .null, .val .null, .val (.ref o2)] []) := A13
  have A15 := A14.go (f' := mkF m 15 #[.val (.ref o0), .val (.ref o1), .val (.int j0), .val .null, .val .null, .val (.ref o2)] [(.ref o0)]) fun _ _ X _ k => XS.aloadN X.here hx rfl (hb hby dm6_14) rfl rfl k
  have A16 := A15.go (f' := mkF m 16 #[.val (.ref o0), .val (.ref o1), .val (.int j0), .val .null, .val .null, .val (.ref o2)] [.null, (.ref o0)]) fun _ _ X _ k => XS.aloadN X.here hx rfl (hb hby dm6_15) rfl rfl k
  obtain ⟨h17, W18, A19⟩ := A16.putF hx hZ hown (hb hby dm6_16) (hw _ (List.mem_of_getElem? (i := 44) rfl)) F_o0_tlsCertificate E_o0 (Or.inr ⟨(hw _ (List.mem_of_getElem? (i := 45) rfl)), rfl, hnm⟩) (hw _ (List.mem_of_getElem? (i := 2) rfl)) (ty := (.object "java/nio/file/Path")) (by decide) rfl rfl g_o0
  have E_o0 : Exa Z h17 o0 "com/example/periwinkle/periwinkle/server/ServerSettings" := E_o0.wr W18
  have F_o0_host : Fld Z h17 o0 "com/example/periwinkle/periwinkle/server/ServerSettings" "host" "Ljava/lang/String;" (.ref o1) := F_o0_host.other W18 (Or.inr (slot_ne (Or.inr (hw _ (List.mem_of_getElem? (i := 41) rfl))) (Or.inr (hw _ (List.mem_of_getElem? (i := 45) rfl))) (by decide) (t := (.object "java/lang/String")) (t' := (.object "java/nio/file/Path")) (by decide) (by decide)))
  have F_o0_port : Fld Z h17 o0 "com/example/periwinkle/periwinkle/server/ServerSettings" "port" "I" (.int j0) := F_o0_port.other W18 (Or.inr (slot_ne (Or.inr (hw _ (List.mem_of_getElem? (i := 43) rfl))) (Or.inr (hw _ (List.mem_of_getElem? (i := 45) rfl))) (by decide) (t := .int) (t' := (.object "java/nio/file/Path")) (by decide) (by decide)))
  have F_o0_tlsCertificate : Fld Z h17 o0 "com/example/periwinkle/periwinkle/server/ServerSettings" "tlsCertificate" "Ljava/nio/file/Path;" .null := F_o0_tlsCertificate.same W18
  have F_o0_tlsKey : Fld Z h17 o0 "com/example/periwinkle/periwinkle/server/ServerSettings" "tlsKey" "Ljava/nio/file/Path;" .null := F_o0_tlsKey.other W18 (Or.inr (slot_ne (Or.inr (hw _ (List.mem_of_getElem? (i := 47) rfl))) (Or.inr (hw _ (List.mem_of_getElem? (i := 45) rfl))) (by decide) (t := (.object "java/nio/file/Path")) (t' := (.object "java/nio/file/Path")) (by decide) (by decide)))
  have F_o0_tokenLifetime : Fld Z h17 o0 "com/example/periwinkle/periwinkle/server/ServerSettings" "tokenLifetime" "Ljava/time/Duration;" .null := F_o0_tokenLifetime.other W18 (Or.inr (slot_ne (Or.inr (hw _ (List.mem_of_getElem? (i := 49) rfl))) (Or.inr (hw _ (List.mem_of_getElem? (i := 45) rfl))) (by decide) (t := (.object "java/time/Duration")) (t' := (.object "java/nio/file/Path")) (by decide) (by decide)))
  have Z0 : n0 ≤ h17.size := by rw [W18.size]; exact Z0
  have KK : Keep h0 h17 [o0] := KK.wr W18 (Or.inl (by simp))
  have A20 : own_R p l e _ _ m _ below meth c S0 n0 h17 0 0 (mkF m 19 #[.val (.ref o0), .val (.ref o1), .val (.int j0), .val .null, .val .null, .val (.ref o2)] []) := A19
  have A21 := A20.go (f' := mkF m 20 #[.val (.ref o0), .val (.ref o1), .val (.int j0), .val .null, .val .null, .val (.ref o2)] [(.ref o0)]) fun _ _ X _ k => XS.aloadN X.here hx rfl (hb hby dm6_19) rfl rfl k
  have A22 := A21.go (f' := mkF m 22 #[.val (.ref o0), .val (.ref o1), .val (.int j0), .val .null, .val .null, .val (.ref o2)] [.null, (.ref o0)]) fun _ _ X _ k => XS.aload X.here hx rfl (hb hby dm6_20) rfl rfl k
  obtain ⟨h23, W24, A25⟩ := A22.putF hx hZ hown (hb hby dm6_22) (hw _ (List.mem_of_getElem? (i := 46) rfl)) F_o0_tlsKey E_o0 (Or.inr ⟨(hw _ (List.mem_of_getElem? (i := 47) rfl)), rfl, hnm⟩) (hw _ (List.mem_of_getElem? (i := 2) rfl)) (ty := (.object "java/nio/file/Path")) (by decide) rfl rfl g_o0
  have E_o0 : Exa Z h23 o0 "com/example/periwinkle/periwinkle/server/ServerSettings" := E_o0.wr W24
  have F_o0_host : Fld Z h23 o0 "com/example/periwinkle/periwinkle/server/ServerSettings" "host" "Ljava/lang/String;" (.ref o1) := F_o0_host.other W24 (Or.inr (slot_ne (Or.inr (hw _ (List.mem_of_getElem? (i := 41) rfl))) (Or.inr (hw _ (List.mem_of_getElem? (i := 47) rfl))) (by decide) (t := (.object "java/lang/String")) (t' := (.object "java/nio/file/Path")) (by decide) (by decide)))
  have F_o0_port : Fld Z h23 o0 "com/example/periwinkle/periwinkle/server/ServerSettings" "port" "I" (.int j0) := F_o0_port.other W24 (Or.inr (slot_ne (Or.inr (hw _ (List.mem_of_getElem? (i := 43) rfl))) (Or.inr (hw _ (List.mem_of_getElem? (i := 47) rfl))) (by decide) (t := .int) (t' := (.object "java/nio/file/Path")) (by decide) (by decide)))
  have F_o0_tlsCertificate : Fld Z h23 o0 "com/example/periwinkle/periwinkle/server/ServerSettings" "tlsCertificate" "Ljava/nio/file/Path;" .null := F_o0_tlsCertificate.other W24 (Or.inr (slot_ne (Or.inr (hw _ (List.mem_of_getElem? (i := 45) rfl))) (Or.inr (hw _ (List.mem_of_getElem? (i := 47) rfl))) (by decide) (t := (.object "java/nio/file/Path")) (t' := (.object "java/nio/file/Path")) (by decide) (by decide)))
  have F_o0_tlsKey : Fld Z h23 o0 "com/example/periwinkle/periwinkle/server/ServerSettings" "tlsKey" "Ljava/nio/file/Path;" .null := F_o0_tlsKey.same W24
  have F_o0_tokenLifetime : Fld Z h23 o0 "com/example/periwinkle/periwinkle/server/ServerSettings" "tokenLifetime" "Ljava/time/Duration;" .null := F_o0_tokenLifetime.other W24 (Or.inr (slot_ne (Or.inr (hw _ (List.mem_of_getElem? (i := 49) rfl))) (Or.inr (hw _ (List.mem_of_getElem? (i := 47) rfl))) (by decide) (t := (.object "java/time/Duration")) (t' := (.object "java/nio/file/Path")) (by decide) (by decide)))
  have Z0 : n0 ≤ h23.size := by rw [W24.size]; exact Z0
  have KK : Keep h0 h23 [o0] := KK.wr W24 (Or.inl (by simp))
  have A26 : own_R p l e _ _ m _ below meth c S0 n0 h23 0 0 (mkF m 25 #[.val (.ref o0), .val (.ref o1), .val (.int j0), .val .null, .val .null, .val (.ref o2)] []) := A25
  have A27 := A26.go (f' := mkF m 26 #[.val (.ref o0), .val (.ref o1), .val (.int j0), .val .null, .val .null, .val (.ref o2)] [(.ref o0)]) fun _ _ X _ k => XS.aloadN X.here hx rfl (hb hby dm6_25) rfl rfl k
  have A28 := A27.go (f' := mkF m 28 #[.val (.ref o0), .val (.ref o1), .val (.int j0), .val .null, .val .null, .val (.ref o2)] [(.ref o2), (.ref o0)]) fun _ _ X _ k => XS.aload X.here hx rfl (hb hby dm6_26) rfl rfl k
  obtain ⟨h29, W30, A31⟩ := A28.putF hx hZ hown (hb hby dm6_28) (hw _ (List.mem_of_getElem? (i := 48) rfl)) F_o0_tokenLifetime E_o0 (Or.inr ⟨(hw _ (List.mem_of_getElem? (i := 49) rfl)), rfl, hnm⟩) (hw _ (List.mem_of_getElem? (i := 2) rfl)) (ty := (.object "java/time/Duration")) (by decide) rfl rfl g_o0
  have E_o0 : Exa Z h29 o0 "com/example/periwinkle/periwinkle/server/ServerSettings" := E_o0.wr W30
  have F_o0_host : Fld Z h29 o0 "com/example/periwinkle/periwinkle/server/ServerSettings" "host" "Ljava/lang/String;" (.ref o1) := F_o0_host.other W30 (Or.inr (slot_ne (Or.inr (hw _ (List.mem_of_getElem? (i := 41) rfl))) (Or.inr (hw _ (List.mem_of_getElem? (i := 49) rfl))) (by decide) (t := (.object "java/lang/String")) (t' := (.object "java/time/Duration")) (by decide) (by decide)))
  have F_o0_port : Fld Z h29 o0 "com/example/periwinkle/periwinkle/server/ServerSettings" "port" "I" (.int j0) := F_o0_port.other W30 (Or.inr (slot_ne (Or.inr (hw _ (List.mem_of_getElem? (i := 43) rfl))) (Or.inr (hw _ (List.mem_of_getElem? (i := 49) rfl))) (by decide) (t := .int) (t' := (.object "java/time/Duration")) (by decide) (by decide)))
  have F_o0_tlsCertificate : Fld Z h29 o0 "com/example/periwinkle/periwinkle/server/ServerSettings" "tlsCertificate" "Ljava/nio/file/Path;" .null := F_o0_tlsCertificate.other W30 (Or.inr (slot_ne (Or.inr (hw _ (List.mem_of_getElem? (i := 45) rfl))) (Or.inr (hw _ (List.mem_of_getElem? (i := 49) rfl))) (by decide) (t := (.object "java/nio/file/Path")) (t' := (.object "java/time/Duration")) (by decide) (by decide)))
  have F_o0_tlsKey : Fld Z h29 o0 "com/example/periwinkle/periwinkle/server/ServerSettings" "tlsKey" "Ljava/nio/file/Path;" .null := F_o0_tlsKey.other W30 (Or.inr (slot_ne (Or.inr (hw _ (List.mem_of_getElem? (i := 47) rfl))) (Or.inr (hw _ (List.mem_of_getElem? (i := 49) rfl))) (by decide) (t := (.object "java/nio/file/Path")) (t' := (.object "java/time/Duration")) (by decide) (by decide)))
  have F_o0_tokenLifetime : Fld Z h29 o0 "com/example/periwinkle/periwinkle/server/ServerSettings" "tokenLifetime" "Ljava/time/Duration;" (.ref o2) := F_o0_tokenLifetime.same W30
  have Z0 : n0 ≤ h29.size := by rw [W30.size]; exact Z0
  have KK : Keep h0 h29 [o0] := KK.wr W30 (Or.inl (by simp))
  have A32 : own_R p l e _ _ m _ below meth c S0 n0 h29 0 0 (mkF m 31 #[.val (.ref o0), .val (.ref o1), .val (.int j0), .val .null, .val .null, .val (.ref o2)] []) := A31
  exact A32.retV hx hlk hret (hb hby dm6_31) (by decide) (by decide) ⟨rfl, KK, F_o0_host, F_o0_port, F_o0_tlsCertificate, F_o0_tlsKey, F_o0_tokenLifetime⟩
theorem ef_own_c16 (m : MethodId) (o0 : Addr) (j0 : Int32) : entryFrame m #[(.ref o0), (.int j0)] 2 = mkF m 0 #[.val (.ref o0), .val (.int j0)] [] := by first | (simp [entryFrame, mkF, argsToLocals, Value.category, maxLocals]; done) | rfl
set_option maxRecDepth 65536 in
set_option maxHeartbeats 40000000 in
theorem own_c16 (l : Launch) (Z : State) (a0 : Array Value) (hw : ∀ d ∈ tables_1, d.before a0 Z = true) (o0 o1 o2 : Addr) (j0 : Int32) (h0 : Heap) (n0 : Nat) (Z0 : n0 ≤ h0.size) (F_o0_host : Fld Z h0 o0 "com/example/periwinkle/periwinkle/server/ServerSettings" "host" "Ljava/lang/String;" (.ref o1)) (F_o0_tlsCertificate : Fld Z h0 o0 "com/example/periwinkle/periwinkle/server/ServerSettings" "tlsCertificate" "Ljava/nio/file/Path;" .null) (F_o0_tlsKey : Fld Z h0 o0 "com/example/periwinkle/periwinkle/server/ServerSettings" "tlsKey" "Ljava/nio/file/Path;" .null) (F_o0_tokenLifetime : Fld Z h0 o0 "com/example/periwinkle/periwinkle/server/ServerSettings" "tokenLifetime" "Ljava/time/Duration;" (.ref o2)) (hj0 : ¬ (j0 < (0 : Int32))) (hj1 : ¬ ((65535 : Int32) < j0)) :
    own_M l Z (⟨"com/example/periwinkle/periwinkle/server/ServerSettings", "withPort", "(I)Lcom/example/periwinkle/periwinkle/server/ServerSettings;"⟩ : MethodName) prog_37_method_4_code 2 (some (.object "com/example/periwinkle/periwinkle/server/ServerSettings")) [] ({ frames := 2, cells := 1, slots := 5, locals := 30 } : Room) #[(.ref o0), (.int j0)] h0 n0 (fun v h => ∃ x1 : Addr, v = some (.ref x1) ∧ Keep h0 h [] ∧ h0.size ≤ x1 ∧ Exa Z h x1 "com/example/periwinkle/periwinkle/server/ServerSettings" ∧ Fld Z h x1 "com/example/periwinkle/periwinkle/server/ServerSettings" "host" "Ljava/lang/String;" (.ref o1) ∧ Fld Z h x1 "com/example/periwinkle/periwinkle/server/ServerSettings" "port" "I" (.int j0) ∧ Fld Z h x1 "com/example/periwinkle/periwinkle/server/ServerSettings" "tlsCertificate" "Ljava/nio/file/Path;" .null ∧ Fld Z h x1 "com/example/periwinkle/periwinkle/server/ServerSettings" "tlsKey" "Ljava/nio/file/Path;" .null ∧ Fld Z h x1 "com/example/periwinkle/periwinkle/server/ServerSettings" "tokenLifetime" "Ljava/time/Duration;" (.ref o2)) := by
  refine own_M.of (plainFor_of_name (by first | (simp [plainName, overriddenIn]; done) | decide +kernel)) ?_
  intro p e s m below meth c S0 hx hby hml hown hnm hret hlk hZ A00
  have A0 := A00.cast (ef_own_c16 m o0 j0)
  have KK : Keep h0 h0 ([] : List Addr) := Keep.refl _ _
  have A1 := A0.go (f' := mkF m 1 #[.val (.ref o0), .val (.int j0)] [(.int j0)]) fun _ _ X _ k => XS.iloadN X.here hx rfl (hb hby dm7_0) rfl k
  obtain ⟨vA2, hA2, ⟨rfl, rfl⟩, A2⟩ := A1.callS (own_c13 l Z a0 hw j0 h0 n0 Z0 hj0 hj1) hx hZ hown (hb hby dm7_1) (hw _ (List.mem_of_getElem? (i := 55) rfl)) (hw _ (List.mem_of_getElem? (i := 56) rfl)) (hw _ (List.mem_of_getElem? (i := 3) rfl)) (hw _ (List.mem_of_getElem? (i := 57) rfl)) ⟨by decide, by decide⟩ (lenOf pd__28I_29V rfl) (argsL := [(.int j0)]) (rest := []) rfl rfl (by rw [hml]; rfl) (W := 0) (Nat.le_of_eq rfl) (by decide) (by decide) (by decide) (by decide)
  have A3 : own_R p l e _ _ m _ below meth c S0 n0 h0 0 0 (mkF m 4 #[.val (.ref o0), .val (.int j0)] []) := A2
  obtain ⟨h4, E5, E_x1, D_x1, A6⟩ := A3.newO hx hZ hown (hb hby dm7_4) (hw _ (List.mem_of_getElem? (i := 59) rfl)) (hw _ (List.mem_of_getElem? (i := 2) rfl)) (hw _ (List.mem_of_getElem? (i := 3) rfl)) (by decide) (by decide)
  obtain ⟨x1, gx1⟩ : ∃ z, z = h0.size := ⟨_, rfl⟩
  rw [← gx1] at E_x1 D_x1 A6
  have ne_o0_x1 : o0 ≠ x1 := by rw [gx1]; exact Nat.ne_of_lt F_o0_host.lt
  have ne_x1_o0 := Ne.symm ne_o0_x1
  have g_x1 : n0 ≤ x1 := by rw [gx1]; exact Z0
  have sz_x1 : h0.size ≤ x1 := by rw [gx1]; exact KK.1
  have F_o0_host : Fld Z h4 o0 "com/example/periwinkle/periwinkle/server/ServerSettings" "host" "Ljava/lang/String;" (.ref o1) := F_o0_host.ext E5
  have F_o0_tlsCertificate : Fld Z h4 o0 "com/example/periwinkle/periwinkle/server/ServerSettings" "tlsCertificate" "Ljava/nio/file/Path;" .null := F_o0_tlsCertificate.ext E5
  have F_o0_tlsKey : Fld Z h4 o0 "com/example/periwinkle/periwinkle/server/ServerSettings" "tlsKey" "Ljava/nio/file/Path;" .null := F_o0_tlsKey.ext E5
  have F_o0_tokenLifetime : Fld Z h4 o0 "com/example/periwinkle/periwinkle/server/ServerSettings" "tokenLifetime" "Ljava/time/Duration;" (.ref o2) := F_o0_tokenLifetime.ext E5
  have Z0 : n0 ≤ h4.size := Nat.le_trans Z0 E5.1
  have KK : Keep h0 h4 [] := KK.ext E5
  have F_x1_host : Fld Z h4 x1 "com/example/periwinkle/periwinkle/server/ServerSettings" "host" "Ljava/lang/String;" .null := D_x1 (Or.inr (hw _ (List.mem_of_getElem? (i := 41) rfl))) (ty := (.object "java/lang/String")) (by decide)
  have F_x1_port : Fld Z h4 x1 "com/example/periwinkle/periwinkle/server/ServerSettings" "port" "I" (.int (0 : Int32)) := D_x1 (Or.inr (hw _ (List.mem_of_getElem? (i := 43) rfl))) (ty := .int) (by decide)
  have F_x1_tlsCertificate : Fld Z h4 x1 "com/example/periwinkle/periwinkle/server/ServerSettings" "tlsCertificate" "Ljava/nio/file/Path;" .null := D_x1 (Or.inr (hw _ (List.mem_of_getElem? (i := 45) rfl))) (ty := (.object "java/nio/file/Path")) (by decide)
  have F_x1_tlsKey : Fld Z h4 x1 "com/example/periwinkle/periwinkle/server/ServerSettings" "tlsKey" "Ljava/nio/file/Path;" .null := D_x1 (Or.inr (hw _ (List.mem_of_getElem? (i := 47) rfl))) (ty := (.object "java/nio/file/Path")) (by decide)
  have F_x1_tokenLifetime : Fld Z h4 x1 "com/example/periwinkle/periwinkle/server/ServerSettings" "tokenLifetime" "Ljava/time/Duration;" .null := D_x1 (Or.inr (hw _ (List.mem_of_getElem? (i := 49) rfl))) (ty := (.object "java/time/Duration")) (by decide)
  have A7 : own_R p l e _ _ m _ below meth c S0 n0 h4 1 5 (mkF m 7 #[.val (.ref o0), .val (.int j0)] [(.ref x1)]) := A6
  have A8 := A7.go (f' := mkF m 8 #[.val (.ref o0), .val (.int j0)] [(.ref x1), (.ref x1)]) fun _ _ X _ k => XS.dup X.here hx rfl (hb hby dm7_7) rfl rfl k
  have A9 := A8.go (f' := mkF m 9 #[.val (.ref o0), .val (.int j0)] [(.ref o0), (.ref x1), (.ref x1)]) fun _ _ X _ k => XS.aloadN X.here hx rfl (hb hby dm7_8) rfl rfl k
  have A10 : own_R p l e _ _ m _ below meth c S0 n0 h4 1 5 (mkF m 12 #[.val (.ref o0), .val (.int j0)] [(.ref o1), (.ref x1), (.ref x1)]) := A9.getF hx hZ hown (hb hby dm7_9) (hw _ (List.mem_of_getElem? (i := 40) rfl)) Via.refl F_o0_host
  have A11 := A10.go (f' := mkF m 13 #[.val (.ref o0), .val (.int j0)] [(.int j0), (.ref o1), (.ref x1), (.ref x1)]) fun _ _ X _ k => XS.iloadN X.here hx rfl (hb hby dm7_12) rfl k
  have A12 := A11.go (f' := mkF m 14 #[.val (.ref o0), .val (.int j0)] [(.ref o0), (.int j0), (.ref o1), (.ref x1), (.ref x1)]) fun _ _ X _ k => XS.aloadN X.here hx rfl (hb hby dm7_13) rfl rfl k
  have A13 : own_R p l e _ _ m _ below meth c S0 n0 h4 1 5 (mkF m 17 #[.val (.ref o0), .val (.int j0)] [.null, (.int j0), (.ref o1), (.ref x1), (.ref x1)]) := A12.getF hx hZ hown (hb hby dm7_14) (hw _ (List.mem_of_getElem? (i := 44) rfl)) Via.refl F_o0_tlsCertificate
  have A14 := A13.go (f' := mkF m 18 #[.val (.ref o0), .val (.int j0)] [(.ref o0), .null, (.int j0), (.ref o1), (.ref x1), (.ref x1)]) fun _ _ X _ k => XS.aloadN X.here hx rfl (hb hby dm7_17) rfl rfl k
  have A15 : own_R p l e _ _ m _ below meth c S0 n0 h4 1 5 (mkF m 21 #[.val (.ref o0), .val (.int j0)] [.null, .null, (.int j0), (.ref o1), (.ref x1), (.ref x1)]) := A14.getF hx hZ hown (hb hby dm7_18) (hw _ (List.mem_of_getElem? (i := 46) rfl)) Via.refl F_o0_tlsKey
  have A16 := A15.go (f' := mkF m 22 #[.val (.ref o0), .val (.int j0)] [(.ref o0), .null, .null, (.int j0), (.ref o1), (.ref x1), (.ref x1)]) fun _ _ X _ k => XS.aloadN X.here hx rfl (hb hby dm7_21) rfl rfl k
  have A17 : own_R p l e _ _ m _ below meth c S0 n0 h4 1 5 (mkF m 25 #[.val (.ref o0), .val (.int j0)] [(.ref o2), .null, .null, (.int j0), (.ref o1), (.ref x1), (.ref x1)]) := A16.getF hx hZ hown (hb hby dm7_22) (hw _ (List.mem_of_getElem? (i := 48) rfl)) Via.refl F_o0_tokenLifetime
  obtain ⟨vA18, hA18, ⟨rfl, KA18, P_F_x1_host, P_F_x1_port, P_F_x1_tlsCertificate, P_F_x1_tlsKey, P_F_x1_tokenLifetime⟩, A18⟩ := A17.callI (b := x1) (own_c15 l Z a0 hw x1 o1 o2 j0 h4 n0 Z0 E_x1 F_x1_host F_x1_port F_x1_tlsCertificate F_x1_tlsKey F_x1_tokenLifetime g_x1) hx hZ hown (hb hby dm7_25) rfl (hw _ (List.mem_of_getElem? (i := 36) rfl)) (hw _ (List.mem_of_getElem? (i := 37) rfl)) (hw _ (List.mem_of_getElem? (i := 38) rfl)) (hw _ (List.mem_of_getElem? (i := 3) rfl)) ⟨by decide, by decide⟩ (lenOf pd__28Ljava_2flang_2fString_3bILjava_2fnio_2ffile_2fPath_3bLjava_2fnio_2ffile_2fPath_3bLjava_2ftime_2fDuration_3b_29V rfl) (argsL := [(.ref o1), (.int j0), .null, .null, (.ref o2)]) (rest := [(.ref x1)]) rfl rfl (by rw [hml]; rfl) (W := 1) (Nat.le_of_eq rfl) (by decide) (by decide) (by decide) (by decide)
  have F_o0_host : Fld Z hA18 o0 "com/example/periwinkle/periwinkle/server/ServerSettings" "host" "Ljava/lang/String;" (.ref o1) := F_o0_host.keep KA18 (ninS ne_o0_x1 nin0)
  have F_o0_tlsCertificate : Fld Z hA18 o0 "com/example/periwinkle/periwinkle/server/ServerSettings" "tlsCertificate" "Ljava/nio/file/Path;" .null := F_o0_tlsCertificate.keep KA18 (ninS ne_o0_x1 nin0)
  have F_o0_tlsKey : Fld Z hA18 o0 "com/example/periwinkle/periwinkle/server/ServerSettings" "tlsKey" "Ljava/nio/file/Path;" .null := F_o0_tlsKey.keep KA18 (ninS ne_o0_x1 nin0)
  have F_o0_tokenLifetime : Fld Z hA18 o0 "com/example/periwinkle/periwinkle/server/ServerSettings" "tokenLifetime" "Ljava/time/Duration;" (.ref o2) := F_o0_tokenLifetime.keep KA18 (ninS ne_o0_x1 nin0)
  have E_x1 : Exa Z hA18 x1 "com/example/periwinkle/periwinkle/server/ServerSettings" := E_x1.keep KA18
  have Z0 : n0 ≤ hA18.size := Nat.le_trans Z0 KA18.1
  have KK : Keep h0 hA18 [] := KK.trans KA18 (allS (P := fun x => x ∈ ([] : List Addr) ∨ h0.size ≤ x) (Or.inr sz_x1) all0)
  have F_x1_host : Fld Z hA18 x1 "com/example/periwinkle/periwinkle/server/ServerSettings" "host" "Ljava/lang/String;" (.ref o1) := P_F_x1_host
  have F_x1_port : Fld Z hA18 x1 "com/example/periwinkle/periwinkle/server/ServerSettings" "port" "I" (.int j0) := P_F_x1_port
  have F_x1_tlsCertificate : Fld Z hA18 x1 "com/example/periwinkle/periwinkle/server/ServerSettings" "tlsCertificate" "Ljava/nio/file/Path;" .null := P_F_x1_tlsCertificate
  have F_x1_tlsKey : Fld Z hA18 x1 "com/example/periwinkle/periwinkle/server/ServerSettings" "tlsKey" "Ljava/nio/file/Path;" .null := P_F_x1_tlsKey
  have F_x1_tokenLifetime : Fld Z hA18 x1 "com/example/periwinkle/periwinkle/server/ServerSettings" "tokenLifetime" "Ljava/time/Duration;" (.ref o2) := P_F_x1_tokenLifetime
  have A19 : own_R p l e _ _ m _ below meth c S0 n0 hA18 1 5 (mkF m 28 #[.val (.ref o0), .val (.int j0)] [(.ref x1)]) := A18
  exact A19.ret hx hlk hret (hb hby dm7_28) rfl (Or.inr (Or.inr (Or.inr (Or.inr ⟨rfl, rfl, rfl⟩)))) (by decide) (by decide) ⟨x1, rfl, KK, sz_x1, E_x1, F_x1_host, F_x1_port, F_x1_tlsCertificate, F_x1_tlsKey, F_x1_tokenLifetime⟩
theorem ef_own_c18 (m : MethodId) (o0 : Addr) : entryFrame m #[(.ref o0)] 1 = mkF m 0 #[.val (.ref o0)] [] := by first | (simp [entryFrame, mkF, argsToLocals, Value.category, maxLocals]; done) | rfl
set_option maxRecDepth 65536 in
set_option maxHeartbeats 40000000 in
theorem own_c18 (l : Launch) (Z : State) (a0 : Array Value) (hw : ∀ d ∈ tables_1, d.before a0 Z = true) (o0 : Addr) (j0 : Int32) (h0 : Heap) (n0 : Nat) (Z0 : n0 ≤ h0.size) (F_o0_port : Fld Z h0 o0 "com/example/periwinkle/periwinkle/server/ServerSettings" "port" "I" (.int j0)) :
    own_M l Z (⟨"com/example/periwinkle/periwinkle/server/ServerSettings", "port", "()I"⟩ : MethodName) prog_37_method_13_code 1 (some .int) [] ({ frames := 0, cells := 0, slots := 0, locals := 0 } : Room) #[(.ref o0)] h0 n0 (fun v h => v = some (.int j0) ∧ h0 = h) := by
  refine own_M.of (plainFor_of_name (by first | (simp [plainName, overriddenIn]; done) | decide +kernel)) ?_
  intro p e s m below meth c S0 hx hby hml hown hnm hret hlk hZ A00
  have A0 := A00.cast (ef_own_c18 m o0)
  have KK : Keep h0 h0 ([] : List Addr) := Keep.refl _ _
  have A1 := A0.go (f' := mkF m 1 #[.val (.ref o0)] [(.ref o0)]) fun _ _ X _ k => XS.aloadN X.here hx rfl (hb hby dm9_0) rfl rfl k
  have A2 : own_R p l e _ _ m _ below meth c S0 n0 h0 0 0 (mkF m 4 #[.val (.ref o0)] [(.int j0)]) := A1.getF hx hZ hown (hb hby dm9_1) (hw _ (List.mem_of_getElem? (i := 42) rfl)) Via.refl F_o0_port
  exact A2.ret hx hlk hret (hb hby dm9_4) rfl (Or.inl ⟨rfl, by simp, _, rfl⟩) (by decide) (by decide) ⟨rfl, rfl⟩
theorem ef_own_c20 (m : MethodId) (o0 : Addr) : entryFrame m #[(.ref o0)] 1 = mkF m 0 #[.val (.ref o0)] [] := by first | (simp [entryFrame, mkF, argsToLocals, Value.category, maxLocals]; done) | rfl
set_option maxRecDepth 65536 in
set_option maxHeartbeats 40000000 in
theorem own_c20 (l : Launch) (Z : State) (a0 : Array Value) (hw : ∀ d ∈ tables_1, d.before a0 Z = true) (o0 o2 : Addr) (h0 : Heap) (n0 : Nat) (Z0 : n0 ≤ h0.size) (F_o0_tokenLifetime : Fld Z h0 o0 "com/example/periwinkle/periwinkle/server/ServerSettings" "tokenLifetime" "Ljava/time/Duration;" (.ref o2)) :
    own_M l Z (⟨"com/example/periwinkle/periwinkle/server/ServerSettings", "tokenLifetime", "()Ljava/time/Duration;"⟩ : MethodName) prog_37_method_14_code 1 (some (.object "java/time/Duration")) [] ({ frames := 0, cells := 0, slots := 0, locals := 0 } : Room) #[(.ref o0)] h0 n0 (fun v h => v = some (.ref o2) ∧ h0 = h) := by
  refine own_M.of (plainFor_of_name (by first | (simp [plainName, overriddenIn]; done) | decide +kernel)) ?_
  intro p e s m below meth c S0 hx hby hml hown hnm hret hlk hZ A00
  have A0 := A00.cast (ef_own_c20 m o0)
  have KK : Keep h0 h0 ([] : List Addr) := Keep.refl _ _
  have A1 := A0.go (f' := mkF m 1 #[.val (.ref o0)] [(.ref o0)]) fun _ _ X _ k => XS.aloadN X.here hx rfl (hb hby dm10_0) rfl rfl k
  have A2 : own_R p l e _ _ m _ below meth c S0 n0 h0 0 0 (mkF m 4 #[.val (.ref o0)] [(.ref o2)]) := A1.getF hx hZ hown (hb hby dm10_1) (hw _ (List.mem_of_getElem? (i := 48) rfl)) Via.refl F_o0_tokenLifetime
  exact A2.ret hx hlk hret (hb hby dm10_4) rfl (Or.inr (Or.inr (Or.inr (Or.inr ⟨rfl, rfl, rfl⟩)))) (by decide) (by decide) ⟨rfl, rfl⟩
theorem ef_own_c24 (m : MethodId) (o0 : Addr) : entryFrame m #[(.ref o0)] 1 = mkF m 0 #[.val (.ref o0)] [] := by first | (simp [entryFrame, mkF, argsToLocals, Value.category, maxLocals]; done) | rfl
set_option maxRecDepth 65536 in
set_option maxHeartbeats 40000000 in
theorem own_c24 (l : Launch) (Z : State) (a0 : Array Value) (hw : ∀ d ∈ tables_1, d.before a0 Z = true) (o0 : Addr) (h0 : Heap) (n0 : Nat) (Z0 : n0 ≤ h0.size)  :
    own_M l Z (⟨"java/lang/String", "toString", "()Ljava/lang/String;"⟩ : MethodName) jdk_42_method_126_code 1 (some (.object "java/lang/String")) [] ({ frames := 0, cells := 0, slots := 0, locals := 0 } : Room) #[(.ref o0)] h0 n0 (fun v h => v = some (.ref o0) ∧ h0 = h) := by
  refine own_M.of (plainFor_of_name (by first | (simp [plainName, overriddenIn]; done) | decide +kernel)) ?_
  intro p e s m below meth c S0 hx hby hml hown hnm hret hlk hZ A00
  have A0 := A00.cast (ef_own_c24 m o0)
  have KK : Keep h0 h0 ([] : List Addr) := Keep.refl _ _
  have A1 := A0.go (f' := mkF m 1 #[.val (.ref o0)] [(.ref o0)]) fun _ _ X _ k => XS.aloadN X.here hx rfl (hb hby dm13_0) rfl rfl k
  exact A1.ret hx hlk hret (hb hby dm13_1) rfl (Or.inr (Or.inr (Or.inr (Or.inr ⟨rfl, rfl, rfl⟩)))) (by decide) (by decide) ⟨rfl, rfl⟩
theorem ef_own_c27 (m : MethodId) (o0 : Addr) : entryFrame m #[(.ref o0)] 1 = mkF m 0 #[.val (.ref o0)] [] := by first | (simp [entryFrame, mkF, argsToLocals, Value.category, maxLocals]; done) | rfl
set_option maxRecDepth 65536 in
set_option maxHeartbeats 40000000 in
theorem own_c27 (l : Launch) (Z : State) (a0 : Array Value) (hw : ∀ d ∈ tables_1, d.before a0 Z = true) (o0 : Addr) (cs : Int32) (h0 : Heap) (n0 : Nat) (Z0 : n0 ≤ h0.size) (F_o0_coder : Fld Z h0 o0 "java/lang/String" "coder" "B" (.int (0 : Int32))) (S_cs : Sta Z h0 "java/lang/String" "COMPACT_STRINGS" "Z" (.int cs)) (hcs : ¬ (cs = (0 : Int32))) :
    own_M l Z (⟨"java/lang/String", "coder", "()B"⟩ : MethodName) jdk_42_method_152_code 1 (some .byte) [] ({ frames := 0, cells := 0, slots := 0, locals := 0 } : Room) #[(.ref o0)] h0 n0 (fun v h => v = some (.int (0 : Int32)) ∧ h0 = h) := by
  refine own_M.of (plainFor_of_name (by first | (simp [plainName, overriddenIn]; done) | decide +kernel)) ?_
  intro p e s m below meth c S0 hx hby hml hown hnm hret hlk hZ A00
  have A0 := A00.cast (ef_own_c27 m o0)
  have KK : Keep h0 h0 ([] : List Addr) := Keep.refl _ _
  have A1 : own_R p l e _ _ m _ below meth c S0 n0 h0 0 0 (mkF m 3 #[.val (.ref o0)] [(.int cs)]) := A0.getS hx hZ hown (hb hby dm15_0) (hw _ (List.mem_of_getElem? (i := 101) rfl)) Via.refl S_cs
  have A2 := A1.go (f' := mkF m 6 #[.val (.ref o0)] []) fun _ _ X _ k => XS.ifNo X.here hx rfl (hb hby dm15_3) rfl ((if0 _ _).trans (feq hcs).1) k
  have A3 := A2.go (f' := mkF m 7 #[.val (.ref o0)] [(.ref o0)]) fun _ _ X _ k => XS.aloadN X.here hx rfl (hb hby dm15_6) rfl rfl k
  have A4 : own_R p l e _ _ m _ below meth c S0 n0 h0 0 0 (mkF m 10 #[.val (.ref o0)] [(.int (0 : Int32))]) := A3.getF hx hZ hown (hb hby dm15_7) (hw _ (List.mem_of_getElem? (i := 102) rfl)) Via.refl F_o0_coder
  have A5 := A4.go (f' := mkF m 14 #[.val (.ref o0)] [(.int (0 : Int32))]) fun _ _ X _ k => XS.goto X.here hx rfl (pc0 := 10) (pc' := 14) rfl (hb hby dm15_10) (by decide) (by decide) k
  exact A5.ret hx hlk hret (hb hby dm15_14) rfl (Or.inl ⟨rfl, by simp, _, rfl⟩) (by decide) (by decide) ⟨rfl, rfl⟩
theorem ef_own_c29 (m : MethodId) (o0 : Addr) : entryFrame m #[(.ref o0)] 1 = mkF m 0 #[.val (.ref o0)] [] := by first | (simp [entryFrame, mkF, argsToLocals, Value.category, maxLocals]; done) | rfl
set_option maxRecDepth 65536 in
set_option maxHeartbeats 40000000 in
theorem own_c29 (l : Launch) (Z : State) (a0 : Array Value) (hw : ∀ d ∈ tables_1, d.before a0 Z = true) (o0 : Addr) (cs : Int32) (h0 : Heap) (n0 : Nat) (Z0 : n0 ≤ h0.size) (F_o0_coder : Fld Z h0 o0 "java/lang/String" "coder" "B" (.int (0 : Int32))) (S_cs : Sta Z h0 "java/lang/String" "COMPACT_STRINGS" "Z" (.int cs)) (hcs : ¬ (cs = (0 : Int32))) :
    own_M l Z (⟨"java/lang/String", "isLatin1", "()Z"⟩ : MethodName) jdk_42_method_154_code 1 (some .boolean) [] ({ frames := 0, cells := 0, slots := 0, locals := 0 } : Room) #[(.ref o0)] h0 n0 (fun v h => v = some (.int (1 : Int32)) ∧ h0 = h) := by
  refine own_M.of (plainFor_of_name (by first | (simp [plainName, overriddenIn]; done) | decide +kernel)) ?_
  intro p e s m below meth c S0 hx hby hml hown hnm hret hlk hZ A00
  have A0 := A00.cast (ef_own_c29 m o0)
  have KK : Keep h0 h0 ([] : List Addr) := Keep.refl _ _
  have A1 : own_R p l e _ _ m _ below meth c S0 n0 h0 0 0 (mkF m 3 #[.val (.ref o0)] [(.int cs)]) := A0.getS hx hZ hown (hb hby dm16_0) (hw _ (List.mem_of_getElem? (i := 101) rfl)) Via.refl S_cs
  have A2 := A1.go (f' := mkF m 6 #[.val (.ref o0)] []) fun _ _ X _ k => XS.ifNo X.here hx rfl (hb hby dm16_3) rfl ((if0 _ _).trans (feq hcs).1) k
  have A3 := A2.go (f' := mkF m 7 #[.val (.ref o0)] [(.ref o0)]) fun _ _ X _ k => XS.aloadN X.here hx rfl (hb hby dm16_6) rfl rfl k
  have A4 : own_R p l e _ _ m _ below meth c S0 n0 h0 0 0 (mkF m 10 #[.val (.ref o0)] [(.int (0 : Int32))]) := A3.getF hx hZ hown (hb hby dm16_7) (hw _ (List.mem_of_getElem? (i := 102) rfl)) Via.refl F_o0_coder
  have q5 : ((0 : Int32) = (0 : Int32)) := rfl
  have A6 := A4.go (f' := mkF m 13 #[.val (.ref o0)] []) fun _ _ X _ k => XS.ifNo X.here hx rfl (hb hby dm16_10) rfl ((if0 _ _).trans (teq q5).2) k
  have A7 := A6.go (f' := mkF m 14 #[.val (.ref o0)] [(.int (1 : Int32))]) fun _ _ X _ k => XS.iconst X.here hx rfl (hb hby dm16_13) k
  have A8 := A7.go (f' := mkF m 18 #[.val (.ref o0)] [(.int (1 : Int32))]) fun _ _ X _ k => XS.goto X.here hx rfl (pc0 := 14) (pc' := 18) rfl (hb hby dm16_14) (by decide) (by decide) k
  exact A8.ret hx hlk hret (hb hby dm16_18) rfl (Or.inl ⟨rfl, by simp, _, rfl⟩) (by decide) (by decide) ⟨rfl, rfl⟩
theorem ef_own_c32 (m : MethodId) (o0 : Addr) (o1 : Addr) : entryFrame m #[(.ref o0), (.int (9 : Int32)), (.ref o1), (.int (1 : Int32)), (.int (0 : Int32))] 11 = mkF m 0 #[.val (.ref o0), .val (.int (9 : Int32)), .val (.ref o1), .val (.int (1 : Int32)), .val (.int (0 : Int32)), .unset, .unset, .unset, .unset, .unset, .unset] [] := by first | (simp [entryFrame, mkF, argsToLocals, Value.category, maxLocals]; done) | rfl
set_option maxRecDepth 65536 in
set_option maxHeartbeats 40000000 in
theorem own_c32 (l : Launch) (Z : State) (a0 : Array Value) (hw : ∀ d ∈ tables_1, d.before a0 Z = true) (o0 o1 : Addr) (h0 : Heap) (n0 : Nat) (Z0 : n0 ≤ h0.size) (V_o0 : own_Ar Z h0 o0 .byte [(.int (49 : Int32)), (.int (50 : Int32)), (.int (55 : Int32)), (.int (46 : Int32)), (.int (48 : Int32)), (.int (46 : Int32)), (.int (48 : Int32)), (.int (46 : Int32)), (.int (49 : Int32))]) (V_o1 : own_Ar Z h0 o1 .byte [(.int (58 : Int32))]) :
    own_M l Z (⟨"java/lang/StringLatin1", "indexOf", "([BI[BII)I"⟩ : MethodName) jdk_43_method_25_code 11 (some .int) [] ({ frames := 0, cells := 0, slots := 0, locals := 0 } : Room) #[(.ref o0), (.int (9 : Int32)), (.ref o1), (.int (1 : Int32)), (.int (0 : Int32))] h0 n0 (fun v h => v = some (.int (-1 : Int32)) ∧ h0 = h) := by
  refine own_M.of (plainFor_of_name (by first | (simp [plainName, overriddenIn]; done) | decide +kernel)) ?_
  intro p e s m below meth c S0 hx hby hml hown hnm hret hlk hZ A00
  have A0 := A00.cast (ef_own_c32 m o0 o1)
  have KK : Keep h0 h0 ([] : List Addr) := Keep.refl _ _
  have A1 := A0.go (f' := mkF m 1 #[.val (.ref o0), .val (.int (9 : Int32)), .val (.ref o1), .val (.int (1 : Int32)), .val (.int (0 : Int32)), .unset, .unset, .unset, .unset, .unset, .unset] [(.ref o1)]) fun _ _ X _ k => XS.aloadN X.here hx rfl (hb hby dm18_0) rfl rfl k
  have A2 := A1.go (f' := mkF m 2 #[.val (.ref o0), .val (.int (9 : Int32)), .val (.ref o1), .val (.int (1 : Int32)), .val (.int (0 : Int32)), .unset, .unset, .unset, .unset, .unset, .unset] [(.int (0 : Int32)), (.ref o1)]) fun _ _ X _ k => XS.iconst X.here hx rfl (hb hby dm18_1) k
  have A3 : own_R p l e _ _ m _ below meth c S0 n0 h0 0 0 (mkF m 3 #[.val (.ref o0), .val (.int (9 : Int32)), .val (.ref o1), .val (.int (1 : Int32)), .val (.int (0 : Int32)), .unset, .unset, .unset, .unset, .unset, .unset] [(.int (58 : Int32))]) := A2.ldB hx hZ (hb hby dm18_2) V_o1 (by decide) rfl
  have A4 := A3.go (f' := mkF m 5 #[.val (.ref o0), .val (.int (9 : Int32)), .val (.ref o1), .val (.int (1 : Int32)), .val (.int (0 : Int32)), .val (.int (58 : Int32)), .unset, .unset, .unset, .unset, .unset] []) fun _ _ X _ k => XS.istore X.here hx rfl (hb hby dm18_3) rfl (l' := #[.val (.ref o0), .val (.int (9 : Int32)), .val (.ref o1), .val (.int (1 : Int32)), .val (.int (0 : Int32)), .val (.int (58 : Int32)), .unset, .unset, .unset, .unset, .unset]) rfl k
  have A5 := A4.go (f' := mkF m 6 #[.val (.ref o0), .val (.int (9 : Int32)), .val (.ref o1), .val (.int (1 : Int32)), .val (.int (0 : Int32)), .val (.int (58 : Int32)), .unset, .unset, .unset, .unset, .unset] [(.int (9 : Int32))]) fun _ _ X _ k => XS.iloadN X.here hx rfl (hb hby dm18_5) rfl k
  have A6 := A5.go (f' := mkF m 7 #[.val (.ref o0), .val (.int (9 : Int32)), .val (.ref o1), .val (.int (1 : Int32)), .val (.int (0 : Int32)), .val (.int (58 : Int32)), .unset, .unset, .unset, .unset, .unset] [(.int (1 : Int32)), (.int (9 : Int32))]) fun _ _ X _ k => XS.iloadN X.here hx rfl (hb hby dm18_6) rfl k
  have A7 := A6.go (f' := mkF m 8 #[.val (.ref o0), .val (.int (9 : Int32)), .val (.ref o1), .val (.int (1 : Int32)), .val (.int (0 : Int32)), .val (.int (58 : Int32)), .unset, .unset, .unset, .unset, .unset] [(.int (8 : Int32))]) fun _ _ X _ k => XS.isub X.here hx rfl (hb hby dm18_7) rfl k
  have A8 := A7.go (f' := mkF m 10 #[.val (.ref o0), .val (.int (9 : Int32)), .val (.ref o1), .val (.int (1 : Int32)), .val (.int (0 : Int32)), .val (.int (58 : Int32)), .val (.int (8 : Int32)), .unset, .unset, .unset, .unset] []) fun _ _ X _ k => XS.istore X.here hx rfl (hb hby dm18_8) rfl (l' := #[.val (.ref o0), .val (.int (9 : Int32)), .val (.ref o1), .val (.int (1 : Int32)), .val (.int (0 : Int32)), .val (.int (58 : Int32)), .val (.int (8 : Int32)), .unset, .unset, .unset, .unset]) rfl k
  have A9 := A8.go (f' := mkF m 12 #[.val (.ref o0), .val (.int (9 : Int32)), .val (.ref o1), .val (.int (1 : Int32)), .val (.int (0 : Int32)), .val (.int (58 : Int32)), .val (.int (8 : Int32)), .unset, .unset, .unset, .unset] [(.int (0 : Int32))]) fun _ _ X _ k => XS.iload X.here hx rfl (hb hby dm18_10) rfl k
  have A10 := A9.go (f' := mkF m 14 #[.val (.ref o0), .val (.int (9 : Int32)), .val (.ref o1), .val (.int (1 : Int32)), .val (.int (0 : Int32)), .val (.int (58 : Int32)), .val (.int (8 : Int32)), .val (.int (0 : Int32)), .unset, .unset, .unset] []) fun _ _ X _ k => XS.istore X.here hx rfl (hb hby dm18_12) rfl (l' := #[.val (.ref o0), .val (.int (9 : Int32)), .val (.ref o1), .val (.int (1 : Int32)), .val (.int (0 : Int32)), .val (.int (58 : Int32)), .val (.int (8 : Int32)), .val (.int (0 : Int32)), .unset, .unset, .unset]) rfl k
  have A11 := A10.go (f' := mkF m 16 #[.val (.ref o0), .val (.int (9 : Int32)), .val (.ref o1), .val (.int (1 : Int32)), .val (.int (0 : Int32)), .val (.int (58 : Int32)), .val (.int (8 : Int32)), .val (.int (0 : Int32)), .unset, .unset, .unset] [(.int (0 : Int32))]) fun _ _ X _ k => XS.iload X.here hx rfl (hb hby dm18_14) rfl k
  have A12 := A11.go (f' := mkF m 18 #[.val (.ref o0), .val (.int (9 : Int32)), .val (.ref o1), .val (.int (1 : Int32)), .val (.int (0 : Int32)), .val (.int (58 : Int32)), .val (.int (8 : Int32)), .val (.int (0 : Int32)), .unset, .unset, .unset] [(.int (8 : Int32)), (.int (0 : Int32))]) fun _ _ X _ k => XS.iload X.here hx rfl (hb hby dm18_16) rfl k
  have q13 : ¬ ((8 : Int32) < (0 : Int32)) := by decide
  have A14 := A12.go (f' := mkF m 21 #[.val (.ref o0), .val (.int (9 : Int32)), .val (.ref o1), .val (.int (1 : Int32)), .val (.int (0 : Int32)), .val (.int (58 : Int32)), .val (.int (8 : Int32)), .val (.int (0 : Int32)), .unset, .unset, .unset] []) fun _ _ X _ k => XS.icmpNo X.here hx rfl (hb hby dm18_18) rfl ((flt q13).2.2.1) k
  have A15 := A14.go (f' := mkF m 22 #[.val (.ref o0), .val (.int (9 : Int32)), .val (.ref o1), .val (.int (1 : Int32)), .val (.int (0 : Int32)), .val (.int (58 : Int32)), .val (.int (8 : Int32)), .val (.int (0 : Int32)), .unset, .unset, .unset] [(.ref o0)]) fun _ _ X _ k => XS.aloadN X.here hx rfl (hb hby dm18_21) rfl rfl k
  have A16 := A15.go (f' := mkF m 24 #[.val (.ref o0), .val (.int (9 : Int32)), .val (.ref o1), .val (.int (1 : Int32)), .val (.int (0 : Int32)), .val (.int (58 : Int32)), .val (.int (8 : Int32)), .val (.int (0 : Int32)), .unset, .unset, .unset] [(.int (0 : Int32)), (.ref o0)]) fun _ _ X _ k => XS.iload X.here hx rfl (hb hby dm18_22) rfl k
  have A17 : own_R p l e _ _ m _ below meth c S0 n0 h0 0 0 (mkF m 25 #[.val (.ref o0), .val (.int (9 : Int32)), .val (.ref o1), .val (.int (1 : Int32)), .val (.int (0 : Int32)), .val (.int (58 : Int32)), .val (.int (8 : Int32)), .val (.int (0 : Int32)), .unset, .unset, .unset] [(.int (49 : Int32))]) := A16.ldB hx hZ (hb hby dm18_24) V_o0 (by decide) rfl
  have A18 := A17.go (f' := mkF m 27 #[.val (.ref o0), .val (.int (9 : Int32)), .val (.ref o1), .val (.int (1 : Int32)), .val (.int (0 : Int32)), .val (.int (58 : Int32)), .val (.int (8 : Int32)), .val (.int (0 : Int32)), .unset, .unset, .unset] [(.int (58 : Int32)), (.int (49 : Int32))]) fun _ _ X _ k => XS.iload X.here hx rfl (hb hby dm18_25) rfl k
  have q19 : ¬ ((49 : Int32) = (58 : Int32)) := by decide
  have A20 := A18.go (f' := mkF m 30 #[.val (.ref o0), .val (.int (9 : Int32)), .val (.ref o1), .val (.int (1 : Int32)), .val (.int (0 : Int32)), .val (.int (58 : Int32)), .val (.int (8 : Int32)), .val (.int (0 : Int32)), .unset, .unset, .unset] []) fun _ _ X _ k => XS.icmpNo X.here hx rfl (hb hby dm18_27) rfl ((feq q19).1) k
  have A21 := A20.go (f' := mkF m 33 #[.val (.ref o0), .val (.int (9 : Int32)), .val (.ref o1), .val (.int (1 : Int32)), .val (.int (0 : Int32)), .val (.int (58 : Int32)), .val (.int (8 : Int32)), .val (.int (1 : Int32)), .unset, .unset, .unset] []) fun _ _ X _ k => XS.iinc X.here hx rfl (hb hby dm18_30) rfl (l' := #[.val (.ref o0), .val (.int (9 : Int32)), .val (.ref o1), .val (.int (1 : Int32)), .val (.int (0 : Int32)), .val (.int (58 : Int32)), .val (.int (8 : Int32)), .val (.int (1 : Int32)), .unset, .unset, .unset]) rfl k
  have A22 := A21.go (f' := mkF m 35 #[.val (.ref o0), .val (.int (9 : Int32)), .val (.ref o1), .val (.int (1 : Int32)), .val (.int (0 : Int32)), .val (.int (58 : Int32)), .val (.int (8 : Int32)), .val (.int (1 : Int32)), .unset, .unset, .unset] [(.int (1 : Int32))]) fun _ _ X _ k => XS.iload X.here hx rfl (hb hby dm18_33) rfl k
  have A23 := A22.go (f' := mkF m 37 #[.val (.ref o0), .val (.int (9 : Int32)), .val (.ref o1), .val (.int (1 : Int32)), .val (.int (0 : Int32)), .val (.int (58 : Int32)), .val (.int (8 : Int32)), .val (.int (1 : Int32)), .unset, .unset, .unset] [(.int (8 : Int32)), (.int (1 : Int32))]) fun _ _ X _ k => XS.iload X.here hx rfl (hb hby dm18_35) rfl k
  have q24 : ¬ ((8 : Int32) < (1 : Int32)) := by decide
  have A25 := A23.go (f' := mkF m 40 #[.val (.ref o0), .val (.int (9 : Int32)), .val (.ref o1), .val (.int (1 : Int32)), .val (.int (0 : Int32)), .val (.int (58 : Int32)), .val (.int (8 : Int32)), .val (.int (1 : Int32)), .unset, .unset, .unset] []) fun _ _ X _ k => XS.icmpNo X.here hx rfl (hb hby dm18_37) rfl ((flt q24).2.2.1) k
  have A26 := A25.go (f' := mkF m 41 #[.val (.ref o0), .val (.int (9 : Int32)), .val (.ref o1), .val (.int (1 : Int32)), .val (.int (0 : Int32)), .val (.int (58 : Int32)), .val (.int (8 : Int32)), .val (.int (1 : Int32)), .unset, .unset, .unset] [(.ref o0)]) fun _ _ X _ k => XS.aloadN X.here hx rfl (hb hby dm18_40) rfl rfl k
  have A27 := A26.go (f' := mkF m 43 #[.val (.ref o0), .val (.int (9 : Int32)), .val (.ref o1), .val (.int (1 : Int32)), .val (.int (0 : Int32)), .val (.int (58 : Int32)), .val (.int (8 : Int32)), .val (.int (1 : Int32)), .unset, .unset, .unset] [(.int (1 : Int32)), (.ref o0)]) fun _ _ X _ k => XS.iload X.here hx rfl (hb hby dm18_41) rfl k
  have A28 : own_R p l e _ _ m _ below meth c S0 n0 h0 0 0 (mkF m 44 #[.val (.ref o0), .val (.int (9 : Int32)), .val (.ref o1), .val (.int (1 : Int32)), .val (.int (0 : Int32)), .val (.int (58 : Int32)), .val (.int (8 : Int32)), .val (.int (1 : Int32)), .unset, .unset, .unset] [(.int (50 : Int32))]) := A27.ldB hx hZ (hb hby dm18_43) V_o0 (by decide) rfl
  have A29 := A28.go (f' := mkF m 46 #[.val (.ref o0), .val (.int (9 : Int32)), .val (.ref o1), .val (.int (1 : Int32)), .val (.int (0 : Int32)), .val (.int (58 : Int32)), .val (.int (8 : Int32)), .val (.int (1 : Int32)), .unset, .unset, .unset] [(.int (58 : Int32)), (.int (50 : Int32))]) fun _ _ X _ k => XS.iload X.here hx rfl (hb hby dm18_44) rfl k
  have q30 : ¬ ((50 : Int32) = (58 : Int32)) := by decide
  have A31 := A29.go (f' := mkF m 49 #[.val (.ref o0), .val (.int (9 : Int32)), .val (.ref o1), .val (.int (1 : Int32)), .val (.int (0 : Int32)), .val (.int (58 : Int32)), .val (.int (8 : Int32)), .val (.int (1 : Int32)), .unset, .unset, .unset] []) fun _ _ X _ k => XS.icmpNo X.here hx rfl (hb hby dm18_46) rfl ((feq q30).1) k
  have A32 := A31.go (f' := mkF m 30 #[.val (.ref o0), .val (.int (9 : Int32)), .val (.ref o1), .val (.int (1 : Int32)), .val (.int (0 : Int32)), .val (.int (58 : Int32)), .val (.int (8 : Int32)), .val (.int (1 : Int32)), .unset, .unset, .unset] []) fun _ _ X _ k => XS.goto X.here hx rfl (pc0 := 49) (pc' := 30) rfl (hb hby dm18_49) (by decide) (by decide) k
  have A33 := A32.go (f' := mkF m 33 #[.val (.ref o0), .val (.int (9 : Int32)), .val (.ref o1), .val (.int (1 : Int32)), .val (.int (0 : Int32)), .val (.int (58 : Int32)), .val (.int (8 : Int32)), .val (.int (2 : Int32)), .unset, .unset, .unset] []) fun _ _ X _ k => XS.iinc X.here hx rfl (hb hby dm18_30) rfl (l' := #[.val (.ref o0), .val (.int (9 : Int32)), .val (.ref o1), .val (.int (1 : Int32)), .val (.int (0 : Int32)), .val (.int (58 : Int32)), .val (.int (8 : Int32)), .val (.int (2 : Int32)), .unset, .unset, .unset]) rfl k
  have A34 := A33.go (f' := mkF m 35 #[.val (.ref o0), .val (.int (9 : Int32)), .val (.ref o1), .val (.int (1 : Int32)), .val (.int (0 : Int32)), .val (.int (58 : Int32)), .val (.int (8 : Int32)), .val (.int (2 : Int32)), .unset, .unset, .unset] [(.int (2 : Int32))]) fun _ _ X _ k => XS.iload X.here hx rfl (hb hby dm18_33) rfl k
  have A35 := A34.go (f' := mkF m 37 #[.val (.ref o0), .val (.int (9 : Int32)), .val (.ref o1), .val (.int (1 : Int32)), .val (.int (0 : Int32)), .val (.int (58 : Int32)), .val (.int (8 : Int32)), .val (.int (2 : Int32)), .unset, .unset, .unset] [(.int (8 : Int32)), (.int (2 : Int32))]) fun _ _ X _ k => XS.iload X.here hx rfl (hb hby dm18_35) rfl k
  have q36 : ¬ ((8 : Int32) < (2 : Int32)) := by decide
  have A37 := A35.go (f' := mkF m 40 #[.val (.ref o0), .val (.int (9 : Int32)), .val (.ref o1), .val (.int (1 : Int32)), .val (.int (0 : Int32)), .val (.int (58 : Int32)), .val (.int (8 : Int32)), .val (.int (2 : Int32)), .unset, .unset, .unset] []) fun _ _ X _ k => XS.icmpNo X.here hx rfl (hb hby dm18_37) rfl ((flt q36).2.2.1) k
  have A38 := A37.go (f' := mkF m 41 #[.val (.ref o0), .val (.int (9 : Int32)), .val (.ref o1), .val (.int (1 : Int32)), .val (.int (0 : Int32)), .val (.int (58 : Int32)), .val (.int (8 : Int32)), .val (.int (2 : Int32)), .unset, .unset, .unset] [(.ref o0)]) fun _ _ X _ k => XS.aloadN X.here hx rfl (hb hby dm18_40) rfl rfl k
  have A39 := A38.go (f' := mkF m 43 #[.val (.ref o0), .val (.int (9 : Int32)), .val (.ref o1), .val (.int (1 : Int32)), .val (.int (0 : Int32)), .val (.int (58 : Int32)), .val (.int (8 : Int32)), .val (.int (2 : Int32)), .unset, .unset, .unset] [(.int (2 : Int32)), (.ref o0)]) fun _ _ X _ k => XS.iload X.here hx rfl (hb hby dm18_41) rfl k
  have A40 : own_R p l e _ _ m _ below meth c S0 n0 h0 0 0 (mkF m 44 #[.val (.ref o0), .val (.int (9 : Int32)), .val (.ref o1), .val (.int (1 : Int32)), .val (.int (0 : Int32)), .val (.int (58 : Int32)), .val (.int (8 : Int32)), .val (.int (2 : Int32)), .unset, .unset, .unset] [(.int (55 : Int32))]) := A39.ldB hx hZ (hb hby dm18_43) V_o0 (by decide) rfl
  have A41 := A40.go (f' := mkF m 46 #[.val (.ref o0), .val (.int (9 : Int32)), .val (.ref o1), .val (.int (1 : Int32)), .val (.int (0 : Int32)), .val (.int (58 : Int32)), .val (.int (8 : Int32)), .val (.int (2 : Int32)), .unset, .unset, .unset] [(.int (58 : Int32)), (.int (55 : Int32))]) fun _ _ X _ k => XS.iload X.here hx rfl (hb hby dm18_44) rfl k
  have q42 : ¬ ((55 : Int32) = (58 : Int32)) := by decide
  have A43 := A41.go (f' := mkF m 49 #[.val (.ref o0), .val (.int (9 : Int32)), .val (.ref o1), .val (.int (1 : Int32)), .val (.int (0 : Int32)), .val (.int (58 : Int32)), .val (.int (8 : Int32)), .val (.int (2 : Int32)), .unset, .unset, .unset] []) fun _ _ X _ k => XS.icmpNo X.here hx rfl (hb hby dm18_46) rfl ((feq q42).1) k
  have A44 := A43.go (f' := mkF m 30 #[.val (.ref o0), .val (.int (9 : Int32)), .val (.ref o1), .val (.int (1 : Int32)), .val (.int (0 : Int32)), .val (.int (58 : Int32)), .val (.int (8 : Int32)), .val (.int (2 : Int32)), .unset, .unset, .unset] []) fun _ _ X _ k => XS.goto X.here hx rfl (pc0 := 49) (pc' := 30) rfl (hb hby dm18_49) (by decide) (by decide) k
  have A45 := A44.go (f' := mkF m 33 #[.val (.ref o0), .val (.int (9 : Int32)), .val (.ref o1), .val (.int (1 : Int32)), .val (.int (0 : Int32)), .val (.int (58 : Int32)), .val (.int (8 : Int32)), .val (.int (3 : Int32)), .unset, .unset, .unset] []) fun _ _ X _ k => XS.iinc X.here hx rfl (hb hby dm18_30) rfl (l' := #[.val (.ref o0), .val (.int (9 : Int32)), .val (.ref o1), .val (.int (1 : Int32)), .val (.int (0 : Int32)), .val (.int (58 : Int32)), .val (.int (8 : Int32)), .val (.int (3 : Int32)), .unset, .unset, .unset]) rfl k
  have A46 := A45.go (f' := mkF m 35 #[.val (.ref o0), .val (.int (9 : Int32)), .val (.ref o1), .val (.int (1 : Int32)), .val (.int (0 : Int32)), .val (.int (58 : Int32)), .val (.int (8 : Int32)), .val (.int (3 : Int32)), .unset, .unset, .unset] [(.int (3 : Int32))]) fun _ _ X _ k => XS.iload X.here hx rfl (hb hby dm18_33) rfl k
  have A47 := A46.go (f' := mkF m 37 #[.val (.ref o0), .val (.int (9 : Int32)), .val (.ref o1), .val (.int (1 : Int32)), .val (.int (0 : Int32)), .val (.int (58 : Int32)), .val (.int (8 : Int32)), .val (.int (3 : Int32)), .unset, .unset, .unset] [(.int (8 : Int32)), (.int (3 : Int32))]) fun _ _ X _ k => XS.iload X.here hx rfl (hb hby dm18_35) rfl k
  have q48 : ¬ ((8 : Int32) < (3 : Int32)) := by decide
  have A49 := A47.go (f' := mkF m 40 #[.val (.ref o0), .val (.int (9 : Int32)), .val (.ref o1), .val (.int (1 : Int32)), .val (.int (0 : Int32)), .val (.int (58 : Int32)), .val (.int (8 : Int32)), .val (.int (3 : Int32)), .unset, .unset, .unset] []) fun _ _ X _ k => XS.icmpNo X.here hx rfl (hb hby dm18_37) rfl ((flt q48).2.2.1) k
  have A50 := A49.go (f' := mkF m 41 #[.val (.ref o0), .val (.int (9 : Int32)), .val (.ref o1), .val (.int (1 : Int32)), .val (.int (0 : Int32)), .val (.int (58 : Int32)), .val (.int (8 : Int32)), .val (.int (3 : Int32)), .unset, .unset, .unset] [(.ref o0)]) fun _ _ X _ k => XS.aloadN X.here hx rfl (hb hby dm18_40) rfl rfl k
  have A51 := A50.go (f' := mkF m 43 #[.val (.ref o0), .val (.int (9 : Int32)), .val (.ref o1), .val (.int (1 : Int32)), .val (.int (0 : Int32)), .val (.int (58 : Int32)), .val (.int (8 : Int32)), .val (.int (3 : Int32)), .unset, .unset, .unset] [(.int (3 : Int32)), (.ref o0)]) fun _ _ X _ k => XS.iload X.here hx rfl (hb hby dm18_41) rfl k
  have A52 : own_R p l e _ _ m _ below meth c S0 n0 h0 0 0 (mkF m 44 #[.val (.ref o0), .val (.int (9 : Int32)), .val (.ref o1), .val (.int (1 : Int32)), .val (.int (0 : Int32)), .val (.int (58 : Int32)), .val (.int (8 : Int32)), .val (.int (3 : Int32)), .unset, .unset, .unset] [(.int (46 : Int32))]) := A51.ldB hx hZ (hb hby dm18_43) V_o0 (by decide) rfl
  have A53 := A52.go (f' := mkF m 46 #[.val (.ref o0), .val (.int (9 : Int32)), .val (.ref o1), .val (.int (1 : Int32)), .val (.int (0 : Int32)), .val (.int (58 : Int32)), .val (.int (8 : Int32)), .val (.int (3 : Int32)), .unset, .unset, .unset] [(.int (58 : Int32)), (.int (46 : Int32))]) fun _ _ X _ k => XS.iload X.here hx rfl (hb hby dm18_44) rfl k
  have q54 : ¬ ((46 : Int32) = (58 : Int32)) := by decide
  have A55 := A53.go (f' := mkF m 49 #[.val (.ref o0), .val (.int (9 : Int32)), .val (.ref o1), .val (.int (1 : Int32)), .val (.int (0 : Int32)), .val (.int (58 : Int32)), .val (.int (8 : Int32)), .val (.int (3 : Int32)), .unset, .unset, .unset] []) fun _ _ X _ k => XS.icmpNo X.here hx rfl (hb hby dm18_46) rfl ((feq q54).1) k
  have A56 := A55.go (f' := mkF m 30 #[.val (.ref o0), .val (.int (9 : Int32)), .val (.ref o1), .val (.int (1 : Int32)), .val (.int (0 : Int32)), .val (.int (58 : Int32)), .val (.int (8 : Int32)), .val (.int (3 : Int32)), .unset, .unset, .unset] []) fun _ _ X _ k => XS.goto X.here hx rfl (pc0 := 49) (pc' := 30) rfl (hb hby dm18_49) (by decide) (by decide) k
  have A57 := A56.go (f' := mkF m 33 #[.val (.ref o0), .val (.int (9 : Int32)), .val (.ref o1), .val (.int (1 : Int32)), .val (.int (0 : Int32)), .val (.int (58 : Int32)), .val (.int (8 : Int32)), .val (.int (4 : Int32)), .unset, .unset, .unset] []) fun _ _ X _ k => XS.iinc X.here hx rfl (hb hby dm18_30) rfl (l' := #[.val (.ref o0), .val (.int (9 : Int32)), .val (.ref o1), .val (.int (1 : Int32)), .val (.int (0 : Int32)), .val (.int (58 : Int32)), .val (.int (8 : Int32)), .val (.int (4 : Int32)), .unset, .unset, .unset]) rfl k
  have A58 := A57.go (f' := mkF m 35 #[.val (.ref o0), .val (.int (9 : Int32)), .val (.ref o1), .val (.int (1 : Int32)), .val (.int (0 : Int32)), .val (.int (58 : Int32)), .val (.int (8 : Int32)), .val (.int (4 : Int32)), .unset, .unset, .unset] [(.int (4 : Int32))]) fun _ _ X _ k => XS.iload X.here hx rfl (hb hby dm18_33) rfl k
  have A59 := A58.go (f' := mkF m 37 #[.val (.ref o0), .val (.int (9 : Int32)), .val (.ref o1), .val (.int (1 : Int32)), .val (.int (0 : Int32)), .val (.int (58 : Int32)), .val (.int (8 : Int32)), .val (.int (4 : Int32)), .unset, .unset, .unset] [(.int (8 : Int32)), (.int (4 : Int32))]) fun _ _ X _ k => XS.iload X.here hx rfl (hb hby dm18_35) rfl k
  have q60 : ¬ ((8 : Int32) < (4 : Int32)) := by decide
  have A61 := A59.go (f' := mkF m 40 #[.val (.ref o0), .val (.int (9 : Int32)), .val (.ref o1), .val (.int (1 : Int32)), .val (.int (0 : Int32)), .val (.int (58 : Int32)), .val (.int (8 : Int32)), .val (.int (4 : Int32)), .unset, .unset, .unset] []) fun _ _ X _ k => XS.icmpNo X.here hx rfl (hb hby dm18_37) rfl ((flt q60).2.2.1) k
  have A62 := A61.go (f' := mkF m 41 #[.val (.ref o0), .val (.int (9 : Int32)), .val (.ref o1), .val (.int (1 : Int32)), .val (.int (0 : Int32)), .val (.int (58 : Int32)), .val (.int (8 : Int32)), .val (.int (4 : Int32)), .unset, .unset, .unset] [(.ref o0)]) fun _ _ X _ k => XS.aloadN X.here hx rfl (hb hby dm18_40) rfl rfl k
  have A63 := A62.go (f' := mkF m 43 #[.val (.ref o0), .val (.int (9 : Int32)), .val (.ref o1), .val (.int (1 : Int32)), .val (.int (0 : Int32)), .val (.int (58 : Int32)), .val (.int (8 : Int32)), .val (.int (4 : Int32)), .unset, .unset, .unset] [(.int (4 : Int32)), (.ref o0)]) fun _ _ X _ k => XS.iload X.here hx rfl (hb hby dm18_41) rfl k
  have A64 : own_R p l e _ _ m _ below meth c S0 n0 h0 0 0 (mkF m 44 #[.val (.ref o0), .val (.int (9 : Int32)), .val (.ref o1), .val (.int (1 : Int32)), .val (.int (0 : Int32)), .val (.int (58 : Int32)), .val (.int (8 : Int32)), .val (.int (4 : Int32)), .unset, .unset, .unset] [(.int (48 : Int32))]) := A63.ldB hx hZ (hb hby dm18_43) V_o0 (by decide) rfl
  have A65 := A64.go (f' := mkF m 46 #[.val (.ref o0), .val (.int (9 : Int32)), .val (.ref o1), .val (.int (1 : Int32)), .val (.int (0 : Int32)), .val (.int (58 : Int32)), .val (.int (8 : Int32)), .val (.int (4 : Int32)), .unset, .unset, .unset] [(.int (58 : Int32)), (.int (48 : Int32))]) fun _ _ X _ k => XS.iload X.here hx rfl (hb hby dm18_44) rfl k
  have q66 : ¬ ((48 : Int32) = (58 : Int32)) := by decide
  have A67 := A65.go (f' := mkF m 49 #[.val (.ref o0), .val (.int (9 : Int32)), .val (.ref o1), .val (.int (1 : Int32)), .val (.int (0 : Int32)), .val (.int (58 : Int32)), .val (.int (8 : Int32)), .val (.int (4 : Int32)), .unset, .unset, .unset] []) fun _ _ X _ k => XS.icmpNo X.here hx rfl (hb hby dm18_46) rfl ((feq q66).1) k
  have A68 := A67.go (f' := mkF m 30 #[.val (.ref o0), .val (.int (9 : Int32)), .val (.ref o1), .val (.int (1 : Int32)), .val (.int (0 : Int32)), .val (.int (58 : Int32)), .val (.int (8 : Int32)), .val (.int (4 : Int32)), .unset, .unset, .unset] []) fun _ _ X _ k => XS.goto X.here hx rfl (pc0 := 49) (pc' := 30) rfl (hb hby dm18_49) (by decide) (by decide) k
  have A69 := A68.go (f' := mkF m 33 #[.val (.ref o0), .val (.int (9 : Int32)), .val (.ref o1), .val (.int (1 : Int32)), .val (.int (0 : Int32)), .val (.int (58 : Int32)), .val (.int (8 : Int32)), .val (.int (5 : Int32)), .unset, .unset, .unset] []) fun _ _ X _ k => XS.iinc X.here hx rfl (hb hby dm18_30) rfl (l' := #[.val (.ref o0), .val (.int (9 : Int32)), .val (.ref o1), .val (.int (1 : Int32)), .val (.int (0 : Int32)), .val (.int (58 : Int32)), .val (.int (8 : Int32)), .val (.int (5 : Int32)), .unset, .unset, .unset]) rfl k
  have A70 := A69.go (f' := mkF m 35 #[.val (.ref o0), .val (.int (9 : Int32)), .val (.ref o1), .val (.int (1 : Int32)), .val (.int (0 : Int32)), .val (.int (58 : Int32)), .val (.int (8 : Int32)), .val (.int (5 : Int32)), .unset, .unset, .unset] [(.int (5 : Int32))]) fun _ _ X _ k => XS.iload X.here hx rfl (hb hby dm18_33) rfl k
  have A71 := A70.go (f' := mkF m 37 #[.val (.ref o0), .val (.int (9 : Int32)), .val (.ref o1), .val (.int (1 : Int32)), .val (.int (0 : Int32)), .val (.int (58 : Int32)), .val (.int (8 : Int32)), .val (.int (5 : Int32)), .unset, .unset, .unset] [(.int (8 : Int32)), (.int (5 : Int32))]) fun _ _ X _ k => XS.iload X.here hx rfl (hb hby dm18_35) rfl k
  have q72 : ¬ ((8 : Int32) < (5 : Int32)) := by decide
  have A73 := A71.go (f' := mkF m 40 #[.val (.ref o0), .val (.int (9 : Int32)), .val (.ref o1), .val (.int (1 : Int32)), .val (.int (0 : Int32)), .val (.int (58 : Int32)), .val (.int (8 : Int32)), .val (.int (5 : Int32)), .unset, .unset, .unset] []) fun _ _ X _ k => XS.icmpNo X.here hx rfl (hb hby dm18_37) rfl ((flt q72).2.2.1) k
  have A74 := A73.go (f' := mkF m 41 #[.val (.ref o0), .val (.int (9 : Int32)), .val (.ref o1), .val (.int (1 : Int32)), .val (.int (0 : Int32)), .val (.int (58 : Int32)), .val (.int (8 : Int32)), .val (.int (5 : Int32)), .unset, .unset, .unset] [(.ref o0)]) fun _ _ X _ k => XS.aloadN X.here hx rfl (hb hby dm18_40) rfl rfl k
  have A75 := A74.go (f' := mkF m 43 #[.val (.ref o0), .val (.int (9 : Int32)), .val (.ref o1), .val (.int (1 : Int32)), .val (.int (0 : Int32)), .val (.int (58 : Int32)), .val (.int (8 : Int32)), .val (.int (5 : Int32)), .unset, .unset, .unset] [(.int (5 : Int32)), (.ref o0)]) fun _ _ X _ k => XS.iload X.here hx rfl (hb hby dm18_41) rfl k
  have A76 : own_R p l e _ _ m _ below meth c S0 n0 h0 0 0 (mkF m 44 #[.val (.ref o0), .val (.int (9 : Int32)), .val (.ref o1), .val (.int (1 : Int32)), .val (.int (0 : Int32)), .val (.int (58 : Int32)), .val (.int (8 : Int32)), .val (.int (5 : Int32)), .unset, .unset, .unset] [(.int (46 : Int32))]) := A75.ldB hx hZ (hb hby dm18_43) V_o0 (by decide) rfl
  have A77 := A76.go (f' := mkF m 46 #[.val (.ref o0), .val (.int (9 : Int32)), .val (.ref o1), .val (.int (1 : Int32)), .val (.int (0 : Int32)), .val (.int (58 : Int32)), .val (.int (8 : Int32)), .val (.int (5 : Int32)), .unset, .unset, .unset] [(.int (58 : Int32)), (.int (46 : Int32))]) fun _ _ X _ k => XS.iload X.here hx rfl (hb hby dm18_44) rfl k
  have A78 := A77.go (f' := mkF m 49 #[.val (.ref o0), .val (.int (9 : Int32)), .val (.ref o1), .val (.int (1 : Int32)), .val (.int (0 : Int32)), .val (.int (58 : Int32)), .val (.int (8 : Int32)), .val (.int (5 : Int32)), .unset, .unset, .unset] []) fun _ _ X _ k => XS.icmpNo X.here hx rfl (hb hby dm18_46) rfl ((feq q54).1) k
  have A79 := A78.go (f' := mkF m 30 #[.val (.ref o0), .val (.int (9 : Int32)), .val (.ref o1), .val (.int (1 : Int32)), .val (.int (0 : Int32)), .val (.int (58 : Int32)), .val (.int (8 : Int32)), .val (.int (5 : Int32)), .unset, .unset, .unset] []) fun _ _ X _ k => XS.goto X.here hx rfl (pc0 := 49) (pc' := 30) rfl (hb hby dm18_49) (by decide) (by decide) k
  have A80 := A79.go (f' := mkF m 33 #[.val (.ref o0), .val (.int (9 : Int32)), .val (.ref o1), .val (.int (1 : Int32)), .val (.int (0 : Int32)), .val (.int (58 : Int32)), .val (.int (8 : Int32)), .val (.int (6 : Int32)), .unset, .unset, .unset] []) fun _ _ X _ k => XS.iinc X.here hx rfl (hb hby dm18_30) rfl (l' := #[.val (.ref o0), .val (.int (9 : Int32)), .val (.ref o1), .val (.int (1 : Int32)), .val (.int (0 : Int32)), .val (.int (58 : Int32)), .val (.int (8 : Int32)), .val (.int (6 : Int32)), .unset, .unset, .unset]) rfl k
  have A81 := A80.go (f' := mkF m 35 #[.val (.ref o0), .val (.int (9 : Int32)), .val (.ref o1), .val (.int (1 : Int32)), .val (.int (0 : Int32)), .val (.int (58 : Int32)), .val (.int (8 : Int32)), .val (.int (6 : Int32)), .unset, .unset, .unset] [(.int (6 : Int32))]) fun _ _ X _ k => XS.iload X.here hx rfl (hb hby dm18_33) rfl k
  have A82 := A81.go (f' := mkF m 37 #[.val (.ref o0), .val (.int (9 : Int32)), .val (.ref o1), .val (.int (1 : Int32)), .val (.int (0 : Int32)), .val (.int (58 : Int32)), .val (.int (8 : Int32)), .val (.int (6 : Int32)), .unset, .unset, .unset] [(.int (8 : Int32)), (.int (6 : Int32))]) fun _ _ X _ k => XS.iload X.here hx rfl (hb hby dm18_35) rfl k
  have q83 : ¬ ((8 : Int32) < (6 : Int32)) := by decide
  have A84 := A82.go (f' := mkF m 40 #[.val (.ref o0), .val (.int (9 : Int32)), .val (.ref o1), .val (.int (1 : Int32)), .val (.int (0 : Int32)), .val (.int (58 : Int32)), .val (.int (8 : Int32)), .val (.int (6 : Int32)), .unset, .unset, .unset] []) fun _ _ X _ k => XS.icmpNo X.here hx rfl (hb hby dm18_37) rfl ((flt q83).2.2.1) k
  have A85 := A84.go (f' := mkF m 41 #[.val (.ref o0), .val (.int (9 : Int32)), .val (.ref o1), .val (.int (1 : Int32)), .val (.int (0 : Int32)), .val (.int (58 : Int32)), .val (.int (8 : Int32)), .val (.int (6 : Int32)), .unset, .unset, .unset] [(.ref o0)]) fun _ _ X _ k => XS.aloadN X.here hx rfl (hb hby dm18_40) rfl rfl k
  have A86 := A85.go (f' := mkF m 43 #[.val (.ref o0), .val (.int (9 : Int32)), .val (.ref o1), .val (.int (1 : Int32)), .val (.int (0 : Int32)), .val (.int (58 : Int32)), .val (.int (8 : Int32)), .val (.int (6 : Int32)), .unset, .unset, .unset] [(.int (6 : Int32)), (.ref o0)]) fun _ _ X _ k => XS.iload X.here hx rfl (hb hby dm18_41) rfl k
  have A87 : own_R p l e _ _ m _ below meth c S0 n0 h0 0 0 (mkF m 44 #[.val (.ref o0), .val (.int (9 : Int32)), .val (.ref o1), .val (.int (1 : Int32)), .val (.int (0 : Int32)), .val (.int (58 : Int32)), .val (.int (8 : Int32)), .val (.int (6 : Int32)), .unset, .unset, .unset] [(.int (48 : Int32))]) := A86.ldB hx hZ (hb hby dm18_43) V_o0 (by decide) rfl
  have A88 := A87.go (f' := mkF m 46 #[.val (.ref o0), .val (.int (9 : Int32)), .val (.ref o1), .val (.int (1 : Int32)), .val (.int (0 : Int32)), .val (.int (58 : Int32)), .val (.int (8 : Int32)), .val (.int (6 : Int32)), .unset, .unset, .unset] [(.int (58 : Int32)), (.int (48 : Int32))]) fun _ _ X _ k => XS.iload X.here hx rfl (hb hby dm18_44) rfl k
  have A89 := A88.go (f' := mkF m 49 #[.val (.ref o0), .val (.int (9 : Int32)), .val (.ref o1), .val (.int (1 : Int32)), .val (.int (0 : Int32)), .val (.int (58 : Int32)), .val (.int (8 : Int32)), .val (.int (6 : Int32)), .unset, .unset, .unset] []) fun _ _ X _ k => XS.icmpNo X.here hx rfl (hb hby dm18_46) rfl ((feq q66).1) k
  have A90 := A89.go (f' := mkF m 30 #[.val (.ref o0), .val (.int (9 : Int32)), .val (.ref o1), .val (.int (1 : Int32)), .val (.int (0 : Int32)), .val (.int (58 : Int32)), .val (.int (8 : Int32)), .val (.int (6 : Int32)), .unset, .unset, .unset] []) fun _ _ X _ k => XS.goto X.here hx rfl (pc0 := 49) (pc' := 30) rfl (hb hby dm18_49) (by decide) (by decide) k
  have A91 := A90.go (f' := mkF m 33 #[.val (.ref o0), .val (.int (9 : Int32)), .val (.ref o1), .val (.int (1 : Int32)), .val (.int (0 : Int32)), .val (.int (58 : Int32)), .val (.int (8 : Int32)), .val (.int (7 : Int32)), .unset, .unset, .unset] []) fun _ _ X _ k => XS.iinc X.here hx rfl (hb hby dm18_30) rfl (l' := #[.val (.ref o0), .val (.int (9 : Int32)), .val (.ref o1), .val (.int (1 : Int32)), .val (.int (0 : Int32)), .val (.int (58 : Int32)), .val (.int (8 : Int32)), .val (.int (7 : Int32)), .unset, .unset, .unset]) rfl k
  have A92 := A91.go (f' := mkF m 35 #[.val (.ref o0), .val (.int (9 : Int32)), .val (.ref o1), .val (.int (1 : Int32)), .val (.int (0 : Int32)), .val (.int (58 : Int32)), .val (.int (8 : Int32)), .val (.int (7 : Int32)), .unset, .unset, .unset] [(.int (7 : Int32))]) fun _ _ X _ k => XS.iload X.here hx rfl (hb hby dm18_33) rfl k
  have A93 := A92.go (f' := mkF m 37 #[.val (.ref o0), .val (.int (9 : Int32)), .val (.ref o1), .val (.int (1 : Int32)), .val (.int (0 : Int32)), .val (.int (58 : Int32)), .val (.int (8 : Int32)), .val (.int (7 : Int32)), .unset, .unset, .unset] [(.int (8 : Int32)), (.int (7 : Int32))]) fun _ _ X _ k => XS.iload X.here hx rfl (hb hby dm18_35) rfl k
  have q94 : ¬ ((8 : Int32) < (7 : Int32)) := by decide
  have A95 := A93.go (f' := mkF m 40 #[.val (.ref o0), .val (.int (9 : Int32)), .val (.ref o1), .val (.int (1 : Int32)), .val (.int (0 : Int32)), .val (.int (58 : Int32)), .val (.int (8 : Int32)), .val (.int (7 : Int32)), .unset, .unset, .unset] []) fun _ _ X _ k => XS.icmpNo X.here hx rfl (hb hby dm18_37) rfl ((flt q94).2.2.1) k
  have A96 := A95.go (f' := mkF m 41 #[.val (.ref o0), .val (.int (9 : Int32)), .val (.ref o1), .val (.int (1 : Int32)), .val (.int (0 : Int32)), .val (.int (58 : Int32)), .val (.int (8 : Int32)), .val (.int (7 : Int32)), .unset, .unset, .unset] [(.ref o0)]) fun _ _ X _ k => XS.aloadN X.here hx rfl (hb hby dm18_40) rfl rfl k
  have A97 := A96.go (f' := mkF m 43 #[.val (.ref o0), .val (.int (9 : Int32)), .val (.ref o1), .val (.int (1 : Int32)), .val (.int (0 : Int32)), .val (.int (58 : Int32)), .val (.int (8 : Int32)), .val (.int (7 : Int32)), .unset, .unset, .unset] [(.int (7 : Int32)), (.ref o0)]) fun _ _ X _ k => XS.iload X.here hx rfl (hb hby dm18_41) rfl k
  have A98 : own_R p l e _ _ m _ below meth c S0 n0 h0 0 0 (mkF m 44 #[.val (.ref o0), .val (.int (9 : Int32)), .val (.ref o1), .val (.int (1 : Int32)), .val (.int (0 : Int32)), .val (.int (58 : Int32)), .val (.int (8 : Int32)), .val (.int (7 : Int32)), .unset, .unset, .unset] [(.int (46 : Int32))]) := A97.ldB hx hZ (hb hby dm18_43) V_o0 (by decide) rfl
  have A99 := A98.go (f' := mkF m 46 #[.val (.ref o0), .val (.int (9 : Int32)), .val (.ref o1), .val (.int (1 : Int32)), .val (.int (0 : Int32)), .val (.int (58 : Int32)), .val (.int (8 : Int32)), .val (.int (7 : Int32)), .unset, .unset, .unset] [(.int (58 : Int32)), (.int (46 : Int32))]) fun _ _ X _ k => XS.iload X.here hx rfl (hb hby dm18_44) rfl k
  have A100 := A99.go (f' := mkF m 49 #[.val (.ref o0), .val (.int (9 : Int32)), .val (.ref o1), .val (.int (1 : Int32)), .val (.int (0 : Int32)), .val (.int (58 : Int32)), .val (.int (8 : Int32)), .val (.int (7 : Int32)), .unset, .unset, .unset] []) fun _ _ X _ k => XS.icmpNo X.here hx rfl (hb hby dm18_46) rfl ((feq q54).1) k
  have A101 := A100.go (f' := mkF m 30 #[.val (.ref o0), .val (.int (9 : Int32)), .val (.ref o1), .val (.int (1 : Int32)), .val (.int (0 : Int32)), .val (.int (58 : Int32)), .val (.int (8 : Int32)), .val (.int (7 : Int32)), .unset, .unset, .unset] []) fun _ _ X _ k => XS.goto X.here hx rfl (pc0 := 49) (pc' := 30) rfl (hb hby dm18_49) (by decide) (by decide) k
  have A102 := A101.go (f' := mkF m 33 #[.val (.ref o0), .val (.int (9 : Int32)), .val (.ref o1), .val (.int (1 : Int32)), .val (.int (0 : Int32)), .val (.int (58 : Int32)), .val (.int (8 : Int32)), .val (.int (8 : Int32)), .unset, .unset, .unset] []) fun _ _ X _ k => XS.iinc X.here hx rfl (hb hby dm18_30) rfl (l' := #[.val (.ref o0), .val (.int (9 : Int32)), .val (.ref o1), .val (.int (1 : Int32)), .val (.int (0 : Int32)), .val (.int (58 : Int32)), .val (.int (8 : Int32)), .val (.int (8 : Int32)), .unset, .unset, .unset]) rfl k
  have A103 := A102.go (f' := mkF m 35 #[.val (.ref o0), .val (.int (9 : Int32)), .val (.ref o1), .val (.int (1 : Int32)), .val (.int (0 : Int32)), .val (.int (58 : Int32)), .val (.int (8 : Int32)), .val (.int (8 : Int32)), .unset, .unset, .unset] [(.int (8 : Int32))]) fun _ _ X _ k => XS.iload X.here hx rfl (hb hby dm18_33) rfl k
  have A104 := A103.go (f' := mkF m 37 #[.val (.ref o0), .val (.int (9 : Int32)), .val (.ref o1), .val (.int (1 : Int32)), .val (.int (0 : Int32)), .val (.int (58 : Int32)), .val (.int (8 : Int32)), .val (.int (8 : Int32)), .unset, .unset, .unset] [(.int (8 : Int32)), (.int (8 : Int32))]) fun _ _ X _ k => XS.iload X.here hx rfl (hb hby dm18_35) rfl k
  have q105 : ¬ ((8 : Int32) < (8 : Int32)) := by decide
  have A106 := A104.go (f' := mkF m 40 #[.val (.ref o0), .val (.int (9 : Int32)), .val (.ref o1), .val (.int (1 : Int32)), .val (.int (0 : Int32)), .val (.int (58 : Int32)), .val (.int (8 : Int32)), .val (.int (8 : Int32)), .unset, .unset, .unset] []) fun _ _ X _ k => XS.icmpNo X.here hx rfl (hb hby dm18_37) rfl ((flt q105).2.2.1) k
  have A107 := A106.go (f' := mkF m 41 #[.val (.ref o0), .val (.int (9 : Int32)), .val (.ref o1), .val (.int (1 : Int32)), .val (.int (0 : Int32)), .val (.int (58 : Int32)), .val (.int (8 : Int32)), .val (.int (8 : Int32)), .unset, .unset, .unset] [(.ref o0)]) fun _ _ X _ k => XS.aloadN X.here hx rfl (hb hby dm18_40) rfl rfl k
  have A108 := A107.go (f' := mkF m 43 #[.val (.ref o0), .val (.int (9 : Int32)), .val (.ref o1), .val (.int (1 : Int32)), .val (.int (0 : Int32)), .val (.int (58 : Int32)), .val (.int (8 : Int32)), .val (.int (8 : Int32)), .unset, .unset, .unset] [(.int (8 : Int32)), (.ref o0)]) fun _ _ X _ k => XS.iload X.here hx rfl (hb hby dm18_41) rfl k
  have A109 : own_R p l e _ _ m _ below meth c S0 n0 h0 0 0 (mkF m 44 #[.val (.ref o0), .val (.int (9 : Int32)), .val (.ref o1), .val (.int (1 : Int32)), .val (.int (0 : Int32)), .val (.int (58 : Int32)), .val (.int (8 : Int32)), .val (.int (8 : Int32)), .unset, .unset, .unset] [(.int (49 : Int32))]) := A108.ldB hx hZ (hb hby dm18_43) V_o0 (by decide) rfl
  have A110 := A109.go (f' := mkF m 46 #[.val (.ref o0), .val (.int (9 : Int32)), .val (.ref o1), .val (.int (1 : Int32)), .val (.int (0 : Int32)), .val (.int (58 : Int32)), .val (.int (8 : Int32)), .val (.int (8 : Int32)), .unset, .unset, .unset] [(.int (58 : Int32)), (.int (49 : Int32))]) fun _ _ X _ k => XS.iload X.here hx rfl (hb hby dm18_44) rfl k
  have A111 := A110.go (f' := mkF m 49 #[.val (.ref o0), .val (.int (9 : Int32)), .val (.ref o1), .val (.int (1 : Int32)), .val (.int (0 : Int32)), .val (.int (58 : Int32)), .val (.int (8 : Int32)), .val (.int (8 : Int32)), .unset, .unset, .unset] []) fun _ _ X _ k => XS.icmpNo X.here hx rfl (hb hby dm18_46) rfl ((feq q19).1) k
  have A112 := A111.go (f' := mkF m 30 #[.val (.ref o0), .val (.int (9 : Int32)), .val (.ref o1), .val (.int (1 : Int32)), .val (.int (0 : Int32)), .val (.int (58 : Int32)), .val (.int (8 : Int32)), .val (.int (8 : Int32)), .unset, .unset, .unset] []) fun _ _ X _ k => XS.goto X.here hx rfl (pc0 := 49) (pc' := 30) rfl (hb hby dm18_49) (by decide) (by decide) k
  have A113 := A112.go (f' := mkF m 33 #[.val (.ref o0), .val (.int (9 : Int32)), .val (.ref o1), .val (.int (1 : Int32)), .val (.int (0 : Int32)), .val (.int (58 : Int32)), .val (.int (8 : Int32)), .val (.int (9 : Int32)), .unset, .unset, .unset] []) fun _ _ X _ k => XS.iinc X.here hx rfl (hb hby dm18_30) rfl (l' := #[.val (.ref o0), .val (.int (9 : Int32)), .val (.ref o1), .val (.int (1 : Int32)), .val (.int (0 : Int32)), .val (.int (58 : Int32)), .val (.int (8 : Int32)), .val (.int (9 : Int32)), .unset, .unset, .unset]) rfl k
  have A114 := A113.go (f' := mkF m 35 #[.val (.ref o0), .val (.int (9 : Int32)), .val (.ref o1), .val (.int (1 : Int32)), .val (.int (0 : Int32)), .val (.int (58 : Int32)), .val (.int (8 : Int32)), .val (.int (9 : Int32)), .unset, .unset, .unset] [(.int (9 : Int32))]) fun _ _ X _ k => XS.iload X.here hx rfl (hb hby dm18_33) rfl k
  have A115 := A114.go (f' := mkF m 37 #[.val (.ref o0), .val (.int (9 : Int32)), .val (.ref o1), .val (.int (1 : Int32)), .val (.int (0 : Int32)), .val (.int (58 : Int32)), .val (.int (8 : Int32)), .val (.int (9 : Int32)), .unset, .unset, .unset] [(.int (8 : Int32)), (.int (9 : Int32))]) fun _ _ X _ k => XS.iload X.here hx rfl (hb hby dm18_35) rfl k
  have q116 : ((8 : Int32) < (9 : Int32)) := by decide
  have A117 := A115.go (f' := mkF m 52 #[.val (.ref o0), .val (.int (9 : Int32)), .val (.ref o1), .val (.int (1 : Int32)), .val (.int (0 : Int32)), .val (.int (58 : Int32)), .val (.int (8 : Int32)), .val (.int (9 : Int32)), .unset, .unset, .unset] []) fun _ _ X _ k => XS.icmpYes X.here hx rfl (pc0 := 37) (pc' := 52) rfl (hb hby dm18_37) rfl ((tlt q116).2.2.1) (by decide) (by decide) k
  have A118 := A117.go (f' := mkF m 54 #[.val (.ref o0), .val (.int (9 : Int32)), .val (.ref o1), .val (.int (1 : Int32)), .val (.int (0 : Int32)), .val (.int (58 : Int32)), .val (.int (8 : Int32)), .val (.int (9 : Int32)), .unset, .unset, .unset] [(.int (9 : Int32))]) fun _ _ X _ k => XS.iload X.here hx rfl (hb hby dm18_52) rfl k
  have A119 := A118.go (f' := mkF m 56 #[.val (.ref o0), .val (.int (9 : Int32)), .val (.ref o1), .val (.int (1 : Int32)), .val (.int (0 : Int32)), .val (.int (58 : Int32)), .val (.int (8 : Int32)), .val (.int (9 : Int32)), .unset, .unset, .unset] [(.int (8 : Int32)), (.int (9 : Int32))]) fun _ _ X _ k => XS.iload X.here hx rfl (hb hby dm18_54) rfl k
  have A120 := A119.go (f' := mkF m 113 #[.val (.ref o0), .val (.int (9 : Int32)), .val (.ref o1), .val (.int (1 : Int32)), .val (.int (0 : Int32)), .val (.int (58 : Int32)), .val (.int (8 : Int32)), .val (.int (9 : Int32)), .unset, .unset, .unset] []) fun _ _ X _ k => XS.icmpYes X.here hx rfl (pc0 := 56) (pc' := 113) rfl (hb hby dm18_56) rfl ((tlt q116).2.2.1) (by decide) (by decide) k
  have A121 := A120.go (f' := mkF m 116 #[.val (.ref o0), .val (.int (9 : Int32)), .val (.ref o1), .val (.int (1 : Int32)), .val (.int (0 : Int32)), .val (.int (58 : Int32)), .val (.int (8 : Int32)), .val (.int (10 : Int32)), .unset, .unset, .unset] []) fun _ _ X _ k => XS.iinc X.here hx rfl (hb hby dm18_113) rfl (l' := #[.val (.ref o0), .val (.int (9 : Int32)), .val (.ref o1), .val (.int (1 : Int32)), .val (.int (0 : Int32)), .val (.int (58 : Int32)), .val (.int (8 : Int32)), .val (.int (10 : Int32)), .unset, .unset, .unset]) rfl k
  have A122 := A121.go (f' := mkF m 14 #[.val (.ref o0), .val (.int (9 : Int32)), .val (.ref o1), .val (.int (1 : Int32)), .val (.int (0 : Int32)), .val (.int (58 : Int32)), .val (.int (8 : Int32)), .val (.int (10 : Int32)), .unset, .unset, .unset] []) fun _ _ X _ k => XS.goto X.here hx rfl (pc0 := 116) (pc' := 14) rfl (hb hby dm18_116) (by decide) (by decide) k
  have A123 := A122.go (f' := mkF m 16 #[.val (.ref o0), .val (.int (9 : Int32)), .val (.ref o1), .val (.int (1 : Int32)), .val (.int (0 : Int32)), .val (.int (58 : Int32)), .val (.int (8 : Int32)), .val (.int (10 : Int32)), .unset, .unset, .unset] [(.int (10 : Int32))]) fun _ _ X _ k => XS.iload X.here hx rfl (hb hby dm18_14) rfl k
  have A124 := A123.go (f' := mkF m 18 #[.val (.ref o0), .val (.int (9 : Int32)), .val (.ref o1), .val (.int (1 : Int32)), .val (.int (0 : Int32)), .val (.int (58 : Int32)), .val (.int (8 : Int32)), .val (.int (10 : Int32)), .unset, .unset, .unset] [(.int (8 : Int32)), (.int (10 : Int32))]) fun _ _ X _ k => XS.iload X.here hx rfl (hb hby dm18_16) rfl k
  have q125 : ((8 : Int32) < (10 : Int32)) := by decide
  have A126 := A124.go (f' := mkF m 119 #[.val (.ref o0), .val (.int (9 : Int32)), .val (.ref o1), .val (.int (1 : Int32)), .val (.int (0 : Int32)), .val (.int (58 : Int32)), .val (.int (8 : Int32)), .val (.int (10 : Int32)), .unset, .unset, .unset] []) fun _ _ X _ k => XS.icmpYes X.here hx rfl (pc0 := 18) (pc' := 119) rfl (hb hby dm18_18) rfl ((tlt q125).2.2.1) (by decide) (by decide) k
  have A127 := A126.go (f' := mkF m 120 #[.val (.ref o0), .val (.int (9 : Int32)), .val (.ref o1), .val (.int (1 : Int32)), .val (.int (0 : Int32)), .val (.int (58 : Int32)), .val (.int (8 : Int32)), .val (.int (10 : Int32)), .unset, .unset, .unset] [(.int (-1 : Int32))]) fun _ _ X _ k => XS.iconst X.here hx rfl (hb hby dm18_119) k
  exact A127.ret hx hlk hret (hb hby dm18_120) rfl (Or.inl ⟨rfl, by simp, _, rfl⟩) (by decide) (by decide) ⟨rfl, rfl⟩
theorem ef_own_c33 (m : MethodId) (o0 : Addr) (o1 : Addr) : entryFrame m #[(.ref o0), (.ref o1)] 2 = mkF m 0 #[.val (.ref o0), .val (.ref o1)] [] := by first | (simp [entryFrame, mkF, argsToLocals, Value.category, maxLocals]; done) | rfl
set_option maxRecDepth 65536 in
set_option maxHeartbeats 40000000 in
theorem own_c33 (l : Launch) (Z : State) (a0 : Array Value) (hw : ∀ d ∈ tables_1, d.before a0 Z = true) (o0 o1 : Addr) (h0 : Heap) (n0 : Nat) (Z0 : n0 ≤ h0.size) (V_o0 : own_Ar Z h0 o0 .byte [(.int (49 : Int32)), (.int (50 : Int32)), (.int (55 : Int32)), (.int (46 : Int32)), (.int (48 : Int32)), (.int (46 : Int32)), (.int (48 : Int32)), (.int (46 : Int32)), (.int (49 : Int32))]) (V_o1 : own_Ar Z h0 o1 .byte [(.int (58 : Int32))]) :
    own_M l Z (⟨"java/lang/StringLatin1", "indexOf", "([B[B)I"⟩ : MethodName) jdk_43_method_24_code 2 (some .int) [] ({ frames := 1, cells := 0, slots := 0, locals := 22 } : Room) #[(.ref o0), (.ref o1)] h0 n0 (fun v h => v = some (.int (-1 : Int32)) ∧ h0 = h) := by
  refine own_M.of (plainFor_of_name (by first | (simp [plainName, overriddenIn]; done) | decide +kernel)) ?_
  intro p e s m below meth c S0 hx hby hml hown hnm hret hlk hZ A00
  have A0 := A00.cast (ef_own_c33 m o0 o1)
  have KK : Keep h0 h0 ([] : List Addr) := Keep.refl _ _
  have A1 := A0.go (f' := mkF m 1 #[.val (.ref o0), .val (.ref o1)] [(.ref o1)]) fun _ _ X _ k => XS.aloadN X.here hx rfl (hb hby dm17_0) rfl rfl k
  have A2 : own_R p l e _ _ m _ below meth c S0 n0 h0 0 0 (mkF m 2 #[.val (.ref o0), .val (.ref o1)] [(.int (1 : Int32))]) := A1.len hx hZ (hb hby dm17_1) V_o1
  have q3 : ¬ ((1 : Int32) = (0 : Int32)) := by decide
  have A4 := A2.go (f' := mkF m 7 #[.val (.ref o0), .val (.ref o1)] []) fun _ _ X _ k => XS.ifYes X.here hx rfl (pc0 := 2) (pc' := 7) rfl (hb hby dm17_2) rfl ((if0 _ _).trans (feq q3).2) (by decide) (by decide) k
  have A5 := A4.go (f' := mkF m 8 #[.val (.ref o0), .val (.ref o1)] [(.ref o0)]) fun _ _ X _ k => XS.aloadN X.here hx rfl (hb hby dm17_7) rfl rfl k
  have A6 : own_R p l e _ _ m _ below meth c S0 n0 h0 0 0 (mkF m 9 #[.val (.ref o0), .val (.ref o1)] [(.int (9 : Int32))]) := A5.len hx hZ (hb hby dm17_8) V_o0
  have q7 : ¬ ((9 : Int32) = (0 : Int32)) := by decide
  have A8 := A6.go (f' := mkF m 14 #[.val (.ref o0), .val (.ref o1)] []) fun _ _ X _ k => XS.ifYes X.here hx rfl (pc0 := 9) (pc' := 14) rfl (hb hby dm17_9) rfl ((if0 _ _).trans (feq q7).2) (by decide) (by decide) k
  have A9 := A8.go (f' := mkF m 15 #[.val (.ref o0), .val (.ref o1)] [(.ref o0)]) fun _ _ X _ k => XS.aloadN X.here hx rfl (hb hby dm17_14) rfl rfl k
  have A10 := A9.go (f' := mkF m 16 #[.val (.ref o0), .val (.ref o1)] [(.ref o0), (.ref o0)]) fun _ _ X _ k => XS.aloadN X.here hx rfl (hb hby dm17_15) rfl rfl k
  have A11 : own_R p l e _ _ m _ below meth c S0 n0 h0 0 0 (mkF m 17 #[.val (.ref o0), .val (.ref o1)] [(.int (9 : Int32)), (.ref o0)]) := A10.len hx hZ (hb hby dm17_16) V_o0
  have A12 := A11.go (f' := mkF m 18 #[.val (.ref o0), .val (.ref o1)] [(.ref o1), (.int (9 : Int32)), (.ref o0)]) fun _ _ X _ k => XS.aloadN X.here hx rfl (hb hby dm17_17) rfl rfl k
  have A13 := A12.go (f' := mkF m 19 #[.val (.ref o0), .val (.ref o1)] [(.ref o1), (.ref o1), (.int (9 : Int32)), (.ref o0)]) fun _ _ X _ k => XS.aloadN X.here hx rfl (hb hby dm17_18) rfl rfl k
  have A14 : own_R p l e _ _ m _ below meth c S0 n0 h0 0 0 (mkF m 20 #[.val (.ref o0), .val (.ref o1)] [(.int (1 : Int32)), (.ref o1), (.int (9 : Int32)), (.ref o0)]) := A13.len hx hZ (hb hby dm17_19) V_o1
  have A15 := A14.go (f' := mkF m 21 #[.val (.ref o0), .val (.ref o1)] [(.int (0 : Int32)), (.int (1 : Int32)), (.ref o1), (.int (9 : Int32)), (.ref o0)]) fun _ _ X _ k => XS.iconst X.here hx rfl (hb hby dm17_20) k
  obtain ⟨vA16, hA16, ⟨rfl, rfl⟩, A16⟩ := A15.callS (own_c32 l Z a0 hw o0 o1 h0 n0 Z0 V_o0 V_o1) hx hZ hown (hb hby dm17_21) (hw _ (List.mem_of_getElem? (i := 113) rfl)) (hw _ (List.mem_of_getElem? (i := 114) rfl)) (hw _ (List.mem_of_getElem? (i := 111) rfl)) (hw _ (List.mem_of_getElem? (i := 115) rfl)) ⟨by decide, by decide⟩ (lenOf pd__28_5bBI_5bBII_29I rfl) (argsL := [(.ref o0), (.int (9 : Int32)), (.ref o1), (.int (1 : Int32)), (.int (0 : Int32))]) (rest := []) rfl rfl (by rw [hml]; rfl) (W := 0) (Nat.le_of_eq rfl) (by decide) (by decide) (by decide) (by decide)
  have A17 : own_R p l e _ _ m _ below meth c S0 n0 h0 0 0 (mkF m 24 #[.val (.ref o0), .val (.ref o1)] [(.int (-1 : Int32))]) := A16
  exact A17.ret hx hlk hret (hb hby dm17_24) rfl (Or.inl ⟨rfl, by simp, _, rfl⟩) (by decide) (by decide) ⟨rfl, rfl⟩
theorem ef_own_c34 (m : MethodId) (o0 : Addr) (o1 : Addr) : entryFrame m #[(.ref o0), (.ref o1)] 3 = mkF m 0 #[.val (.ref o0), .val (.ref o1), .unset] [] := by first | (simp [entryFrame, mkF, argsToLocals, Value.category, maxLocals]; done) | rfl
set_option maxRecDepth 65536 in
set_option maxHeartbeats 40000000 in
theorem own_c34 (l : Launch) (Z : State) (a0 : Array Value) (hw : ∀ d ∈ tables_1, d.before a0 Z = true) (o0 o1 o2 o3 : Addr) (cs : Int32) (h0 : Heap) (n0 : Nat) (Z0 : n0 ≤ h0.size) (E_o0 : Exa Z h0 o0 "java/lang/String") (F_o0_coder : Fld Z h0 o0 "java/lang/String" "coder" "B" (.int (0 : Int32))) (F_o0_value : Fld Z h0 o0 "java/lang/String" "value" "[B" (.ref o2)) (E_o1 : Exa Z h0 o1 "java/lang/String") (F_o1_coder : Fld Z h0 o1 "java/lang/String" "coder" "B" (.int (0 : Int32))) (F_o1_value : Fld Z h0 o1 "java/lang/String" "value" "[B" (.ref o3)) (V_o2 : own_Ar Z h0 o2 .byte [(.int (49 : Int32)), (.int (50 : Int32)), (.int (55 : Int32)), (.int (46 : Int32)), (.int (48 : Int32)), (.int (46 : Int32)), (.int (48 : Int32)), (.int (46 : Int32)), (.int (49 : Int32))]) (V_o3 : own_Ar Z h0 o3 .byte [(.int (58 : Int32))]) (S_cs : Sta Z h0 "java/lang/String" "COMPACT_STRINGS" "Z" (.int cs)) (hcs : ¬ (cs = (0 : Int32))) :
    own_M l Z (⟨"java/lang/String", "indexOf", "(Ljava/lang/String;)I"⟩ : MethodName) jdk_42_method_84_code 3 (some .int) [] ({ frames := 2, cells := 0, slots := 0, locals := 35 } : Room) #[(.ref o0), (.ref o1)] h0 n0 (fun v h => v = some (.int (-1 : Int32)) ∧ h0 = h) := by
  refine own_M.of (plainFor_of_name (by first | (simp [plainName, overriddenIn]; done) | decide +kernel)) ?_
  intro p e s m below meth c S0 hx hby hml hown hnm hret hlk hZ A00
  have A0 := A00.cast (ef_own_c34 m o0 o1)
  have KK : Keep h0 h0 ([] : List Addr) := Keep.refl _ _
  have A1 := A0.go (f' := mkF m 1 #[.val (.ref o0), .val (.ref o1), .unset] [(.ref o0)]) fun _ _ X _ k => XS.aloadN X.here hx rfl (hb hby dm14_0) rfl rfl k
  obtain ⟨vA2, hA2, ⟨rfl, rfl⟩, A2⟩ := A1.callV (b := o0) (own_c27 l Z a0 hw o0 cs h0 n0 Z0 F_o0_coder S_cs hcs) E_o0 hx hZ hown (hb hby dm14_1) (hw _ (List.mem_of_getElem? (i := 96) rfl)) (hw _ (List.mem_of_getElem? (i := 97) rfl)) (hw _ (List.mem_of_getElem? (i := 99) rfl)) (hw _ (List.mem_of_getElem? (i := 98) rfl)) (hw _ (List.mem_of_getElem? (i := 100) rfl)) (hw _ (List.mem_of_getElem? (i := 8) rfl)) (own_nf (y' := (⟨"java/lang/String", "contains", "(Ljava/lang/CharSequence;)Z"⟩ : MethodName)) (hw _ (List.mem_of_getElem? (i := 80) rfl)) rfl) ⟨by decide, by decide⟩ (lenOf pd__28_29B rfl) (argsL := []) (rest := []) rfl rfl (by rw [hml]; rfl) (W := 0) (Nat.le_of_eq rfl) (by decide) (by decide) (by decide) (by decide)
  have A3 : own_R p l e _ _ m _ below meth c S0 n0 h0 0 0 (mkF m 4 #[.val (.ref o0), .val (.ref o1), .unset] [(.int (0 : Int32))]) := A2
  have A4 := A3.go (f' := mkF m 5 #[.val (.ref o0), .val (.ref o1), .val (.int (0 : Int32))] []) fun _ _ X _ k => XS.istoreN X.here hx rfl (hb hby dm14_4) rfl (l' := #[.val (.ref o0), .val (.ref o1), .val (.int (0 : Int32))]) rfl k
  have A5 := A4.go (f' := mkF m 6 #[.val (.ref o0), .val (.ref o1), .val (.int (0 : Int32))] [(.int (0 : Int32))]) fun _ _ X _ k => XS.iloadN X.here hx rfl (hb hby dm14_5) rfl k
  have A6 := A5.go (f' := mkF m 7 #[.val (.ref o0), .val (.ref o1), .val (.int (0 : Int32))] [(.ref o1), (.int (0 : Int32))]) fun _ _ X _ k => XS.aloadN X.here hx rfl (hb hby dm14_6) rfl rfl k
  obtain ⟨vA7, hA7, ⟨rfl, rfl⟩, A7⟩ := A6.callV (b := o1) (own_c27 l Z a0 hw o1 cs h0 n0 Z0 F_o1_coder S_cs hcs) E_o1 hx hZ hown (hb hby dm14_7) (hw _ (List.mem_of_getElem? (i := 96) rfl)) (hw _ (List.mem_of_getElem? (i := 97) rfl)) (hw _ (List.mem_of_getElem? (i := 99) rfl)) (hw _ (List.mem_of_getElem? (i := 98) rfl)) (hw _ (List.mem_of_getElem? (i := 100) rfl)) (hw _ (List.mem_of_getElem? (i := 8) rfl)) (own_nf (y' := (⟨"java/lang/String", "contains", "(Ljava/lang/CharSequence;)Z"⟩ : MethodName)) (hw _ (List.mem_of_getElem? (i := 80) rfl)) rfl) ⟨by decide, by decide⟩ (lenOf pd__28_29B rfl) (argsL := []) (rest := [(.int (0 : Int32))]) rfl rfl (by rw [hml]; rfl) (W := 1) (Nat.le_of_eq rfl) (by decide) (by decide) (by decide) (by decide)
  have A8 : own_R p l e _ _ m _ below meth c S0 n0 h0 0 0 (mkF m 10 #[.val (.ref o0), .val (.ref o1), .val (.int (0 : Int32))] [(.int (0 : Int32)), (.int (0 : Int32))]) := A7
  have q9 : ((0 : Int32) = (0 : Int32)) := rfl
  have A10 := A8.go (f' := mkF m 13 #[.val (.ref o0), .val (.ref o1), .val (.int (0 : Int32))] []) fun _ _ X _ k => XS.icmpNo X.here hx rfl (hb hby dm14_10) rfl ((teq q9).2) k
  have A11 := A10.go (f' := mkF m 14 #[.val (.ref o0), .val (.ref o1), .val (.int (0 : Int32))] [(.ref o0)]) fun _ _ X _ k => XS.aloadN X.here hx rfl (hb hby dm14_13) rfl rfl k
  obtain ⟨vA12, hA12, ⟨rfl, rfl⟩, A12⟩ := A11.callV (b := o0) (own_c29 l Z a0 hw o0 cs h0 n0 Z0 F_o0_coder S_cs hcs) E_o0 hx hZ hown (hb hby dm14_14) (hw _ (List.mem_of_getElem? (i := 103) rfl)) (hw _ (List.mem_of_getElem? (i := 104) rfl)) (hw _ (List.mem_of_getElem? (i := 106) rfl)) (hw _ (List.mem_of_getElem? (i := 105) rfl)) (hw _ (List.mem_of_getElem? (i := 107) rfl)) (hw _ (List.mem_of_getElem? (i := 8) rfl)) (own_nf (y' := (⟨"java/lang/String", "contains", "(Ljava/lang/CharSequence;)Z"⟩ : MethodName)) (hw _ (List.mem_of_getElem? (i := 80) rfl)) rfl) ⟨by decide, by decide⟩ (lenOf pd__28_29Z rfl) (argsL := []) (rest := []) rfl rfl (by rw [hml]; rfl) (W := 0) (Nat.le_of_eq rfl) (by decide) (by decide) (by decide) (by decide)
  have A13 : own_R p l e _ _ m _ below meth c S0 n0 h0 0 0 (mkF m 17 #[.val (.ref o0), .val (.ref o1), .val (.int (0 : Int32))] [(.int (1 : Int32))]) := A12
  have q14 : ¬ ((1 : Int32) = (0 : Int32)) := by decide
  have A15 := A13.go (f' := mkF m 20 #[.val (.ref o0), .val (.ref o1), .val (.int (0 : Int32))] []) fun _ _ X _ k => XS.ifNo X.here hx rfl (hb hby dm14_17) rfl ((if0 _ _).trans (feq q14).1) k
  have A16 := A15.go (f' := mkF m 21 #[.val (.ref o0), .val (.ref o1), .val (.int (0 : Int32))] [(.ref o0)]) fun _ _ X _ k => XS.aloadN X.here hx rfl (hb hby dm14_20) rfl rfl k
  have A17 : own_R p l e _ _ m _ below meth c S0 n0 h0 0 0 (mkF m 24 #[.val (.ref o0), .val (.ref o1), .val (.int (0 : Int32))] [(.ref o2)]) := A16.getF hx hZ hown (hb hby dm14_21) (hw _ (List.mem_of_getElem? (i := 108) rfl)) Via.refl F_o0_value
  have A18 := A17.go (f' := mkF m 25 #[.val (.ref o0), .val (.ref o1), .val (.int (0 : Int32))] [(.ref o1), (.ref o2)]) fun _ _ X _ k => XS.aloadN X.here hx rfl (hb hby dm14_24) rfl rfl k
  have A19 : own_R p l e _ _ m _ below meth c S0 n0 h0 0 0 (mkF m 28 #[.val (.ref o0), .val (.ref o1), .val (.int (0 : Int32))] [(.ref o3), (.ref o2)]) := A18.getF hx hZ hown (hb hby dm14_25) (hw _ (List.mem_of_getElem? (i := 108) rfl)) Via.refl F_o1_value
  obtain ⟨vA20, hA20, ⟨rfl, rfl⟩, A20⟩ := A19.callS (own_c33 l Z a0 hw o2 o3 h0 n0 Z0 V_o2 V_o3) hx hZ hown (hb hby dm14_28) (hw _ (List.mem_of_getElem? (i := 109) rfl)) (hw _ (List.mem_of_getElem? (i := 110) rfl)) (hw _ (List.mem_of_getElem? (i := 111) rfl)) (hw _ (List.mem_of_getElem? (i := 112) rfl)) ⟨by decide, by decide⟩ (lenOf pd__28_5bB_5bB_29I rfl) (argsL := [(.ref o2), (.ref o3)]) (rest := []) rfl rfl (by rw [hml]; rfl) (W := 0) (Nat.le_of_eq rfl) (by decide) (by decide) (by decide) (by decide)
  have A21 : own_R p l e _ _ m _ below meth c S0 n0 h0 0 0 (mkF m 31 #[.val (.ref o0), .val (.ref o1), .val (.int (0 : Int32))] [(.int (-1 : Int32))]) := A20
  have A22 := A21.go (f' := mkF m 45 #[.val (.ref o0), .val (.ref o1), .val (.int (0 : Int32))] [(.int (-1 : Int32))]) fun _ _ X _ k => XS.goto X.here hx rfl (pc0 := 31) (pc' := 45) rfl (hb hby dm14_31) (by decide) (by decide) k
  exact A22.ret hx hlk hret (hb hby dm14_45) rfl (Or.inl ⟨rfl, by simp, _, rfl⟩) (by decide) (by decide) ⟨rfl, rfl⟩
theorem ef_own_c35 (m : MethodId) (o0 : Addr) (o1 : Addr) : entryFrame m #[(.ref o0), (.ref o1)] 2 = mkF m 0 #[.val (.ref o0), .val (.ref o1)] [] := by first | (simp [entryFrame, mkF, argsToLocals, Value.category, maxLocals]; done) | rfl
set_option maxRecDepth 65536 in
set_option maxHeartbeats 40000000 in
theorem own_c35 (l : Launch) (Z : State) (a0 : Array Value) (hw : ∀ d ∈ tables_1, d.before a0 Z = true) (o0 o1 o2 o3 : Addr) (cs : Int32) (h0 : Heap) (n0 : Nat) (Z0 : n0 ≤ h0.size) (E_o0 : Exa Z h0 o0 "java/lang/String") (F_o0_coder : Fld Z h0 o0 "java/lang/String" "coder" "B" (.int (0 : Int32))) (F_o0_value : Fld Z h0 o0 "java/lang/String" "value" "[B" (.ref o2)) (E_o1 : Exa Z h0 o1 "java/lang/String") (F_o1_coder : Fld Z h0 o1 "java/lang/String" "coder" "B" (.int (0 : Int32))) (F_o1_value : Fld Z h0 o1 "java/lang/String" "value" "[B" (.ref o3)) (V_o2 : own_Ar Z h0 o2 .byte [(.int (49 : Int32)), (.int (50 : Int32)), (.int (55 : Int32)), (.int (46 : Int32)), (.int (48 : Int32)), (.int (46 : Int32)), (.int (48 : Int32)), (.int (46 : Int32)), (.int (49 : Int32))]) (V_o3 : own_Ar Z h0 o3 .byte [(.int (58 : Int32))]) (S_cs : Sta Z h0 "java/lang/String" "COMPACT_STRINGS" "Z" (.int cs)) (hcs : ¬ (cs = (0 : Int32))) :
    own_M l Z (⟨"java/lang/String", "contains", "(Ljava/lang/CharSequence;)Z"⟩ : MethodName) jdk_42_method_97_code 2 (some .boolean) [] ({ frames := 3, cells := 0, slots := 0, locals := 49 } : Room) #[(.ref o0), (.ref o1)] h0 n0 (fun v h => v = some (.int (0 : Int32)) ∧ h0 = h) := by
  refine own_M.of (plainFor_of_name (by first | (simp [plainName, overriddenIn]; done) | decide +kernel)) ?_
  intro p e s m below meth c S0 hx hby hml hown hnm hret hlk hZ A00
  have A0 := A00.cast (ef_own_c35 m o0 o1)
  have KK : Keep h0 h0 ([] : List Addr) := Keep.refl _ _
  have A1 := A0.go (f' := mkF m 1 #[.val (.ref o0), .val (.ref o1)] [(.ref o0)]) fun _ _ X _ k => XS.aloadN X.here hx rfl (hb hby dm12_0) rfl rfl k
  have A2 := A1.go (f' := mkF m 2 #[.val (.ref o0), .val (.ref o1)] [(.ref o1), (.ref o0)]) fun _ _ X _ k => XS.aloadN X.here hx rfl (hb hby dm12_1) rfl rfl k
  obtain ⟨vA3, hA3, ⟨rfl, rfl⟩, A3⟩ := A2.callF (b := o1) (own_c24 l Z a0 hw o1 h0 n0 Z0) E_o1 hx hZ hown (hb hby dm12_2) (hw _ (List.mem_of_getElem? (i := 82) rfl)) (hw _ (List.mem_of_getElem? (i := 83) rfl)) (hw _ (List.mem_of_getElem? (i := 84) rfl)) (hw _ (List.mem_of_getElem? (i := 85) rfl)) (hw _ (List.mem_of_getElem? (i := 86) rfl)) (hw _ (List.mem_of_getElem? (i := 87) rfl)) (hw _ (List.mem_of_getElem? (i := 88) rfl)) (hw _ (List.mem_of_getElem? (i := 89) rfl)) (hw _ (List.mem_of_getElem? (i := 90) rfl)) (hw _ (List.mem_of_getElem? (i := 8) rfl)) ⟨by decide, by decide⟩ (lenOf pd__28_29Ljava_2flang_2fString_3b rfl) (argsL := []) (rest := [(.ref o0)]) rfl rfl (by rw [hml]; rfl) (W := 1) (Nat.le_of_eq rfl) (by decide) (by decide) (by decide) (by decide)
  have A4 : own_R p l e _ _ m _ below meth c S0 n0 h0 0 0 (mkF m 7 #[.val (.ref o0), .val (.ref o1)] [(.ref o1), (.ref o0)]) := A3
  obtain ⟨vA5, hA5, ⟨rfl, rfl⟩, A5⟩ := A4.callV (b := o0) (own_c34 l Z a0 hw o0 o1 o2 o3 cs h0 n0 Z0 E_o0 F_o0_coder F_o0_value E_o1 F_o1_coder F_o1_value V_o2 V_o3 S_cs hcs) E_o0 hx hZ hown (hb hby dm12_7) (hw _ (List.mem_of_getElem? (i := 91) rfl)) (hw _ (List.mem_of_getElem? (i := 92) rfl)) (hw _ (List.mem_of_getElem? (i := 94) rfl)) (hw _ (List.mem_of_getElem? (i := 93) rfl)) (hw _ (List.mem_of_getElem? (i := 95) rfl)) (hw _ (List.mem_of_getElem? (i := 8) rfl)) (own_nf (y' := (⟨"java/lang/String", "contains", "(Ljava/lang/CharSequence;)Z"⟩ : MethodName)) (hw _ (List.mem_of_getElem? (i := 80) rfl)) rfl) ⟨by decide, by decide⟩ (lenOf pd__28Ljava_2flang_2fString_3b_29I rfl) (argsL := [(.ref o1)]) (rest := []) rfl rfl (by rw [hml]; rfl) (W := 0) (Nat.le_of_eq rfl) (by decide) (by decide) (by decide) (by decide)
  have A6 : own_R p l e _ _ m _ below meth c S0 n0 h0 0 0 (mkF m 10 #[.val (.ref o0), .val (.ref o1)] [(.int (-1 : Int32))]) := A5
  have q7 : ((-1 : Int32) < (0 : Int32)) := by decide
  have A8 := A6.go (f' := mkF m 17 #[.val (.ref o0), .val (.ref o1)] []) fun _ _ X _ k => XS.ifYes X.here hx rfl (pc0 := 10) (pc' := 17) rfl (hb hby dm12_10) rfl ((if0 _ _).trans (tlt q7).1) (by decide) (by decide) k
  have A9 := A8.go (f' := mkF m 18 #[.val (.ref o0), .val (.ref o1)] [(.int (0 : Int32))]) fun _ _ X _ k => XS.iconst X.here hx rfl (hb hby dm12_17) k
  exact A9.ret hx hlk hret (hb hby dm12_18) rfl (Or.inl ⟨rfl, by simp, _, rfl⟩) (by decide) (by decide) ⟨rfl, rfl⟩
theorem ef_own_c38 (m : MethodId) (o0 : Addr) : entryFrame m #[(.ref o0), (.int (16 : Int32))] 2 = mkF m 0 #[.val (.ref o0), .val (.int (16 : Int32))] [] := by first | (simp [entryFrame, mkF, argsToLocals, Value.category, maxLocals]; done) | rfl
set_option maxRecDepth 65536 in
set_option maxHeartbeats 40000000 in
theorem own_c38 (l : Launch) (Z : State) (a0 : Array Value) (hw : ∀ d ∈ tables_1, d.before a0 Z = true) (o0 : Addr) (cs : Int32) (h0 : Heap) (n0 : Nat) (Z0 : n0 ≤ h0.size) (E_o0 : Exa Z h0 o0 "java/lang/StringBuilder") (F_o0_value : Fld Z h0 o0 "java/lang/AbstractStringBuilder" "value" "[B" .null) (F_o0_coder : Fld Z h0 o0 "java/lang/AbstractStringBuilder" "coder" "B" (.int (0 : Int32))) (F_o0_count : Fld Z h0 o0 "java/lang/AbstractStringBuilder" "count" "I" (.int (0 : Int32))) (S_cs : Sta Z h0 "java/lang/String" "COMPACT_STRINGS" "Z" (.int cs)) (hcs : ¬ (cs = (0 : Int32))) (g_o0 : n0 ≤ o0) :
    own_M l Z (⟨"java/lang/AbstractStringBuilder", "<init>", "(I)V"⟩ : MethodName) jdk_68_method_2_code 2 none [] ({ frames := 1, cells := 1, slots := 16, locals := 12 } : Room) #[(.ref o0), (.int (16 : Int32))] h0 n0 (fun v h => ∃ x1 : Addr, v = none ∧ Keep h0 h [o0] ∧ h0.size ≤ x1 ∧ Fld Z h o0 "java/lang/AbstractStringBuilder" "value" "[B" (.ref x1) ∧ Fld Z h o0 "java/lang/AbstractStringBuilder" "coder" "B" (.int (0 : Int32)) ∧ Fld Z h o0 "java/lang/AbstractStringBuilder" "count" "I" (.int (0 : Int32)) ∧ own_Ar Z h x1 .byte [(.int (0 : Int32)), (.int (0 : Int32)), (.int (0 : Int32)), (.int (0 : Int32)), (.int (0 : Int32)), (.int (0 : Int32)), (.int (0 : Int32)), (.int (0 : Int32)), (.int (0 : Int32)), (.int (0 : Int32)), (.int (0 : Int32)), (.int (0 : Int32)), (.int (0 : Int32)), (.int (0 : Int32)), (.int (0 : Int32)), (.int (0 : Int32))]) := by
  refine own_M.of (plainFor_of_name (by first | (simp [plainName, overriddenIn]; done) | decide +kernel)) ?_
  intro p e s m below meth c S0 hx hby hml hown hnm hret hlk hZ A00
  have A0 := A00.cast (ef_own_c38 m o0)
  have KK : Keep h0 h0 ([o0] : List Addr) := Keep.refl _ _
  have A1 := A0.go (f' := mkF m 1 #[.val (.ref o0), .val (.int (16 : Int32))] [(.ref o0)]) fun _ _ X _ k => XS.aloadN X.here hx rfl (hb hby dm20_0) rfl rfl k
  have A2 : own_R p l e _ _ m _ below meth c S0 n0 h0 0 0 (mkF m 4 #[.val (.ref o0), .val (.int (16 : Int32))] []) := A1.initO hx hZ hown (hb hby dm20_1) (hw _ (List.mem_of_getElem? (i := 128) rfl)) (hw _ (List.mem_of_getElem? (i := 30) rfl)) (hw _ (List.mem_of_getElem? (i := 31) rfl)) (by rw [hml]; rfl) (W := 0) (Nat.le_of_eq rfl) (by decide) (by decide)
  have A3 : own_R p l e _ _ m _ below meth c S0 n0 h0 0 0 (mkF m 7 #[.val (.ref o0), .val (.int (16 : Int32))] [(.int cs)]) := A2.getS hx hZ hown (hb hby dm20_4) (hw _ (List.mem_of_getElem? (i := 129) rfl)) Via.refl S_cs
  have A4 := A3.go (f' := mkF m 10 #[.val (.ref o0), .val (.int (16 : Int32))] []) fun _ _ X _ k => XS.ifNo X.here hx rfl (hb hby dm20_7) rfl ((if0 _ _).trans (feq hcs).1) k
  have A5 := A4.go (f' := mkF m 11 #[.val (.ref o0), .val (.int (16 : Int32))] [(.ref o0)]) fun _ _ X _ k => XS.aloadN X.here hx rfl (hb hby dm20_10) rfl rfl k
  have A6 := A5.go (f' := mkF m 12 #[.val (.ref o0), .val (.int (16 : Int32))] [(.int (16 : Int32)), (.ref o0)]) fun _ _ X _ k => XS.iloadN X.here hx rfl (hb hby dm20_11) rfl k
  obtain ⟨h7, E8, V_x1, A9⟩ := A6.newP hx hZ (hb hby dm20_12) (hw _ (List.mem_of_getElem? (i := 10) rfl)) (by decide) (cap := 16) (by decide) (by decide) (by decide) (by decide)
  obtain ⟨x1, gx1⟩ : ∃ z, z = h0.size := ⟨_, rfl⟩
  rw [← gx1] at V_x1 A9
  have ne_o0_x1 : o0 ≠ x1 := by rw [gx1]; exact Nat.ne_of_lt E_o0.lt
  have ne_x1_o0 := Ne.symm ne_o0_x1
  have g_x1 : n0 ≤ x1 := by rw [gx1]; exact Z0
  have sz_x1 : h0.size ≤ x1 := by rw [gx1]; exact KK.1
  have E_o0 : Exa Z h7 o0 "java/lang/StringBuilder" := E_o0.ext E8
  have F_o0_value : Fld Z h7 o0 "java/lang/AbstractStringBuilder" "value" "[B" .null := F_o0_value.ext E8
  have F_o0_coder : Fld Z h7 o0 "java/lang/AbstractStringBuilder" "coder" "B" (.int (0 : Int32)) := F_o0_coder.ext E8
  have F_o0_count : Fld Z h7 o0 "java/lang/AbstractStringBuilder" "count" "I" (.int (0 : Int32)) := F_o0_count.ext E8
  have S_cs : Sta Z h7 "java/lang/String" "COMPACT_STRINGS" "Z" (.int cs) := S_cs.ext E8
  have Z0 : n0 ≤ h7.size := Nat.le_trans Z0 E8.1
  have KK : Keep h0 h7 [o0] := KK.ext E8
  have V_x1 : own_Ar Z h7 x1 .byte [(.int (0 : Int32)), (.int (0 : Int32)), (.int (0 : Int32)), (.int (0 : Int32)), (.int (0 : Int32)), (.int (0 : Int32)), (.int (0 : Int32)), (.int (0 : Int32)), (.int (0 : Int32)), (.int (0 : Int32)), (.int (0 : Int32)), (.int (0 : Int32)), (.int (0 : Int32)), (.int (0 : Int32)), (.int (0 : Int32)), (.int (0 : Int32))] := V_x1
  have A10 : own_R p l e _ _ m _ below meth c S0 n0 h7 1 16 (mkF m 14 #[.val (.ref o0), .val (.int (16 : Int32))] [(.ref x1), (.ref o0)]) := A9
  obtain ⟨h11, W12, A13⟩ := A10.putF hx hZ hown (hb hby dm20_14) (hw _ (List.mem_of_getElem? (i := 130) rfl)) F_o0_value E_o0 (Or.inl (hw _ (List.mem_of_getElem? (i := 131) rfl))) (hw _ (List.mem_of_getElem? (i := 117) rfl)) (ty := (.array .byte)) (by decide) rfl rfl g_o0
  have E_o0 : Exa Z h11 o0 "java/lang/StringBuilder" := E_o0.wr W12
  have F_o0_value : Fld Z h11 o0 "java/lang/AbstractStringBuilder" "value" "[B" (.ref x1) := F_o0_value.same W12
  have F_o0_coder : Fld Z h11 o0 "java/lang/AbstractStringBuilder" "coder" "B" (.int (0 : Int32)) := F_o0_coder.other W12 (Or.inr (slot_ne (Or.inl (hw _ (List.mem_of_getElem? (i := 133) rfl))) (Or.inl (hw _ (List.mem_of_getElem? (i := 131) rfl))) (by decide) (t := .byte) (t' := (.array .byte)) (by decide) (by decide)))
  have F_o0_count : Fld Z h11 o0 "java/lang/AbstractStringBuilder" "count" "I" (.int (0 : Int32)) := F_o0_count.other W12 (Or.inr (slot_ne (Or.inl (hw _ (List.mem_of_getElem? (i := 150) rfl))) (Or.inl (hw _ (List.mem_of_getElem? (i := 131) rfl))) (by decide) (t := .int) (t' := (.array .byte)) (by decide) (by decide)))
  have S_cs : Sta Z h11 "java/lang/String" "COMPACT_STRINGS" "Z" (.int cs) := S_cs.wr W12
  have V_x1 : own_Ar Z h11 x1 .byte [(.int (0 : Int32)), (.int (0 : Int32)), (.int (0 : Int32)), (.int (0 : Int32)), (.int (0 : Int32)), (.int (0 : Int32)), (.int (0 : Int32)), (.int (0 : Int32)), (.int (0 : Int32)), (.int (0 : Int32)), (.int (0 : Int32)), (.int (0 : Int32)), (.int (0 : Int32)), (.int (0 : Int32)), (.int (0 : Int32)), (.int (0 : Int32))] := V_x1.other W12 ne_x1_o0
  have Z0 : n0 ≤ h11.size := by rw [W12.size]; exact Z0
  have KK : Keep h0 h11 [o0] := KK.wr W12 (Or.inl (by simp))
  have A14 : own_R p l e _ _ m _ below meth c S0 n0 h11 1 16 (mkF m 17 #[.val (.ref o0), .val (.int (16 : Int32))] []) := A13
  have A15 := A14.go (f' := mkF m 18 #[.val (.ref o0), .val (.int (16 : Int32))] [(.ref o0)]) fun _ _ X _ k => XS.aloadN X.here hx rfl (hb hby dm20_17) rfl rfl k
  have A16 := A15.go (f' := mkF m 19 #[.val (.ref o0), .val (.int (16 : Int32))] [(.int (0 : Int32)), (.ref o0)]) fun _ _ X _ k => XS.iconst X.here hx rfl (hb hby dm20_18) k
  obtain ⟨h17, W18, A19⟩ := A16.putF hx hZ hown (hb hby dm20_19) (hw _ (List.mem_of_getElem? (i := 132) rfl)) F_o0_coder E_o0 (Or.inl (hw _ (List.mem_of_getElem? (i := 133) rfl))) (hw _ (List.mem_of_getElem? (i := 117) rfl)) (ty := .byte) (by decide) rfl rfl g_o0
  have E_o0 : Exa Z h17 o0 "java/lang/StringBuilder" := E_o0.wr W18
  have F_o0_value : Fld Z h17 o0 "java/lang/AbstractStringBuilder" "value" "[B" (.ref x1) := F_o0_value.other W18 (Or.inr (slot_ne (Or.inl (hw _ (List.mem_of_getElem? (i := 131) rfl))) (Or.inl (hw _ (List.mem_of_getElem? (i := 133) rfl))) (by decide) (t := (.array .byte)) (t' := .byte) (by decide) (by decide)))
  have F_o0_coder : Fld Z h17 o0 "java/lang/AbstractStringBuilder" "coder" "B" (.int (0 : Int32)) := F_o0_coder.same W18
  have F_o0_count : Fld Z h17 o0 "java/lang/AbstractStringBuilder" "count" "I" (.int (0 : Int32)) := F_o0_count.other W18 (Or.inr (slot_ne (Or.inl (hw _ (List.mem_of_getElem? (i := 150) rfl))) (Or.inl (hw _ (List.mem_of_getElem? (i := 133) rfl))) (by decide) (t := .int) (t' := .byte) (by decide) (by decide)))
  have S_cs : Sta Z h17 "java/lang/String" "COMPACT_STRINGS" "Z" (.int cs) := S_cs.wr W18
  have V_x1 : own_Ar Z h17 x1 .byte [(.int (0 : Int32)), (.int (0 : Int32)), (.int (0 : Int32)), (.int (0 : Int32)), (.int (0 : Int32)), (.int (0 : Int32)), (.int (0 : Int32)), (.int (0 : Int32)), (.int (0 : Int32)), (.int (0 : Int32)), (.int (0 : Int32)), (.int (0 : Int32)), (.int (0 : Int32)), (.int (0 : Int32)), (.int (0 : Int32)), (.int (0 : Int32))] := V_x1.other W18 ne_x1_o0
  have Z0 : n0 ≤ h17.size := by rw [W18.size]; exact Z0
  have KK : Keep h0 h17 [o0] := KK.wr W18 (Or.inl (by simp))
  have A20 : own_R p l e _ _ m _ below meth c S0 n0 h17 1 16 (mkF m 22 #[.val (.ref o0), .val (.int (16 : Int32))] []) := A19
  have A21 := A20.go (f' := mkF m 38 #[.val (.ref o0), .val (.int (16 : Int32))] []) fun _ _ X _ k => XS.goto X.here hx rfl (pc0 := 22) (pc' := 38) rfl (hb hby dm20_22) (by decide) (by decide) k
  exact A21.retV hx hlk hret (hb hby dm20_38) (by decide) (by decide) ⟨x1, rfl, KK, sz_x1, F_o0_value, F_o0_coder, F_o0_count, V_x1⟩
theorem ef_own_c39 (m : MethodId) (o0 : Addr) : entryFrame m #[(.ref o0)] 1 = mkF m 0 #[.val (.ref o0)] [] := by first | (simp [entryFrame, mkF, argsToLocals, Value.category, maxLocals]; done) | rfl
set_option maxRecDepth 65536 in
set_option maxHeartbeats 40000000 in
theorem own_c39 (l : Launch) (Z : State) (a0 : Array Value) (hw : ∀ d ∈ tables_1, d.before a0 Z = true) (o0 : Addr) (cs : Int32) (h0 : Heap) (n0 : Nat) (Z0 : n0 ≤ h0.size) (E_o0 : Exa Z h0 o0 "java/lang/StringBuilder") (F_o0_value : Fld Z h0 o0 "java/lang/AbstractStringBuilder" "value" "[B" .null) (F_o0_coder : Fld Z h0 o0 "java/lang/AbstractStringBuilder" "coder" "B" (.int (0 : Int32))) (F_o0_count : Fld Z h0 o0 "java/lang/AbstractStringBuilder" "count" "I" (.int (0 : Int32))) (S_cs : Sta Z h0 "java/lang/String" "COMPACT_STRINGS" "Z" (.int cs)) (hcs : ¬ (cs = (0 : Int32))) (g_o0 : n0 ≤ o0) :
    own_M l Z (⟨"java/lang/StringBuilder", "<init>", "()V"⟩ : MethodName) jdk_67_method_1_code 1 none [] ({ frames := 2, cells := 1, slots := 16, locals := 25 } : Room) #[(.ref o0)] h0 n0 (fun v h => ∃ x1 : Addr, v = none ∧ Keep h0 h [o0] ∧ h0.size ≤ x1 ∧ Fld Z h o0 "java/lang/AbstractStringBuilder" "value" "[B" (.ref x1) ∧ Fld Z h o0 "java/lang/AbstractStringBuilder" "coder" "B" (.int (0 : Int32)) ∧ Fld Z h o0 "java/lang/AbstractStringBuilder" "count" "I" (.int (0 : Int32)) ∧ own_Ar Z h x1 .byte [(.int (0 : Int32)), (.int (0 : Int32)), (.int (0 : Int32)), (.int (0 : Int32)), (.int (0 : Int32)), (.int (0 : Int32)), (.int (0 : Int32)), (.int (0 : Int32)), (.int (0 : Int32)), (.int (0 : Int32)), (.int (0 : Int32)), (.int (0 : Int32)), (.int (0 : Int32)), (.int (0 : Int32)), (.int (0 : Int32)), (.int (0 : Int32))]) := by
  refine own_M.of (plainFor_of_name (by first | (simp [plainName, overriddenIn]; done) | decide +kernel)) ?_
  intro p e s m below meth c S0 hx hby hml hown hnm hret hlk hZ A00
  have A0 := A00.cast (ef_own_c39 m o0)
  have KK : Keep h0 h0 ([o0] : List Addr) := Keep.refl _ _
  have A1 := A0.go (f' := mkF m 1 #[.val (.ref o0)] [(.ref o0)]) fun _ _ X _ k => XS.aloadN X.here hx rfl (hb hby dm19_0) rfl rfl k
  have A2 := A1.go (f' := mkF m 3 #[.val (.ref o0)] [(.int (16 : Int32)), (.ref o0)]) fun _ _ X _ k => XS.bipush X.here hx rfl (hb hby dm19_1) k
  obtain ⟨vA3, hA3, ⟨x1, rfl, KA3, zz_x1, P_F_o0_value, P_F_o0_coder, P_F_o0_count, P_V_x1⟩, A3⟩ := A2.callI (b := o0) (own_c38 l Z a0 hw o0 cs h0 n0 Z0 E_o0 F_o0_value F_o0_coder F_o0_count S_cs hcs g_o0) hx hZ hown (hb hby dm19_3) rfl (hw _ (List.mem_of_getElem? (i := 122) rfl)) (hw _ (List.mem_of_getElem? (i := 123) rfl)) (hw _ (List.mem_of_getElem? (i := 127) rfl)) (hw _ (List.mem_of_getElem? (i := 126) rfl)) ⟨by decide, by decide⟩ (lenOf pd__28I_29V rfl) (argsL := [(.int (16 : Int32))]) (rest := []) rfl rfl (by rw [hml]; rfl) (W := 0) (Nat.le_of_eq rfl) (by decide) (by decide) (by decide) (by decide)
  have ne_o0_x1 : o0 ≠ x1 := Nat.ne_of_lt (Nat.lt_of_lt_of_le E_o0.lt zz_x1)
  have ne_x1_o0 := Ne.symm ne_o0_x1
  have g_x1 : n0 ≤ x1 := Nat.le_trans Z0 zz_x1
  have sz_x1 : h0.size ≤ x1 := Nat.le_trans KK.1 zz_x1
  have S_cs : Sta Z hA3 "java/lang/String" "COMPACT_STRINGS" "Z" (.int cs) := own_staK S_cs KA3 (allS (P := fun x => ∀ cell : Cell, h0[x]? = some cell → cell.vm.isStatics = false) E_o0.nostat all0)
  have E_o0 : Exa Z hA3 o0 "java/lang/StringBuilder" := E_o0.keep KA3
  have Z0 : n0 ≤ hA3.size := Nat.le_trans Z0 KA3.1
  have KK : Keep h0 hA3 [o0] := KK.trans KA3 (allS (P := fun x => x ∈ ([o0] : List Addr) ∨ h0.size ≤ x) (Or.inl (by simp)) all0)
  have F_o0_value : Fld Z hA3 o0 "java/lang/AbstractStringBuilder" "value" "[B" (.ref x1) := P_F_o0_value
  have F_o0_coder : Fld Z hA3 o0 "java/lang/AbstractStringBuilder" "coder" "B" (.int (0 : Int32)) := P_F_o0_coder
  have F_o0_count : Fld Z hA3 o0 "java/lang/AbstractStringBuilder" "count" "I" (.int (0 : Int32)) := P_F_o0_count
  have V_x1 : own_Ar Z hA3 x1 .byte [(.int (0 : Int32)), (.int (0 : Int32)), (.int (0 : Int32)), (.int (0 : Int32)), (.int (0 : Int32)), (.int (0 : Int32)), (.int (0 : Int32)), (.int (0 : Int32)), (.int (0 : Int32)), (.int (0 : Int32)), (.int (0 : Int32)), (.int (0 : Int32)), (.int (0 : Int32)), (.int (0 : Int32)), (.int (0 : Int32)), (.int (0 : Int32))] := P_V_x1
  have A4 : own_R p l e _ _ m _ below meth c S0 n0 hA3 1 16 (mkF m 6 #[.val (.ref o0)] []) := A3
  exact A4.retV hx hlk hret (hb hby dm19_6) (by decide) (by decide) ⟨x1, rfl, KK, sz_x1, F_o0_value, F_o0_coder, F_o0_count, V_x1⟩
theorem ef_own_c43 (m : MethodId) (o0 : Addr) : entryFrame m #[(.ref o0)] 1 = mkF m 0 #[.val (.ref o0)] [] := by first | (simp [entryFrame, mkF, argsToLocals, Value.category, maxLocals]; done) | rfl
set_option maxRecDepth 65536 in
set_option maxHeartbeats 40000000 in
theorem own_c43 (l : Launch) (Z : State) (a0 : Array Value) (hw : ∀ d ∈ tables_1, d.before a0 Z = true) (o0 o1 : Addr) (cs : Int32) (h0 : Heap) (n0 : Nat) (Z0 : n0 ≤ h0.size) (E_o0 : Exa Z h0 o0 "java/lang/String") (F_o0_coder : Fld Z h0 o0 "java/lang/String" "coder" "B" (.int (0 : Int32))) (F_o0_value : Fld Z h0 o0 "java/lang/String" "value" "[B" (.ref o1)) (V_o1 : own_Ar Z h0 o1 .byte [(.int (104 : Int32)), (.int (116 : Int32)), (.int (116 : Int32)), (.int (112 : Int32))]) (S_cs : Sta Z h0 "java/lang/String" "COMPACT_STRINGS" "Z" (.int cs)) (hcs : ¬ (cs = (0 : Int32))) :
    own_M l Z (⟨"java/lang/String", "length", "()I"⟩ : MethodName) jdk_42_method_54_code 1 (some .int) [] ({ frames := 1, cells := 0, slots := 0, locals := 13 } : Room) #[(.ref o0)] h0 n0 (fun v h => v = some (.int (4 : Int32)) ∧ h0 = h) := by
  refine own_M.of (plainFor_of_name (by first | (simp [plainName, overriddenIn]; done) | decide +kernel)) ?_
  intro p e s m below meth c S0 hx hby hml hown hnm hret hlk hZ A00
  have A0 := A00.cast (ef_own_c43 m o0)
  have KK : Keep h0 h0 ([] : List Addr) := Keep.refl _ _
  have A1 := A0.go (f' := mkF m 1 #[.val (.ref o0)] [(.ref o0)]) fun _ _ X _ k => XS.aloadN X.here hx rfl (hb hby dm23_0) rfl rfl k
  have A2 : own_R p l e _ _ m _ below meth c S0 n0 h0 0 0 (mkF m 4 #[.val (.ref o0)] [(.ref o1)]) := A1.getF hx hZ hown (hb hby dm23_1) (hw _ (List.mem_of_getElem? (i := 108) rfl)) Via.refl F_o0_value
  have A3 : own_R p l e _ _ m _ below meth c S0 n0 h0 0 0 (mkF m 5 #[.val (.ref o0)] [(.int (4 : Int32))]) := A2.len hx hZ (hb hby dm23_4) V_o1
  have A4 := A3.go (f' := mkF m 6 #[.val (.ref o0)] [(.ref o0), (.int (4 : Int32))]) fun _ _ X _ k => XS.aloadN X.here hx rfl (hb hby dm23_5) rfl rfl k
  obtain ⟨vA5, hA5, ⟨rfl, rfl⟩, A5⟩ := A4.callV (b := o0) (own_c27 l Z a0 hw o0 cs h0 n0 Z0 F_o0_coder S_cs hcs) E_o0 hx hZ hown (hb hby dm23_6) (hw _ (List.mem_of_getElem? (i := 96) rfl)) (hw _ (List.mem_of_getElem? (i := 97) rfl)) (hw _ (List.mem_of_getElem? (i := 99) rfl)) (hw _ (List.mem_of_getElem? (i := 98) rfl)) (hw _ (List.mem_of_getElem? (i := 100) rfl)) (hw _ (List.mem_of_getElem? (i := 8) rfl)) (own_nf (y' := (⟨"java/lang/String", "contains", "(Ljava/lang/CharSequence;)Z"⟩ : MethodName)) (hw _ (List.mem_of_getElem? (i := 80) rfl)) rfl) ⟨by decide, by decide⟩ (lenOf pd__28_29B rfl) (argsL := []) (rest := [(.int (4 : Int32))]) rfl rfl (by rw [hml]; rfl) (W := 1) (Nat.le_of_eq rfl) (by decide) (by decide) (by decide) (by decide)
  have A6 : own_R p l e _ _ m _ below meth c S0 n0 h0 0 0 (mkF m 9 #[.val (.ref o0)] [(.int (0 : Int32)), (.int (4 : Int32))]) := A5
  have A7 := A6.go (f' := mkF m 10 #[.val (.ref o0)] [(.int (4 : Int32))]) fun _ _ X _ k => XS.ishr X.here hx rfl (hb hby dm23_9) rfl k
  exact A7.ret hx hlk hret (hb hby dm23_10) rfl (Or.inl ⟨rfl, by simp, _, rfl⟩) (by decide) (by decide) ⟨rfl, rfl⟩
theorem ef_own_c45 (m : MethodId) (o0 : Addr) : entryFrame m #[(.ref o0), (.int (4 : Int32))] 3 = mkF m 0 #[.val (.ref o0), .val (.int (4 : Int32)), .unset] [] := by first | (simp [entryFrame, mkF, argsToLocals, Value.category, maxLocals]; done) | rfl
set_option maxRecDepth 65536 in
set_option maxHeartbeats 40000000 in
theorem own_c45 (l : Launch) (Z : State) (a0 : Array Value) (hw : ∀ d ∈ tables_1, d.before a0 Z = true) (o0 o1 : Addr) (h0 : Heap) (n0 : Nat) (Z0 : n0 ≤ h0.size) (F_o0_value : Fld Z h0 o0 "java/lang/AbstractStringBuilder" "value" "[B" (.ref o1)) (F_o0_coder : Fld Z h0 o0 "java/lang/AbstractStringBuilder" "coder" "B" (.int (0 : Int32))) (V_o1 : own_Ar Z h0 o1 .byte [(.int (0 : Int32)), (.int (0 : Int32)), (.int (0 : Int32)), (.int (0 : Int32)), (.int (0 : Int32)), (.int (0 : Int32)), (.int (0 : Int32)), (.int (0 : Int32)), (.int (0 : Int32)), (.int (0 : Int32)), (.int (0 : Int32)), (.int (0 : Int32)), (.int (0 : Int32)), (.int (0 : Int32)), (.int (0 : Int32)), (.int (0 : Int32))]) :
    own_M l Z (⟨"java/lang/AbstractStringBuilder", "ensureCapacityInternal", "(I)V"⟩ : MethodName) jdk_68_method_9_code 3 none [] ({ frames := 0, cells := 0, slots := 0, locals := 0 } : Room) #[(.ref o0), (.int (4 : Int32))] h0 n0 (fun v h => v = none ∧ h0 = h) := by
  refine own_M.of (plainFor_of_name (by first | (simp [plainName, overriddenIn]; done) | decide +kernel)) ?_
  intro p e s m below meth c S0 hx hby hml hown hnm hret hlk hZ A00
  have A0 := A00.cast (ef_own_c45 m o0)
  have KK : Keep h0 h0 ([] : List Addr) := Keep.refl _ _
  have A1 := A0.go (f' := mkF m 1 #[.val (.ref o0), .val (.int (4 : Int32)), .unset] [(.ref o0)]) fun _ _ X _ k => XS.aloadN X.here hx rfl (hb hby dm24_0) rfl rfl k
  have A2 : own_R p l e _ _ m _ below meth c S0 n0 h0 0 0 (mkF m 4 #[.val (.ref o0), .val (.int (4 : Int32)), .unset] [(.ref o1)]) := A1.getF hx hZ hown (hb hby dm24_1) (hw _ (List.mem_of_getElem? (i := 130) rfl)) Via.refl F_o0_value
  have A3 : own_R p l e _ _ m _ below meth c S0 n0 h0 0 0 (mkF m 5 #[.val (.ref o0), .val (.int (4 : Int32)), .unset] [(.int (16 : Int32))]) := A2.len hx hZ (hb hby dm24_4) V_o1
  have A4 := A3.go (f' := mkF m 6 #[.val (.ref o0), .val (.int (4 : Int32)), .unset] [(.ref o0), (.int (16 : Int32))]) fun _ _ X _ k => XS.aloadN X.here hx rfl (hb hby dm24_5) rfl rfl k
  have A5 : own_R p l e _ _ m _ below meth c S0 n0 h0 0 0 (mkF m 9 #[.val (.ref o0), .val (.int (4 : Int32)), .unset] [(.int (0 : Int32)), (.int (16 : Int32))]) := A4.getF hx hZ hown (hb hby dm24_6) (hw _ (List.mem_of_getElem? (i := 132) rfl)) Via.refl F_o0_coder
  have A6 := A5.go (f' := mkF m 10 #[.val (.ref o0), .val (.int (4 : Int32)), .unset] [(.int (16 : Int32))]) fun _ _ X _ k => XS.ishr X.here hx rfl (hb hby dm24_9) rfl k
  have A7 := A6.go (f' := mkF m 11 #[.val (.ref o0), .val (.int (4 : Int32)), .val (.int (16 : Int32))] []) fun _ _ X _ k => XS.istoreN X.here hx rfl (hb hby dm24_10) rfl (l' := #[.val (.ref o0), .val (.int (4 : Int32)), .val (.int (16 : Int32))]) rfl k
  have A8 := A7.go (f' := mkF m 12 #[.val (.ref o0), .val (.int (4 : Int32)), .val (.int (16 : Int32))] [(.int (4 : Int32))]) fun _ _ X _ k => XS.iloadN X.here hx rfl (hb hby dm24_11) rfl k
  have A9 := A8.go (f' := mkF m 13 #[.val (.ref o0), .val (.int (4 : Int32)), .val (.int (16 : Int32))] [(.int (16 : Int32)), (.int (4 : Int32))]) fun _ _ X _ k => XS.iloadN X.here hx rfl (hb hby dm24_12) rfl k
  have A10 := A9.go (f' := mkF m 14 #[.val (.ref o0), .val (.int (4 : Int32)), .val (.int (16 : Int32))] [(.int (-12 : Int32))]) fun _ _ X _ k => XS.isub X.here hx rfl (hb hby dm24_13) rfl k
  have q11 : ¬ ((0 : Int32) < (-12 : Int32)) := by decide
  have A12 := A10.go (f' := mkF m 38 #[.val (.ref o0), .val (.int (4 : Int32)), .val (.int (16 : Int32))] []) fun _ _ X _ k => XS.ifYes X.here hx rfl (pc0 := 14) (pc' := 38) rfl (hb hby dm24_14) rfl ((if0 _ _).trans (flt q11).2.2.2) (by decide) (by decide) k
  exact A12.retV hx hlk hret (hb hby dm24_38) (by decide) (by decide) ⟨rfl, rfl⟩
theorem ef_own_c48 (m : MethodId) (o0 : Addr) (o1 : Addr) : entryFrame m #[(.ref o0), (.ref o1)] 2 = mkF m 0 #[.val (.ref o0), .val (.ref o1)] [] := by first | (simp [entryFrame, mkF, argsToLocals, Value.category, maxLocals]; done) | rfl
set_option maxRecDepth 65536 in
set_option maxHeartbeats 40000000 in
theorem own_c48 (l : Launch) (Z : State) (a0 : Array Value) (hw : ∀ d ∈ tables_1, d.before a0 Z = true) (o0 o1 : Addr) (cs : Int32) (h0 : Heap) (n0 : Nat) (Z0 : n0 ≤ h0.size) (F_o0_coder : Fld Z h0 o0 "java/lang/AbstractStringBuilder" "coder" "B" (.int (0 : Int32))) (E_o1 : Exa Z h0 o1 "java/lang/String") (F_o1_coder : Fld Z h0 o1 "java/lang/String" "coder" "B" (.int (0 : Int32))) (S_cs : Sta Z h0 "java/lang/String" "COMPACT_STRINGS" "Z" (.int cs)) (hcs : ¬ (cs = (0 : Int32))) :
    own_M l Z (⟨"java/lang/AbstractStringBuilder", "inflateIfNeededFor", "(Ljava/lang/String;)V"⟩ : MethodName) jdk_68_method_71_code 2 none [] ({ frames := 1, cells := 0, slots := 0, locals := 13 } : Room) #[(.ref o0), (.ref o1)] h0 n0 (fun v h => v = none ∧ h0 = h) := by
  refine own_M.of (plainFor_of_name (by first | (simp [plainName, overriddenIn]; done) | decide +kernel)) ?_
  intro p e s m below meth c S0 hx hby hml hown hnm hret hlk hZ A00
  have A0 := A00.cast (ef_own_c48 m o0 o1)
  have KK : Keep h0 h0 ([] : List Addr) := Keep.refl _ _
  have A1 : own_R p l e _ _ m _ below meth c S0 n0 h0 0 0 (mkF m 3 #[.val (.ref o0), .val (.ref o1)] [(.int cs)]) := A0.getS hx hZ hown (hb hby dm26_0) (hw _ (List.mem_of_getElem? (i := 129) rfl)) Via.refl S_cs
  have A2 := A1.go (f' := mkF m 6 #[.val (.ref o0), .val (.ref o1)] []) fun _ _ X _ k => XS.ifNo X.here hx rfl (hb hby dm26_3) rfl ((if0 _ _).trans (feq hcs).1) k
  have A3 := A2.go (f' := mkF m 7 #[.val (.ref o0), .val (.ref o1)] [(.ref o0)]) fun _ _ X _ k => XS.aloadN X.here hx rfl (hb hby dm26_6) rfl rfl k
  have A4 : own_R p l e _ _ m _ below meth c S0 n0 h0 0 0 (mkF m 10 #[.val (.ref o0), .val (.ref o1)] [(.int (0 : Int32))]) := A3.getF hx hZ hown (hb hby dm26_7) (hw _ (List.mem_of_getElem? (i := 132) rfl)) Via.refl F_o0_coder
  have A5 := A4.go (f' := mkF m 11 #[.val (.ref o0), .val (.ref o1)] [(.ref o1), (.int (0 : Int32))]) fun _ _ X _ k => XS.aloadN X.here hx rfl (hb hby dm26_10) rfl rfl k
  obtain ⟨vA6, hA6, ⟨rfl, rfl⟩, A6⟩ := A5.callV (b := o1) (own_c27 l Z a0 hw o1 cs h0 n0 Z0 F_o1_coder S_cs hcs) E_o1 hx hZ hown (hb hby dm26_11) (hw _ (List.mem_of_getElem? (i := 166) rfl)) (hw _ (List.mem_of_getElem? (i := 97) rfl)) (hw _ (List.mem_of_getElem? (i := 99) rfl)) (hw _ (List.mem_of_getElem? (i := 98) rfl)) (hw _ (List.mem_of_getElem? (i := 100) rfl)) (hw _ (List.mem_of_getElem? (i := 8) rfl)) (own_nf (y' := (⟨"java/lang/String", "contains", "(Ljava/lang/CharSequence;)Z"⟩ : MethodName)) (hw _ (List.mem_of_getElem? (i := 80) rfl)) rfl) ⟨by decide, by decide⟩ (lenOf pd__28_29B rfl) (argsL := []) (rest := [(.int (0 : Int32))]) rfl rfl (by rw [hml]; rfl) (W := 1) (Nat.le_of_eq rfl) (by decide) (by decide) (by decide) (by decide)
  have A7 : own_R p l e _ _ m _ below meth c S0 n0 h0 0 0 (mkF m 14 #[.val (.ref o0), .val (.ref o1)] [(.int (0 : Int32)), (.int (0 : Int32))]) := A6
  have q8 : ((0 : Int32) = (0 : Int32)) := rfl
  have A9 := A7.go (f' := mkF m 21 #[.val (.ref o0), .val (.ref o1)] []) fun _ _ X _ k => XS.icmpYes X.here hx rfl (pc0 := 14) (pc' := 21) rfl (hb hby dm26_14) rfl ((teq q8).1) (by decide) (by decide) k
  exact A9.retV hx hlk hret (hb hby dm26_21) (by decide) (by decide) ⟨rfl, rfl⟩
theorem ef_own_c50 (m : MethodId) (o0 : Addr) (o1 : Addr) : entryFrame m #[(.ref o0), (.ref o1), (.int (0 : Int32)), (.int (0 : Int32))] 4 = mkF m 0 #[.val (.ref o0), .val (.ref o1), .val (.int (0 : Int32)), .val (.int (0 : Int32))] [] := by first | (simp [entryFrame, mkF, argsToLocals, Value.category, maxLocals]; done) | rfl
set_option maxRecDepth 65536 in
set_option maxHeartbeats 40000000 in
theorem own_c50 (l : Launch) (Z : State) (a0 : Array Value) (hw : ∀ d ∈ tables_1, d.before a0 Z = true) (o0 o1 o2 : Addr) (cs : Int32) (h0 : Heap) (n0 : Nat) (Z0 : n0 ≤ h0.size) (E_o0 : Exa Z h0 o0 "java/lang/String") (F_o0_coder : Fld Z h0 o0 "java/lang/String" "coder" "B" (.int (0 : Int32))) (F_o0_value : Fld Z h0 o0 "java/lang/String" "value" "[B" (.ref o2)) (V_o1 : own_Ar Z h0 o1 .byte [(.int (0 : Int32)), (.int (0 : Int32)), (.int (0 : Int32)), (.int (0 : Int32)), (.int (0 : Int32)), (.int (0 : Int32)), (.int (0 : Int32)), (.int (0 : Int32)), (.int (0 : Int32)), (.int (0 : Int32)), (.int (0 : Int32)), (.int (0 : Int32)), (.int (0 : Int32)), (.int (0 : Int32)), (.int (0 : Int32)), (.int (0 : Int32))]) (V_o2 : own_Ar Z h0 o2 .byte [(.int (104 : Int32)), (.int (116 : Int32)), (.int (116 : Int32)), (.int (112 : Int32))]) (S_cs : Sta Z h0 "java/lang/String" "COMPACT_STRINGS" "Z" (.int cs)) (hcs : ¬ (cs = (0 : Int32))) (ne_o0_o1 : o0 ≠ o1) (ne_o2_o1 : o2 ≠ o1) (g_o1 : n0 ≤ o1) :
    own_M l Z (⟨"java/lang/String", "getBytes", "([BIB)V"⟩ : MethodName) jdk_42_method_147_code 4 none [] ({ frames := 1, cells := 0, slots := 0, locals := 18 } : Room) #[(.ref o0), (.ref o1), (.int (0 : Int32)), (.int (0 : Int32))] h0 n0 (fun v h => v = none ∧ Keep h0 h [o1] ∧ own_Ar Z h o1 .byte [(.int (104 : Int32)), (.int (116 : Int32)), (.int (116 : Int32)), (.int (112 : Int32)), (.int (0 : Int32)), (.int (0 : Int32)), (.int (0 : Int32)), (.int (0 : Int32)), (.int (0 : Int32)), (.int (0 : Int32)), (.int (0 : Int32)), (.int (0 : Int32)), (.int (0 : Int32)), (.int (0 : Int32)), (.int (0 : Int32)), (.int (0 : Int32))]) := by
  refine own_M.of (plainFor_of_name (by first | (simp [plainName, overriddenIn]; done) | decide +kernel)) ?_
  intro p e s m below meth c S0 hx hby hml hown hnm hret hlk hZ A00
  have A0 := A00.cast (ef_own_c50 m o0 o1)
  have KK : Keep h0 h0 ([o1] : List Addr) := Keep.refl _ _
  have A1 := A0.go (f' := mkF m 1 #[.val (.ref o0), .val (.ref o1), .val (.int (0 : Int32)), .val (.int (0 : Int32))] [(.ref o0)]) fun _ _ X _ k => XS.aloadN X.here hx rfl (hb hby dm27_0) rfl rfl k
  obtain ⟨vA2, hA2, ⟨rfl, rfl⟩, A2⟩ := A1.callV (b := o0) (own_c27 l Z a0 hw o0 cs h0 n0 Z0 F_o0_coder S_cs hcs) E_o0 hx hZ hown (hb hby dm27_1) (hw _ (List.mem_of_getElem? (i := 96) rfl)) (hw _ (List.mem_of_getElem? (i := 97) rfl)) (hw _ (List.mem_of_getElem? (i := 99) rfl)) (hw _ (List.mem_of_getElem? (i := 98) rfl)) (hw _ (List.mem_of_getElem? (i := 100) rfl)) (hw _ (List.mem_of_getElem? (i := 8) rfl)) (own_nf (y' := (⟨"java/lang/String", "contains", "(Ljava/lang/CharSequence;)Z"⟩ : MethodName)) (hw _ (List.mem_of_getElem? (i := 80) rfl)) rfl) ⟨by decide, by decide⟩ (lenOf pd__28_29B rfl) (argsL := []) (rest := []) rfl rfl (by rw [hml]; rfl) (W := 0) (Nat.le_of_eq rfl) (by decide) (by decide) (by decide) (by decide)
  have A3 : own_R p l e _ _ m _ below meth c S0 n0 h0 0 0 (mkF m 4 #[.val (.ref o0), .val (.ref o1), .val (.int (0 : Int32)), .val (.int (0 : Int32))] [(.int (0 : Int32))]) := A2
  have A4 := A3.go (f' := mkF m 5 #[.val (.ref o0), .val (.ref o1), .val (.int (0 : Int32)), .val (.int (0 : Int32))] [(.int (0 : Int32)), (.int (0 : Int32))]) fun _ _ X _ k => XS.iloadN X.here hx rfl (hb hby dm27_4) rfl k
  have q5 : ((0 : Int32) = (0 : Int32)) := rfl
  have A6 := A4.go (f' := mkF m 8 #[.val (.ref o0), .val (.ref o1), .val (.int (0 : Int32)), .val (.int (0 : Int32))] []) fun _ _ X _ k => XS.icmpNo X.here hx rfl (hb hby dm27_5) rfl ((teq q5).2) k
  have A7 := A6.go (f' := mkF m 9 #[.val (.ref o0), .val (.ref o1), .val (.int (0 : Int32)), .val (.int (0 : Int32))] [(.ref o0)]) fun _ _ X _ k => XS.aloadN X.here hx rfl (hb hby dm27_8) rfl rfl k
  have A8 : own_R p l e _ _ m _ below meth c S0 n0 h0 0 0 (mkF m 12 #[.val (.ref o0), .val (.ref o1), .val (.int (0 : Int32)), .val (.int (0 : Int32))] [(.ref o2)]) := A7.getF hx hZ hown (hb hby dm27_9) (hw _ (List.mem_of_getElem? (i := 108) rfl)) Via.refl F_o0_value
  have A9 := A8.go (f' := mkF m 13 #[.val (.ref o0), .val (.ref o1), .val (.int (0 : Int32)), .val (.int (0 : Int32))] [(.int (0 : Int32)), (.ref o2)]) fun _ _ X _ k => XS.iconst X.here hx rfl (hb hby dm27_12) k
  have A10 := A9.go (f' := mkF m 14 #[.val (.ref o0), .val (.ref o1), .val (.int (0 : Int32)), .val (.int (0 : Int32))] [(.ref o1), (.int (0 : Int32)), (.ref o2)]) fun _ _ X _ k => XS.aloadN X.here hx rfl (hb hby dm27_13) rfl rfl k
  have A11 := A10.go (f' := mkF m 15 #[.val (.ref o0), .val (.ref o1), .val (.int (0 : Int32)), .val (.int (0 : Int32))] [(.int (0 : Int32)), (.ref o1), (.int (0 : Int32)), (.ref o2)]) fun _ _ X _ k => XS.iloadN X.here hx rfl (hb hby dm27_14) rfl k
  have A12 := A11.go (f' := mkF m 16 #[.val (.ref o0), .val (.ref o1), .val (.int (0 : Int32)), .val (.int (0 : Int32))] [(.int (0 : Int32)), (.int (0 : Int32)), (.ref o1), (.int (0 : Int32)), (.ref o2)]) fun _ _ X _ k => XS.iloadN X.here hx rfl (hb hby dm27_15) rfl k
  have A13 := A12.go (f' := mkF m 17 #[.val (.ref o0), .val (.ref o1), .val (.int (0 : Int32)), .val (.int (0 : Int32))] [(.int (0 : Int32)), (.ref o1), (.int (0 : Int32)), (.ref o2)]) fun _ _ X _ k => XS.ishl X.here hx rfl (hb hby dm27_16) rfl k
  have A14 := A13.go (f' := mkF m 18 #[.val (.ref o0), .val (.ref o1), .val (.int (0 : Int32)), .val (.int (0 : Int32))] [(.ref o0), (.int (0 : Int32)), (.ref o1), (.int (0 : Int32)), (.ref o2)]) fun _ _ X _ k => XS.aloadN X.here hx rfl (hb hby dm27_17) rfl rfl k
  have A15 : own_R p l e _ _ m _ below meth c S0 n0 h0 0 0 (mkF m 21 #[.val (.ref o0), .val (.ref o1), .val (.int (0 : Int32)), .val (.int (0 : Int32))] [(.ref o2), (.int (0 : Int32)), (.ref o1), (.int (0 : Int32)), (.ref o2)]) := A14.getF hx hZ hown (hb hby dm27_18) (hw _ (List.mem_of_getElem? (i := 108) rfl)) Via.refl F_o0_value
  have A16 : own_R p l e _ _ m _ below meth c S0 n0 h0 0 0 (mkF m 22 #[.val (.ref o0), .val (.ref o1), .val (.int (0 : Int32)), .val (.int (0 : Int32))] [(.int (4 : Int32)), (.int (0 : Int32)), (.ref o1), (.int (0 : Int32)), (.ref o2)]) := A15.len hx hZ (hb hby dm27_21) V_o2
  obtain ⟨hA17, KA17, P_V_o1, A17⟩ := A16.cpA (vr := [(.int (104 : Int32)), (.int (116 : Int32)), (.int (116 : Int32)), (.int (112 : Int32)), (.int (0 : Int32)), (.int (0 : Int32)), (.int (0 : Int32)), (.int (0 : Int32)), (.int (0 : Int32)), (.int (0 : Int32)), (.int (0 : Int32)), (.int (0 : Int32)), (.int (0 : Int32)), (.int (0 : Int32)), (.int (0 : Int32)), (.int (0 : Int32))]) hx hZ hown (hb hby dm27_22) (hw _ (List.mem_of_getElem? (i := 172) rfl)) (hw _ (List.mem_of_getElem? (i := 175) rfl)) (hw _ (List.mem_of_getElem? (i := 173) rfl)) (hw _ (List.mem_of_getElem? (i := 174) rfl)) V_o2 V_o1 rfl (by decide) (by decide) (z1 := (4 : Int32)) (z2 := (16 : Int32)) (by decide) (by decide) (by decide) (by decide) (by decide) (by decide) (by decide) (by decide) (by decide) rfl rfl g_o1 (by rw [hml]; rfl) (W := 0) (Nat.le_of_eq rfl) (by decide) (by decide)
  have S_cs : Sta Z hA17 "java/lang/String" "COMPACT_STRINGS" "Z" (.int cs) := own_staK S_cs KA17 (allS (P := fun x => ∀ cell : Cell, h0[x]? = some cell → cell.vm.isStatics = false) V_o1.nostat all0)
  have E_o0 : Exa Z hA17 o0 "java/lang/String" := E_o0.keep KA17
  have F_o0_coder : Fld Z hA17 o0 "java/lang/String" "coder" "B" (.int (0 : Int32)) := F_o0_coder.keep KA17 (ninS ne_o0_o1 nin0)
  have F_o0_value : Fld Z hA17 o0 "java/lang/String" "value" "[B" (.ref o2) := F_o0_value.keep KA17 (ninS ne_o0_o1 nin0)
  have V_o2 : own_Ar Z hA17 o2 .byte [(.int (104 : Int32)), (.int (116 : Int32)), (.int (116 : Int32)), (.int (112 : Int32))] := V_o2.keep KA17 (ninS ne_o2_o1 nin0)
  have Z0 : n0 ≤ hA17.size := Nat.le_trans Z0 KA17.1
  have KK : Keep h0 hA17 [o1] := KK.trans KA17 (allS (P := fun x => x ∈ ([o1] : List Addr) ∨ h0.size ≤ x) (Or.inl (by simp)) all0)
  have V_o1 := P_V_o1
  have A18 : own_R p l e _ _ m _ below meth c S0 n0 hA17 0 0 (mkF m 25 #[.val (.ref o0), .val (.ref o1), .val (.int (0 : Int32)), .val (.int (0 : Int32))] []) := A17
  have A19 := A18.go (f' := mkF m 43 #[.val (.ref o0), .val (.ref o1), .val (.int (0 : Int32)), .val (.int (0 : Int32))] []) fun _ _ X _ k => XS.goto X.here hx rfl (pc0 := 25) (pc' := 43) rfl (hb hby dm27_25) (by decide) (by decide) k
  exact A19.retV hx hlk hret (hb hby dm27_43) (by decide) (by decide) ⟨rfl, KK, V_o1⟩
theorem ef_own_c51 (m : MethodId) (o0 : Addr) (o1 : Addr) : entryFrame m #[(.ref o0), (.int (0 : Int32)), (.ref o1)] 3 = mkF m 0 #[.val (.ref o0), .val (.int (0 : Int32)), .val (.ref o1)] [] := by first | (simp [entryFrame, mkF, argsToLocals, Value.category, maxLocals]; done) | rfl
set_option maxRecDepth 65536 in
set_option maxHeartbeats 40000000 in
theorem own_c51 (l : Launch) (Z : State) (a0 : Array Value) (hw : ∀ d ∈ tables_1, d.before a0 Z = true) (o0 o1 o2 o3 : Addr) (cs : Int32) (h0 : Heap) (n0 : Nat) (Z0 : n0 ≤ h0.size) (E_o0 : Exa Z h0 o0 "java/lang/StringBuilder") (F_o0_value : Fld Z h0 o0 "java/lang/AbstractStringBuilder" "value" "[B" (.ref o2)) (F_o0_coder : Fld Z h0 o0 "java/lang/AbstractStringBuilder" "coder" "B" (.int (0 : Int32))) (E_o1 : Exa Z h0 o1 "java/lang/String") (F_o1_coder : Fld Z h0 o1 "java/lang/String" "coder" "B" (.int (0 : Int32))) (F_o1_value : Fld Z h0 o1 "java/lang/String" "value" "[B" (.ref o3)) (V_o2 : own_Ar Z h0 o2 .byte [(.int (0 : Int32)), (.int (0 : Int32)), (.int (0 : Int32)), (.int (0 : Int32)), (.int (0 : Int32)), (.int (0 : Int32)), (.int (0 : Int32)), (.int (0 : Int32)), (.int (0 : Int32)), (.int (0 : Int32)), (.int (0 : Int32)), (.int (0 : Int32)), (.int (0 : Int32)), (.int (0 : Int32)), (.int (0 : Int32)), (.int (0 : Int32))]) (V_o3 : own_Ar Z h0 o3 .byte [(.int (104 : Int32)), (.int (116 : Int32)), (.int (116 : Int32)), (.int (112 : Int32))]) (S_cs : Sta Z h0 "java/lang/String" "COMPACT_STRINGS" "Z" (.int cs)) (hcs : ¬ (cs = (0 : Int32))) (ne_o0_o2 : o0 ≠ o2) (ne_o1_o2 : o1 ≠ o2) (ne_o3_o2 : o3 ≠ o2) (g_o2 : n0 ≤ o2) :
    own_M l Z (⟨"java/lang/AbstractStringBuilder", "putStringAt", "(ILjava/lang/String;)V"⟩ : MethodName) jdk_68_method_73_code 3 none [] ({ frames := 2, cells := 0, slots := 0, locals := 33 } : Room) #[(.ref o0), (.int (0 : Int32)), (.ref o1)] h0 n0 (fun v h => v = none ∧ Keep h0 h [o2] ∧ own_Ar Z h o2 .byte [(.int (104 : Int32)), (.int (116 : Int32)), (.int (116 : Int32)), (.int (112 : Int32)), (.int (0 : Int32)), (.int (0 : Int32)), (.int (0 : Int32)), (.int (0 : Int32)), (.int (0 : Int32)), (.int (0 : Int32)), (.int (0 : Int32)), (.int (0 : Int32)), (.int (0 : Int32)), (.int (0 : Int32)), (.int (0 : Int32)), (.int (0 : Int32))]) := by
  refine own_M.of (plainFor_of_name (by first | (simp [plainName, overriddenIn]; done) | decide +kernel)) ?_
  intro p e s m below meth c S0 hx hby hml hown hnm hret hlk hZ A00
  have A0 := A00.cast (ef_own_c51 m o0 o1)
  have KK : Keep h0 h0 ([o2] : List Addr) := Keep.refl _ _
  have A1 := A0.go (f' := mkF m 1 #[.val (.ref o0), .val (.int (0 : Int32)), .val (.ref o1)] [(.ref o0)]) fun _ _ X _ k => XS.aloadN X.here hx rfl (hb hby dm25_0) rfl rfl k
  have A2 := A1.go (f' := mkF m 2 #[.val (.ref o0), .val (.int (0 : Int32)), .val (.ref o1)] [(.ref o1), (.ref o0)]) fun _ _ X _ k => XS.aloadN X.here hx rfl (hb hby dm25_1) rfl rfl k
  obtain ⟨vA3, hA3, ⟨rfl, rfl⟩, A3⟩ := A2.callV (b := o0) (own_c48 l Z a0 hw o0 o1 cs h0 n0 Z0 F_o0_coder E_o1 F_o1_coder S_cs hcs) E_o0 hx hZ hown (hb hby dm25_2) (hw _ (List.mem_of_getElem? (i := 161) rfl)) (own_declares (hw _ (List.mem_of_getElem? (i := 162) rfl)) (hw _ (List.mem_of_getElem? (i := 165) rfl))) (hw _ (List.mem_of_getElem? (i := 164) rfl)) (hw _ (List.mem_of_getElem? (i := 162) rfl)) (hw _ (List.mem_of_getElem? (i := 165) rfl)) (hw _ (List.mem_of_getElem? (i := 126) rfl)) (own_nf (y' := (⟨"java/lang/AbstractStringBuilder", "ensureCapacityInternal", "(I)V"⟩ : MethodName)) (hw _ (List.mem_of_getElem? (i := 154) rfl)) rfl) ⟨by decide, by decide⟩ (lenOf pd__28Ljava_2flang_2fString_3b_29V rfl) (argsL := [(.ref o1)]) (rest := []) rfl rfl (by rw [hml]; rfl) (W := 0) (Nat.le_of_eq rfl) (by decide) (by decide) (by decide) (by decide)
  have A4 : own_R p l e _ _ m _ below meth c S0 n0 h0 0 0 (mkF m 5 #[.val (.ref o0), .val (.int (0 : Int32)), .val (.ref o1)] []) := A3
  have A5 := A4.go (f' := mkF m 6 #[.val (.ref o0), .val (.int (0 : Int32)), .val (.ref o1)] [(.ref o1)]) fun _ _ X _ k => XS.aloadN X.here hx rfl (hb hby dm25_5) rfl rfl k
  have A6 := A5.go (f' := mkF m 7 #[.val (.ref o0), .val (.int (0 : Int32)), .val (.ref o1)] [(.ref o0), (.ref o1)]) fun _ _ X _ k => XS.aloadN X.here hx rfl (hb hby dm25_6) rfl rfl k
  have A7 : own_R p l e _ _ m _ below meth c S0 n0 h0 0 0 (mkF m 10 #[.val (.ref o0), .val (.int (0 : Int32)), .val (.ref o1)] [(.ref o2), (.ref o1)]) := A6.getF hx hZ hown (hb hby dm25_7) (hw _ (List.mem_of_getElem? (i := 130) rfl)) Via.refl F_o0_value
  have A8 := A7.go (f' := mkF m 11 #[.val (.ref o0), .val (.int (0 : Int32)), .val (.ref o1)] [(.int (0 : Int32)), (.ref o2), (.ref o1)]) fun _ _ X _ k => XS.iloadN X.here hx rfl (hb hby dm25_10) rfl k
  have A9 := A8.go (f' := mkF m 12 #[.val (.ref o0), .val (.int (0 : Int32)), .val (.ref o1)] [(.ref o0), (.int (0 : Int32)), (.ref o2), (.ref o1)]) fun _ _ X _ k => XS.aloadN X.here hx rfl (hb hby dm25_11) rfl rfl k
  have A10 : own_R p l e _ _ m _ below meth c S0 n0 h0 0 0 (mkF m 15 #[.val (.ref o0), .val (.int (0 : Int32)), .val (.ref o1)] [(.int (0 : Int32)), (.int (0 : Int32)), (.ref o2), (.ref o1)]) := A9.getF hx hZ hown (hb hby dm25_12) (hw _ (List.mem_of_getElem? (i := 132) rfl)) Via.refl F_o0_coder
  obtain ⟨vA11, hA11, ⟨rfl, KA11, P_V_o2⟩, A11⟩ := A10.callV (b := o1) (own_c50 l Z a0 hw o1 o2 o3 cs h0 n0 Z0 E_o1 F_o1_coder F_o1_value V_o2 V_o3 S_cs hcs ne_o1_o2 ne_o3_o2 g_o2) E_o1 hx hZ hown (hb hby dm25_15) (hw _ (List.mem_of_getElem? (i := 167) rfl)) (hw _ (List.mem_of_getElem? (i := 168) rfl)) (hw _ (List.mem_of_getElem? (i := 170) rfl)) (hw _ (List.mem_of_getElem? (i := 169) rfl)) (hw _ (List.mem_of_getElem? (i := 171) rfl)) (hw _ (List.mem_of_getElem? (i := 8) rfl)) (own_nf (y' := (⟨"java/lang/String", "contains", "(Ljava/lang/CharSequence;)Z"⟩ : MethodName)) (hw _ (List.mem_of_getElem? (i := 80) rfl)) rfl) ⟨by decide, by decide⟩ (lenOf pd__28_5bBIB_29V rfl) (argsL := [(.ref o2), (.int (0 : Int32)), (.int (0 : Int32))]) (rest := []) rfl rfl (by rw [hml]; rfl) (W := 0) (Nat.le_of_eq rfl) (by decide) (by decide) (by decide) (by decide)
  have S_cs : Sta Z hA11 "java/lang/String" "COMPACT_STRINGS" "Z" (.int cs) := own_staK S_cs KA11 (allS (P := fun x => ∀ cell : Cell, h0[x]? = some cell → cell.vm.isStatics = false) V_o2.nostat all0)
  have E_o0 : Exa Z hA11 o0 "java/lang/StringBuilder" := E_o0.keep KA11
  have F_o0_value : Fld Z hA11 o0 "java/lang/AbstractStringBuilder" "value" "[B" (.ref o2) := F_o0_value.keep KA11 (ninS ne_o0_o2 nin0)
  have F_o0_coder : Fld Z hA11 o0 "java/lang/AbstractStringBuilder" "coder" "B" (.int (0 : Int32)) := F_o0_coder.keep KA11 (ninS ne_o0_o2 nin0)
  have E_o1 : Exa Z hA11 o1 "java/lang/String" := E_o1.keep KA11
  have F_o1_coder : Fld Z hA11 o1 "java/lang/String" "coder" "B" (.int (0 : Int32)) := F_o1_coder.keep KA11 (ninS ne_o1_o2 nin0)
  have F_o1_value : Fld Z hA11 o1 "java/lang/String" "value" "[B" (.ref o3) := F_o1_value.keep KA11 (ninS ne_o1_o2 nin0)
  have V_o3 : own_Ar Z hA11 o3 .byte [(.int (104 : Int32)), (.int (116 : Int32)), (.int (116 : Int32)), (.int (112 : Int32))] := V_o3.keep KA11 (ninS ne_o3_o2 nin0)
  have Z0 : n0 ≤ hA11.size := Nat.le_trans Z0 KA11.1
  have KK : Keep h0 hA11 [o2] := KK.trans KA11 (allS (P := fun x => x ∈ ([o2] : List Addr) ∨ h0.size ≤ x) (Or.inl (by simp)) all0)
  have V_o2 : own_Ar Z hA11 o2 .byte [(.int (104 : Int32)), (.int (116 : Int32)), (.int (116 : Int32)), (.int (112 : Int32)), (.int (0 : Int32)), (.int (0 : Int32)), (.int (0 : Int32)), (.int (0 : Int32)), (.int (0 : Int32)), (.int (0 : Int32)), (.int (0 : Int32)), (.int (0 : Int32)), (.int (0 : Int32)), (.int (0 : Int32)), (.int (0 : Int32)), (.int (0 : Int32))] := P_V_o2
  have A12 : own_R p l e _ _ m _ below meth c S0 n0 hA11 0 0 (mkF m 18 #[.val (.ref o0), .val (.int (0 : Int32)), .val (.ref o1)] []) := A11
  exact A12.retV hx hlk hret (hb hby dm25_18) (by decide) (by decide) ⟨rfl, KK, V_o2⟩
theorem ef_own_c52 (m : MethodId) (o0 : Addr) (o1 : Addr) : entryFrame m #[(.ref o0), (.ref o1)] 3 = mkF m 0 #[.val (.ref o0), .val (.ref o1), .unset] [] := by first | (simp [entryFrame, mkF, argsToLocals, Value.category, maxLocals]; done) | rfl
set_option maxRecDepth 65536 in
set_option maxHeartbeats 40000000 in
theorem own_c52 (l : Launch) (Z : State) (a0 : Array Value) (hw : ∀ d ∈ tables_1, d.before a0 Z = true) (o0 o1 o2 o3 : Addr) (cs : Int32) (h0 : Heap) (n0 : Nat) (Z0 : n0 ≤ h0.size) (E_o0 : Exa Z h0 o0 "java/lang/StringBuilder") (F_o0_value : Fld Z h0 o0 "java/lang/AbstractStringBuilder" "value" "[B" (.ref o2)) (F_o0_coder : Fld Z h0 o0 "java/lang/AbstractStringBuilder" "coder" "B" (.int (0 : Int32))) (F_o0_count : Fld Z h0 o0 "java/lang/AbstractStringBuilder" "count" "I" (.int (0 : Int32))) (E_o1 : Exa Z h0 o1 "java/lang/String") (F_o1_coder : Fld Z h0 o1 "java/lang/String" "coder" "B" (.int (0 : Int32))) (F_o1_value : Fld Z h0 o1 "java/lang/String" "value" "[B" (.ref o3)) (V_o2 : own_Ar Z h0 o2 .byte [(.int (0 : Int32)), (.int (0 : Int32)), (.int (0 : Int32)), (.int (0 : Int32)), (.int (0 : Int32)), (.int (0 : Int32)), (.int (0 : Int32)), (.int (0 : Int32)), (.int (0 : Int32)), (.int (0 : Int32)), (.int (0 : Int32)), (.int (0 : Int32)), (.int (0 : Int32)), (.int (0 : Int32)), (.int (0 : Int32)), (.int (0 : Int32))]) (V_o3 : own_Ar Z h0 o3 .byte [(.int (104 : Int32)), (.int (116 : Int32)), (.int (116 : Int32)), (.int (112 : Int32))]) (S_cs : Sta Z h0 "java/lang/String" "COMPACT_STRINGS" "Z" (.int cs)) (hcs : ¬ (cs = (0 : Int32))) (ne_o0_o2 : o0 ≠ o2) (ne_o1_o0 : o1 ≠ o0) (ne_o1_o2 : o1 ≠ o2) (ne_o2_o0 : o2 ≠ o0) (ne_o3_o0 : o3 ≠ o0) (ne_o3_o2 : o3 ≠ o2) (g_o0 : n0 ≤ o0) (g_o2 : n0 ≤ o2) :
    own_M l Z (⟨"java/lang/AbstractStringBuilder", "append", "(Ljava/lang/String;)Ljava/lang/AbstractStringBuilder;"⟩ : MethodName) jdk_68_method_22_code 3 (some (.object "java/lang/AbstractStringBuilder")) [] ({ frames := 3, cells := 0, slots := 0, locals := 47 } : Room) #[(.ref o0), (.ref o1)] h0 n0 (fun v h => v = some (.ref o0) ∧ Keep h0 h [o0, o2] ∧ Fld Z h o0 "java/lang/AbstractStringBuilder" "value" "[B" (.ref o2) ∧ Fld Z h o0 "java/lang/AbstractStringBuilder" "coder" "B" (.int (0 : Int32)) ∧ Fld Z h o0 "java/lang/AbstractStringBuilder" "count" "I" (.int (4 : Int32)) ∧ own_Ar Z h o2 .byte [(.int (104 : Int32)), (.int (116 : Int32)), (.int (116 : Int32)), (.int (112 : Int32)), (.int (0 : Int32)), (.int (0 : Int32)), (.int (0 : Int32)), (.int (0 : Int32)), (.int (0 : Int32)), (.int (0 : Int32)), (.int (0 : Int32)), (.int (0 : Int32)), (.int (0 : Int32)), (.int (0 : Int32)), (.int (0 : Int32)), (.int (0 : Int32))]) := by
  refine own_M.of (plainFor_of_name (by first | (simp [plainName, overriddenIn]; done) | decide +kernel)) ?_
  intro p e s m below meth c S0 hx hby hml hown hnm hret hlk hZ A00
  have A0 := A00.cast (ef_own_c52 m o0 o1)
  have KK : Keep h0 h0 ([o0, o2] : List Addr) := Keep.refl _ _
  have A1 := A0.go (f' := mkF m 1 #[.val (.ref o0), .val (.ref o1), .unset] [(.ref o1)]) fun _ _ X _ k => XS.aloadN X.here hx rfl (hb hby dm22_0) rfl rfl k
  have A2 := A1.go (f' := mkF m 9 #[.val (.ref o0), .val (.ref o1), .unset] []) fun _ _ X _ k => XS.ifnonnullYes X.here hx rfl (pc0 := 1) (pc' := 9) rfl (hb hby dm22_1) rfl (by decide) (by decide) k
  have A3 := A2.go (f' := mkF m 10 #[.val (.ref o0), .val (.ref o1), .unset] [(.ref o1)]) fun _ _ X _ k => XS.aloadN X.here hx rfl (hb hby dm22_9) rfl rfl k
  obtain ⟨vA4, hA4, ⟨rfl, rfl⟩, A4⟩ := A3.callV (b := o1) (own_c43 l Z a0 hw o1 o3 cs h0 n0 Z0 E_o1 F_o1_coder F_o1_value V_o3 S_cs hcs) E_o1 hx hZ hown (hb hby dm22_10) (hw _ (List.mem_of_getElem? (i := 144) rfl)) (hw _ (List.mem_of_getElem? (i := 145) rfl)) (hw _ (List.mem_of_getElem? (i := 147) rfl)) (hw _ (List.mem_of_getElem? (i := 146) rfl)) (hw _ (List.mem_of_getElem? (i := 148) rfl)) (hw _ (List.mem_of_getElem? (i := 8) rfl)) (own_nf (y' := (⟨"java/lang/String", "contains", "(Ljava/lang/CharSequence;)Z"⟩ : MethodName)) (hw _ (List.mem_of_getElem? (i := 80) rfl)) rfl) ⟨by decide, by decide⟩ (lenOf pd__28_29I rfl) (argsL := []) (rest := []) rfl rfl (by rw [hml]; rfl) (W := 0) (Nat.le_of_eq rfl) (by decide) (by decide) (by decide) (by decide)
  have A5 : own_R p l e _ _ m _ below meth c S0 n0 h0 0 0 (mkF m 13 #[.val (.ref o0), .val (.ref o1), .unset] [(.int (4 : Int32))]) := A4
  have A6 := A5.go (f' := mkF m 14 #[.val (.ref o0), .val (.ref o1), .val (.int (4 : Int32))] []) fun _ _ X _ k => XS.istoreN X.here hx rfl (hb hby dm22_13) rfl (l' := #[.val (.ref o0), .val (.ref o1), .val (.int (4 : Int32))]) rfl k
  have A7 := A6.go (f' := mkF m 15 #[.val (.ref o0), .val (.ref o1), .val (.int (4 : Int32))] [(.ref o0)]) fun _ _ X _ k => XS.aloadN X.here hx rfl (hb hby dm22_14) rfl rfl k
  have A8 := A7.go (f' := mkF m 16 #[.val (.ref o0), .val (.ref o1), .val (.int (4 : Int32))] [(.ref o0), (.ref o0)]) fun _ _ X _ k => XS.aloadN X.here hx rfl (hb hby dm22_15) rfl rfl k
  have A9 : own_R p l e _ _ m _ below meth c S0 n0 h0 0 0 (mkF m 19 #[.val (.ref o0), .val (.ref o1), .val (.int (4 : Int32))] [(.int (0 : Int32)), (.ref o0)]) := A8.getF hx hZ hown (hb hby dm22_16) (hw _ (List.mem_of_getElem? (i := 149) rfl)) Via.refl F_o0_count
  have A10 := A9.go (f' := mkF m 20 #[.val (.ref o0), .val (.ref o1), .val (.int (4 : Int32))] [(.int (4 : Int32)), (.int (0 : Int32)), (.ref o0)]) fun _ _ X _ k => XS.iloadN X.here hx rfl (hb hby dm22_19) rfl k
  have A11 := A10.go (f' := mkF m 21 #[.val (.ref o0), .val (.ref o1), .val (.int (4 : Int32))] [(.int (4 : Int32)), (.ref o0)]) fun _ _ X _ k => XS.iadd X.here hx rfl (hb hby dm22_20) rfl k
  obtain ⟨vA12, hA12, ⟨rfl, rfl⟩, A12⟩ := A11.callV (b := o0) (own_c45 l Z a0 hw o0 o2 h0 n0 Z0 F_o0_value F_o0_coder V_o2) E_o0 hx hZ hown (hb hby dm22_21) (hw _ (List.mem_of_getElem? (i := 151) rfl)) (own_declares (hw _ (List.mem_of_getElem? (i := 152) rfl)) (hw _ (List.mem_of_getElem? (i := 155) rfl))) (hw _ (List.mem_of_getElem? (i := 154) rfl)) (hw _ (List.mem_of_getElem? (i := 152) rfl)) (hw _ (List.mem_of_getElem? (i := 155) rfl)) (hw _ (List.mem_of_getElem? (i := 126) rfl)) (own_nf (y' := (⟨"java/lang/AbstractStringBuilder", "ensureCapacityInternal", "(I)V"⟩ : MethodName)) (hw _ (List.mem_of_getElem? (i := 154) rfl)) rfl) ⟨by decide, by decide⟩ (lenOf pd__28I_29V rfl) (argsL := [(.int (4 : Int32))]) (rest := []) rfl rfl (by rw [hml]; rfl) (W := 0) (Nat.le_of_eq rfl) (by decide) (by decide) (by decide) (by decide)
  have A13 : own_R p l e _ _ m _ below meth c S0 n0 h0 0 0 (mkF m 24 #[.val (.ref o0), .val (.ref o1), .val (.int (4 : Int32))] []) := A12
  have A14 := A13.go (f' := mkF m 25 #[.val (.ref o0), .val (.ref o1), .val (.int (4 : Int32))] [(.ref o0)]) fun _ _ X _ k => XS.aloadN X.here hx rfl (hb hby dm22_24) rfl rfl k
  have A15 := A14.go (f' := mkF m 26 #[.val (.ref o0), .val (.ref o1), .val (.int (4 : Int32))] [(.ref o0), (.ref o0)]) fun _ _ X _ k => XS.aloadN X.here hx rfl (hb hby dm22_25) rfl rfl k
  have A16 : own_R p l e _ _ m _ below meth c S0 n0 h0 0 0 (mkF m 29 #[.val (.ref o0), .val (.ref o1), .val (.int (4 : Int32))] [(.int (0 : Int32)), (.ref o0)]) := A15.getF hx hZ hown (hb hby dm22_26) (hw _ (List.mem_of_getElem? (i := 149) rfl)) Via.refl F_o0_count
  have A17 := A16.go (f' := mkF m 30 #[.val (.ref o0), .val (.ref o1), .val (.int (4 : Int32))] [(.ref o1), (.int (0 : Int32)), (.ref o0)]) fun _ _ X _ k => XS.aloadN X.here hx rfl (hb hby dm22_29) rfl rfl k
  obtain ⟨vA18, hA18, ⟨rfl, KA18, P_V_o2⟩, A18⟩ := A17.callV (b := o0) (own_c51 l Z a0 hw o0 o1 o2 o3 cs h0 n0 Z0 E_o0 F_o0_value F_o0_coder E_o1 F_o1_coder F_o1_value V_o2 V_o3 S_cs hcs ne_o0_o2 ne_o1_o2 ne_o3_o2 g_o2) E_o0 hx hZ hown (hb hby dm22_30) (hw _ (List.mem_of_getElem? (i := 156) rfl)) (own_declares (hw _ (List.mem_of_getElem? (i := 157) rfl)) (hw _ (List.mem_of_getElem? (i := 160) rfl))) (hw _ (List.mem_of_getElem? (i := 159) rfl)) (hw _ (List.mem_of_getElem? (i := 157) rfl)) (hw _ (List.mem_of_getElem? (i := 160) rfl)) (hw _ (List.mem_of_getElem? (i := 126) rfl)) (own_nf (y' := (⟨"java/lang/AbstractStringBuilder", "ensureCapacityInternal", "(I)V"⟩ : MethodName)) (hw _ (List.mem_of_getElem? (i := 154) rfl)) rfl) ⟨by decide, by decide⟩ (lenOf pd__28ILjava_2flang_2fString_3b_29V rfl) (argsL := [(.int (0 : Int32)), (.ref o1)]) (rest := []) rfl rfl (by rw [hml]; rfl) (W := 0) (Nat.le_of_eq rfl) (by decide) (by decide) (by decide) (by decide)
  have S_cs : Sta Z hA18 "java/lang/String" "COMPACT_STRINGS" "Z" (.int cs) := own_staK S_cs KA18 (allS (P := fun x => ∀ cell : Cell, h0[x]? = some cell → cell.vm.isStatics = false) V_o2.nostat all0)
  have E_o0 : Exa Z hA18 o0 "java/lang/StringBuilder" := E_o0.keep KA18
  have F_o0_value : Fld Z hA18 o0 "java/lang/AbstractStringBuilder" "value" "[B" (.ref o2) := F_o0_value.keep KA18 (ninS ne_o0_o2 nin0)
  have F_o0_coder : Fld Z hA18 o0 "java/lang/AbstractStringBuilder" "coder" "B" (.int (0 : Int32)) := F_o0_coder.keep KA18 (ninS ne_o0_o2 nin0)
  have F_o0_count : Fld Z hA18 o0 "java/lang/AbstractStringBuilder" "count" "I" (.int (0 : Int32)) := F_o0_count.keep KA18 (ninS ne_o0_o2 nin0)
  have E_o1 : Exa Z hA18 o1 "java/lang/String" := E_o1.keep KA18
  have F_o1_coder : Fld Z hA18 o1 "java/lang/String" "coder" "B" (.int (0 : Int32)) := F_o1_coder.keep KA18 (ninS ne_o1_o2 nin0)
  have F_o1_value : Fld Z hA18 o1 "java/lang/String" "value" "[B" (.ref o3) := F_o1_value.keep KA18 (ninS ne_o1_o2 nin0)
  have V_o3 : own_Ar Z hA18 o3 .byte [(.int (104 : Int32)), (.int (116 : Int32)), (.int (116 : Int32)), (.int (112 : Int32))] := V_o3.keep KA18 (ninS ne_o3_o2 nin0)
  have Z0 : n0 ≤ hA18.size := Nat.le_trans Z0 KA18.1
  have KK : Keep h0 hA18 [o0, o2] := KK.trans KA18 (allS (P := fun x => x ∈ ([o0, o2] : List Addr) ∨ h0.size ≤ x) (Or.inl (by simp)) all0)
  have V_o2 : own_Ar Z hA18 o2 .byte [(.int (104 : Int32)), (.int (116 : Int32)), (.int (116 : Int32)), (.int (112 : Int32)), (.int (0 : Int32)), (.int (0 : Int32)), (.int (0 : Int32)), (.int (0 : Int32)), (.int (0 : Int32)), (.int (0 : Int32)), (.int (0 : Int32)), (.int (0 : Int32)), (.int (0 : Int32)), (.int (0 : Int32)), (.int (0 : Int32)), (.int (0 : Int32))] := P_V_o2
  have A19 : own_R p l e _ _ m _ below meth c S0 n0 hA18 0 0 (mkF m 33 #[.val (.ref o0), .val (.ref o1), .val (.int (4 : Int32))] []) := A18
  have A20 := A19.go (f' := mkF m 34 #[.val (.ref o0), .val (.ref o1), .val (.int (4 : Int32))] [(.ref o0)]) fun _ _ X _ k => XS.aloadN X.here hx rfl (hb hby dm22_33) rfl rfl k
  have A21 := A20.go (f' := mkF m 35 #[.val (.ref o0), .val (.ref o1), .val (.int (4 : Int32))] [(.ref o0), (.ref o0)]) fun _ _ X _ k => XS.dup X.here hx rfl (hb hby dm22_34) rfl rfl k
  have A22 : own_R p l e _ _ m _ below meth c S0 n0 hA18 0 0 (mkF m 38 #[.val (.ref o0), .val (.ref o1), .val (.int (4 : Int32))] [(.int (0 : Int32)), (.ref o0)]) := A21.getF hx hZ hown (hb hby dm22_35) (hw _ (List.mem_of_getElem? (i := 149) rfl)) Via.refl F_o0_count
  have A23 := A22.go (f' := mkF m 39 #[.val (.ref o0), .val (.ref o1), .val (.int (4 : Int32))] [(.int (4 : Int32)), (.int (0 : Int32)), (.ref o0)]) fun _ _ X _ k => XS.iloadN X.here hx rfl (hb hby dm22_38) rfl k
  have A24 := A23.go (f' := mkF m 40 #[.val (.ref o0), .val (.ref o1), .val (.int (4 : Int32))] [(.int (4 : Int32)), (.ref o0)]) fun _ _ X _ k => XS.iadd X.here hx rfl (hb hby dm22_39) rfl k
  obtain ⟨h25, W26, A27⟩ := A24.putF hx hZ hown (hb hby dm22_40) (hw _ (List.mem_of_getElem? (i := 149) rfl)) F_o0_count E_o0 (Or.inl (hw _ (List.mem_of_getElem? (i := 150) rfl))) (hw _ (List.mem_of_getElem? (i := 117) rfl)) (ty := .int) (by decide) rfl rfl g_o0
  have E_o0 : Exa Z h25 o0 "java/lang/StringBuilder" := E_o0.wr W26
  have F_o0_value : Fld Z h25 o0 "java/lang/AbstractStringBuilder" "value" "[B" (.ref o2) := F_o0_value.other W26 (Or.inr (slot_ne (Or.inl (hw _ (List.mem_of_getElem? (i := 131) rfl))) (Or.inl (hw _ (List.mem_of_getElem? (i := 150) rfl))) (by decide) (t := (.array .byte)) (t' := .int) (by decide) (by decide)))
  have F_o0_coder : Fld Z h25 o0 "java/lang/AbstractStringBuilder" "coder" "B" (.int (0 : Int32)) := F_o0_coder.other W26 (Or.inr (slot_ne (Or.inl (hw _ (List.mem_of_getElem? (i := 133) rfl))) (Or.inl (hw _ (List.mem_of_getElem? (i := 150) rfl))) (by decide) (t := .byte) (t' := .int) (by decide) (by decide)))
  have F_o0_count : Fld Z h25 o0 "java/lang/AbstractStringBuilder" "count" "I" (.int (4 : Int32)) := F_o0_count.same W26
  have E_o1 : Exa Z h25 o1 "java/lang/String" := E_o1.wr W26
  have F_o1_coder : Fld Z h25 o1 "java/lang/String" "coder" "B" (.int (0 : Int32)) := F_o1_coder.other W26 (Or.inl ne_o1_o0)
  have F_o1_value : Fld Z h25 o1 "java/lang/String" "value" "[B" (.ref o3) := F_o1_value.other W26 (Or.inl ne_o1_o0)
  have V_o3 : own_Ar Z h25 o3 .byte [(.int (104 : Int32)), (.int (116 : Int32)), (.int (116 : Int32)), (.int (112 : Int32))] := V_o3.other W26 ne_o3_o0
  have S_cs : Sta Z h25 "java/lang/String" "COMPACT_STRINGS" "Z" (.int cs) := S_cs.wr W26
  have V_o2 : own_Ar Z h25 o2 .byte [(.int (104 : Int32)), (.int (116 : Int32)), (.int (116 : Int32)), (.int (112 : Int32)), (.int (0 : Int32)), (.int (0 : Int32)), (.int (0 : Int32)), (.int (0 : Int32)), (.int (0 : Int32)), (.int (0 : Int32)), (.int (0 : Int32)), (.int (0 : Int32)), (.int (0 : Int32)), (.int (0 : Int32)), (.int (0 : Int32)), (.int (0 : Int32))] := V_o2.other W26 ne_o2_o0
  have Z0 : n0 ≤ h25.size := by rw [W26.size]; exact Z0
  have KK : Keep h0 h25 [o0, o2] := KK.wr W26 (Or.inl (by simp))
  have A28 : own_R p l e _ _ m _ below meth c S0 n0 h25 0 0 (mkF m 43 #[.val (.ref o0), .val (.ref o1), .val (.int (4 : Int32))] []) := A27
  have A29 := A28.go (f' := mkF m 44 #[.val (.ref o0), .val (.ref o1), .val (.int (4 : Int32))] [(.ref o0)]) fun _ _ X _ k => XS.aloadN X.here hx rfl (hb hby dm22_43) rfl rfl k
  exact A29.ret hx hlk hret (hb hby dm22_44) rfl (Or.inr (Or.inr (Or.inr (Or.inr ⟨rfl, rfl, rfl⟩)))) (by decide) (by decide) ⟨rfl, KK, F_o0_value, F_o0_coder, F_o0_count, V_o2⟩
theorem ef_own_c53 (m : MethodId) (o0 : Addr) (o1 : Addr) : entryFrame m #[(.ref o0), (.ref o1)] 2 = mkF m 0 #[.val (.ref o0), .val (.ref o1)] [] := by first | (simp [entryFrame, mkF, argsToLocals, Value.category, maxLocals]; done) | rfl
set_option maxRecDepth 65536 in
set_option maxHeartbeats 40000000 in
theorem own_c53 (l : Launch) (Z : State) (a0 : Array Value) (hw : ∀ d ∈ tables_1, d.before a0 Z = true) (o0 o1 o2 o3 : Addr) (cs : Int32) (h0 : Heap) (n0 : Nat) (Z0 : n0 ≤ h0.size) (E_o0 : Exa Z h0 o0 "java/lang/StringBuilder") (F_o0_value : Fld Z h0 o0 "java/lang/AbstractStringBuilder" "value" "[B" (.ref o2)) (F_o0_coder : Fld Z h0 o0 "java/lang/AbstractStringBuilder" "coder" "B" (.int (0 : Int32))) (F_o0_count : Fld Z h0 o0 "java/lang/AbstractStringBuilder" "count" "I" (.int (0 : Int32))) (E_o1 : Exa Z h0 o1 "java/lang/String") (F_o1_coder : Fld Z h0 o1 "java/lang/String" "coder" "B" (.int (0 : Int32))) (F_o1_value : Fld Z h0 o1 "java/lang/String" "value" "[B" (.ref o3)) (V_o2 : own_Ar Z h0 o2 .byte [(.int (0 : Int32)), (.int (0 : Int32)), (.int (0 : Int32)), (.int (0 : Int32)), (.int (0 : Int32)), (.int (0 : Int32)), (.int (0 : Int32)), (.int (0 : Int32)), (.int (0 : Int32)), (.int (0 : Int32)), (.int (0 : Int32)), (.int (0 : Int32)), (.int (0 : Int32)), (.int (0 : Int32)), (.int (0 : Int32)), (.int (0 : Int32))]) (V_o3 : own_Ar Z h0 o3 .byte [(.int (104 : Int32)), (.int (116 : Int32)), (.int (116 : Int32)), (.int (112 : Int32))]) (S_cs : Sta Z h0 "java/lang/String" "COMPACT_STRINGS" "Z" (.int cs)) (hcs : ¬ (cs = (0 : Int32))) (ne_o0_o2 : o0 ≠ o2) (ne_o1_o0 : o1 ≠ o0) (ne_o1_o2 : o1 ≠ o2) (ne_o2_o0 : o2 ≠ o0) (ne_o3_o0 : o3 ≠ o0) (ne_o3_o2 : o3 ≠ o2) (g_o0 : n0 ≤ o0) (g_o2 : n0 ≤ o2) :
    own_M l Z (⟨"java/lang/StringBuilder", "append", "(Ljava/lang/String;)Ljava/lang/StringBuilder;"⟩ : MethodName) jdk_67_method_7_code 2 (some (.object "java/lang/StringBuilder")) [] ({ frames := 4, cells := 0, slots := 0, locals := 61 } : Room) #[(.ref o0), (.ref o1)] h0 n0 (fun v h => v = some (.ref o0) ∧ Keep h0 h [o0, o2] ∧ Fld Z h o0 "java/lang/AbstractStringBuilder" "value" "[B" (.ref o2) ∧ Fld Z h o0 "java/lang/AbstractStringBuilder" "coder" "B" (.int (0 : Int32)) ∧ Fld Z h o0 "java/lang/AbstractStringBuilder" "count" "I" (.int (4 : Int32)) ∧ own_Ar Z h o2 .byte [(.int (104 : Int32)), (.int (116 : Int32)), (.int (116 : Int32)), (.int (112 : Int32)), (.int (0 : Int32)), (.int (0 : Int32)), (.int (0 : Int32)), (.int (0 : Int32)), (.int (0 : Int32)), (.int (0 : Int32)), (.int (0 : Int32)), (.int (0 : Int32)), (.int (0 : Int32)), (.int (0 : Int32)), (.int (0 : Int32)), (.int (0 : Int32))]) := by
  refine own_M.of (plainFor_of_name (by first | (simp [plainName, overriddenIn]; done) | decide +kernel)) ?_
  intro p e s m below meth c S0 hx hby hml hown hnm hret hlk hZ A00
  have A0 := A00.cast (ef_own_c53 m o0 o1)
  have KK : Keep h0 h0 ([o0, o2] : List Addr) := Keep.refl _ _
  have A1 := A0.go (f' := mkF m 1 #[.val (.ref o0), .val (.ref o1)] [(.ref o0)]) fun _ _ X _ k => XS.aloadN X.here hx rfl (hb hby dm21_0) rfl rfl k
  have A2 := A1.go (f' := mkF m 2 #[.val (.ref o0), .val (.ref o1)] [(.ref o1), (.ref o0)]) fun _ _ X _ k => XS.aloadN X.here hx rfl (hb hby dm21_1) rfl rfl k
  obtain ⟨vA3, hA3, ⟨rfl, KA3, P_F_o0_value, P_F_o0_coder, P_F_o0_count, P_V_o2⟩, A3⟩ := A2.callU (b := o0) (own_c52 l Z a0 hw o0 o1 o2 o3 cs h0 n0 Z0 E_o0 F_o0_value F_o0_coder F_o0_count E_o1 F_o1_coder F_o1_value V_o2 V_o3 S_cs hcs ne_o0_o2 ne_o1_o0 ne_o1_o2 ne_o2_o0 ne_o3_o0 ne_o3_o2 g_o0 g_o2) E_o0 hx hZ hown (hb hby dm21_2) (by decide) (hw _ (List.mem_of_getElem? (i := 139) rfl)) (own_same (y' := (⟨"java/lang/AbstractStringBuilder", "ensureCapacityInternal", "(I)V"⟩ : MethodName)) (hw _ (List.mem_of_getElem? (i := 154) rfl)) rfl (hw _ (List.mem_of_getElem? (i := 140) rfl)) ⟨by decide, by decide⟩) (hw _ (List.mem_of_getElem? (i := 140) rfl)) (hw _ (List.mem_of_getElem? (i := 141) rfl)) (hw _ (List.mem_of_getElem? (i := 143) rfl)) (hw _ (List.mem_of_getElem? (i := 126) rfl)) (lenOf pd__28Ljava_2flang_2fString_3b_29Ljava_2flang_2fAbstractStringBuilder_3b rfl) (argsL := [(.ref o1)]) (rest := []) rfl rfl (by rw [hml]; rfl) (W := 0) (Nat.le_of_eq rfl) (by decide) (by decide) (by decide) (by decide)
  have S_cs : Sta Z hA3 "java/lang/String" "COMPACT_STRINGS" "Z" (.int cs) := own_staK S_cs KA3 (allS (P := fun x => ∀ cell : Cell, h0[x]? = some cell → cell.vm.isStatics = false) E_o0.nostat (allS (P := fun x => ∀ cell : Cell, h0[x]? = some cell → cell.vm.isStatics = false) V_o2.nostat all0))
  have E_o0 : Exa Z hA3 o0 "java/lang/StringBuilder" := E_o0.keep KA3
  have E_o1 : Exa Z hA3 o1 "java/lang/String" := E_o1.keep KA3
  have F_o1_coder : Fld Z hA3 o1 "java/lang/String" "coder" "B" (.int (0 : Int32)) := F_o1_coder.keep KA3 (ninS ne_o1_o0 (ninS ne_o1_o2 nin0))
  have F_o1_value : Fld Z hA3 o1 "java/lang/String" "value" "[B" (.ref o3) := F_o1_value.keep KA3 (ninS ne_o1_o0 (ninS ne_o1_o2 nin0))
  have V_o3 : own_Ar Z hA3 o3 .byte [(.int (104 : Int32)), (.int (116 : Int32)), (.int (116 : Int32)), (.int (112 : Int32))] := V_o3.keep KA3 (ninS ne_o3_o0 (ninS ne_o3_o2 nin0))
  have Z0 : n0 ≤ hA3.size := Nat.le_trans Z0 KA3.1
  have KK : Keep h0 hA3 [o0, o2] := KK.trans KA3 (allS (P := fun x => x ∈ ([o0, o2] : List Addr) ∨ h0.size ≤ x) (Or.inl (by simp)) (allS (P := fun x => x ∈ ([o0, o2] : List Addr) ∨ h0.size ≤ x) (Or.inl (by simp)) all0))
  have F_o0_value : Fld Z hA3 o0 "java/lang/AbstractStringBuilder" "value" "[B" (.ref o2) := P_F_o0_value
  have F_o0_coder : Fld Z hA3 o0 "java/lang/AbstractStringBuilder" "coder" "B" (.int (0 : Int32)) := P_F_o0_coder
  have F_o0_count : Fld Z hA3 o0 "java/lang/AbstractStringBuilder" "count" "I" (.int (4 : Int32)) := P_F_o0_count
  have V_o2 : own_Ar Z hA3 o2 .byte [(.int (104 : Int32)), (.int (116 : Int32)), (.int (116 : Int32)), (.int (112 : Int32)), (.int (0 : Int32)), (.int (0 : Int32)), (.int (0 : Int32)), (.int (0 : Int32)), (.int (0 : Int32)), (.int (0 : Int32)), (.int (0 : Int32)), (.int (0 : Int32)), (.int (0 : Int32)), (.int (0 : Int32)), (.int (0 : Int32)), (.int (0 : Int32))] := P_V_o2
  have A4 : own_R p l e _ _ m _ below meth c S0 n0 hA3 0 0 (mkF m 5 #[.val (.ref o0), .val (.ref o1)] [(.ref o0)]) := A3
  have A5 := A4.go (f' := mkF m 6 #[.val (.ref o0), .val (.ref o1)] []) fun _ _ X _ k => XS.pop X.here hx rfl (hb hby dm21_5) rfl rfl k
  have A6 := A5.go (f' := mkF m 7 #[.val (.ref o0), .val (.ref o1)] [(.ref o0)]) fun _ _ X _ k => XS.aloadN X.here hx rfl (hb hby dm21_6) rfl rfl k
  exact A6.ret hx hlk hret (hb hby dm21_7) rfl (Or.inr (Or.inr (Or.inr (Or.inr ⟨rfl, rfl, rfl⟩)))) (by decide) (by decide) ⟨rfl, KK, F_o0_value, F_o0_coder, F_o0_count, V_o2⟩
theorem ef_own_c57 (m : MethodId) (o0 : Addr) : entryFrame m #[(.ref o0)] 1 = mkF m 0 #[.val (.ref o0)] [] := by first | (simp [entryFrame, mkF, argsToLocals, Value.category, maxLocals]; done) | rfl
set_option maxRecDepth 65536 in
set_option maxHeartbeats 40000000 in
theorem own_c57 (l : Launch) (Z : State) (a0 : Array Value) (hw : ∀ d ∈ tables_1, d.before a0 Z = true) (o0 o1 : Addr) (cs : Int32) (h0 : Heap) (n0 : Nat) (Z0 : n0 ≤ h0.size) (E_o0 : Exa Z h0 o0 "java/lang/String") (F_o0_coder : Fld Z h0 o0 "java/lang/String" "coder" "B" (.int (0 : Int32))) (F_o0_value : Fld Z h0 o0 "java/lang/String" "value" "[B" (.ref o1)) (V_o1 : own_Ar Z h0 o1 .byte [(.int (58 : Int32)), (.int (47 : Int32)), (.int (47 : Int32))]) (S_cs : Sta Z h0 "java/lang/String" "COMPACT_STRINGS" "Z" (.int cs)) (hcs : ¬ (cs = (0 : Int32))) :
    own_M l Z (⟨"java/lang/String", "length", "()I"⟩ : MethodName) jdk_42_method_54_code 1 (some .int) [] ({ frames := 1, cells := 0, slots := 0, locals := 13 } : Room) #[(.ref o0)] h0 n0 (fun v h => v = some (.int (3 : Int32)) ∧ h0 = h) := by
  refine own_M.of (plainFor_of_name (by first | (simp [plainName, overriddenIn]; done) | decide +kernel)) ?_
  intro p e s m below meth c S0 hx hby hml hown hnm hret hlk hZ A00
  have A0 := A00.cast (ef_own_c57 m o0)
  have KK : Keep h0 h0 ([] : List Addr) := Keep.refl _ _
  have A1 := A0.go (f' := mkF m 1 #[.val (.ref o0)] [(.ref o0)]) fun _ _ X _ k => XS.aloadN X.here hx rfl (hb hby dm23_0) rfl rfl k
  have A2 : own_R p l e _ _ m _ below meth c S0 n0 h0 0 0 (mkF m 4 #[.val (.ref o0)] [(.ref o1)]) := A1.getF hx hZ hown (hb hby dm23_1) (hw _ (List.mem_of_getElem? (i := 108) rfl)) Via.refl F_o0_value
  have A3 : own_R p l e _ _ m _ below meth c S0 n0 h0 0 0 (mkF m 5 #[.val (.ref o0)] [(.int (3 : Int32))]) := A2.len hx hZ (hb hby dm23_4) V_o1
  have A4 := A3.go (f' := mkF m 6 #[.val (.ref o0)] [(.ref o0), (.int (3 : Int32))]) fun _ _ X _ k => XS.aloadN X.here hx rfl (hb hby dm23_5) rfl rfl k
  obtain ⟨vA5, hA5, ⟨rfl, rfl⟩, A5⟩ := A4.callV (b := o0) (own_c27 l Z a0 hw o0 cs h0 n0 Z0 F_o0_coder S_cs hcs) E_o0 hx hZ hown (hb hby dm23_6) (hw _ (List.mem_of_getElem? (i := 96) rfl)) (hw _ (List.mem_of_getElem? (i := 97) rfl)) (hw _ (List.mem_of_getElem? (i := 99) rfl)) (hw _ (List.mem_of_getElem? (i := 98) rfl)) (hw _ (List.mem_of_getElem? (i := 100) rfl)) (hw _ (List.mem_of_getElem? (i := 8) rfl)) (own_nf (y' := (⟨"java/lang/String", "contains", "(Ljava/lang/CharSequence;)Z"⟩ : MethodName)) (hw _ (List.mem_of_getElem? (i := 80) rfl)) rfl) ⟨by decide, by decide⟩ (lenOf pd__28_29B rfl) (argsL := []) (rest := [(.int (3 : Int32))]) rfl rfl (by rw [hml]; rfl) (W := 1) (Nat.le_of_eq rfl) (by decide) (by decide) (by decide) (by decide)
  have A6 : own_R p l e _ _ m _ below meth c S0 n0 h0 0 0 (mkF m 9 #[.val (.ref o0)] [(.int (0 : Int32)), (.int (3 : Int32))]) := A5
  have A7 := A6.go (f' := mkF m 10 #[.val (.ref o0)] [(.int (3 : Int32))]) fun _ _ X _ k => XS.ishr X.here hx rfl (hb hby dm23_9) rfl k
  exact A7.ret hx hlk hret (hb hby dm23_10) rfl (Or.inl ⟨rfl, by simp, _, rfl⟩) (by decide) (by decide) ⟨rfl, rfl⟩
theorem ef_own_c59 (m : MethodId) (o0 : Addr) : entryFrame m #[(.ref o0), (.int (7 : Int32))] 3 = mkF m 0 #[.val (.ref o0), .val (.int (7 : Int32)), .unset] [] := by first | (simp [entryFrame, mkF, argsToLocals, Value.category, maxLocals]; done) | rfl
set_option maxRecDepth 65536 in
set_option maxHeartbeats 40000000 in
theorem own_c59 (l : Launch) (Z : State) (a0 : Array Value) (hw : ∀ d ∈ tables_1, d.before a0 Z = true) (o0 o1 : Addr) (h0 : Heap) (n0 : Nat) (Z0 : n0 ≤ h0.size) (F_o0_value : Fld Z h0 o0 "java/lang/AbstractStringBuilder" "value" "[B" (.ref o1)) (F_o0_coder : Fld Z h0 o0 "java/lang/AbstractStringBuilder" "coder" "B" (.int (0 : Int32))) (V_o1 : own_Ar Z h0 o1 .byte [(.int (104 : Int32)), (.int (116 : Int32)), (.int (116 : Int32)), (.int (112 : Int32)), (.int (0 : Int32)), (.int (0 : Int32)), (.int (0 : Int32)), (.int (0 : Int32)), (.int (0 : Int32)), (.int (0 : Int32)), (.int (0 : Int32)), (.int (0 : Int32)), (.int (0 : Int32)), (.int (0 : Int32)), (.int (0 : Int32)), (.int (0 : Int32))]) :
    own_M l Z (⟨"java/lang/AbstractStringBuilder", "ensureCapacityInternal", "(I)V"⟩ : MethodName) jdk_68_method_9_code 3 none [] ({ frames := 0, cells := 0, slots := 0, locals := 0 } : Room) #[(.ref o0), (.int (7 : Int32))] h0 n0 (fun v h => v = none ∧ h0 = h) := by
  refine own_M.of (plainFor_of_name (by first | (simp [plainName, overriddenIn]; done) | decide +kernel)) ?_
  intro p e s m below meth c S0 hx hby hml hown hnm hret hlk hZ A00
  have A0 := A00.cast (ef_own_c59 m o0)
  have KK : Keep h0 h0 ([] : List Addr) := Keep.refl _ _
  have A1 := A0.go (f' := mkF m 1 #[.val (.ref o0), .val (.int (7 : Int32)), .unset] [(.ref o0)]) fun _ _ X _ k => XS.aloadN X.here hx rfl (hb hby dm24_0) rfl rfl k
  have A2 : own_R p l e _ _ m _ below meth c S0 n0 h0 0 0 (mkF m 4 #[.val (.ref o0), .val (.int (7 : Int32)), .unset] [(.ref o1)]) := A1.getF hx hZ hown (hb hby dm24_1) (hw _ (List.mem_of_getElem? (i := 130) rfl)) Via.refl F_o0_value
  have A3 : own_R p l e _ _ m _ below meth c S0 n0 h0 0 0 (mkF m 5 #[.val (.ref o0), .val (.int (7 : Int32)), .unset] [(.int (16 : Int32))]) := A2.len hx hZ (hb hby dm24_4) V_o1
  have A4 := A3.go (f' := mkF m 6 #[.val (.ref o0), .val (.int (7 : Int32)), .unset] [(.ref o0), (.int (16 : Int32))]) fun _ _ X _ k => XS.aloadN X.here hx rfl (hb hby dm24_5) rfl rfl k
  have A5 : own_R p l e _ _ m _ below meth c S0 n0 h0 0 0 (mkF m 9 #[.val (.ref o0), .val (.int (7 : Int32)), .unset] [(.int (0 : Int32)), (.int (16 : Int32))]) := A4.getF hx hZ hown (hb hby dm24_6) (hw _ (List.mem_of_getElem? (i := 132) rfl)) Via.refl F_o0_coder
  have A6 := A5.go (f' := mkF m 10 #[.val (.ref o0), .val (.int (7 : Int32)), .unset] [(.int (16 : Int32))]) fun _ _ X _ k => XS.ishr X.here hx rfl (hb hby dm24_9) rfl k
  have A7 := A6.go (f' := mkF m 11 #[.val (.ref o0), .val (.int (7 : Int32)), .val (.int (16 : Int32))] []) fun _ _ X _ k => XS.istoreN X.here hx rfl (hb hby dm24_10) rfl (l' := #[.val (.ref o0), .val (.int (7 : Int32)), .val (.int (16 : Int32))]) rfl k
  have A8 := A7.go (f' := mkF m 12 #[.val (.ref o0), .val (.int (7 : Int32)), .val (.int (16 : Int32))] [(.int (7 : Int32))]) fun _ _ X _ k => XS.iloadN X.here hx rfl (hb hby dm24_11) rfl k
  have A9 := A8.go (f' := mkF m 13 #[.val (.ref o0), .val (.int (7 : Int32)), .val (.int (16 : Int32))] [(.int (16 : Int32)), (.int (7 : Int32))]) fun _ _ X _ k => XS.iloadN X.here hx rfl (hb hby dm24_12) rfl k
  have A10 := A9.go (f' := mkF m 14 #[.val (.ref o0), .val (.int (7 : Int32)), .val (.int (16 : Int32))] [(.int (-9 : Int32))]) fun _ _ X _ k => XS.isub X.here hx rfl (hb hby dm24_13) rfl k
  have q11 : ¬ ((0 : Int32) < (-9 : Int32)) := by decide
  have A12 := A10.go (f' := mkF m 38 #[.val (.ref o0), .val (.int (7 : Int32)), .val (.int (16 : Int32))] []) fun _ _ X _ k => XS.ifYes X.here hx rfl (pc0 := 14) (pc' := 38) rfl (hb hby dm24_14) rfl ((if0 _ _).trans (flt q11).2.2.2) (by decide) (by decide) k
  exact A12.retV hx hlk hret (hb hby dm24_38) (by decide) (by decide) ⟨rfl, rfl⟩
theorem ef_own_c62 (m : MethodId) (o0 : Addr) (o1 : Addr) : entryFrame m #[(.ref o0), (.ref o1), (.int (4 : Int32)), (.int (0 : Int32))] 4 = mkF m 0 #[.val (.ref o0), .val (.ref o1), .val (.int (4 : Int32)), .val (.int (0 : Int32))] [] := by first | (simp [entryFrame, mkF, argsToLocals, Value.category, maxLocals]; done) | rfl
set_option maxRecDepth 65536 in
set_option maxHeartbeats 40000000 in
theorem own_c62 (l : Launch) (Z : State) (a0 : Array Value) (hw : ∀ d ∈ tables_1, d.before a0 Z = true) (o0 o1 o2 : Addr) (cs : Int32) (h0 : Heap) (n0 : Nat) (Z0 : n0 ≤ h0.size) (E_o0 : Exa Z h0 o0 "java/lang/String") (F_o0_coder : Fld Z h0 o0 "java/lang/String" "coder" "B" (.int (0 : Int32))) (F_o0_value : Fld Z h0 o0 "java/lang/String" "value" "[B" (.ref o2)) (V_o1 : own_Ar Z h0 o1 .byte [(.int (104 : Int32)), (.int (116 : Int32)), (.int (116 : Int32)), (.int (112 : Int32)), (.int (0 : Int32)), (.int (0 : Int32)), (.int (0 : Int32)), (.int (0 : Int32)), (.int (0 : Int32)), (.int (0 : Int32)), (.int (0 : Int32)), (.int (0 : Int32)), (.int (0 : Int32)), (.int (0 : Int32)), (.int (0 : Int32)), (.int (0 : Int32))]) (V_o2 : own_Ar Z h0 o2 .byte [(.int (58 : Int32)), (.int (47 : Int32)), (.int (47 : Int32))]) (S_cs : Sta Z h0 "java/lang/String" "COMPACT_STRINGS" "Z" (.int cs)) (hcs : ¬ (cs = (0 : Int32))) (ne_o0_o1 : o0 ≠ o1) (ne_o2_o1 : o2 ≠ o1) (g_o1 : n0 ≤ o1) :
    own_M l Z (⟨"java/lang/String", "getBytes", "([BIB)V"⟩ : MethodName) jdk_42_method_147_code 4 none [] ({ frames := 1, cells := 0, slots := 0, locals := 18 } : Room) #[(.ref o0), (.ref o1), (.int (4 : Int32)), (.int (0 : Int32))] h0 n0 (fun v h => v = none ∧ Keep h0 h [o1] ∧ own_Ar Z h o1 .byte [(.int (104 : Int32)), (.int (116 : Int32)), (.int (116 : Int32)), (.int (112 : Int32)), (.int (58 : Int32)), (.int (47 : Int32)), (.int (47 : Int32)), (.int (0 : Int32)), (.int (0 : Int32)), (.int (0 : Int32)), (.int (0 : Int32)), (.int (0 : Int32)), (.int (0 : Int32)), (.int (0 : Int32)), (.int (0 : Int32)), (.int (0 : Int32))]) := by
  refine own_M.of (plainFor_of_name (by first | (simp [plainName, overriddenIn]; done) | decide +kernel)) ?_
  intro p e s m below meth c S0 hx hby hml hown hnm hret hlk hZ A00
  have A0 := A00.cast (ef_own_c62 m o0 o1)
  have KK : Keep h0 h0 ([o1] : List Addr) := Keep.refl _ _
  have A1 := A0.go (f' := mkF m 1 #[.val (.ref o0), .val (.ref o1), .val (.int (4 : Int32)), .val (.int (0 : Int32))] [(.ref o0)]) fun _ _ X _ k => XS.aloadN X.here hx rfl (hb hby dm27_0) rfl rfl k
  obtain ⟨vA2, hA2, ⟨rfl, rfl⟩, A2⟩ := A1.callV (b := o0) (own_c27 l Z a0 hw o0 cs h0 n0 Z0 F_o0_coder S_cs hcs) E_o0 hx hZ hown (hb hby dm27_1) (hw _ (List.mem_of_getElem? (i := 96) rfl)) (hw _ (List.mem_of_getElem? (i := 97) rfl)) (hw _ (List.mem_of_getElem? (i := 99) rfl)) (hw _ (List.mem_of_getElem? (i := 98) rfl)) (hw _ (List.mem_of_getElem? (i := 100) rfl)) (hw _ (List.mem_of_getElem? (i := 8) rfl)) (own_nf (y' := (⟨"java/lang/String", "contains", "(Ljava/lang/CharSequence;)Z"⟩ : MethodName)) (hw _ (List.mem_of_getElem? (i := 80) rfl)) rfl) ⟨by decide, by decide⟩ (lenOf pd__28_29B rfl) (argsL := []) (rest := []) rfl rfl (by rw [hml]; rfl) (W := 0) (Nat.le_of_eq rfl) (by decide) (by decide) (by decide) (by decide)
  have A3 : own_R p l e _ _ m _ below meth c S0 n0 h0 0 0 (mkF m 4 #[.val (.ref o0), .val (.ref o1), .val (.int (4 : Int32)), .val (.int (0 : Int32))] [(.int (0 : Int32))]) := A2
  have A4 := A3.go (f' := mkF m 5 #[.val (.ref o0), .val (.ref o1), .val (.int (4 : Int32)), .val (.int (0 : Int32))] [(.int (0 : Int32)), (.int (0 : Int32))]) fun _ _ X _ k => XS.iloadN X.here hx rfl (hb hby dm27_4) rfl k
  have q5 : ((0 : Int32) = (0 : Int32)) := rfl
  have A6 := A4.go (f' := mkF m 8 #[.val (.ref o0), .val (.ref o1), .val (.int (4 : Int32)), .val (.int (0 : Int32))] []) fun _ _ X _ k => XS.icmpNo X.here hx rfl (hb hby dm27_5) rfl ((teq q5).2) k
  have A7 := A6.go (f' := mkF m 9 #[.val (.ref o0), .val (.ref o1), .val (.int (4 : Int32)), .val (.int (0 : Int32))] [(.ref o0)]) fun _ _ X _ k => XS.aloadN X.here hx rfl (hb hby dm27_8) rfl rfl k
  have A8 : own_R p l e _ _ m _ below meth c S0 n0 h0 0 0 (mkF m 12 #[.val (.ref o0), .val (.ref o1), .val (.int (4 : Int32)), .val (.int (0 : Int32))] [(.ref o2)]) := A7.getF hx hZ hown (hb hby dm27_9) (hw _ (List.mem_of_getElem? (i := 108) rfl)) Via.refl F_o0_value
  have A9 := A8.go (f' := mkF m 13 #[.val (.ref o0), .val (.ref o1), .val (.int (4 : Int32)), .val (.int (0 : Int32))] [(.int (0 : Int32)), (.ref o2)]) fun _ _ X _ k => XS.iconst X.here hx rfl (hb hby dm27_12) k
  have A10 := A9.go (f' := mkF m 14 #[.val (.ref o0), .val (.ref o1), .val (.int (4 : Int32)), .val (.int (0 : Int32))] [(.ref o1), (.int (0 : Int32)), (.ref o2)]) fun _ _ X _ k => XS.aloadN X.here hx rfl (hb hby dm27_13) rfl rfl k
  have A11 := A10.go (f' := mkF m 15 #[.val (.ref o0), .val (.ref o1), .val (.int (4 : Int32)), .val (.int (0 : Int32))] [(.int (4 : Int32)), (.ref o1), (.int (0 : Int32)), (.ref o2)]) fun _ _ X _ k => XS.iloadN X.here hx rfl (hb hby dm27_14) rfl k
  have A12 := A11.go (f' := mkF m 16 #[.val (.ref o0), .val (.ref o1), .val (.int (4 : Int32)), .val (.int (0 : Int32))] [(.int (0 : Int32)), (.int (4 : Int32)), (.ref o1), (.int (0 : Int32)), (.ref o2)]) fun _ _ X _ k => XS.iloadN X.here hx rfl (hb hby dm27_15) rfl k
  have A13 := A12.go (f' := mkF m 17 #[.val (.ref o0), .val (.ref o1), .val (.int (4 : Int32)), .val (.int (0 : Int32))] [(.int (4 : Int32)), (.ref o1), (.int (0 : Int32)), (.ref o2)]) fun _ _ X _ k => XS.ishl X.here hx rfl (hb hby dm27_16) rfl k
  have A14 := A13.go (f' := mkF m 18 #[.val (.ref o0), .val (.ref o1), .val (.int (4 : Int32)), .val (.int (0 : Int32))] [(.ref o0), (.int (4 : Int32)), (.ref o1), (.int (0 : Int32)), (.ref o2)]) fun _ _ X _ k => XS.aloadN X.here hx rfl (hb hby dm27_17) rfl rfl k
  have A15 : own_R p l e _ _ m _ below meth c S0 n0 h0 0 0 (mkF m 21 #[.val (.ref o0), .val (.ref o1), .val (.int (4 : Int32)), .val (.int (0 : Int32))] [(.ref o2), (.int (4 : Int32)), (.ref o1), (.int (0 : Int32)), (.ref o2)]) := A14.getF hx hZ hown (hb hby dm27_18) (hw _ (List.mem_of_getElem? (i := 108) rfl)) Via.refl F_o0_value
  have A16 : own_R p l e _ _ m _ below meth c S0 n0 h0 0 0 (mkF m 22 #[.val (.ref o0), .val (.ref o1), .val (.int (4 : Int32)), .val (.int (0 : Int32))] [(.int (3 : Int32)), (.int (4 : Int32)), (.ref o1), (.int (0 : Int32)), (.ref o2)]) := A15.len hx hZ (hb hby dm27_21) V_o2
  obtain ⟨hA17, KA17, P_V_o1, A17⟩ := A16.cpA (vr := [(.int (104 : Int32)), (.int (116 : Int32)), (.int (116 : Int32)), (.int (112 : Int32)), (.int (58 : Int32)), (.int (47 : Int32)), (.int (47 : Int32)), (.int (0 : Int32)), (.int (0 : Int32)), (.int (0 : Int32)), (.int (0 : Int32)), (.int (0 : Int32)), (.int (0 : Int32)), (.int (0 : Int32)), (.int (0 : Int32)), (.int (0 : Int32))]) hx hZ hown (hb hby dm27_22) (hw _ (List.mem_of_getElem? (i := 172) rfl)) (hw _ (List.mem_of_getElem? (i := 175) rfl)) (hw _ (List.mem_of_getElem? (i := 173) rfl)) (hw _ (List.mem_of_getElem? (i := 174) rfl)) V_o2 V_o1 rfl (by decide) (by decide) (z1 := (3 : Int32)) (z2 := (16 : Int32)) (by decide) (by decide) (by decide) (by decide) (by decide) (by decide) (by decide) (by decide) (by decide) rfl rfl g_o1 (by rw [hml]; rfl) (W := 0) (Nat.le_of_eq rfl) (by decide) (by decide)
  have S_cs : Sta Z hA17 "java/lang/String" "COMPACT_STRINGS" "Z" (.int cs) := own_staK S_cs KA17 (allS (P := fun x => ∀ cell : Cell, h0[x]? = some cell → cell.vm.isStatics = false) V_o1.nostat all0)
  have E_o0 : Exa Z hA17 o0 "java/lang/String" := E_o0.keep KA17
  have F_o0_coder : Fld Z hA17 o0 "java/lang/String" "coder" "B" (.int (0 : Int32)) := F_o0_coder.keep KA17 (ninS ne_o0_o1 nin0)
  have F_o0_value : Fld Z hA17 o0 "java/lang/String" "value" "[B" (.ref o2) := F_o0_value.keep KA17 (ninS ne_o0_o1 nin0)
  have V_o2 : own_Ar Z hA17 o2 .byte [(.int (58 : Int32)), (.int (47 : Int32)), (.int (47 : Int32))] := V_o2.keep KA17 (ninS ne_o2_o1 nin0)
  have Z0 : n0 ≤ hA17.size := Nat.le_trans Z0 KA17.1
  have KK : Keep h0 hA17 [o1] := KK.trans KA17 (allS (P := fun x => x ∈ ([o1] : List Addr) ∨ h0.size ≤ x) (Or.inl (by simp)) all0)
  have V_o1 := P_V_o1
  have A18 : own_R p l e _ _ m _ below meth c S0 n0 hA17 0 0 (mkF m 25 #[.val (.ref o0), .val (.ref o1), .val (.int (4 : Int32)), .val (.int (0 : Int32))] []) := A17
  have A19 := A18.go (f' := mkF m 43 #[.val (.ref o0), .val (.ref o1), .val (.int (4 : Int32)), .val (.int (0 : Int32))] []) fun _ _ X _ k => XS.goto X.here hx rfl (pc0 := 25) (pc' := 43) rfl (hb hby dm27_25) (by decide) (by decide) k
  exact A19.retV hx hlk hret (hb hby dm27_43) (by decide) (by decide) ⟨rfl, KK, V_o1⟩
theorem ef_own_c63 (m : MethodId) (o0 : Addr) (o1 : Addr) : entryFrame m #[(.ref o0), (.int (4 : Int32)), (.ref o1)] 3 = mkF m 0 #[.val (.ref o0), .val (.int (4 : Int32)), .val (.ref o1)] [] := by first | (simp [entryFrame, mkF, argsToLocals, Value.category, maxLocals]; done) | rfl
set_option maxRecDepth 65536 in
set_option maxHeartbeats 40000000 in
theorem own_c63 (l : Launch) (Z : State) (a0 : Array Value) (hw : ∀ d ∈ tables_1, d.before a0 Z = true) (o0 o1 o2 o3 : Addr) (cs : Int32) (h0 : Heap) (n0 : Nat) (Z0 : n0 ≤ h0.size) (E_o0 : Exa Z h0 o0 "java/lang/StringBuilder") (F_o0_value : Fld Z h0 o0 "java/lang/AbstractStringBuilder" "value" "[B" (.ref o2)) (F_o0_coder : Fld Z h0 o0 "java/lang/AbstractStringBuilder" "coder" "B" (.int (0 : Int32))) (E_o1 : Exa Z h0 o1 "java/lang/String") (F_o1_coder : Fld Z h0 o1 "java/lang/String" "coder" "B" (.int (0 : Int32))) (F_o1_value : Fld Z h0 o1 "java/lang/String" "value" "[B" (.ref o3)) (V_o2 : own_Ar Z h0 o2 .byte [(.int (104 : Int32)), (.int (116 : Int32)), (.int (116 : Int32)), (.int (112 : Int32)), (.int (0 : Int32)), (.int (0 : Int32)), (.int (0 : Int32)), (.int (0 : Int32)), (.int (0 : Int32)), (.int (0 : Int32)), (.int (0 : Int32)), (.int (0 : Int32)), (.int (0 : Int32)), (.int (0 : Int32)), (.int (0 : Int32)), (.int (0 : Int32))]) (V_o3 : own_Ar Z h0 o3 .byte [(.int (58 : Int32)), (.int (47 : Int32)), (.int (47 : Int32))]) (S_cs : Sta Z h0 "java/lang/String" "COMPACT_STRINGS" "Z" (.int cs)) (hcs : ¬ (cs = (0 : Int32))) (ne_o0_o2 : o0 ≠ o2) (ne_o1_o2 : o1 ≠ o2) (ne_o3_o2 : o3 ≠ o2) (g_o2 : n0 ≤ o2) :
    own_M l Z (⟨"java/lang/AbstractStringBuilder", "putStringAt", "(ILjava/lang/String;)V"⟩ : MethodName) jdk_68_method_73_code 3 none [] ({ frames := 2, cells := 0, slots := 0, locals := 33 } : Room) #[(.ref o0), (.int (4 : Int32)), (.ref o1)] h0 n0 (fun v h => v = none ∧ Keep h0 h [o2] ∧ own_Ar Z h o2 .byte [(.int (104 : Int32)), (.int (116 : Int32)), (.int (116 : Int32)), (.int (112 : Int32)), (.int (58 : Int32)), (.int (47 : Int32)), (.int (47 : Int32)), (.int (0 : Int32)), (.int (0 : Int32)), (.int (0 : Int32)), (.int (0 : Int32)), (.int (0 : Int32)), (.int (0 : Int32)), (.int (0 : Int32)), (.int (0 : Int32)), (.int (0 : Int32))]) := by
  refine own_M.of (plainFor_of_name (by first | (simp [plainName, overriddenIn]; done) | decide +kernel)) ?_
  intro p e s m below meth c S0 hx hby hml hown hnm hret hlk hZ A00
  have A0 := A00.cast (ef_own_c63 m o0 o1)
  have KK : Keep h0 h0 ([o2] : List Addr) := Keep.refl _ _
  have A1 := A0.go (f' := mkF m 1 #[.val (.ref o0), .val (.int (4 : Int32)), .val (.ref o1)] [(.ref o0)]) fun _ _ X _ k => XS.aloadN X.here hx rfl (hb hby dm25_0) rfl rfl k
  have A2 := A1.go (f' := mkF m 2 #[.val (.ref o0), .val (.int (4 : Int32)), .val (.ref o1)] [(.ref o1), (.ref o0)]) fun _ _ X _ k => XS.aloadN X.here hx rfl (hb hby dm25_1) rfl rfl k
  obtain ⟨vA3, hA3, ⟨rfl, rfl⟩, A3⟩ := A2.callV (b := o0) (own_c48 l Z a0 hw o0 o1 cs h0 n0 Z0 F_o0_coder E_o1 F_o1_coder S_cs hcs) E_o0 hx hZ hown (hb hby dm25_2) (hw _ (List.mem_of_getElem? (i := 161) rfl)) (own_declares (hw _ (List.mem_of_getElem? (i := 162) rfl)) (hw _ (List.mem_of_getElem? (i := 165) rfl))) (hw _ (List.mem_of_getElem? (i := 164) rfl)) (hw _ (List.mem_of_getElem? (i := 162) rfl)) (hw _ (List.mem_of_getElem? (i := 165) rfl)) (hw _ (List.mem_of_getElem? (i := 126) rfl)) (own_nf (y' := (⟨"java/lang/AbstractStringBuilder", "ensureCapacityInternal", "(I)V"⟩ : MethodName)) (hw _ (List.mem_of_getElem? (i := 154) rfl)) rfl) ⟨by decide, by decide⟩ (lenOf pd__28Ljava_2flang_2fString_3b_29V rfl) (argsL := [(.ref o1)]) (rest := []) rfl rfl (by rw [hml]; rfl) (W := 0) (Nat.le_of_eq rfl) (by decide) (by decide) (by decide) (by decide)
  have A4 : own_R p l e _ _ m _ below meth c S0 n0 h0 0 0 (mkF m 5 #[.val (.ref o0), .val (.int (4 : Int32)), .val (.ref o1)] []) := A3
  have A5 := A4.go (f' := mkF m 6 #[.val (.ref o0), .val (.int (4 : Int32)), .val (.ref o1)] [(.ref o1)]) fun _ _ X _ k => XS.aloadN X.here hx rfl (hb hby dm25_5) rfl rfl k
  have A6 := A5.go (f' := mkF m 7 #[.val (.ref o0), .val (.int (4 : Int32)), .val (.ref o1)] [(.ref o0), (.ref o1)]) fun _ _ X _ k => XS.aloadN X.here hx rfl (hb hby dm25_6) rfl rfl k
  have A7 : own_R p l e _ _ m _ below meth c S0 n0 h0 0 0 (mkF m 10 #[.val (.ref o0), .val (.int (4 : Int32)), .val (.ref o1)] [(.ref o2), (.ref o1)]) := A6.getF hx hZ hown (hb hby dm25_7) (hw _ (List.mem_of_getElem? (i := 130) rfl)) Via.refl F_o0_value
  have A8 := A7.go (f' := mkF m 11 #[.val (.ref o0), .val (.int (4 : Int32)), .val (.ref o1)] [(.int (4 : Int32)), (.ref o2), (.ref o1)]) fun _ _ X _ k => XS.iloadN X.here hx rfl (hb hby dm25_10) rfl k
  have A9 := A8.go (f' := mkF m 12 #[.val (.ref o0), .val (.int (4 : Int32)), .val (.ref o1)] [(.ref o0), (.int (4 : Int32)), (.ref o2), (.ref o1)]) fun _ _ X _ k => XS.aloadN X.here hx rfl (hb hby dm25_11) rfl rfl k
  have A10 : own_R p l e _ _ m _ below meth c S0 n0 h0 0 0 (mkF m 15 #[.val (.ref o0), .val (.int (4 : Int32)), .val (.ref o1)] [(.int (0 : Int32)), (.int (4 : Int32)), (.ref o2), (.ref o1)]) := A9.getF hx hZ hown (hb hby dm25_12) (hw _ (List.mem_of_getElem? (i := 132) rfl)) Via.refl F_o0_coder
  obtain ⟨vA11, hA11, ⟨rfl, KA11, P_V_o2⟩, A11⟩ := A10.callV (b := o1) (own_c62 l Z a0 hw o1 o2 o3 cs h0 n0 Z0 E_o1 F_o1_coder F_o1_value V_o2 V_o3 S_cs hcs ne_o1_o2 ne_o3_o2 g_o2) E_o1 hx hZ hown (hb hby dm25_15) (hw _ (List.mem_of_getElem? (i := 167) rfl)) (hw _ (List.mem_of_getElem? (i := 168) rfl)) (hw _ (List.mem_of_getElem? (i := 170) rfl)) (hw _ (List.mem_of_getElem? (i := 169) rfl)) (hw _ (List.mem_of_getElem? (i := 171) rfl)) (hw _ (List.mem_of_getElem? (i := 8) rfl)) (own_nf (y' := (⟨"java/lang/String", "contains", "(Ljava/lang/CharSequence;)Z"⟩ : MethodName)) (hw _ (List.mem_of_getElem? (i := 80) rfl)) rfl) ⟨by decide, by decide⟩ (lenOf pd__28_5bBIB_29V rfl) (argsL := [(.ref o2), (.int (4 : Int32)), (.int (0 : Int32))]) (rest := []) rfl rfl (by rw [hml]; rfl) (W := 0) (Nat.le_of_eq rfl) (by decide) (by decide) (by decide) (by decide)
  have S_cs : Sta Z hA11 "java/lang/String" "COMPACT_STRINGS" "Z" (.int cs) := own_staK S_cs KA11 (allS (P := fun x => ∀ cell : Cell, h0[x]? = some cell → cell.vm.isStatics = false) V_o2.nostat all0)
  have E_o0 : Exa Z hA11 o0 "java/lang/StringBuilder" := E_o0.keep KA11
  have F_o0_value : Fld Z hA11 o0 "java/lang/AbstractStringBuilder" "value" "[B" (.ref o2) := F_o0_value.keep KA11 (ninS ne_o0_o2 nin0)
  have F_o0_coder : Fld Z hA11 o0 "java/lang/AbstractStringBuilder" "coder" "B" (.int (0 : Int32)) := F_o0_coder.keep KA11 (ninS ne_o0_o2 nin0)
  have E_o1 : Exa Z hA11 o1 "java/lang/String" := E_o1.keep KA11
  have F_o1_coder : Fld Z hA11 o1 "java/lang/String" "coder" "B" (.int (0 : Int32)) := F_o1_coder.keep KA11 (ninS ne_o1_o2 nin0)
  have F_o1_value : Fld Z hA11 o1 "java/lang/String" "value" "[B" (.ref o3) := F_o1_value.keep KA11 (ninS ne_o1_o2 nin0)
  have V_o3 : own_Ar Z hA11 o3 .byte [(.int (58 : Int32)), (.int (47 : Int32)), (.int (47 : Int32))] := V_o3.keep KA11 (ninS ne_o3_o2 nin0)
  have Z0 : n0 ≤ hA11.size := Nat.le_trans Z0 KA11.1
  have KK : Keep h0 hA11 [o2] := KK.trans KA11 (allS (P := fun x => x ∈ ([o2] : List Addr) ∨ h0.size ≤ x) (Or.inl (by simp)) all0)
  have V_o2 : own_Ar Z hA11 o2 .byte [(.int (104 : Int32)), (.int (116 : Int32)), (.int (116 : Int32)), (.int (112 : Int32)), (.int (58 : Int32)), (.int (47 : Int32)), (.int (47 : Int32)), (.int (0 : Int32)), (.int (0 : Int32)), (.int (0 : Int32)), (.int (0 : Int32)), (.int (0 : Int32)), (.int (0 : Int32)), (.int (0 : Int32)), (.int (0 : Int32)), (.int (0 : Int32))] := P_V_o2
  have A12 : own_R p l e _ _ m _ below meth c S0 n0 hA11 0 0 (mkF m 18 #[.val (.ref o0), .val (.int (4 : Int32)), .val (.ref o1)] []) := A11
  exact A12.retV hx hlk hret (hb hby dm25_18) (by decide) (by decide) ⟨rfl, KK, V_o2⟩
theorem ef_own_c64 (m : MethodId) (o0 : Addr) (o1 : Addr) : entryFrame m #[(.ref o0), (.ref o1)] 3 = mkF m 0 #[.val (.ref o0), .val (.ref o1), .unset] [] := by first | (simp [entryFrame, mkF, argsToLocals, Value.category, maxLocals]; done) | rfl
set_option maxRecDepth 65536 in
set_option maxHeartbeats 40000000 in
theorem own_c64 (l : Launch) (Z : State) (a0 : Array Value) (hw : ∀ d ∈ tables_1, d.before a0 Z = true) (o0 o1 o2 o3 : Addr) (cs : Int32) (h0 : Heap) (n0 : Nat) (Z0 : n0 ≤ h0.size) (E_o0 : Exa Z h0 o0 "java/lang/StringBuilder") (F_o0_value : Fld Z h0 o0 "java/lang/AbstractStringBuilder" "value" "[B" (.ref o2)) (F_o0_coder : Fld Z h0 o0 "java/lang/AbstractStringBuilder" "coder" "B" (.int (0 : Int32))) (F_o0_count : Fld Z h0 o0 "java/lang/AbstractStringBuilder" "count" "I" (.int (4 : Int32))) (E_o1 : Exa Z h0 o1 "java/lang/String") (F_o1_coder : Fld Z h0 o1 "java/lang/String" "coder" "B" (.int (0 : Int32))) (F_o1_value : Fld Z h0 o1 "java/lang/String" "value" "[B" (.ref o3)) (V_o2 : own_Ar Z h0 o2 .byte [(.int (104 : Int32)), (.int (116 : Int32)), (.int (116 : Int32)), (.int (112 : Int32)), (.int (0 : Int32)), (.int (0 : Int32)), (.int (0 : Int32)), (.int (0 : Int32)), (.int (0 : Int32)), (.int (0 : Int32)), (.int (0 : Int32)), (.int (0 : Int32)), (.int (0 : Int32)), (.int (0 : Int32)), (.int (0 : Int32)), (.int (0 : Int32))]) (V_o3 : own_Ar Z h0 o3 .byte [(.int (58 : Int32)), (.int (47 : Int32)), (.int (47 : Int32))]) (S_cs : Sta Z h0 "java/lang/String" "COMPACT_STRINGS" "Z" (.int cs)) (hcs : ¬ (cs = (0 : Int32))) (ne_o0_o2 : o0 ≠ o2) (ne_o1_o0 : o1 ≠ o0) (ne_o1_o2 : o1 ≠ o2) (ne_o2_o0 : o2 ≠ o0) (ne_o3_o0 : o3 ≠ o0) (ne_o3_o2 : o3 ≠ o2) (g_o0 : n0 ≤ o0) (g_o2 : n0 ≤ o2) :
    own_M l Z (⟨"java/lang/AbstractStringBuilder", "append", "(Ljava/lang/String;)Ljava/lang/AbstractStringBuilder;"⟩ : MethodName) jdk_68_method_22_code 3 (some (.object "java/lang/AbstractStringBuilder")) [] ({ frames := 3, cells := 0, slots := 0, locals := 47 } : Room) #[(.ref o0), (.ref o1)] h0 n0 (fun v h => v = some (.ref o0) ∧ Keep h0 h [o0, o2] ∧ Fld Z h o0 "java/lang/AbstractStringBuilder" "value" "[B" (.ref o2) ∧ Fld Z h o0 "java/lang/AbstractStringBuilder" "coder" "B" (.int (0 : Int32)) ∧ Fld Z h o0 "java/lang/AbstractStringBuilder" "count" "I" (.int (7 : Int32)) ∧ own_Ar Z h o2 .byte [(.int (104 : Int32)), (.int (116 : Int32)), (.int (116 : Int32)), (.int (112 : Int32)), (.int (58 : Int32)), (.int (47 : Int32)), (.int (47 : Int32)), (.int (0 : Int32)), (.int (0 : Int32)), (.int (0 : Int32)), (.int (0 : Int32)), (.int (0 : Int32)), (.int (0 : Int32)), (.int (0 : Int32)), (.int (0 : Int32)), (.int (0 : Int32))]) := by
  refine own_M.of (plainFor_of_name (by first | (simp [plainName, overriddenIn]; done) | decide +kernel)) ?_
  intro p e s m below meth c S0 hx hby hml hown hnm hret hlk hZ A00
  have A0 := A00.cast (ef_own_c64 m o0 o1)
  have KK : Keep h0 h0 ([o0, o2] : List Addr) := Keep.refl _ _
  have A1 := A0.go (f' := mkF m 1 #[.val (.ref o0), .val (.ref o1), .unset] [(.ref o1)]) fun _ _ X _ k => XS.aloadN X.here hx rfl (hb hby dm22_0) rfl rfl k
  have A2 := A1.go (f' := mkF m 9 #[.val (.ref o0), .val (.ref o1), .unset] []) fun _ _ X _ k => XS.ifnonnullYes X.here hx rfl (pc0 := 1) (pc' := 9) rfl (hb hby dm22_1) rfl (by decide) (by decide) k
  have A3 := A2.go (f' := mkF m 10 #[.val (.ref o0), .val (.ref o1), .unset] [(.ref o1)]) fun _ _ X _ k => XS.aloadN X.here hx rfl (hb hby dm22_9) rfl rfl k
  obtain ⟨vA4, hA4, ⟨rfl, rfl⟩, A4⟩ := A3.callV (b := o1) (own_c57 l Z a0 hw o1 o3 cs h0 n0 Z0 E_o1 F_o1_coder F_o1_value V_o3 S_cs hcs) E_o1 hx hZ hown (hb hby dm22_10) (hw _ (List.mem_of_getElem? (i := 144) rfl)) (hw _ (List.mem_of_getElem? (i := 145) rfl)) (hw _ (List.mem_of_getElem? (i := 147) rfl)) (hw _ (List.mem_of_getElem? (i := 146) rfl)) (hw _ (List.mem_of_getElem? (i := 148) rfl)) (hw _ (List.mem_of_getElem? (i := 8) rfl)) (own_nf (y' := (⟨"java/lang/String", "contains", "(Ljava/lang/CharSequence;)Z"⟩ : MethodName)) (hw _ (List.mem_of_getElem? (i := 80) rfl)) rfl) ⟨by decide, by decide⟩ (lenOf pd__28_29I rfl) (argsL := []) (rest := []) rfl rfl (by rw [hml]; rfl) (W := 0) (Nat.le_of_eq rfl) (by decide) (by decide) (by decide) (by decide)
  have A5 : own_R p l e _ _ m _ below meth c S0 n0 h0 0 0 (mkF m 13 #[.val (.ref o0), .val (.ref o1), .unset] [(.int (3 : Int32))]) := A4
  have A6 := A5.go (f' := mkF m 14 #[.val (.ref o0), .val (.ref o1), .val (.int (3 : Int32))] []) fun _ _ X _ k => XS.istoreN X.here hx rfl (hb hby dm22_13) rfl (l' := #[.val (.ref o0), .val (.ref o1), .val (.int (3 : Int32))]) rfl k
  have A7 := A6.go (f' := mkF m 15 #[.val (.ref o0), .val (.ref o1), .val (.int (3 : Int32))] [(.ref o0)]) fun _ _ X _ k => XS.aloadN X.here hx rfl (hb hby dm22_14) rfl rfl k
  have A8 := A7.go (f' := mkF m 16 #[.val (.ref o0), .val (.ref o1), .val (.int (3 : Int32))] [(.ref o0), (.ref o0)]) fun _ _ X _ k => XS.aloadN X.here hx rfl (hb hby dm22_15) rfl rfl k
  have A9 : own_R p l e _ _ m _ below meth c S0 n0 h0 0 0 (mkF m 19 #[.val (.ref o0), .val (.ref o1), .val (.int (3 : Int32))] [(.int (4 : Int32)), (.ref o0)]) := A8.getF hx hZ hown (hb hby dm22_16) (hw _ (List.mem_of_getElem? (i := 149) rfl)) Via.refl F_o0_count
  have A10 := A9.go (f' := mkF m 20 #[.val (.ref o0), .val (.ref o1), .val (.int (3 : Int32))] [(.int (3 : Int32)), (.int (4 : Int32)), (.ref o0)]) fun _ _ X _ k => XS.iloadN X.here hx rfl (hb hby dm22_19) rfl k
  have A11 := A10.go (f' := mkF m 21 #[.val (.ref o0), .val (.ref o1), .val (.int (3 : Int32))] [(.int (7 : Int32)), (.ref o0)]) fun _ _ X _ k => XS.iadd X.here hx rfl (hb hby dm22_20) rfl k
  obtain ⟨vA12, hA12, ⟨rfl, rfl⟩, A12⟩ := A11.callV (b := o0) (own_c59 l Z a0 hw o0 o2 h0 n0 Z0 F_o0_value F_o0_coder V_o2) E_o0 hx hZ hown (hb hby dm22_21) (hw _ (List.mem_of_getElem? (i := 151) rfl)) (own_declares (hw _ (List.mem_of_getElem? (i := 152) rfl)) (hw _ (List.mem_of_getElem? (i := 155) rfl))) (hw _ (List.mem_of_getElem? (i := 154) rfl)) (hw _ (List.mem_of_getElem? (i := 152) rfl)) (hw _ (List.mem_of_getElem? (i := 155) rfl)) (hw _ (List.mem_of_getElem? (i := 126) rfl)) (own_nf (y' := (⟨"java/lang/AbstractStringBuilder", "ensureCapacityInternal", "(I)V"⟩ : MethodName)) (hw _ (List.mem_of_getElem? (i := 154) rfl)) rfl) ⟨by decide, by decide⟩ (lenOf pd__28I_29V rfl) (argsL := [(.int (7 : Int32))]) (rest := []) rfl rfl (by rw [hml]; rfl) (W := 0) (Nat.le_of_eq rfl) (by decide) (by decide) (by decide) (by decide)
  have A13 : own_R p l e _ _ m _ below meth c S0 n0 h0 0 0 (mkF m 24 #[.val (.ref o0), .val (.ref o1), .val (.int (3 : Int32))] []) := A12
  have A14 := A13.go (f' := mkF m 25 #[.val (.ref o0), .val (.ref o1), .val (.int (3 : Int32))] [(.ref o0)]) fun _ _ X _ k => XS.aloadN X.here hx rfl (hb hby dm22_24) rfl rfl k
  have A15 := A14.go (f' := mkF m 26 #[.val (.ref o0), .val (.ref o1), .val (.int (3 : Int32))] [(.ref o0), (.ref o0)]) fun _ _ X _ k => XS.aloadN X.here hx rfl (hb hby dm22_25) rfl rfl k
  have A16 : own_R p l e _ _ m _ below meth c S0 n0 h0 0 0 (mkF m 29 #[.val (.ref o0), .val (.ref o1), .val (.int (3 : Int32))] [(.int (4 : Int32)), (.ref o0)]) := A15.getF hx hZ hown (hb hby dm22_26) (hw _ (List.mem_of_getElem? (i := 149) rfl)) Via.refl F_o0_count
  have A17 := A16.go (f' := mkF m 30 #[.val (.ref o0), .val (.ref o1), .val (.int (3 : Int32))] [(.ref o1), (.int (4 : Int32)), (.ref o0)]) fun _ _ X _ k => XS.aloadN X.here hx rfl (hb hby dm22_29) rfl rfl k
  obtain ⟨vA18, hA18, ⟨rfl, KA18, P_V_o2⟩, A18⟩ := A17.callV (b := o0) (own_c63 l Z a0 hw o0 o1 o2 o3 cs h0 n0 Z0 E_o0 F_o0_value F_o0_coder E_o1 F_o1_coder F_o1_value V_o2 V_o3 S_cs hcs ne_o0_o2 ne_o1_o2 ne_o3_o2 g_o2) E_o0 hx hZ hown (hb hby dm22_30) (hw _ (List.mem_of_getElem? (i := 156) rfl)) (own_declares (hw _ (List.mem_of_getElem? (i := 157) rfl)) (hw _ (List.mem_of_getElem? (i := 160) rfl))) (hw _ (List.mem_of_getElem? (i := 159) rfl)) (hw _ (List.mem_of_getElem? (i := 157) rfl)) (hw _ (List.mem_of_getElem? (i := 160) rfl)) (hw _ (List.mem_of_getElem? (i := 126) rfl)) (own_nf (y' := (⟨"java/lang/AbstractStringBuilder", "ensureCapacityInternal", "(I)V"⟩ : MethodName)) (hw _ (List.mem_of_getElem? (i := 154) rfl)) rfl) ⟨by decide, by decide⟩ (lenOf pd__28ILjava_2flang_2fString_3b_29V rfl) (argsL := [(.int (4 : Int32)), (.ref o1)]) (rest := []) rfl rfl (by rw [hml]; rfl) (W := 0) (Nat.le_of_eq rfl) (by decide) (by decide) (by decide) (by decide)
  have S_cs : Sta Z hA18 "java/lang/String" "COMPACT_STRINGS" "Z" (.int cs) := own_staK S_cs KA18 (allS (P := fun x => ∀ cell : Cell, h0[x]? = some cell → cell.vm.isStatics = false) V_o2.nostat all0)
  have E_o0 : Exa Z hA18 o0 "java/lang/StringBuilder" := E_o0.keep KA18
  have F_o0_value : Fld Z hA18 o0 "java/lang/AbstractStringBuilder" "value" "[B" (.ref o2) := F_o0_value.keep KA18 (ninS ne_o0_o2 nin0)
  have F_o0_coder : Fld Z hA18 o0 "java/lang/AbstractStringBuilder" "coder" "B" (.int (0 : Int32)) := F_o0_coder.keep KA18 (ninS ne_o0_o2 nin0)
  have F_o0_count : Fld Z hA18 o0 "java/lang/AbstractStringBuilder" "count" "I" (.int (4 : Int32)) := F_o0_count.keep KA18 (ninS ne_o0_o2 nin0)
  have E_o1 : Exa Z hA18 o1 "java/lang/String" := E_o1.keep KA18
  have F_o1_coder : Fld Z hA18 o1 "java/lang/String" "coder" "B" (.int (0 : Int32)) := F_o1_coder.keep KA18 (ninS ne_o1_o2 nin0)
  have F_o1_value : Fld Z hA18 o1 "java/lang/String" "value" "[B" (.ref o3) := F_o1_value.keep KA18 (ninS ne_o1_o2 nin0)
  have V_o3 : own_Ar Z hA18 o3 .byte [(.int (58 : Int32)), (.int (47 : Int32)), (.int (47 : Int32))] := V_o3.keep KA18 (ninS ne_o3_o2 nin0)
  have Z0 : n0 ≤ hA18.size := Nat.le_trans Z0 KA18.1
  have KK : Keep h0 hA18 [o0, o2] := KK.trans KA18 (allS (P := fun x => x ∈ ([o0, o2] : List Addr) ∨ h0.size ≤ x) (Or.inl (by simp)) all0)
  have V_o2 : own_Ar Z hA18 o2 .byte [(.int (104 : Int32)), (.int (116 : Int32)), (.int (116 : Int32)), (.int (112 : Int32)), (.int (58 : Int32)), (.int (47 : Int32)), (.int (47 : Int32)), (.int (0 : Int32)), (.int (0 : Int32)), (.int (0 : Int32)), (.int (0 : Int32)), (.int (0 : Int32)), (.int (0 : Int32)), (.int (0 : Int32)), (.int (0 : Int32)), (.int (0 : Int32))] := P_V_o2
  have A19 : own_R p l e _ _ m _ below meth c S0 n0 hA18 0 0 (mkF m 33 #[.val (.ref o0), .val (.ref o1), .val (.int (3 : Int32))] []) := A18
  have A20 := A19.go (f' := mkF m 34 #[.val (.ref o0), .val (.ref o1), .val (.int (3 : Int32))] [(.ref o0)]) fun _ _ X _ k => XS.aloadN X.here hx rfl (hb hby dm22_33) rfl rfl k
  have A21 := A20.go (f' := mkF m 35 #[.val (.ref o0), .val (.ref o1), .val (.int (3 : Int32))] [(.ref o0), (.ref o0)]) fun _ _ X _ k => XS.dup X.here hx rfl (hb hby dm22_34) rfl rfl k
  have A22 : own_R p l e _ _ m _ below meth c S0 n0 hA18 0 0 (mkF m 38 #[.val (.ref o0), .val (.ref o1), .val (.int (3 : Int32))] [(.int (4 : Int32)), (.ref o0)]) := A21.getF hx hZ hown (hb hby dm22_35) (hw _ (List.mem_of_getElem? (i := 149) rfl)) Via.refl F_o0_count
  have A23 := A22.go (f' := mkF m 39 #[.val (.ref o0), .val (.ref o1), .val (.int (3 : Int32))] [(.int (3 : Int32)), (.int (4 : Int32)), (.ref o0)]) fun _ _ X _ k => XS.iloadN X.here hx rfl (hb hby dm22_38) rfl k
  have A24 := A23.go (f' := mkF m 40 #[.val (.ref o0), .val (.ref o1), .val (.int (3 : Int32))] [(.int (7 : Int32)), (.ref o0)]) fun _ _ X _ k => XS.iadd X.here hx rfl (hb hby dm22_39) rfl k
  obtain ⟨h25, W26, A27⟩ := A24.putF hx hZ hown (hb hby dm22_40) (hw _ (List.mem_of_getElem? (i := 149) rfl)) F_o0_count E_o0 (Or.inl (hw _ (List.mem_of_getElem? (i := 150) rfl))) (hw _ (List.mem_of_getElem? (i := 117) rfl)) (ty := .int) (by decide) rfl rfl g_o0
  have E_o0 : Exa Z h25 o0 "java/lang/StringBuilder" := E_o0.wr W26
  have F_o0_value : Fld Z h25 o0 "java/lang/AbstractStringBuilder" "value" "[B" (.ref o2) := F_o0_value.other W26 (Or.inr (slot_ne (Or.inl (hw _ (List.mem_of_getElem? (i := 131) rfl))) (Or.inl (hw _ (List.mem_of_getElem? (i := 150) rfl))) (by decide) (t := (.array .byte)) (t' := .int) (by decide) (by decide)))
  have F_o0_coder : Fld Z h25 o0 "java/lang/AbstractStringBuilder" "coder" "B" (.int (0 : Int32)) := F_o0_coder.other W26 (Or.inr (slot_ne (Or.inl (hw _ (List.mem_of_getElem? (i := 133) rfl))) (Or.inl (hw _ (List.mem_of_getElem? (i := 150) rfl))) (by decide) (t := .byte) (t' := .int) (by decide) (by decide)))
  have F_o0_count : Fld Z h25 o0 "java/lang/AbstractStringBuilder" "count" "I" (.int (7 : Int32)) := F_o0_count.same W26
  have E_o1 : Exa Z h25 o1 "java/lang/String" := E_o1.wr W26
  have F_o1_coder : Fld Z h25 o1 "java/lang/String" "coder" "B" (.int (0 : Int32)) := F_o1_coder.other W26 (Or.inl ne_o1_o0)
  have F_o1_value : Fld Z h25 o1 "java/lang/String" "value" "[B" (.ref o3) := F_o1_value.other W26 (Or.inl ne_o1_o0)
  have V_o3 : own_Ar Z h25 o3 .byte [(.int (58 : Int32)), (.int (47 : Int32)), (.int (47 : Int32))] := V_o3.other W26 ne_o3_o0
  have S_cs : Sta Z h25 "java/lang/String" "COMPACT_STRINGS" "Z" (.int cs) := S_cs.wr W26
  have V_o2 : own_Ar Z h25 o2 .byte [(.int (104 : Int32)), (.int (116 : Int32)), (.int (116 : Int32)), (.int (112 : Int32)), (.int (58 : Int32)), (.int (47 : Int32)), (.int (47 : Int32)), (.int (0 : Int32)), (.int (0 : Int32)), (.int (0 : Int32)), (.int (0 : Int32)), (.int (0 : Int32)), (.int (0 : Int32)), (.int (0 : Int32)), (.int (0 : Int32)), (.int (0 : Int32))] := V_o2.other W26 ne_o2_o0
  have Z0 : n0 ≤ h25.size := by rw [W26.size]; exact Z0
  have KK : Keep h0 h25 [o0, o2] := KK.wr W26 (Or.inl (by simp))
  have A28 : own_R p l e _ _ m _ below meth c S0 n0 h25 0 0 (mkF m 43 #[.val (.ref o0), .val (.ref o1), .val (.int (3 : Int32))] []) := A27
  have A29 := A28.go (f' := mkF m 44 #[.val (.ref o0), .val (.ref o1), .val (.int (3 : Int32))] [(.ref o0)]) fun _ _ X _ k => XS.aloadN X.here hx rfl (hb hby dm22_43) rfl rfl k
  exact A29.ret hx hlk hret (hb hby dm22_44) rfl (Or.inr (Or.inr (Or.inr (Or.inr ⟨rfl, rfl, rfl⟩)))) (by decide) (by decide) ⟨rfl, KK, F_o0_value, F_o0_coder, F_o0_count, V_o2⟩
theorem ef_own_c65 (m : MethodId) (o0 : Addr) (o1 : Addr) : entryFrame m #[(.ref o0), (.ref o1)] 2 = mkF m 0 #[.val (.ref o0), .val (.ref o1)] [] := by first | (simp [entryFrame, mkF, argsToLocals, Value.category, maxLocals]; done) | rfl
set_option maxRecDepth 65536 in
set_option maxHeartbeats 40000000 in
theorem own_c65 (l : Launch) (Z : State) (a0 : Array Value) (hw : ∀ d ∈ tables_1, d.before a0 Z = true) (o0 o1 o2 o3 : Addr) (cs : Int32) (h0 : Heap) (n0 : Nat) (Z0 : n0 ≤ h0.size) (E_o0 : Exa Z h0 o0 "java/lang/StringBuilder") (F_o0_value : Fld Z h0 o0 "java/lang/AbstractStringBuilder" "value" "[B" (.ref o2)) (F_o0_coder : Fld Z h0 o0 "java/lang/AbstractStringBuilder" "coder" "B" (.int (0 : Int32))) (F_o0_count : Fld Z h0 o0 "java/lang/AbstractStringBuilder" "count" "I" (.int (4 : Int32))) (E_o1 : Exa Z h0 o1 "java/lang/String") (F_o1_coder : Fld Z h0 o1 "java/lang/String" "coder" "B" (.int (0 : Int32))) (F_o1_value : Fld Z h0 o1 "java/lang/String" "value" "[B" (.ref o3)) (V_o2 : own_Ar Z h0 o2 .byte [(.int (104 : Int32)), (.int (116 : Int32)), (.int (116 : Int32)), (.int (112 : Int32)), (.int (0 : Int32)), (.int (0 : Int32)), (.int (0 : Int32)), (.int (0 : Int32)), (.int (0 : Int32)), (.int (0 : Int32)), (.int (0 : Int32)), (.int (0 : Int32)), (.int (0 : Int32)), (.int (0 : Int32)), (.int (0 : Int32)), (.int (0 : Int32))]) (V_o3 : own_Ar Z h0 o3 .byte [(.int (58 : Int32)), (.int (47 : Int32)), (.int (47 : Int32))]) (S_cs : Sta Z h0 "java/lang/String" "COMPACT_STRINGS" "Z" (.int cs)) (hcs : ¬ (cs = (0 : Int32))) (ne_o0_o2 : o0 ≠ o2) (ne_o1_o0 : o1 ≠ o0) (ne_o1_o2 : o1 ≠ o2) (ne_o2_o0 : o2 ≠ o0) (ne_o3_o0 : o3 ≠ o0) (ne_o3_o2 : o3 ≠ o2) (g_o0 : n0 ≤ o0) (g_o2 : n0 ≤ o2) :
    own_M l Z (⟨"java/lang/StringBuilder", "append", "(Ljava/lang/String;)Ljava/lang/StringBuilder;"⟩ : MethodName) jdk_67_method_7_code 2 (some (.object "java/lang/StringBuilder")) [] ({ frames := 4, cells := 0, slots := 0, locals := 61 } : Room) #[(.ref o0), (.ref o1)] h0 n0 (fun v h => v = some (.ref o0) ∧ Keep h0 h [o0, o2] ∧ Fld Z h o0 "java/lang/AbstractStringBuilder" "value" "[B" (.ref o2) ∧ Fld Z h o0 "java/lang/AbstractStringBuilder" "coder" "B" (.int (0 : Int32)) ∧ Fld Z h o0 "java/lang/AbstractStringBuilder" "count" "I" (.int (7 : Int32)) ∧ own_Ar Z h o2 .byte [(.int (104 : Int32)), (.int (116 : Int32)), (.int (116 : Int32)), (.int (112 : Int32)), (.int (58 : Int32)), (.int (47 : Int32)), (.int (47 : Int32)), (.int (0 : Int32)), (.int (0 : Int32)), (.int (0 : Int32)), (.int (0 : Int32)), (.int (0 : Int32)), (.int (0 : Int32)), (.int (0 : Int32)), (.int (0 : Int32)), (.int (0 : Int32))]) := by
  refine own_M.of (plainFor_of_name (by first | (simp [plainName, overriddenIn]; done) | decide +kernel)) ?_
  intro p e s m below meth c S0 hx hby hml hown hnm hret hlk hZ A00
  have A0 := A00.cast (ef_own_c65 m o0 o1)
  have KK : Keep h0 h0 ([o0, o2] : List Addr) := Keep.refl _ _
  have A1 := A0.go (f' := mkF m 1 #[.val (.ref o0), .val (.ref o1)] [(.ref o0)]) fun _ _ X _ k => XS.aloadN X.here hx rfl (hb hby dm21_0) rfl rfl k
  have A2 := A1.go (f' := mkF m 2 #[.val (.ref o0), .val (.ref o1)] [(.ref o1), (.ref o0)]) fun _ _ X _ k => XS.aloadN X.here hx rfl (hb hby dm21_1) rfl rfl k
  obtain ⟨vA3, hA3, ⟨rfl, KA3, P_F_o0_value, P_F_o0_coder, P_F_o0_count, P_V_o2⟩, A3⟩ := A2.callU (b := o0) (own_c64 l Z a0 hw o0 o1 o2 o3 cs h0 n0 Z0 E_o0 F_o0_value F_o0_coder F_o0_count E_o1 F_o1_coder F_o1_value V_o2 V_o3 S_cs hcs ne_o0_o2 ne_o1_o0 ne_o1_o2 ne_o2_o0 ne_o3_o0 ne_o3_o2 g_o0 g_o2) E_o0 hx hZ hown (hb hby dm21_2) (by decide) (hw _ (List.mem_of_getElem? (i := 139) rfl)) (own_same (y' := (⟨"java/lang/AbstractStringBuilder", "ensureCapacityInternal", "(I)V"⟩ : MethodName)) (hw _ (List.mem_of_getElem? (i := 154) rfl)) rfl (hw _ (List.mem_of_getElem? (i := 140) rfl)) ⟨by decide, by decide⟩) (hw _ (List.mem_of_getElem? (i := 140) rfl)) (hw _ (List.mem_of_getElem? (i := 141) rfl)) (hw _ (List.mem_of_getElem? (i := 143) rfl)) (hw _ (List.mem_of_getElem? (i := 126) rfl)) (lenOf pd__28Ljava_2flang_2fString_3b_29Ljava_2flang_2fAbstractStringBuilder_3b rfl) (argsL := [(.ref o1)]) (rest := []) rfl rfl (by rw [hml]; rfl) (W := 0) (Nat.le_of_eq rfl) (by decide) (by decide) (by decide) (by decide)
  have S_cs : Sta Z hA3 "java/lang/String" "COMPACT_STRINGS" "Z" (.int cs) := own_staK S_cs KA3 (allS (P := fun x => ∀ cell : Cell, h0[x]? = some cell → cell.vm.isStatics = false) E_o0.nostat (allS (P := fun x => ∀ cell : Cell, h0[x]? = some cell → cell.vm.isStatics = false) V_o2.nostat all0))
  have E_o0 : Exa Z hA3 o0 "java/lang/StringBuilder" := E_o0.keep KA3
  have E_o1 : Exa Z hA3 o1 "java/lang/String" := E_o1.keep KA3
  have F_o1_coder : Fld Z hA3 o1 "java/lang/String" "coder" "B" (.int (0 : Int32)) := F_o1_coder.keep KA3 (ninS ne_o1_o0 (ninS ne_o1_o2 nin0))
  have F_o1_value : Fld Z hA3 o1 "java/lang/String" "value" "[B" (.ref o3) := F_o1_value.keep KA3 (ninS ne_o1_o0 (ninS ne_o1_o2 nin0))
  have V_o3 : own_Ar Z hA3 o3 .byte [(.int (58 : Int32)), (.int (47 : Int32)), (.int (47 : Int32))] := V_o3.keep KA3 (ninS ne_o3_o0 (ninS ne_o3_o2 nin0))
  have Z0 : n0 ≤ hA3.size := Nat.le_trans Z0 KA3.1
  have KK : Keep h0 hA3 [o0, o2] := KK.trans KA3 (allS (P := fun x => x ∈ ([o0, o2] : List Addr) ∨ h0.size ≤ x) (Or.inl (by simp)) (allS (P := fun x => x ∈ ([o0, o2] : List Addr) ∨ h0.size ≤ x) (Or.inl (by simp)) all0))
  have F_o0_value : Fld Z hA3 o0 "java/lang/AbstractStringBuilder" "value" "[B" (.ref o2) := P_F_o0_value
  have F_o0_coder : Fld Z hA3 o0 "java/lang/AbstractStringBuilder" "coder" "B" (.int (0 : Int32)) := P_F_o0_coder
  have F_o0_count : Fld Z hA3 o0 "java/lang/AbstractStringBuilder" "count" "I" (.int (7 : Int32)) := P_F_o0_count
  have V_o2 : own_Ar Z hA3 o2 .byte [(.int (104 : Int32)), (.int (116 : Int32)), (.int (116 : Int32)), (.int (112 : Int32)), (.int (58 : Int32)), (.int (47 : Int32)), (.int (47 : Int32)), (.int (0 : Int32)), (.int (0 : Int32)), (.int (0 : Int32)), (.int (0 : Int32)), (.int (0 : Int32)), (.int (0 : Int32)), (.int (0 : Int32)), (.int (0 : Int32)), (.int (0 : Int32))] := P_V_o2
  have A4 : own_R p l e _ _ m _ below meth c S0 n0 hA3 0 0 (mkF m 5 #[.val (.ref o0), .val (.ref o1)] [(.ref o0)]) := A3
  have A5 := A4.go (f' := mkF m 6 #[.val (.ref o0), .val (.ref o1)] []) fun _ _ X _ k => XS.pop X.here hx rfl (hb hby dm21_5) rfl rfl k
  have A6 := A5.go (f' := mkF m 7 #[.val (.ref o0), .val (.ref o1)] [(.ref o0)]) fun _ _ X _ k => XS.aloadN X.here hx rfl (hb hby dm21_6) rfl rfl k
  exact A6.ret hx hlk hret (hb hby dm21_7) rfl (Or.inr (Or.inr (Or.inr (Or.inr ⟨rfl, rfl, rfl⟩)))) (by decide) (by decide) ⟨rfl, KK, F_o0_value, F_o0_coder, F_o0_count, V_o2⟩
theorem ef_own_c69 (m : MethodId) (o0 : Addr) : entryFrame m #[(.ref o0)] 1 = mkF m 0 #[.val (.ref o0)] [] := by first | (simp [entryFrame, mkF, argsToLocals, Value.category, maxLocals]; done) | rfl
set_option maxRecDepth 65536 in
set_option maxHeartbeats 40000000 in
theorem own_c69 (l : Launch) (Z : State) (a0 : Array Value) (hw : ∀ d ∈ tables_1, d.before a0 Z = true) (o0 o1 : Addr) (cs : Int32) (h0 : Heap) (n0 : Nat) (Z0 : n0 ≤ h0.size) (E_o0 : Exa Z h0 o0 "java/lang/String") (F_o0_coder : Fld Z h0 o0 "java/lang/String" "coder" "B" (.int (0 : Int32))) (F_o0_value : Fld Z h0 o0 "java/lang/String" "value" "[B" (.ref o1)) (V_o1 : own_Ar Z h0 o1 .byte [(.int (49 : Int32)), (.int (50 : Int32)), (.int (55 : Int32)), (.int (46 : Int32)), (.int (48 : Int32)), (.int (46 : Int32)), (.int (48 : Int32)), (.int (46 : Int32)), (.int (49 : Int32))]) (S_cs : Sta Z h0 "java/lang/String" "COMPACT_STRINGS" "Z" (.int cs)) (hcs : ¬ (cs = (0 : Int32))) :
    own_M l Z (⟨"java/lang/String", "length", "()I"⟩ : MethodName) jdk_42_method_54_code 1 (some .int) [] ({ frames := 1, cells := 0, slots := 0, locals := 13 } : Room) #[(.ref o0)] h0 n0 (fun v h => v = some (.int (9 : Int32)) ∧ h0 = h) := by
  refine own_M.of (plainFor_of_name (by first | (simp [plainName, overriddenIn]; done) | decide +kernel)) ?_
  intro p e s m below meth c S0 hx hby hml hown hnm hret hlk hZ A00
  have A0 := A00.cast (ef_own_c69 m o0)
  have KK : Keep h0 h0 ([] : List Addr) := Keep.refl _ _
  have A1 := A0.go (f' := mkF m 1 #[.val (.ref o0)] [(.ref o0)]) fun _ _ X _ k => XS.aloadN X.here hx rfl (hb hby dm23_0) rfl rfl k
  have A2 : own_R p l e _ _ m _ below meth c S0 n0 h0 0 0 (mkF m 4 #[.val (.ref o0)] [(.ref o1)]) := A1.getF hx hZ hown (hb hby dm23_1) (hw _ (List.mem_of_getElem? (i := 108) rfl)) Via.refl F_o0_value
  have A3 : own_R p l e _ _ m _ below meth c S0 n0 h0 0 0 (mkF m 5 #[.val (.ref o0)] [(.int (9 : Int32))]) := A2.len hx hZ (hb hby dm23_4) V_o1
  have A4 := A3.go (f' := mkF m 6 #[.val (.ref o0)] [(.ref o0), (.int (9 : Int32))]) fun _ _ X _ k => XS.aloadN X.here hx rfl (hb hby dm23_5) rfl rfl k
  obtain ⟨vA5, hA5, ⟨rfl, rfl⟩, A5⟩ := A4.callV (b := o0) (own_c27 l Z a0 hw o0 cs h0 n0 Z0 F_o0_coder S_cs hcs) E_o0 hx hZ hown (hb hby dm23_6) (hw _ (List.mem_of_getElem? (i := 96) rfl)) (hw _ (List.mem_of_getElem? (i := 97) rfl)) (hw _ (List.mem_of_getElem? (i := 99) rfl)) (hw _ (List.mem_of_getElem? (i := 98) rfl)) (hw _ (List.mem_of_getElem? (i := 100) rfl)) (hw _ (List.mem_of_getElem? (i := 8) rfl)) (own_nf (y' := (⟨"java/lang/String", "contains", "(Ljava/lang/CharSequence;)Z"⟩ : MethodName)) (hw _ (List.mem_of_getElem? (i := 80) rfl)) rfl) ⟨by decide, by decide⟩ (lenOf pd__28_29B rfl) (argsL := []) (rest := [(.int (9 : Int32))]) rfl rfl (by rw [hml]; rfl) (W := 1) (Nat.le_of_eq rfl) (by decide) (by decide) (by decide) (by decide)
  have A6 : own_R p l e _ _ m _ below meth c S0 n0 h0 0 0 (mkF m 9 #[.val (.ref o0)] [(.int (0 : Int32)), (.int (9 : Int32))]) := A5
  have A7 := A6.go (f' := mkF m 10 #[.val (.ref o0)] [(.int (9 : Int32))]) fun _ _ X _ k => XS.ishr X.here hx rfl (hb hby dm23_9) rfl k
  exact A7.ret hx hlk hret (hb hby dm23_10) rfl (Or.inl ⟨rfl, by simp, _, rfl⟩) (by decide) (by decide) ⟨rfl, rfl⟩
theorem ef_own_c71 (m : MethodId) (o0 : Addr) : entryFrame m #[(.ref o0), (.int (16 : Int32))] 3 = mkF m 0 #[.val (.ref o0), .val (.int (16 : Int32)), .unset] [] := by first | (simp [entryFrame, mkF, argsToLocals, Value.category, maxLocals]; done) | rfl
set_option maxRecDepth 65536 in
set_option maxHeartbeats 40000000 in
theorem own_c71 (l : Launch) (Z : State) (a0 : Array Value) (hw : ∀ d ∈ tables_1, d.before a0 Z = true) (o0 o1 : Addr) (h0 : Heap) (n0 : Nat) (Z0 : n0 ≤ h0.size) (F_o0_value : Fld Z h0 o0 "java/lang/AbstractStringBuilder" "value" "[B" (.ref o1)) (F_o0_coder : Fld Z h0 o0 "java/lang/AbstractStringBuilder" "coder" "B" (.int (0 : Int32))) (V_o1 : own_Ar Z h0 o1 .byte [(.int (104 : Int32)), (.int (116 : Int32)), (.int (116 : Int32)), (.int (112 : Int32)), (.int (58 : Int32)), (.int (47 : Int32)), (.int (47 : Int32)), (.int (0 : Int32)), (.int (0 : Int32)), (.int (0 : Int32)), (.int (0 : Int32)), (.int (0 : Int32)), (.int (0 : Int32)), (.int (0 : Int32)), (.int (0 : Int32)), (.int (0 : Int32))]) :
    own_M l Z (⟨"java/lang/AbstractStringBuilder", "ensureCapacityInternal", "(I)V"⟩ : MethodName) jdk_68_method_9_code 3 none [] ({ frames := 0, cells := 0, slots := 0, locals := 0 } : Room) #[(.ref o0), (.int (16 : Int32))] h0 n0 (fun v h => v = none ∧ h0 = h) := by
  refine own_M.of (plainFor_of_name (by first | (simp [plainName, overriddenIn]; done) | decide +kernel)) ?_
  intro p e s m below meth c S0 hx hby hml hown hnm hret hlk hZ A00
  have A0 := A00.cast (ef_own_c71 m o0)
  have KK : Keep h0 h0 ([] : List Addr) := Keep.refl _ _
  have A1 := A0.go (f' := mkF m 1 #[.val (.ref o0), .val (.int (16 : Int32)), .unset] [(.ref o0)]) fun _ _ X _ k => XS.aloadN X.here hx rfl (hb hby dm24_0) rfl rfl k
  have A2 : own_R p l e _ _ m _ below meth c S0 n0 h0 0 0 (mkF m 4 #[.val (.ref o0), .val (.int (16 : Int32)), .unset] [(.ref o1)]) := A1.getF hx hZ hown (hb hby dm24_1) (hw _ (List.mem_of_getElem? (i := 130) rfl)) Via.refl F_o0_value
  have A3 : own_R p l e _ _ m _ below meth c S0 n0 h0 0 0 (mkF m 5 #[.val (.ref o0), .val (.int (16 : Int32)), .unset] [(.int (16 : Int32))]) := A2.len hx hZ (hb hby dm24_4) V_o1
  have A4 := A3.go (f' := mkF m 6 #[.val (.ref o0), .val (.int (16 : Int32)), .unset] [(.ref o0), (.int (16 : Int32))]) fun _ _ X _ k => XS.aloadN X.here hx rfl (hb hby dm24_5) rfl rfl k
  have A5 : own_R p l e _ _ m _ below meth c S0 n0 h0 0 0 (mkF m 9 #[.val (.ref o0), .val (.int (16 : Int32)), .unset] [(.int (0 : Int32)), (.int (16 : Int32))]) := A4.getF hx hZ hown (hb hby dm24_6) (hw _ (List.mem_of_getElem? (i := 132) rfl)) Via.refl F_o0_coder
  have A6 := A5.go (f' := mkF m 10 #[.val (.ref o0), .val (.int (16 : Int32)), .unset] [(.int (16 : Int32))]) fun _ _ X _ k => XS.ishr X.here hx rfl (hb hby dm24_9) rfl k
  have A7 := A6.go (f' := mkF m 11 #[.val (.ref o0), .val (.int (16 : Int32)), .val (.int (16 : Int32))] []) fun _ _ X _ k => XS.istoreN X.here hx rfl (hb hby dm24_10) rfl (l' := #[.val (.ref o0), .val (.int (16 : Int32)), .val (.int (16 : Int32))]) rfl k
  have A8 := A7.go (f' := mkF m 12 #[.val (.ref o0), .val (.int (16 : Int32)), .val (.int (16 : Int32))] [(.int (16 : Int32))]) fun _ _ X _ k => XS.iloadN X.here hx rfl (hb hby dm24_11) rfl k
  have A9 := A8.go (f' := mkF m 13 #[.val (.ref o0), .val (.int (16 : Int32)), .val (.int (16 : Int32))] [(.int (16 : Int32)), (.int (16 : Int32))]) fun _ _ X _ k => XS.iloadN X.here hx rfl (hb hby dm24_12) rfl k
  have A10 := A9.go (f' := mkF m 14 #[.val (.ref o0), .val (.int (16 : Int32)), .val (.int (16 : Int32))] [(.int (0 : Int32))]) fun _ _ X _ k => XS.isub X.here hx rfl (hb hby dm24_13) rfl k
  have q11 : ¬ ((0 : Int32) < (0 : Int32)) := by decide
  have A12 := A10.go (f' := mkF m 38 #[.val (.ref o0), .val (.int (16 : Int32)), .val (.int (16 : Int32))] []) fun _ _ X _ k => XS.ifYes X.here hx rfl (pc0 := 14) (pc' := 38) rfl (hb hby dm24_14) rfl ((if0 _ _).trans (flt q11).2.2.2) (by decide) (by decide) k
  exact A12.retV hx hlk hret (hb hby dm24_38) (by decide) (by decide) ⟨rfl, rfl⟩
theorem ef_own_c74 (m : MethodId) (o0 : Addr) (o1 : Addr) : entryFrame m #[(.ref o0), (.ref o1), (.int (7 : Int32)), (.int (0 : Int32))] 4 = mkF m 0 #[.val (.ref o0), .val (.ref o1), .val (.int (7 : Int32)), .val (.int (0 : Int32))] [] := by first | (simp [entryFrame, mkF, argsToLocals, Value.category, maxLocals]; done) | rfl
set_option maxRecDepth 65536 in
set_option maxHeartbeats 40000000 in
theorem own_c74 (l : Launch) (Z : State) (a0 : Array Value) (hw : ∀ d ∈ tables_1, d.before a0 Z = true) (o0 o1 o2 : Addr) (cs : Int32) (h0 : Heap) (n0 : Nat) (Z0 : n0 ≤ h0.size) (E_o0 : Exa Z h0 o0 "java/lang/String") (F_o0_coder : Fld Z h0 o0 "java/lang/String" "coder" "B" (.int (0 : Int32))) (F_o0_value : Fld Z h0 o0 "java/lang/String" "value" "[B" (.ref o2)) (V_o1 : own_Ar Z h0 o1 .byte [(.int (104 : Int32)), (.int (116 : Int32)), (.int (116 : Int32)), (.int (112 : Int32)), (.int (58 : Int32)), (.int (47 : Int32)), (.int (47 : Int32)), (.int (0 : Int32)), (.int (0 : Int32)), (.int (0 : Int32)), (.int (0 : Int32)), (.int (0 : Int32)), (.int (0 : Int32)), (.int (0 : Int32)), (.int (0 : Int32)), (.int (0 : Int32))]) (V_o2 : own_Ar Z h0 o2 .byte [(.int (49 : Int32)), (.int (50 : Int32)), (.int (55 : Int32)), (.int (46 : Int32)), (.int (48 : Int32)), (.int (46 : Int32)), (.int (48 : Int32)), (.int (46 : Int32)), (.int (49 : Int32))]) (S_cs : Sta Z h0 "java/lang/String" "COMPACT_STRINGS" "Z" (.int cs)) (hcs : ¬ (cs = (0 : Int32))) (ne_o0_o1 : o0 ≠ o1) (ne_o2_o1 : o2 ≠ o1) (g_o1 : n0 ≤ o1) :
    own_M l Z (⟨"java/lang/String", "getBytes", "([BIB)V"⟩ : MethodName) jdk_42_method_147_code 4 none [] ({ frames := 1, cells := 0, slots := 0, locals := 18 } : Room) #[(.ref o0), (.ref o1), (.int (7 : Int32)), (.int (0 : Int32))] h0 n0 (fun v h => v = none ∧ Keep h0 h [o1] ∧ own_Ar Z h o1 .byte [(.int (104 : Int32)), (.int (116 : Int32)), (.int (116 : Int32)), (.int (112 : Int32)), (.int (58 : Int32)), (.int (47 : Int32)), (.int (47 : Int32)), (.int (49 : Int32)), (.int (50 : Int32)), (.int (55 : Int32)), (.int (46 : Int32)), (.int (48 : Int32)), (.int (46 : Int32)), (.int (48 : Int32)), (.int (46 : Int32)), (.int (49 : Int32))]) := by
  refine own_M.of (plainFor_of_name (by first | (simp [plainName, overriddenIn]; done) | decide +kernel)) ?_
  intro p e s m below meth c S0 hx hby hml hown hnm hret hlk hZ A00
  have A0 := A00.cast (ef_own_c74 m o0 o1)
  have KK : Keep h0 h0 ([o1] : List Addr) := Keep.refl _ _
  have A1 := A0.go (f' := mkF m 1 #[.val (.ref o0), .val (.ref o1), .val (.int (7 : Int32)), .val (.int (0 : Int32))] [(.ref o0)]) fun _ _ X _ k => XS.aloadN X.here hx rfl (hb hby dm27_0) rfl rfl k
  obtain ⟨vA2, hA2, ⟨rfl, rfl⟩, A2⟩ := A1.callV (b := o0) (own_c27 l Z a0 hw o0 cs h0 n0 Z0 F_o0_coder S_cs hcs) E_o0 hx hZ hown (hb hby dm27_1) (hw _ (List.mem_of_getElem? (i := 96) rfl)) (hw _ (List.mem_of_getElem? (i := 97) rfl)) (hw _ (List.mem_of_getElem? (i := 99) rfl)) (hw _ (List.mem_of_getElem? (i := 98) rfl)) (hw _ (List.mem_of_getElem? (i := 100) rfl)) (hw _ (List.mem_of_getElem? (i := 8) rfl)) (own_nf (y' := (⟨"java/lang/String", "contains", "(Ljava/lang/CharSequence;)Z"⟩ : MethodName)) (hw _ (List.mem_of_getElem? (i := 80) rfl)) rfl) ⟨by decide, by decide⟩ (lenOf pd__28_29B rfl) (argsL := []) (rest := []) rfl rfl (by rw [hml]; rfl) (W := 0) (Nat.le_of_eq rfl) (by decide) (by decide) (by decide) (by decide)
  have A3 : own_R p l e _ _ m _ below meth c S0 n0 h0 0 0 (mkF m 4 #[.val (.ref o0), .val (.ref o1), .val (.int (7 : Int32)), .val (.int (0 : Int32))] [(.int (0 : Int32))]) := A2
  have A4 := A3.go (f' := mkF m 5 #[.val (.ref o0), .val (.ref o1), .val (.int (7 : Int32)), .val (.int (0 : Int32))] [(.int (0 : Int32)), (.int (0 : Int32))]) fun _ _ X _ k => XS.iloadN X.here hx rfl (hb hby dm27_4) rfl k
  have q5 : ((0 : Int32) = (0 : Int32)) := rfl
  have A6 := A4.go (f' := mkF m 8 #[.val (.ref o0), .val (.ref o1), .val (.int (7 : Int32)), .val (.int (0 : Int32))] []) fun _ _ X _ k => XS.icmpNo X.here hx rfl (hb hby dm27_5) rfl ((teq q5).2) k
  have A7 := A6.go (f' := mkF m 9 #[.val (.ref o0), .val (.ref o1), .val (.int (7 : Int32)), .val (.int (0 : Int32))] [(.ref o0)]) fun _ _ X _ k => XS.aloadN X.here hx rfl (hb hby dm27_8) rfl rfl k
  have A8 : own_R p l e _ _ m _ below meth c S0 n0 h0 0 0 (mkF m 12 #[.val (.ref o0), .val (.ref o1), .val (.int (7 : Int32)), .val (.int (0 : Int32))] [(.ref o2)]) := A7.getF hx hZ hown (hb hby dm27_9) (hw _ (List.mem_of_getElem? (i := 108) rfl)) Via.refl F_o0_value
  have A9 := A8.go (f' := mkF m 13 #[.val (.ref o0), .val (.ref o1), .val (.int (7 : Int32)), .val (.int (0 : Int32))] [(.int (0 : Int32)), (.ref o2)]) fun _ _ X _ k => XS.iconst X.here hx rfl (hb hby dm27_12) k
  have A10 := A9.go (f' := mkF m 14 #[.val (.ref o0), .val (.ref o1), .val (.int (7 : Int32)), .val (.int (0 : Int32))] [(.ref o1), (.int (0 : Int32)), (.ref o2)]) fun _ _ X _ k => XS.aloadN X.here hx rfl (hb hby dm27_13) rfl rfl k
  have A11 := A10.go (f' := mkF m 15 #[.val (.ref o0), .val (.ref o1), .val (.int (7 : Int32)), .val (.int (0 : Int32))] [(.int (7 : Int32)), (.ref o1), (.int (0 : Int32)), (.ref o2)]) fun _ _ X _ k => XS.iloadN X.here hx rfl (hb hby dm27_14) rfl k
  have A12 := A11.go (f' := mkF m 16 #[.val (.ref o0), .val (.ref o1), .val (.int (7 : Int32)), .val (.int (0 : Int32))] [(.int (0 : Int32)), (.int (7 : Int32)), (.ref o1), (.int (0 : Int32)), (.ref o2)]) fun _ _ X _ k => XS.iloadN X.here hx rfl (hb hby dm27_15) rfl k
  have A13 := A12.go (f' := mkF m 17 #[.val (.ref o0), .val (.ref o1), .val (.int (7 : Int32)), .val (.int (0 : Int32))] [(.int (7 : Int32)), (.ref o1), (.int (0 : Int32)), (.ref o2)]) fun _ _ X _ k => XS.ishl X.here hx rfl (hb hby dm27_16) rfl k
  have A14 := A13.go (f' := mkF m 18 #[.val (.ref o0), .val (.ref o1), .val (.int (7 : Int32)), .val (.int (0 : Int32))] [(.ref o0), (.int (7 : Int32)), (.ref o1), (.int (0 : Int32)), (.ref o2)]) fun _ _ X _ k => XS.aloadN X.here hx rfl (hb hby dm27_17) rfl rfl k
  have A15 : own_R p l e _ _ m _ below meth c S0 n0 h0 0 0 (mkF m 21 #[.val (.ref o0), .val (.ref o1), .val (.int (7 : Int32)), .val (.int (0 : Int32))] [(.ref o2), (.int (7 : Int32)), (.ref o1), (.int (0 : Int32)), (.ref o2)]) := A14.getF hx hZ hown (hb hby dm27_18) (hw _ (List.mem_of_getElem? (i := 108) rfl)) Via.refl F_o0_value
  have A16 : own_R p l e _ _ m _ below meth c S0 n0 h0 0 0 (mkF m 22 #[.val (.ref o0), .val (.ref o1), .val (.int (7 : Int32)), .val (.int (0 : Int32))] [(.int (9 : Int32)), (.int (7 : Int32)), (.ref o1), (.int (0 : Int32)), (.ref o2)]) := A15.len hx hZ (hb hby dm27_21) V_o2
  obtain ⟨hA17, KA17, P_V_o1, A17⟩ := A16.cpA (vr := [(.int (104 : Int32)), (.int (116 : Int32)), (.int (116 : Int32)), (.int (112 : Int32)), (.int (58 : Int32)), (.int (47 : Int32)), (.int (47 : Int32)), (.int (49 : Int32)), (.int (50 : Int32)), (.int (55 : Int32)), (.int (46 : Int32)), (.int (48 : Int32)), (.int (46 : Int32)), (.int (48 : Int32)), (.int (46 : Int32)), (.int (49 : Int32))]) hx hZ hown (hb hby dm27_22) (hw _ (List.mem_of_getElem? (i := 172) rfl)) (hw _ (List.mem_of_getElem? (i := 175) rfl)) (hw _ (List.mem_of_getElem? (i := 173) rfl)) (hw _ (List.mem_of_getElem? (i := 174) rfl)) V_o2 V_o1 rfl (by decide) (by decide) (z1 := (9 : Int32)) (z2 := (16 : Int32)) (by decide) (by decide) (by decide) (by decide) (by decide) (by decide) (by decide) (by decide) (by decide) rfl rfl g_o1 (by rw [hml]; rfl) (W := 0) (Nat.le_of_eq rfl) (by decide) (by decide)
  have S_cs : Sta Z hA17 "java/lang/String" "COMPACT_STRINGS" "Z" (.int cs) := own_staK S_cs KA17 (allS (P := fun x => ∀ cell : Cell, h0[x]? = some cell → cell.vm.isStatics = false) V_o1.nostat all0)
  have E_o0 : Exa Z hA17 o0 "java/lang/String" := E_o0.keep KA17
  have F_o0_coder : Fld Z hA17 o0 "java/lang/String" "coder" "B" (.int (0 : Int32)) := F_o0_coder.keep KA17 (ninS ne_o0_o1 nin0)
  have F_o0_value : Fld Z hA17 o0 "java/lang/String" "value" "[B" (.ref o2) := F_o0_value.keep KA17 (ninS ne_o0_o1 nin0)
  have V_o2 : own_Ar Z hA17 o2 .byte [(.int (49 : Int32)), (.int (50 : Int32)), (.int (55 : Int32)), (.int (46 : Int32)), (.int (48 : Int32)), (.int (46 : Int32)), (.int (48 : Int32)), (.int (46 : Int32)), (.int (49 : Int32))] := V_o2.keep KA17 (ninS ne_o2_o1 nin0)
  have Z0 : n0 ≤ hA17.size := Nat.le_trans Z0 KA17.1
  have KK : Keep h0 hA17 [o1] := KK.trans KA17 (allS (P := fun x => x ∈ ([o1] : List Addr) ∨ h0.size ≤ x) (Or.inl (by simp)) all0)
  have V_o1 := P_V_o1
  have A18 : own_R p l e _ _ m _ below meth c S0 n0 hA17 0 0 (mkF m 25 #[.val (.ref o0), .val (.ref o1), .val (.int (7 : Int32)), .val (.int (0 : Int32))] []) := A17
  have A19 := A18.go (f' := mkF m 43 #[.val (.ref o0), .val (.ref o1), .val (.int (7 : Int32)), .val (.int (0 : Int32))] []) fun _ _ X _ k => XS.goto X.here hx rfl (pc0 := 25) (pc' := 43) rfl (hb hby dm27_25) (by decide) (by decide) k
  exact A19.retV hx hlk hret (hb hby dm27_43) (by decide) (by decide) ⟨rfl, KK, V_o1⟩
theorem ef_own_c75 (m : MethodId) (o0 : Addr) (o1 : Addr) : entryFrame m #[(.ref o0), (.int (7 : Int32)), (.ref o1)] 3 = mkF m 0 #[.val (.ref o0), .val (.int (7 : Int32)), .val (.ref o1)] [] := by first | (simp [entryFrame, mkF, argsToLocals, Value.category, maxLocals]; done) | rfl
set_option maxRecDepth 65536 in
set_option maxHeartbeats 40000000 in
theorem own_c75 (l : Launch) (Z : State) (a0 : Array Value) (hw : ∀ d ∈ tables_1, d.before a0 Z = true) (o0 o1 o2 o3 : Addr) (cs : Int32) (h0 : Heap) (n0 : Nat) (Z0 : n0 ≤ h0.size) (E_o0 : Exa Z h0 o0 "java/lang/StringBuilder") (F_o0_value : Fld Z h0 o0 "java/lang/AbstractStringBuilder" "value" "[B" (.ref o2)) (F_o0_coder : Fld Z h0 o0 "java/lang/AbstractStringBuilder" "coder" "B" (.int (0 : Int32))) (E_o1 : Exa Z h0 o1 "java/lang/String") (F_o1_coder : Fld Z h0 o1 "java/lang/String" "coder" "B" (.int (0 : Int32))) (F_o1_value : Fld Z h0 o1 "java/lang/String" "value" "[B" (.ref o3)) (V_o2 : own_Ar Z h0 o2 .byte [(.int (104 : Int32)), (.int (116 : Int32)), (.int (116 : Int32)), (.int (112 : Int32)), (.int (58 : Int32)), (.int (47 : Int32)), (.int (47 : Int32)), (.int (0 : Int32)), (.int (0 : Int32)), (.int (0 : Int32)), (.int (0 : Int32)), (.int (0 : Int32)), (.int (0 : Int32)), (.int (0 : Int32)), (.int (0 : Int32)), (.int (0 : Int32))]) (V_o3 : own_Ar Z h0 o3 .byte [(.int (49 : Int32)), (.int (50 : Int32)), (.int (55 : Int32)), (.int (46 : Int32)), (.int (48 : Int32)), (.int (46 : Int32)), (.int (48 : Int32)), (.int (46 : Int32)), (.int (49 : Int32))]) (S_cs : Sta Z h0 "java/lang/String" "COMPACT_STRINGS" "Z" (.int cs)) (hcs : ¬ (cs = (0 : Int32))) (ne_o0_o2 : o0 ≠ o2) (ne_o1_o2 : o1 ≠ o2) (ne_o3_o2 : o3 ≠ o2) (g_o2 : n0 ≤ o2) :
    own_M l Z (⟨"java/lang/AbstractStringBuilder", "putStringAt", "(ILjava/lang/String;)V"⟩ : MethodName) jdk_68_method_73_code 3 none [] ({ frames := 2, cells := 0, slots := 0, locals := 33 } : Room) #[(.ref o0), (.int (7 : Int32)), (.ref o1)] h0 n0 (fun v h => v = none ∧ Keep h0 h [o2] ∧ own_Ar Z h o2 .byte [(.int (104 : Int32)), (.int (116 : Int32)), (.int (116 : Int32)), (.int (112 : Int32)), (.int (58 : Int32)), (.int (47 : Int32)), (.int (47 : Int32)), (.int (49 : Int32)), (.int (50 : Int32)), (.int (55 : Int32)), (.int (46 : Int32)), (.int (48 : Int32)), (.int (46 : Int32)), (.int (48 : Int32)), (.int (46 : Int32)), (.int (49 : Int32))]) := by
  refine own_M.of (plainFor_of_name (by first | (simp [plainName, overriddenIn]; done) | decide +kernel)) ?_
  intro p e s m below meth c S0 hx hby hml hown hnm hret hlk hZ A00
  have A0 := A00.cast (ef_own_c75 m o0 o1)
  have KK : Keep h0 h0 ([o2] : List Addr) := Keep.refl _ _
  have A1 := A0.go (f' := mkF m 1 #[.val (.ref o0), .val (.int (7 : Int32)), .val (.ref o1)] [(.ref o0)]) fun _ _ X _ k => XS.aloadN X.here hx rfl (hb hby dm25_0) rfl rfl k
  have A2 := A1.go (f' := mkF m 2 #[.val (.ref o0), .val (.int (7 : Int32)), .val (.ref o1)] [(.ref o1), (.ref o0)]) fun _ _ X _ k => XS.aloadN X.here hx rfl (hb hby dm25_1) rfl rfl k
  obtain ⟨vA3, hA3, ⟨rfl, rfl⟩, A3⟩ := A2.callV (b := o0) (own_c48 l Z a0 hw o0 o1 cs h0 n0 Z0 F_o0_coder E_o1 F_o1_coder S_cs hcs) E_o0 hx hZ hown (hb hby dm25_2) (hw _ (List.mem_of_getElem? (i := 161) rfl)) (own_declares (hw _ (List.mem_of_getElem? (i := 162) rfl)) (hw _ (List.mem_of_getElem? (i := 165) rfl))) (hw _ (List.mem_of_getElem? (i := 164) rfl)) (hw _ (List.mem_of_getElem? (i := 162) rfl)) (hw _ (List.mem_of_getElem? (i := 165) rfl)) (hw _ (List.mem_of_getElem? (i := 126) rfl)) (own_nf (y' := (⟨"java/lang/AbstractStringBuilder", "ensureCapacityInternal", "(I)V"⟩ : MethodName)) (hw _ (List.mem_of_getElem? (i := 154) rfl)) rfl) ⟨by decide, by decide⟩ (lenOf pd__28Ljava_2flang_2fString_3b_29V rfl) (argsL := [(.ref o1)]) (rest := []) rfl rfl (by rw [hml]; rfl) (W := 0) (Nat.le_of_eq rfl) (by decide) (by decide) (by decide) (by decide)
  have A4 : own_R p l e _ _ m _ below meth c S0 n0 h0 0 0 (mkF m 5 #[.val (.ref o0), .val (.int (7 : Int32)), .val (.ref o1)] []) := A3
  have A5 := A4.go (f' := mkF m 6 #[.val (.ref o0), .val (.int (7 : Int32)), .val (.ref o1)] [(.ref o1)]) fun _ _ X _ k => XS.aloadN X.here hx rfl (hb hby dm25_5) rfl rfl k
  have A6 := A5.go (f' := mkF m 7 #[.val (.ref o0), .val (.int (7 : Int32)), .val (.ref o1)] [(.ref o0), (.ref o1)]) fun _ _ X _ k => XS.aloadN X.here hx rfl (hb hby dm25_6) rfl rfl k
  have A7 : own_R p l e _ _ m _ below meth c S0 n0 h0 0 0 (mkF m 10 #[.val (.ref o0), .val (.int (7 : Int32)), .val (.ref o1)] [(.ref o2), (.ref o1)]) := A6.getF hx hZ hown (hb hby dm25_7) (hw _ (List.mem_of_getElem? (i := 130) rfl)) Via.refl F_o0_value
  have A8 := A7.go (f' := mkF m 11 #[.val (.ref o0), .val (.int (7 : Int32)), .val (.ref o1)] [(.int (7 : Int32)), (.ref o2), (.ref o1)]) fun _ _ X _ k => XS.iloadN X.here hx rfl (hb hby dm25_10) rfl k
  have A9 := A8.go (f' := mkF m 12 #[.val (.ref o0), .val (.int (7 : Int32)), .val (.ref o1)] [(.ref o0), (.int (7 : Int32)), (.ref o2), (.ref o1)]) fun _ _ X _ k => XS.aloadN X.here hx rfl (hb hby dm25_11) rfl rfl k
  have A10 : own_R p l e _ _ m _ below meth c S0 n0 h0 0 0 (mkF m 15 #[.val (.ref o0), .val (.int (7 : Int32)), .val (.ref o1)] [(.int (0 : Int32)), (.int (7 : Int32)), (.ref o2), (.ref o1)]) := A9.getF hx hZ hown (hb hby dm25_12) (hw _ (List.mem_of_getElem? (i := 132) rfl)) Via.refl F_o0_coder
  obtain ⟨vA11, hA11, ⟨rfl, KA11, P_V_o2⟩, A11⟩ := A10.callV (b := o1) (own_c74 l Z a0 hw o1 o2 o3 cs h0 n0 Z0 E_o1 F_o1_coder F_o1_value V_o2 V_o3 S_cs hcs ne_o1_o2 ne_o3_o2 g_o2) E_o1 hx hZ hown (hb hby dm25_15) (hw _ (List.mem_of_getElem? (i := 167) rfl)) (hw _ (List.mem_of_getElem? (i := 168) rfl)) (hw _ (List.mem_of_getElem? (i := 170) rfl)) (hw _ (List.mem_of_getElem? (i := 169) rfl)) (hw _ (List.mem_of_getElem? (i := 171) rfl)) (hw _ (List.mem_of_getElem? (i := 8) rfl)) (own_nf (y' := (⟨"java/lang/String", "contains", "(Ljava/lang/CharSequence;)Z"⟩ : MethodName)) (hw _ (List.mem_of_getElem? (i := 80) rfl)) rfl) ⟨by decide, by decide⟩ (lenOf pd__28_5bBIB_29V rfl) (argsL := [(.ref o2), (.int (7 : Int32)), (.int (0 : Int32))]) (rest := []) rfl rfl (by rw [hml]; rfl) (W := 0) (Nat.le_of_eq rfl) (by decide) (by decide) (by decide) (by decide)
  have S_cs : Sta Z hA11 "java/lang/String" "COMPACT_STRINGS" "Z" (.int cs) := own_staK S_cs KA11 (allS (P := fun x => ∀ cell : Cell, h0[x]? = some cell → cell.vm.isStatics = false) V_o2.nostat all0)
  have E_o0 : Exa Z hA11 o0 "java/lang/StringBuilder" := E_o0.keep KA11
  have F_o0_value : Fld Z hA11 o0 "java/lang/AbstractStringBuilder" "value" "[B" (.ref o2) := F_o0_value.keep KA11 (ninS ne_o0_o2 nin0)
  have F_o0_coder : Fld Z hA11 o0 "java/lang/AbstractStringBuilder" "coder" "B" (.int (0 : Int32)) := F_o0_coder.keep KA11 (ninS ne_o0_o2 nin0)
  have E_o1 : Exa Z hA11 o1 "java/lang/String" := E_o1.keep KA11
  have F_o1_coder : Fld Z hA11 o1 "java/lang/String" "coder" "B" (.int (0 : Int32)) := F_o1_coder.keep KA11 (ninS ne_o1_o2 nin0)
  have F_o1_value : Fld Z hA11 o1 "java/lang/String" "value" "[B" (.ref o3) := F_o1_value.keep KA11 (ninS ne_o1_o2 nin0)
  have V_o3 : own_Ar Z hA11 o3 .byte [(.int (49 : Int32)), (.int (50 : Int32)), (.int (55 : Int32)), (.int (46 : Int32)), (.int (48 : Int32)), (.int (46 : Int32)), (.int (48 : Int32)), (.int (46 : Int32)), (.int (49 : Int32))] := V_o3.keep KA11 (ninS ne_o3_o2 nin0)
  have Z0 : n0 ≤ hA11.size := Nat.le_trans Z0 KA11.1
  have KK : Keep h0 hA11 [o2] := KK.trans KA11 (allS (P := fun x => x ∈ ([o2] : List Addr) ∨ h0.size ≤ x) (Or.inl (by simp)) all0)
  have V_o2 : own_Ar Z hA11 o2 .byte [(.int (104 : Int32)), (.int (116 : Int32)), (.int (116 : Int32)), (.int (112 : Int32)), (.int (58 : Int32)), (.int (47 : Int32)), (.int (47 : Int32)), (.int (49 : Int32)), (.int (50 : Int32)), (.int (55 : Int32)), (.int (46 : Int32)), (.int (48 : Int32)), (.int (46 : Int32)), (.int (48 : Int32)), (.int (46 : Int32)), (.int (49 : Int32))] := P_V_o2
  have A12 : own_R p l e _ _ m _ below meth c S0 n0 hA11 0 0 (mkF m 18 #[.val (.ref o0), .val (.int (7 : Int32)), .val (.ref o1)] []) := A11
  exact A12.retV hx hlk hret (hb hby dm25_18) (by decide) (by decide) ⟨rfl, KK, V_o2⟩
theorem ef_own_c76 (m : MethodId) (o0 : Addr) (o1 : Addr) : entryFrame m #[(.ref o0), (.ref o1)] 3 = mkF m 0 #[.val (.ref o0), .val (.ref o1), .unset] [] := by first | (simp [entryFrame, mkF, argsToLocals, Value.category, maxLocals]; done) | rfl
set_option maxRecDepth 65536 in
set_option maxHeartbeats 40000000 in
theorem own_c76 (l : Launch) (Z : State) (a0 : Array Value) (hw : ∀ d ∈ tables_1, d.before a0 Z = true) (o0 o1 o2 o3 : Addr) (cs : Int32) (h0 : Heap) (n0 : Nat) (Z0 : n0 ≤ h0.size) (E_o0 : Exa Z h0 o0 "java/lang/StringBuilder") (F_o0_value : Fld Z h0 o0 "java/lang/AbstractStringBuilder" "value" "[B" (.ref o2)) (F_o0_coder : Fld Z h0 o0 "java/lang/AbstractStringBuilder" "coder" "B" (.int (0 : Int32))) (F_o0_count : Fld Z h0 o0 "java/lang/AbstractStringBuilder" "count" "I" (.int (7 : Int32))) (E_o1 : Exa Z h0 o1 "java/lang/String") (F_o1_coder : Fld Z h0 o1 "java/lang/String" "coder" "B" (.int (0 : Int32))) (F_o1_value : Fld Z h0 o1 "java/lang/String" "value" "[B" (.ref o3)) (V_o2 : own_Ar Z h0 o2 .byte [(.int (104 : Int32)), (.int (116 : Int32)), (.int (116 : Int32)), (.int (112 : Int32)), (.int (58 : Int32)), (.int (47 : Int32)), (.int (47 : Int32)), (.int (0 : Int32)), (.int (0 : Int32)), (.int (0 : Int32)), (.int (0 : Int32)), (.int (0 : Int32)), (.int (0 : Int32)), (.int (0 : Int32)), (.int (0 : Int32)), (.int (0 : Int32))]) (V_o3 : own_Ar Z h0 o3 .byte [(.int (49 : Int32)), (.int (50 : Int32)), (.int (55 : Int32)), (.int (46 : Int32)), (.int (48 : Int32)), (.int (46 : Int32)), (.int (48 : Int32)), (.int (46 : Int32)), (.int (49 : Int32))]) (S_cs : Sta Z h0 "java/lang/String" "COMPACT_STRINGS" "Z" (.int cs)) (hcs : ¬ (cs = (0 : Int32))) (ne_o0_o2 : o0 ≠ o2) (ne_o1_o0 : o1 ≠ o0) (ne_o1_o2 : o1 ≠ o2) (ne_o2_o0 : o2 ≠ o0) (ne_o3_o0 : o3 ≠ o0) (ne_o3_o2 : o3 ≠ o2) (g_o0 : n0 ≤ o0) (g_o2 : n0 ≤ o2) :
    own_M l Z (⟨"java/lang/AbstractStringBuilder", "append", "(Ljava/lang/String;)Ljava/lang/AbstractStringBuilder;"⟩ : MethodName) jdk_68_method_22_code 3 (some (.object "java/lang/AbstractStringBuilder")) [] ({ frames := 3, cells := 0, slots := 0, locals := 47 } : Room) #[(.ref o0), (.ref o1)] h0 n0 (fun v h => v = some (.ref o0) ∧ Keep h0 h [o0, o2] ∧ Fld Z h o0 "java/lang/AbstractStringBuilder" "value" "[B" (.ref o2) ∧ Fld Z h o0 "java/lang/AbstractStringBuilder" "coder" "B" (.int (0 : Int32)) ∧ Fld Z h o0 "java/lang/AbstractStringBuilder" "count" "I" (.int (16 : Int32)) ∧ own_Ar Z h o2 .byte [(.int (104 : Int32)), (.int (116 : Int32)), (.int (116 : Int32)), (.int (112 : Int32)), (.int (58 : Int32)), (.int (47 : Int32)), (.int (47 : Int32)), (.int (49 : Int32)), (.int (50 : Int32)), (.int (55 : Int32)), (.int (46 : Int32)), (.int (48 : Int32)), (.int (46 : Int32)), (.int (48 : Int32)), (.int (46 : Int32)), (.int (49 : Int32))]) := by
  refine own_M.of (plainFor_of_name (by first | (simp [plainName, overriddenIn]; done) | decide +kernel)) ?_
  intro p e s m below meth c S0 hx hby hml hown hnm hret hlk hZ A00
  have A0 := A00.cast (ef_own_c76 m o0 o1)
  have KK : Keep h0 h0 ([o0, o2] : List Addr) := Keep.refl _ _
  have A1 := A0.go (f' := mkF m 1 #[.val (.ref o0), .val (.ref o1), .unset] [(.ref o1)]) fun _ _ X _ k => XS.aloadN X.here hx rfl (hb hby dm22_0) rfl rfl k
  have A2 := A1.go (f' := mkF m 9 #[.val (.ref o0), .val (.ref o1), .unset] []) fun _ _ X _ k => XS.ifnonnullYes X.here hx rfl (pc0 := 1) (pc' := 9) rfl (hb hby dm22_1) rfl (by decide) (by decide) k
  have A3 := A2.go (f' := mkF m 10 #[.val (.ref o0), .val (.ref o1), .unset] [(.ref o1)]) fun _ _ X _ k => XS.aloadN X.here hx rfl (hb hby dm22_9) rfl rfl k
  obtain ⟨vA4, hA4, ⟨rfl, rfl⟩, A4⟩ := A3.callV (b := o1) (own_c69 l Z a0 hw o1 o3 cs h0 n0 Z0 E_o1 F_o1_coder F_o1_value V_o3 S_cs hcs) E_o1 hx hZ hown (hb hby dm22_10) (hw _ (List.mem_of_getElem? (i := 144) rfl)) (hw _ (List.mem_of_getElem? (i := 145) rfl)) (hw _ (List.mem_of_getElem? (i := 147) rfl)) (hw _ (List.mem_of_getElem? (i := 146) rfl)) (hw _ (List.mem_of_getElem? (i := 148) rfl)) (hw _ (List.mem_of_getElem? (i := 8) rfl)) (own_nf (y' := (⟨"java/lang/String", "contains", "(Ljava/lang/CharSequence;)Z"⟩ : MethodName)) (hw _ (List.mem_of_getElem? (i := 80) rfl)) rfl) ⟨by decide, by decide⟩ (lenOf pd__28_29I rfl) (argsL := []) (rest := []) rfl rfl (by rw [hml]; rfl) (W := 0) (Nat.le_of_eq rfl) (by decide) (by decide) (by decide) (by decide)
  have A5 : own_R p l e _ _ m _ below meth c S0 n0 h0 0 0 (mkF m 13 #[.val (.ref o0), .val (.ref o1), .unset] [(.int (9 : Int32))]) := A4
  have A6 := A5.go (f' := mkF m 14 #[.val (.ref o0), .val (.ref o1), .val (.int (9 : Int32))] []) fun _ _ X _ k => XS.istoreN X.here hx rfl (hb hby dm22_13) rfl (l' := #[.val (.ref o0), .val (.ref o1), .val (.int (9 : Int32))]) rfl k
  have A7 := A6.go (f' := mkF m 15 #[.val (.ref o0), .val (.ref o1), .val (.int (9 : Int32))] [(.ref o0)]) fun _ _ X _ k => XS.aloadN X.here hx rfl (hb hby dm22_14) rfl rfl k
  have A8 := A7.go (f' := mkF m 16 #[.val (.ref o0), .val (.ref o1), .val (.int (9 : Int32))] [(.ref o0), (.ref o0)]) fun _ _ X _ k => XS.aloadN X.here hx rfl (hb hby dm22_15) rfl rfl k
  have A9 : own_R p l e _ _ m _ below meth c S0 n0 h0 0 0 (mkF m 19 #[.val (.ref o0), .val (.ref o1), .val (.int (9 : Int32))] [(.int (7 : Int32)), (.ref o0)]) := A8.getF hx hZ hown (hb hby dm22_16) (hw _ (List.mem_of_getElem? (i := 149) rfl)) Via.refl F_o0_count
  have A10 := A9.go (f' := mkF m 20 #[.val (.ref o0), .val (.ref o1), .val (.int (9 : Int32))] [(.int (9 : Int32)), (.int (7 : Int32)), (.ref o0)]) fun _ _ X _ k => XS.iloadN X.here hx rfl (hb hby dm22_19) rfl k
  have A11 := A10.go (f' := mkF m 21 #[.val (.ref o0), .val (.ref o1), .val (.int (9 : Int32))] [(.int (16 : Int32)), (.ref o0)]) fun _ _ X _ k => XS.iadd X.here hx rfl (hb hby dm22_20) rfl k
  obtain ⟨vA12, hA12, ⟨rfl, rfl⟩, A12⟩ := A11.callV (b := o0) (own_c71 l Z a0 hw o0 o2 h0 n0 Z0 F_o0_value F_o0_coder V_o2) E_o0 hx hZ hown (hb hby dm22_21) (hw _ (List.mem_of_getElem? (i := 151) rfl)) (own_declares (hw _ (List.mem_of_getElem? (i := 152) rfl)) (hw _ (List.mem_of_getElem? (i := 155) rfl))) (hw _ (List.mem_of_getElem? (i := 154) rfl)) (hw _ (List.mem_of_getElem? (i := 152) rfl)) (hw _ (List.mem_of_getElem? (i := 155) rfl)) (hw _ (List.mem_of_getElem? (i := 126) rfl)) (own_nf (y' := (⟨"java/lang/AbstractStringBuilder", "ensureCapacityInternal", "(I)V"⟩ : MethodName)) (hw _ (List.mem_of_getElem? (i := 154) rfl)) rfl) ⟨by decide, by decide⟩ (lenOf pd__28I_29V rfl) (argsL := [(.int (16 : Int32))]) (rest := []) rfl rfl (by rw [hml]; rfl) (W := 0) (Nat.le_of_eq rfl) (by decide) (by decide) (by decide) (by decide)
  have A13 : own_R p l e _ _ m _ below meth c S0 n0 h0 0 0 (mkF m 24 #[.val (.ref o0), .val (.ref o1), .val (.int (9 : Int32))] []) := A12
  have A14 := A13.go (f' := mkF m 25 #[.val (.ref o0), .val (.ref o1), .val (.int (9 : Int32))] [(.ref o0)]) fun _ _ X _ k => XS.aloadN X.here hx rfl (hb hby dm22_24) rfl rfl k
  have A15 := A14.go (f' := mkF m 26 #[.val (.ref o0), .val (.ref o1), .val (.int (9 : Int32))] [(.ref o0), (.ref o0)]) fun _ _ X _ k => XS.aloadN X.here hx rfl (hb hby dm22_25) rfl rfl k
  have A16 : own_R p l e _ _ m _ below meth c S0 n0 h0 0 0 (mkF m 29 #[.val (.ref o0), .val (.ref o1), .val (.int (9 : Int32))] [(.int (7 : Int32)), (.ref o0)]) := A15.getF hx hZ hown (hb hby dm22_26) (hw _ (List.mem_of_getElem? (i := 149) rfl)) Via.refl F_o0_count
  have A17 := A16.go (f' := mkF m 30 #[.val (.ref o0), .val (.ref o1), .val (.int (9 : Int32))] [(.ref o1), (.int (7 : Int32)), (.ref o0)]) fun _ _ X _ k => XS.aloadN X.here hx rfl (hb hby dm22_29) rfl rfl k
  obtain ⟨vA18, hA18, ⟨rfl, KA18, P_V_o2⟩, A18⟩ := A17.callV (b := o0) (own_c75 l Z a0 hw o0 o1 o2 o3 cs h0 n0 Z0 E_o0 F_o0_value F_o0_coder E_o1 F_o1_coder F_o1_value V_o2 V_o3 S_cs hcs ne_o0_o2 ne_o1_o2 ne_o3_o2 g_o2) E_o0 hx hZ hown (hb hby dm22_30) (hw _ (List.mem_of_getElem? (i := 156) rfl)) (own_declares (hw _ (List.mem_of_getElem? (i := 157) rfl)) (hw _ (List.mem_of_getElem? (i := 160) rfl))) (hw _ (List.mem_of_getElem? (i := 159) rfl)) (hw _ (List.mem_of_getElem? (i := 157) rfl)) (hw _ (List.mem_of_getElem? (i := 160) rfl)) (hw _ (List.mem_of_getElem? (i := 126) rfl)) (own_nf (y' := (⟨"java/lang/AbstractStringBuilder", "ensureCapacityInternal", "(I)V"⟩ : MethodName)) (hw _ (List.mem_of_getElem? (i := 154) rfl)) rfl) ⟨by decide, by decide⟩ (lenOf pd__28ILjava_2flang_2fString_3b_29V rfl) (argsL := [(.int (7 : Int32)), (.ref o1)]) (rest := []) rfl rfl (by rw [hml]; rfl) (W := 0) (Nat.le_of_eq rfl) (by decide) (by decide) (by decide) (by decide)
  have S_cs : Sta Z hA18 "java/lang/String" "COMPACT_STRINGS" "Z" (.int cs) := own_staK S_cs KA18 (allS (P := fun x => ∀ cell : Cell, h0[x]? = some cell → cell.vm.isStatics = false) V_o2.nostat all0)
  have E_o0 : Exa Z hA18 o0 "java/lang/StringBuilder" := E_o0.keep KA18
  have F_o0_value : Fld Z hA18 o0 "java/lang/AbstractStringBuilder" "value" "[B" (.ref o2) := F_o0_value.keep KA18 (ninS ne_o0_o2 nin0)
  have F_o0_coder : Fld Z hA18 o0 "java/lang/AbstractStringBuilder" "coder" "B" (.int (0 : Int32)) := F_o0_coder.keep KA18 (ninS ne_o0_o2 nin0)
  have F_o0_count : Fld Z hA18 o0 "java/lang/AbstractStringBuilder" "count" "I" (.int (7 : Int32)) := F_o0_count.keep KA18 (ninS ne_o0_o2 nin0)
  have E_o1 : Exa Z hA18 o1 "java/lang/String" := E_o1.keep KA18
  have F_o1_coder : Fld Z hA18 o1 "java/lang/String" "coder" "B" (.int (0 : Int32)) := F_o1_coder.keep KA18 (ninS ne_o1_o2 nin0)
  have F_o1_value : Fld Z hA18 o1 "java/lang/String" "value" "[B" (.ref o3) := F_o1_value.keep KA18 (ninS ne_o1_o2 nin0)
  have V_o3 : own_Ar Z hA18 o3 .byte [(.int (49 : Int32)), (.int (50 : Int32)), (.int (55 : Int32)), (.int (46 : Int32)), (.int (48 : Int32)), (.int (46 : Int32)), (.int (48 : Int32)), (.int (46 : Int32)), (.int (49 : Int32))] := V_o3.keep KA18 (ninS ne_o3_o2 nin0)
  have Z0 : n0 ≤ hA18.size := Nat.le_trans Z0 KA18.1
  have KK : Keep h0 hA18 [o0, o2] := KK.trans KA18 (allS (P := fun x => x ∈ ([o0, o2] : List Addr) ∨ h0.size ≤ x) (Or.inl (by simp)) all0)
  have V_o2 : own_Ar Z hA18 o2 .byte [(.int (104 : Int32)), (.int (116 : Int32)), (.int (116 : Int32)), (.int (112 : Int32)), (.int (58 : Int32)), (.int (47 : Int32)), (.int (47 : Int32)), (.int (49 : Int32)), (.int (50 : Int32)), (.int (55 : Int32)), (.int (46 : Int32)), (.int (48 : Int32)), (.int (46 : Int32)), (.int (48 : Int32)), (.int (46 : Int32)), (.int (49 : Int32))] := P_V_o2
  have A19 : own_R p l e _ _ m _ below meth c S0 n0 hA18 0 0 (mkF m 33 #[.val (.ref o0), .val (.ref o1), .val (.int (9 : Int32))] []) := A18
  have A20 := A19.go (f' := mkF m 34 #[.val (.ref o0), .val (.ref o1), .val (.int (9 : Int32))] [(.ref o0)]) fun _ _ X _ k => XS.aloadN X.here hx rfl (hb hby dm22_33) rfl rfl k
  have A21 := A20.go (f' := mkF m 35 #[.val (.ref o0), .val (.ref o1), .val (.int (9 : Int32))] [(.ref o0), (.ref o0)]) fun _ _ X _ k => XS.dup X.here hx rfl (hb hby dm22_34) rfl rfl k
  have A22 : own_R p l e _ _ m _ below meth c S0 n0 hA18 0 0 (mkF m 38 #[.val (.ref o0), .val (.ref o1), .val (.int (9 : Int32))] [(.int (7 : Int32)), (.ref o0)]) := A21.getF hx hZ hown (hb hby dm22_35) (hw _ (List.mem_of_getElem? (i := 149) rfl)) Via.refl F_o0_count
  have A23 := A22.go (f' := mkF m 39 #[.val (.ref o0), .val (.ref o1), .val (.int (9 : Int32))] [(.int (9 : Int32)), (.int (7 : Int32)), (.ref o0)]) fun _ _ X _ k => XS.iloadN X.here hx rfl (hb hby dm22_38) rfl k
  have A24 := A23.go (f' := mkF m 40 #[.val (.ref o0), .val (.ref o1), .val (.int (9 : Int32))] [(.int (16 : Int32)), (.ref o0)]) fun _ _ X _ k => XS.iadd X.here hx rfl (hb hby dm22_39) rfl k
  obtain ⟨h25, W26, A27⟩ := A24.putF hx hZ hown (hb hby dm22_40) (hw _ (List.mem_of_getElem? (i := 149) rfl)) F_o0_count E_o0 (Or.inl (hw _ (List.mem_of_getElem? (i := 150) rfl))) (hw _ (List.mem_of_getElem? (i := 117) rfl)) (ty := .int) (by decide) rfl rfl g_o0
  have E_o0 : Exa Z h25 o0 "java/lang/StringBuilder" := E_o0.wr W26
  have F_o0_value : Fld Z h25 o0 "java/lang/AbstractStringBuilder" "value" "[B" (.ref o2) := F_o0_value.other W26 (Or.inr (slot_ne (Or.inl (hw _ (List.mem_of_getElem? (i := 131) rfl))) (Or.inl (hw _ (List.mem_of_getElem? (i := 150) rfl))) (by decide) (t := (.array .byte)) (t' := .int) (by decide) (by decide)))
  have F_o0_coder : Fld Z h25 o0 "java/lang/AbstractStringBuilder" "coder" "B" (.int (0 : Int32)) := F_o0_coder.other W26 (Or.inr (slot_ne (Or.inl (hw _ (List.mem_of_getElem? (i := 133) rfl))) (Or.inl (hw _ (List.mem_of_getElem? (i := 150) rfl))) (by decide) (t := .byte) (t' := .int) (by decide) (by decide)))
  have F_o0_count : Fld Z h25 o0 "java/lang/AbstractStringBuilder" "count" "I" (.int (16 : Int32)) := F_o0_count.same W26
  have E_o1 : Exa Z h25 o1 "java/lang/String" := E_o1.wr W26
  have F_o1_coder : Fld Z h25 o1 "java/lang/String" "coder" "B" (.int (0 : Int32)) := F_o1_coder.other W26 (Or.inl ne_o1_o0)
  have F_o1_value : Fld Z h25 o1 "java/lang/String" "value" "[B" (.ref o3) := F_o1_value.other W26 (Or.inl ne_o1_o0)
  have V_o3 : own_Ar Z h25 o3 .byte [(.int (49 : Int32)), (.int (50 : Int32)), (.int (55 : Int32)), (.int (46 : Int32)), (.int (48 : Int32)), (.int (46 : Int32)), (.int (48 : Int32)), (.int (46 : Int32)), (.int (49 : Int32))] := V_o3.other W26 ne_o3_o0
  have S_cs : Sta Z h25 "java/lang/String" "COMPACT_STRINGS" "Z" (.int cs) := S_cs.wr W26
  have V_o2 : own_Ar Z h25 o2 .byte [(.int (104 : Int32)), (.int (116 : Int32)), (.int (116 : Int32)), (.int (112 : Int32)), (.int (58 : Int32)), (.int (47 : Int32)), (.int (47 : Int32)), (.int (49 : Int32)), (.int (50 : Int32)), (.int (55 : Int32)), (.int (46 : Int32)), (.int (48 : Int32)), (.int (46 : Int32)), (.int (48 : Int32)), (.int (46 : Int32)), (.int (49 : Int32))] := V_o2.other W26 ne_o2_o0
  have Z0 : n0 ≤ h25.size := by rw [W26.size]; exact Z0
  have KK : Keep h0 h25 [o0, o2] := KK.wr W26 (Or.inl (by simp))
  have A28 : own_R p l e _ _ m _ below meth c S0 n0 h25 0 0 (mkF m 43 #[.val (.ref o0), .val (.ref o1), .val (.int (9 : Int32))] []) := A27
  have A29 := A28.go (f' := mkF m 44 #[.val (.ref o0), .val (.ref o1), .val (.int (9 : Int32))] [(.ref o0)]) fun _ _ X _ k => XS.aloadN X.here hx rfl (hb hby dm22_43) rfl rfl k
  exact A29.ret hx hlk hret (hb hby dm22_44) rfl (Or.inr (Or.inr (Or.inr (Or.inr ⟨rfl, rfl, rfl⟩)))) (by decide) (by decide) ⟨rfl, KK, F_o0_value, F_o0_coder, F_o0_count, V_o2⟩
theorem ef_own_c77 (m : MethodId) (o0 : Addr) (o1 : Addr) : entryFrame m #[(.ref o0), (.ref o1)] 2 = mkF m 0 #[.val (.ref o0), .val (.ref o1)] [] := by first | (simp [entryFrame, mkF, argsToLocals, Value.category, maxLocals]; done) | rfl
set_option maxRecDepth 65536 in
set_option maxHeartbeats 40000000 in
theorem own_c77 (l : Launch) (Z : State) (a0 : Array Value) (hw : ∀ d ∈ tables_1, d.before a0 Z = true) (o0 o1 o2 o3 : Addr) (cs : Int32) (h0 : Heap) (n0 : Nat) (Z0 : n0 ≤ h0.size) (E_o0 : Exa Z h0 o0 "java/lang/StringBuilder") (F_o0_value : Fld Z h0 o0 "java/lang/AbstractStringBuilder" "value" "[B" (.ref o2)) (F_o0_coder : Fld Z h0 o0 "java/lang/AbstractStringBuilder" "coder" "B" (.int (0 : Int32))) (F_o0_count : Fld Z h0 o0 "java/lang/AbstractStringBuilder" "count" "I" (.int (7 : Int32))) (E_o1 : Exa Z h0 o1 "java/lang/String") (F_o1_coder : Fld Z h0 o1 "java/lang/String" "coder" "B" (.int (0 : Int32))) (F_o1_value : Fld Z h0 o1 "java/lang/String" "value" "[B" (.ref o3)) (V_o2 : own_Ar Z h0 o2 .byte [(.int (104 : Int32)), (.int (116 : Int32)), (.int (116 : Int32)), (.int (112 : Int32)), (.int (58 : Int32)), (.int (47 : Int32)), (.int (47 : Int32)), (.int (0 : Int32)), (.int (0 : Int32)), (.int (0 : Int32)), (.int (0 : Int32)), (.int (0 : Int32)), (.int (0 : Int32)), (.int (0 : Int32)), (.int (0 : Int32)), (.int (0 : Int32))]) (V_o3 : own_Ar Z h0 o3 .byte [(.int (49 : Int32)), (.int (50 : Int32)), (.int (55 : Int32)), (.int (46 : Int32)), (.int (48 : Int32)), (.int (46 : Int32)), (.int (48 : Int32)), (.int (46 : Int32)), (.int (49 : Int32))]) (S_cs : Sta Z h0 "java/lang/String" "COMPACT_STRINGS" "Z" (.int cs)) (hcs : ¬ (cs = (0 : Int32))) (ne_o0_o2 : o0 ≠ o2) (ne_o1_o0 : o1 ≠ o0) (ne_o1_o2 : o1 ≠ o2) (ne_o2_o0 : o2 ≠ o0) (ne_o3_o0 : o3 ≠ o0) (ne_o3_o2 : o3 ≠ o2) (g_o0 : n0 ≤ o0) (g_o2 : n0 ≤ o2) :
    own_M l Z (⟨"java/lang/StringBuilder", "append", "(Ljava/lang/String;)Ljava/lang/StringBuilder;"⟩ : MethodName) jdk_67_method_7_code 2 (some (.object "java/lang/StringBuilder")) [] ({ frames := 4, cells := 0, slots := 0, locals := 61 } : Room) #[(.ref o0), (.ref o1)] h0 n0 (fun v h => v = some (.ref o0) ∧ Keep h0 h [o0, o2] ∧ Fld Z h o0 "java/lang/AbstractStringBuilder" "value" "[B" (.ref o2) ∧ Fld Z h o0 "java/lang/AbstractStringBuilder" "coder" "B" (.int (0 : Int32)) ∧ Fld Z h o0 "java/lang/AbstractStringBuilder" "count" "I" (.int (16 : Int32)) ∧ own_Ar Z h o2 .byte [(.int (104 : Int32)), (.int (116 : Int32)), (.int (116 : Int32)), (.int (112 : Int32)), (.int (58 : Int32)), (.int (47 : Int32)), (.int (47 : Int32)), (.int (49 : Int32)), (.int (50 : Int32)), (.int (55 : Int32)), (.int (46 : Int32)), (.int (48 : Int32)), (.int (46 : Int32)), (.int (48 : Int32)), (.int (46 : Int32)), (.int (49 : Int32))]) := by
  refine own_M.of (plainFor_of_name (by first | (simp [plainName, overriddenIn]; done) | decide +kernel)) ?_
  intro p e s m below meth c S0 hx hby hml hown hnm hret hlk hZ A00
  have A0 := A00.cast (ef_own_c77 m o0 o1)
  have KK : Keep h0 h0 ([o0, o2] : List Addr) := Keep.refl _ _
  have A1 := A0.go (f' := mkF m 1 #[.val (.ref o0), .val (.ref o1)] [(.ref o0)]) fun _ _ X _ k => XS.aloadN X.here hx rfl (hb hby dm21_0) rfl rfl k
  have A2 := A1.go (f' := mkF m 2 #[.val (.ref o0), .val (.ref o1)] [(.ref o1), (.ref o0)]) fun _ _ X _ k => XS.aloadN X.here hx rfl (hb hby dm21_1) rfl rfl k
  obtain ⟨vA3, hA3, ⟨rfl, KA3, P_F_o0_value, P_F_o0_coder, P_F_o0_count, P_V_o2⟩, A3⟩ := A2.callU (b := o0) (own_c76 l Z a0 hw o0 o1 o2 o3 cs h0 n0 Z0 E_o0 F_o0_value F_o0_coder F_o0_count E_o1 F_o1_coder F_o1_value V_o2 V_o3 S_cs hcs ne_o0_o2 ne_o1_o0 ne_o1_o2 ne_o2_o0 ne_o3_o0 ne_o3_o2 g_o0 g_o2) E_o0 hx hZ hown (hb hby dm21_2) (by decide) (hw _ (List.mem_of_getElem? (i := 139) rfl)) (own_same (y' := (⟨"java/lang/AbstractStringBuilder", "ensureCapacityInternal", "(I)V"⟩ : MethodName)) (hw _ (List.mem_of_getElem? (i := 154) rfl)) rfl (hw _ (List.mem_of_getElem? (i := 140) rfl)) ⟨by decide, by decide⟩) (hw _ (List.mem_of_getElem? (i := 140) rfl)) (hw _ (List.mem_of_getElem? (i := 141) rfl)) (hw _ (List.mem_of_getElem? (i := 143) rfl)) (hw _ (List.mem_of_getElem? (i := 126) rfl)) (lenOf pd__28Ljava_2flang_2fString_3b_29Ljava_2flang_2fAbstractStringBuilder_3b rfl) (argsL := [(.ref o1)]) (rest := []) rfl rfl (by rw [hml]; rfl) (W := 0) (Nat.le_of_eq rfl) (by decide) (by decide) (by decide) (by decide)
  have S_cs : Sta Z hA3 "java/lang/String" "COMPACT_STRINGS" "Z" (.int cs) := own_staK S_cs KA3 (allS (P := fun x => ∀ cell : Cell, h0[x]? = some cell → cell.vm.isStatics = false) E_o0.nostat (allS (P := fun x => ∀ cell : Cell, h0[x]? = some cell → cell.vm.isStatics = false) V_o2.nostat all0))
  have E_o0 : Exa Z hA3 o0 "java/lang/StringBuilder" := E_o0.keep KA3
  have E_o1 : Exa Z hA3 o1 "java/lang/String" := E_o1.keep KA3
  have F_o1_coder : Fld Z hA3 o1 "java/lang/String" "coder" "B" (.int (0 : Int32)) := F_o1_coder.keep KA3 (ninS ne_o1_o0 (ninS ne_o1_o2 nin0))
  have F_o1_value : Fld Z hA3 o1 "java/lang/String" "value" "[B" (.ref o3) := F_o1_value.keep KA3 (ninS ne_o1_o0 (ninS ne_o1_o2 nin0))
  have V_o3 : own_Ar Z hA3 o3 .byte [(.int (49 : Int32)), (.int (50 : Int32)), (.int (55 : Int32)), (.int (46 : Int32)), (.int (48 : Int32)), (.int (46 : Int32)), (.int (48 : Int32)), (.int (46 : Int32)), (.int (49 : Int32))] := V_o3.keep KA3 (ninS ne_o3_o0 (ninS ne_o3_o2 nin0))
  have Z0 : n0 ≤ hA3.size := Nat.le_trans Z0 KA3.1
  have KK : Keep h0 hA3 [o0, o2] := KK.trans KA3 (allS (P := fun x => x ∈ ([o0, o2] : List Addr) ∨ h0.size ≤ x) (Or.inl (by simp)) (allS (P := fun x => x ∈ ([o0, o2] : List Addr) ∨ h0.size ≤ x) (Or.inl (by simp)) all0))
  have F_o0_value : Fld Z hA3 o0 "java/lang/AbstractStringBuilder" "value" "[B" (.ref o2) := P_F_o0_value
  have F_o0_coder : Fld Z hA3 o0 "java/lang/AbstractStringBuilder" "coder" "B" (.int (0 : Int32)) := P_F_o0_coder
  have F_o0_count : Fld Z hA3 o0 "java/lang/AbstractStringBuilder" "count" "I" (.int (16 : Int32)) := P_F_o0_count
  have V_o2 : own_Ar Z hA3 o2 .byte [(.int (104 : Int32)), (.int (116 : Int32)), (.int (116 : Int32)), (.int (112 : Int32)), (.int (58 : Int32)), (.int (47 : Int32)), (.int (47 : Int32)), (.int (49 : Int32)), (.int (50 : Int32)), (.int (55 : Int32)), (.int (46 : Int32)), (.int (48 : Int32)), (.int (46 : Int32)), (.int (48 : Int32)), (.int (46 : Int32)), (.int (49 : Int32))] := P_V_o2
  have A4 : own_R p l e _ _ m _ below meth c S0 n0 hA3 0 0 (mkF m 5 #[.val (.ref o0), .val (.ref o1)] [(.ref o0)]) := A3
  have A5 := A4.go (f' := mkF m 6 #[.val (.ref o0), .val (.ref o1)] []) fun _ _ X _ k => XS.pop X.here hx rfl (hb hby dm21_5) rfl rfl k
  have A6 := A5.go (f' := mkF m 7 #[.val (.ref o0), .val (.ref o1)] [(.ref o0)]) fun _ _ X _ k => XS.aloadN X.here hx rfl (hb hby dm21_6) rfl rfl k
  exact A6.ret hx hlk hret (hb hby dm21_7) rfl (Or.inr (Or.inr (Or.inr (Or.inr ⟨rfl, rfl, rfl⟩)))) (by decide) (by decide) ⟨rfl, KK, F_o0_value, F_o0_coder, F_o0_count, V_o2⟩
theorem ef_own_c81 (m : MethodId) (o0 : Addr) : entryFrame m #[(.ref o0)] 1 = mkF m 0 #[.val (.ref o0)] [] := by first | (simp [entryFrame, mkF, argsToLocals, Value.category, maxLocals]; done) | rfl
set_option maxRecDepth 65536 in
set_option maxHeartbeats 40000000 in
theorem own_c81 (l : Launch) (Z : State) (a0 : Array Value) (hw : ∀ d ∈ tables_1, d.before a0 Z = true) (o0 o1 : Addr) (cs : Int32) (h0 : Heap) (n0 : Nat) (Z0 : n0 ≤ h0.size) (E_o0 : Exa Z h0 o0 "java/lang/String") (F_o0_coder : Fld Z h0 o0 "java/lang/String" "coder" "B" (.int (0 : Int32))) (F_o0_value : Fld Z h0 o0 "java/lang/String" "value" "[B" (.ref o1)) (V_o1 : own_Ar Z h0 o1 .byte [(.int (58 : Int32))]) (S_cs : Sta Z h0 "java/lang/String" "COMPACT_STRINGS" "Z" (.int cs)) (hcs : ¬ (cs = (0 : Int32))) :
    own_M l Z (⟨"java/lang/String", "length", "()I"⟩ : MethodName) jdk_42_method_54_code 1 (some .int) [] ({ frames := 1, cells := 0, slots := 0, locals := 13 } : Room) #[(.ref o0)] h0 n0 (fun v h => v = some (.int (1 : Int32)) ∧ h0 = h) := by
  refine own_M.of (plainFor_of_name (by first | (simp [plainName, overriddenIn]; done) | decide +kernel)) ?_
  intro p e s m below meth c S0 hx hby hml hown hnm hret hlk hZ A00
  have A0 := A00.cast (ef_own_c81 m o0)
  have KK : Keep h0 h0 ([] : List Addr) := Keep.refl _ _
  have A1 := A0.go (f' := mkF m 1 #[.val (.ref o0)] [(.ref o0)]) fun _ _ X _ k => XS.aloadN X.here hx rfl (hb hby dm23_0) rfl rfl k
  have A2 : own_R p l e _ _ m _ below meth c S0 n0 h0 0 0 (mkF m 4 #[.val (.ref o0)] [(.ref o1)]) := A1.getF hx hZ hown (hb hby dm23_1) (hw _ (List.mem_of_getElem? (i := 108) rfl)) Via.refl F_o0_value
  have A3 : own_R p l e _ _ m _ below meth c S0 n0 h0 0 0 (mkF m 5 #[.val (.ref o0)] [(.int (1 : Int32))]) := A2.len hx hZ (hb hby dm23_4) V_o1
  have A4 := A3.go (f' := mkF m 6 #[.val (.ref o0)] [(.ref o0), (.int (1 : Int32))]) fun _ _ X _ k => XS.aloadN X.here hx rfl (hb hby dm23_5) rfl rfl k
  obtain ⟨vA5, hA5, ⟨rfl, rfl⟩, A5⟩ := A4.callV (b := o0) (own_c27 l Z a0 hw o0 cs h0 n0 Z0 F_o0_coder S_cs hcs) E_o0 hx hZ hown (hb hby dm23_6) (hw _ (List.mem_of_getElem? (i := 96) rfl)) (hw _ (List.mem_of_getElem? (i := 97) rfl)) (hw _ (List.mem_of_getElem? (i := 99) rfl)) (hw _ (List.mem_of_getElem? (i := 98) rfl)) (hw _ (List.mem_of_getElem? (i := 100) rfl)) (hw _ (List.mem_of_getElem? (i := 8) rfl)) (own_nf (y' := (⟨"java/lang/String", "contains", "(Ljava/lang/CharSequence;)Z"⟩ : MethodName)) (hw _ (List.mem_of_getElem? (i := 80) rfl)) rfl) ⟨by decide, by decide⟩ (lenOf pd__28_29B rfl) (argsL := []) (rest := [(.int (1 : Int32))]) rfl rfl (by rw [hml]; rfl) (W := 1) (Nat.le_of_eq rfl) (by decide) (by decide) (by decide) (by decide)
  have A6 : own_R p l e _ _ m _ below meth c S0 n0 h0 0 0 (mkF m 9 #[.val (.ref o0)] [(.int (0 : Int32)), (.int (1 : Int32))]) := A5
  have A7 := A6.go (f' := mkF m 10 #[.val (.ref o0)] [(.int (1 : Int32))]) fun _ _ X _ k => XS.ishr X.here hx rfl (hb hby dm23_9) rfl k
  exact A7.ret hx hlk hret (hb hby dm23_10) rfl (Or.inl ⟨rfl, by simp, _, rfl⟩) (by decide) (by decide) ⟨rfl, rfl⟩
theorem ef_own_c86 (m : MethodId)  : entryFrame m #[(.int (1 : Int32)), (.int (18 : Int32))] 2 = mkF m 0 #[.val (.int (1 : Int32)), .val (.int (18 : Int32))] [] := by first | (simp [entryFrame, mkF, argsToLocals, Value.category, maxLocals]; done) | rfl
set_option maxRecDepth 65536 in
set_option maxHeartbeats 40000000 in
theorem own_c86 (l : Launch) (Z : State) (a0 : Array Value) (hw : ∀ d ∈ tables_1, d.before a0 Z = true)  (h0 : Heap) (n0 : Nat) (Z0 : n0 ≤ h0.size)  :
    own_M l Z (⟨"java/lang/Math", "max", "(II)I"⟩ : MethodName) jdk_29_method_65_code 2 (some .int) [] ({ frames := 0, cells := 0, slots := 0, locals := 0 } : Room) #[(.int (1 : Int32)), (.int (18 : Int32))] h0 n0 (fun v h => v = some (.int (18 : Int32)) ∧ h0 = h) := by
  refine own_M.of (by decide +kernel) ?_
  intro p e s m below meth c S0 hx hby hml hown hnm hret hlk hZ A00
  have A0 := A00.cast (ef_own_c86 m )
  have KK : Keep h0 h0 ([] : List Addr) := Keep.refl _ _
  have A1 := A0.go (f' := mkF m 1 #[.val (.int (1 : Int32)), .val (.int (18 : Int32))] [(.int (1 : Int32))]) fun _ _ X _ k => XS.iloadN X.here hx rfl (hb hby dm30_0) rfl k
  have A2 := A1.go (f' := mkF m 2 #[.val (.int (1 : Int32)), .val (.int (18 : Int32))] [(.int (18 : Int32)), (.int (1 : Int32))]) fun _ _ X _ k => XS.iloadN X.here hx rfl (hb hby dm30_1) rfl k
  have q3 : ((1 : Int32) < (18 : Int32)) := by decide
  have A4 := A2.go (f' := mkF m 9 #[.val (.int (1 : Int32)), .val (.int (18 : Int32))] []) fun _ _ X _ k => XS.icmpYes X.here hx rfl (pc0 := 2) (pc' := 9) rfl (hb hby dm30_2) rfl ((tlt q3).1) (by decide) (by decide) k
  have A5 := A4.go (f' := mkF m 10 #[.val (.int (1 : Int32)), .val (.int (18 : Int32))] [(.int (18 : Int32))]) fun _ _ X _ k => XS.iloadN X.here hx rfl (hb hby dm30_9) rfl k
  exact A5.ret hx hlk hret (hb hby dm30_10) rfl (Or.inl ⟨rfl, by simp, _, rfl⟩) (by decide) (by decide) ⟨rfl, rfl⟩
theorem ef_own_c87 (m : MethodId)  : entryFrame m #[(.int (16 : Int32)), (.int (1 : Int32)), (.int (18 : Int32))] 4 = mkF m 0 #[.val (.int (16 : Int32)), .val (.int (1 : Int32)), .val (.int (18 : Int32)), .unset] [] := by first | (simp [entryFrame, mkF, argsToLocals, Value.category, maxLocals]; done) | rfl
set_option maxRecDepth 65536 in
set_option maxHeartbeats 40000000 in
theorem own_c87 (l : Launch) (Z : State) (a0 : Array Value) (hw : ∀ d ∈ tables_1, d.before a0 Z = true)  (h0 : Heap) (n0 : Nat) (Z0 : n0 ≤ h0.size)  :
    own_M l Z (⟨"jdk/internal/util/ArraysSupport", "newLength", "(III)I"⟩ : MethodName) jdk_48_method_27_code 4 (some .int) [] ({ frames := 1, cells := 0, slots := 0, locals := 14 } : Room) #[(.int (16 : Int32)), (.int (1 : Int32)), (.int (18 : Int32))] h0 n0 (fun v h => v = some (.int (34 : Int32)) ∧ h0 = h) := by
  refine own_M.of (plainFor_of_name (by first | (simp [plainName, overriddenIn]; done) | decide +kernel)) ?_
  intro p e s m below meth c S0 hx hby hml hown hnm hret hlk hZ A00
  have A0 := A00.cast (ef_own_c87 m )
  have KK : Keep h0 h0 ([] : List Addr) := Keep.refl _ _
  have A1 := A0.go (f' := mkF m 1 #[.val (.int (16 : Int32)), .val (.int (1 : Int32)), .val (.int (18 : Int32)), .unset] [(.int (16 : Int32))]) fun _ _ X _ k => XS.iloadN X.here hx rfl (hb hby dm29_0) rfl k
  have A2 := A1.go (f' := mkF m 2 #[.val (.int (16 : Int32)), .val (.int (1 : Int32)), .val (.int (18 : Int32)), .unset] [(.int (1 : Int32)), (.int (16 : Int32))]) fun _ _ X _ k => XS.iloadN X.here hx rfl (hb hby dm29_1) rfl k
  have A3 := A2.go (f' := mkF m 3 #[.val (.int (16 : Int32)), .val (.int (1 : Int32)), .val (.int (18 : Int32)), .unset] [(.int (18 : Int32)), (.int (1 : Int32)), (.int (16 : Int32))]) fun _ _ X _ k => XS.iloadN X.here hx rfl (hb hby dm29_2) rfl k
  obtain ⟨vA4, hA4, ⟨rfl, rfl⟩, A4⟩ := A3.callS (own_c86 l Z a0 hw h0 n0 Z0) hx hZ hown (hb hby dm29_3) (hw _ (List.mem_of_getElem? (i := 186) rfl)) (hw _ (List.mem_of_getElem? (i := 187) rfl)) (hw _ (List.mem_of_getElem? (i := 188) rfl)) (hw _ (List.mem_of_getElem? (i := 189) rfl)) ⟨by decide, by decide⟩ (lenOf pd__28II_29I rfl) (argsL := [(.int (1 : Int32)), (.int (18 : Int32))]) (rest := [(.int (16 : Int32))]) rfl rfl (by rw [hml]; rfl) (W := 1) (Nat.le_of_eq rfl) (by decide) (by decide) (by decide) (by decide)
  have A5 : own_R p l e _ _ m _ below meth c S0 n0 h0 0 0 (mkF m 6 #[.val (.int (16 : Int32)), .val (.int (1 : Int32)), .val (.int (18 : Int32)), .unset] [(.int (18 : Int32)), (.int (16 : Int32))]) := A4
  have A6 := A5.go (f' := mkF m 7 #[.val (.int (16 : Int32)), .val (.int (1 : Int32)), .val (.int (18 : Int32)), .unset] [(.int (34 : Int32))]) fun _ _ X _ k => XS.iadd X.here hx rfl (hb hby dm29_6) rfl k
  have A7 := A6.go (f' := mkF m 8 #[.val (.int (16 : Int32)), .val (.int (1 : Int32)), .val (.int (18 : Int32)), .val (.int (34 : Int32))] []) fun _ _ X _ k => XS.istoreN X.here hx rfl (hb hby dm29_7) rfl (l' := #[.val (.int (16 : Int32)), .val (.int (1 : Int32)), .val (.int (18 : Int32)), .val (.int (34 : Int32))]) rfl k
  have A8 := A7.go (f' := mkF m 9 #[.val (.int (16 : Int32)), .val (.int (1 : Int32)), .val (.int (18 : Int32)), .val (.int (34 : Int32))] [(.int (0 : Int32))]) fun _ _ X _ k => XS.iconst X.here hx rfl (hb hby dm29_8) k
  have A9 := A8.go (f' := mkF m 10 #[.val (.int (16 : Int32)), .val (.int (1 : Int32)), .val (.int (18 : Int32)), .val (.int (34 : Int32))] [(.int (34 : Int32)), (.int (0 : Int32))]) fun _ _ X _ k => XS.iloadN X.here hx rfl (hb hby dm29_9) rfl k
  have q10 : ((0 : Int32) < (34 : Int32)) := by decide
  have A11 := A9.go (f' := mkF m 13 #[.val (.int (16 : Int32)), .val (.int (1 : Int32)), .val (.int (18 : Int32)), .val (.int (34 : Int32))] []) fun _ _ X _ k => XS.icmpNo X.here hx rfl (hb hby dm29_10) rfl ((tlt q10).2.1) k
  have A12 := A11.go (f' := mkF m 14 #[.val (.int (16 : Int32)), .val (.int (1 : Int32)), .val (.int (18 : Int32)), .val (.int (34 : Int32))] [(.int (34 : Int32))]) fun _ _ X _ k => XS.iloadN X.here hx rfl (hb hby dm29_13) rfl k
  have A13 : own_R p l e _ _ m _ below meth c S0 n0 h0 0 0 (mkF m 16 #[.val (.int (16 : Int32)), .val (.int (1 : Int32)), .val (.int (18 : Int32)), .val (.int (34 : Int32))] [(.int (2147483639 : Int32)), (.int (34 : Int32))]) := A12.ldcI hx hZ hown (hb hby dm29_14) (hw _ (List.mem_of_getElem? (i := 190) rfl))
  have q14 : ¬ ((2147483639 : Int32) < (34 : Int32)) := by decide
  have A15 := A13.go (f' := mkF m 19 #[.val (.int (16 : Int32)), .val (.int (1 : Int32)), .val (.int (18 : Int32)), .val (.int (34 : Int32))] []) fun _ _ X _ k => XS.icmpNo X.here hx rfl (hb hby dm29_16) rfl ((flt q14).2.2.1) k
  have A16 := A15.go (f' := mkF m 20 #[.val (.int (16 : Int32)), .val (.int (1 : Int32)), .val (.int (18 : Int32)), .val (.int (34 : Int32))] [(.int (34 : Int32))]) fun _ _ X _ k => XS.iloadN X.here hx rfl (hb hby dm29_19) rfl k
  exact A16.ret hx hlk hret (hb hby dm29_20) rfl (Or.inl ⟨rfl, by simp, _, rfl⟩) (by decide) (by decide) ⟨rfl, rfl⟩
theorem ef_own_c88 (m : MethodId) (o0 : Addr) : entryFrame m #[(.ref o0), (.int (17 : Int32))] 6 = mkF m 0 #[.val (.ref o0), .val (.int (17 : Int32)), .unset, .unset, .unset, .unset] [] := by first | (simp [entryFrame, mkF, argsToLocals, Value.category, maxLocals]; done) | rfl
set_option maxRecDepth 65536 in
set_option maxHeartbeats 40000000 in
theorem own_c88 (l : Launch) (Z : State) (a0 : Array Value) (hw : ∀ d ∈ tables_1, d.before a0 Z = true) (o0 o1 : Addr) (h0 : Heap) (n0 : Nat) (Z0 : n0 ≤ h0.size) (F_o0_value : Fld Z h0 o0 "java/lang/AbstractStringBuilder" "value" "[B" (.ref o1)) (F_o0_coder : Fld Z h0 o0 "java/lang/AbstractStringBuilder" "coder" "B" (.int (0 : Int32))) (V_o1 : own_Ar Z h0 o1 .byte [(.int (104 : Int32)), (.int (116 : Int32)), (.int (116 : Int32)), (.int (112 : Int32)), (.int (58 : Int32)), (.int (47 : Int32)), (.int (47 : Int32)), (.int (49 : Int32)), (.int (50 : Int32)), (.int (55 : Int32)), (.int (46 : Int32)), (.int (48 : Int32)), (.int (46 : Int32)), (.int (48 : Int32)), (.int (46 : Int32)), (.int (49 : Int32))]) :
    own_M l Z (⟨"java/lang/AbstractStringBuilder", "newCapacity", "(I)I"⟩ : MethodName) jdk_68_method_10_code 6 (some .int) [] ({ frames := 2, cells := 0, slots := 0, locals := 29 } : Room) #[(.ref o0), (.int (17 : Int32))] h0 n0 (fun v h => v = some (.int (34 : Int32)) ∧ h0 = h) := by
  refine own_M.of (plainFor_of_name (by first | (simp [plainName, overriddenIn]; done) | decide +kernel)) ?_
  intro p e s m below meth c S0 hx hby hml hown hnm hret hlk hZ A00
  have A0 := A00.cast (ef_own_c88 m o0)
  have KK : Keep h0 h0 ([] : List Addr) := Keep.refl _ _
  have A1 := A0.go (f' := mkF m 1 #[.val (.ref o0), .val (.int (17 : Int32)), .unset, .unset, .unset, .unset] [(.ref o0)]) fun _ _ X _ k => XS.aloadN X.here hx rfl (hb hby dm28_0) rfl rfl k
  have A2 : own_R p l e _ _ m _ below meth c S0 n0 h0 0 0 (mkF m 4 #[.val (.ref o0), .val (.int (17 : Int32)), .unset, .unset, .unset, .unset] [(.ref o1)]) := A1.getF hx hZ hown (hb hby dm28_1) (hw _ (List.mem_of_getElem? (i := 130) rfl)) Via.refl F_o0_value
  have A3 : own_R p l e _ _ m _ below meth c S0 n0 h0 0 0 (mkF m 5 #[.val (.ref o0), .val (.int (17 : Int32)), .unset, .unset, .unset, .unset] [(.int (16 : Int32))]) := A2.len hx hZ (hb hby dm28_4) V_o1
  have A4 := A3.go (f' := mkF m 6 #[.val (.ref o0), .val (.int (17 : Int32)), .val (.int (16 : Int32)), .unset, .unset, .unset] []) fun _ _ X _ k => XS.istoreN X.here hx rfl (hb hby dm28_5) rfl (l' := #[.val (.ref o0), .val (.int (17 : Int32)), .val (.int (16 : Int32)), .unset, .unset, .unset]) rfl k
  have A5 := A4.go (f' := mkF m 7 #[.val (.ref o0), .val (.int (17 : Int32)), .val (.int (16 : Int32)), .unset, .unset, .unset] [(.int (17 : Int32))]) fun _ _ X _ k => XS.iloadN X.here hx rfl (hb hby dm28_6) rfl k
  have A6 := A5.go (f' := mkF m 8 #[.val (.ref o0), .val (.int (17 : Int32)), .val (.int (16 : Int32)), .unset, .unset, .unset] [(.ref o0), (.int (17 : Int32))]) fun _ _ X _ k => XS.aloadN X.here hx rfl (hb hby dm28_7) rfl rfl k
  have A7 : own_R p l e _ _ m _ below meth c S0 n0 h0 0 0 (mkF m 11 #[.val (.ref o0), .val (.int (17 : Int32)), .val (.int (16 : Int32)), .unset, .unset, .unset] [(.int (0 : Int32)), (.int (17 : Int32))]) := A6.getF hx hZ hown (hb hby dm28_8) (hw _ (List.mem_of_getElem? (i := 132) rfl)) Via.refl F_o0_coder
  have A8 := A7.go (f' := mkF m 12 #[.val (.ref o0), .val (.int (17 : Int32)), .val (.int (16 : Int32)), .unset, .unset, .unset] [(.int (17 : Int32))]) fun _ _ X _ k => XS.ishl X.here hx rfl (hb hby dm28_11) rfl k
  have A9 := A8.go (f' := mkF m 13 #[.val (.ref o0), .val (.int (17 : Int32)), .val (.int (16 : Int32)), .val (.int (17 : Int32)), .unset, .unset] []) fun _ _ X _ k => XS.istoreN X.here hx rfl (hb hby dm28_12) rfl (l' := #[.val (.ref o0), .val (.int (17 : Int32)), .val (.int (16 : Int32)), .val (.int (17 : Int32)), .unset, .unset]) rfl k
  have A10 := A9.go (f' := mkF m 14 #[.val (.ref o0), .val (.int (17 : Int32)), .val (.int (16 : Int32)), .val (.int (17 : Int32)), .unset, .unset] [(.int (17 : Int32))]) fun _ _ X _ k => XS.iloadN X.here hx rfl (hb hby dm28_13) rfl k
  have A11 := A10.go (f' := mkF m 15 #[.val (.ref o0), .val (.int (17 : Int32)), .val (.int (16 : Int32)), .val (.int (17 : Int32)), .unset, .unset] [(.int (16 : Int32)), (.int (17 : Int32))]) fun _ _ X _ k => XS.iloadN X.here hx rfl (hb hby dm28_14) rfl k
  have A12 := A11.go (f' := mkF m 16 #[.val (.ref o0), .val (.int (17 : Int32)), .val (.int (16 : Int32)), .val (.int (17 : Int32)), .unset, .unset] [(.int (1 : Int32))]) fun _ _ X _ k => XS.isub X.here hx rfl (hb hby dm28_15) rfl k
  have A13 := A12.go (f' := mkF m 18 #[.val (.ref o0), .val (.int (17 : Int32)), .val (.int (16 : Int32)), .val (.int (17 : Int32)), .val (.int (1 : Int32)), .unset] []) fun _ _ X _ k => XS.istore X.here hx rfl (hb hby dm28_16) rfl (l' := #[.val (.ref o0), .val (.int (17 : Int32)), .val (.int (16 : Int32)), .val (.int (17 : Int32)), .val (.int (1 : Int32)), .unset]) rfl k
  have A14 := A13.go (f' := mkF m 19 #[.val (.ref o0), .val (.int (17 : Int32)), .val (.int (16 : Int32)), .val (.int (17 : Int32)), .val (.int (1 : Int32)), .unset] [(.int (16 : Int32))]) fun _ _ X _ k => XS.iloadN X.here hx rfl (hb hby dm28_18) rfl k
  have A15 := A14.go (f' := mkF m 21 #[.val (.ref o0), .val (.int (17 : Int32)), .val (.int (16 : Int32)), .val (.int (17 : Int32)), .val (.int (1 : Int32)), .unset] [(.int (1 : Int32)), (.int (16 : Int32))]) fun _ _ X _ k => XS.iload X.here hx rfl (hb hby dm28_19) rfl k
  have A16 := A15.go (f' := mkF m 22 #[.val (.ref o0), .val (.int (17 : Int32)), .val (.int (16 : Int32)), .val (.int (17 : Int32)), .val (.int (1 : Int32)), .unset] [(.int (16 : Int32)), (.int (1 : Int32)), (.int (16 : Int32))]) fun _ _ X _ k => XS.iloadN X.here hx rfl (hb hby dm28_21) rfl k
  have A17 := A16.go (f' := mkF m 23 #[.val (.ref o0), .val (.int (17 : Int32)), .val (.int (16 : Int32)), .val (.int (17 : Int32)), .val (.int (1 : Int32)), .unset] [(.int (2 : Int32)), (.int (16 : Int32)), (.int (1 : Int32)), (.int (16 : Int32))]) fun _ _ X _ k => XS.iconst X.here hx rfl (hb hby dm28_22) k
  have A18 := A17.go (f' := mkF m 24 #[.val (.ref o0), .val (.int (17 : Int32)), .val (.int (16 : Int32)), .val (.int (17 : Int32)), .val (.int (1 : Int32)), .unset] [(.ref o0), (.int (2 : Int32)), (.int (16 : Int32)), (.int (1 : Int32)), (.int (16 : Int32))]) fun _ _ X _ k => XS.aloadN X.here hx rfl (hb hby dm28_23) rfl rfl k
  have A19 : own_R p l e _ _ m _ below meth c S0 n0 h0 0 0 (mkF m 27 #[.val (.ref o0), .val (.int (17 : Int32)), .val (.int (16 : Int32)), .val (.int (17 : Int32)), .val (.int (1 : Int32)), .unset] [(.int (0 : Int32)), (.int (2 : Int32)), (.int (16 : Int32)), (.int (1 : Int32)), (.int (16 : Int32))]) := A18.getF hx hZ hown (hb hby dm28_24) (hw _ (List.mem_of_getElem? (i := 132) rfl)) Via.refl F_o0_coder
  have A20 := A19.go (f' := mkF m 28 #[.val (.ref o0), .val (.int (17 : Int32)), .val (.int (16 : Int32)), .val (.int (17 : Int32)), .val (.int (1 : Int32)), .unset] [(.int (2 : Int32)), (.int (16 : Int32)), (.int (1 : Int32)), (.int (16 : Int32))]) fun _ _ X _ k => XS.ishl X.here hx rfl (hb hby dm28_27) rfl k
  have A21 := A20.go (f' := mkF m 29 #[.val (.ref o0), .val (.int (17 : Int32)), .val (.int (16 : Int32)), .val (.int (17 : Int32)), .val (.int (1 : Int32)), .unset] [(.int (18 : Int32)), (.int (1 : Int32)), (.int (16 : Int32))]) fun _ _ X _ k => XS.iadd X.here hx rfl (hb hby dm28_28) rfl k
  obtain ⟨vA22, hA22, ⟨rfl, rfl⟩, A22⟩ := A21.callS (own_c87 l Z a0 hw h0 n0 Z0) hx hZ hown (hb hby dm28_29) (hw _ (List.mem_of_getElem? (i := 182) rfl)) (hw _ (List.mem_of_getElem? (i := 183) rfl)) (hw _ (List.mem_of_getElem? (i := 184) rfl)) (hw _ (List.mem_of_getElem? (i := 185) rfl)) ⟨by decide, by decide⟩ (lenOf pd__28III_29I rfl) (argsL := [(.int (16 : Int32)), (.int (1 : Int32)), (.int (18 : Int32))]) (rest := []) rfl rfl (by rw [hml]; rfl) (W := 0) (Nat.le_of_eq rfl) (by decide) (by decide) (by decide) (by decide)
  have A23 : own_R p l e _ _ m _ below meth c S0 n0 h0 0 0 (mkF m 32 #[.val (.ref o0), .val (.int (17 : Int32)), .val (.int (16 : Int32)), .val (.int (17 : Int32)), .val (.int (1 : Int32)), .unset] [(.int (34 : Int32))]) := A22
  have A24 := A23.go (f' := mkF m 34 #[.val (.ref o0), .val (.int (17 : Int32)), .val (.int (16 : Int32)), .val (.int (17 : Int32)), .val (.int (1 : Int32)), .val (.int (34 : Int32))] []) fun _ _ X _ k => XS.istore X.here hx rfl (hb hby dm28_32) rfl (l' := #[.val (.ref o0), .val (.int (17 : Int32)), .val (.int (16 : Int32)), .val (.int (17 : Int32)), .val (.int (1 : Int32)), .val (.int (34 : Int32))]) rfl k
  have A25 := A24.go (f' := mkF m 36 #[.val (.ref o0), .val (.int (17 : Int32)), .val (.int (16 : Int32)), .val (.int (17 : Int32)), .val (.int (1 : Int32)), .val (.int (34 : Int32))] [(.int (34 : Int32))]) fun _ _ X _ k => XS.iload X.here hx rfl (hb hby dm28_34) rfl k
  have A26 : own_R p l e _ _ m _ below meth c S0 n0 h0 0 0 (mkF m 38 #[.val (.ref o0), .val (.int (17 : Int32)), .val (.int (16 : Int32)), .val (.int (17 : Int32)), .val (.int (1 : Int32)), .val (.int (34 : Int32))] [(.int (2147483647 : Int32)), (.int (34 : Int32))]) := A25.ldcI hx hZ hown (hb hby dm28_36) (hw _ (List.mem_of_getElem? (i := 191) rfl))
  have q27 : ¬ ((34 : Int32) = (2147483647 : Int32)) := by decide
  have A28 := A26.go (f' := mkF m 51 #[.val (.ref o0), .val (.int (17 : Int32)), .val (.int (16 : Int32)), .val (.int (17 : Int32)), .val (.int (1 : Int32)), .val (.int (34 : Int32))] []) fun _ _ X _ k => XS.icmpYes X.here hx rfl (pc0 := 38) (pc' := 51) rfl (hb hby dm28_38) rfl ((feq q27).2) (by decide) (by decide) k
  have A29 := A28.go (f' := mkF m 53 #[.val (.ref o0), .val (.int (17 : Int32)), .val (.int (16 : Int32)), .val (.int (17 : Int32)), .val (.int (1 : Int32)), .val (.int (34 : Int32))] [(.int (34 : Int32))]) fun _ _ X _ k => XS.iload X.here hx rfl (hb hby dm28_51) rfl k
  have A30 := A29.go (f' := mkF m 54 #[.val (.ref o0), .val (.int (17 : Int32)), .val (.int (16 : Int32)), .val (.int (17 : Int32)), .val (.int (1 : Int32)), .val (.int (34 : Int32))] [(.ref o0), (.int (34 : Int32))]) fun _ _ X _ k => XS.aloadN X.here hx rfl (hb hby dm28_53) rfl rfl k
  have A31 : own_R p l e _ _ m _ below meth c S0 n0 h0 0 0 (mkF m 57 #[.val (.ref o0), .val (.int (17 : Int32)), .val (.int (16 : Int32)), .val (.int (17 : Int32)), .val (.int (1 : Int32)), .val (.int (34 : Int32))] [(.int (0 : Int32)), (.int (34 : Int32))]) := A30.getF hx hZ hown (hb hby dm28_54) (hw _ (List.mem_of_getElem? (i := 132) rfl)) Via.refl F_o0_coder
  have A32 := A31.go (f' := mkF m 58 #[.val (.ref o0), .val (.int (17 : Int32)), .val (.int (16 : Int32)), .val (.int (17 : Int32)), .val (.int (1 : Int32)), .val (.int (34 : Int32))] [(.int (34 : Int32))]) fun _ _ X _ k => XS.ishr X.here hx rfl (hb hby dm28_57) rfl k
  exact A32.ret hx hlk hret (hb hby dm28_58) rfl (Or.inl ⟨rfl, by simp, _, rfl⟩) (by decide) (by decide) ⟨rfl, rfl⟩
theorem ef_own_c91 (m : MethodId)  : entryFrame m #[(.int (16 : Int32)), (.int (34 : Int32))] 2 = mkF m 0 #[.val (.int (16 : Int32)), .val (.int (34 : Int32))] [] := by first | (simp [entryFrame, mkF, argsToLocals, Value.category, maxLocals]; done) | rfl
set_option maxRecDepth 65536 in
set_option maxHeartbeats 40000000 in
theorem own_c91 (l : Launch) (Z : State) (a0 : Array Value) (hw : ∀ d ∈ tables_1, d.before a0 Z = true)  (h0 : Heap) (n0 : Nat) (Z0 : n0 ≤ h0.size)  :
    own_M l Z (⟨"java/lang/Math", "min", "(II)I"⟩ : MethodName) jdk_29_method_69_code 2 (some .int) [] ({ frames := 0, cells := 0, slots := 0, locals := 0 } : Room) #[(.int (16 : Int32)), (.int (34 : Int32))] h0 n0 (fun v h => v = some (.int (16 : Int32)) ∧ h0 = h) := by
  refine own_M.of (by decide +kernel) ?_
  intro p e s m below meth c S0 hx hby hml hown hnm hret hlk hZ A00
  have A0 := A00.cast (ef_own_c91 m )
  have KK : Keep h0 h0 ([] : List Addr) := Keep.refl _ _
  have A1 := A0.go (f' := mkF m 1 #[.val (.int (16 : Int32)), .val (.int (34 : Int32))] [(.int (16 : Int32))]) fun _ _ X _ k => XS.iloadN X.here hx rfl (hb hby dm32_0) rfl k
  have A2 := A1.go (f' := mkF m 2 #[.val (.int (16 : Int32)), .val (.int (34 : Int32))] [(.int (34 : Int32)), (.int (16 : Int32))]) fun _ _ X _ k => XS.iloadN X.here hx rfl (hb hby dm32_1) rfl k
  have q3 : ¬ ((34 : Int32) < (16 : Int32)) := by decide
  have A4 := A2.go (f' := mkF m 5 #[.val (.int (16 : Int32)), .val (.int (34 : Int32))] []) fun _ _ X _ k => XS.icmpNo X.here hx rfl (hb hby dm32_2) rfl ((flt q3).2.2.1) k
  have A5 := A4.go (f' := mkF m 6 #[.val (.int (16 : Int32)), .val (.int (34 : Int32))] [(.int (16 : Int32))]) fun _ _ X _ k => XS.iloadN X.here hx rfl (hb hby dm32_5) rfl k
  have A6 := A5.go (f' := mkF m 10 #[.val (.int (16 : Int32)), .val (.int (34 : Int32))] [(.int (16 : Int32))]) fun _ _ X _ k => XS.goto X.here hx rfl (pc0 := 6) (pc' := 10) rfl (hb hby dm32_6) (by decide) (by decide) k
  exact A6.ret hx hlk hret (hb hby dm32_10) rfl (Or.inl ⟨rfl, by simp, _, rfl⟩) (by decide) (by decide) ⟨rfl, rfl⟩
theorem ef_own_c92 (m : MethodId) (o0 : Addr) : entryFrame m #[(.ref o0), (.int (34 : Int32))] 3 = mkF m 0 #[.val (.ref o0), .val (.int (34 : Int32)), .unset] [] := by first | (simp [entryFrame, mkF, argsToLocals, Value.category, maxLocals]; done) | rfl
set_option maxRecDepth 65536 in
set_option maxHeartbeats 40000000 in
theorem own_c92 (l : Launch) (Z : State) (a0 : Array Value) (hw : ∀ d ∈ tables_1, d.before a0 Z = true) (o0 : Addr) (h0 : Heap) (n0 : Nat) (Z0 : n0 ≤ h0.size) (V_o0 : own_Ar Z h0 o0 .byte [(.int (104 : Int32)), (.int (116 : Int32)), (.int (116 : Int32)), (.int (112 : Int32)), (.int (58 : Int32)), (.int (47 : Int32)), (.int (47 : Int32)), (.int (49 : Int32)), (.int (50 : Int32)), (.int (55 : Int32)), (.int (46 : Int32)), (.int (48 : Int32)), (.int (46 : Int32)), (.int (48 : Int32)), (.int (46 : Int32)), (.int (49 : Int32))]) :
    own_M l Z (⟨"java/util/Arrays", "copyOf", "([BI)[B"⟩ : MethodName) jdk_65_method_121_code 3 (some (.array .byte)) [] ({ frames := 1, cells := 1, slots := 34, locals := 18 } : Room) #[(.ref o0), (.int (34 : Int32))] h0 n0 (fun v h => ∃ x1 : Addr, v = some (.ref x1) ∧ Keep h0 h [] ∧ h0.size ≤ x1 ∧ own_Ar Z h x1 .byte [(.int (104 : Int32)), (.int (116 : Int32)), (.int (116 : Int32)), (.int (112 : Int32)), (.int (58 : Int32)), (.int (47 : Int32)), (.int (47 : Int32)), (.int (49 : Int32)), (.int (50 : Int32)), (.int (55 : Int32)), (.int (46 : Int32)), (.int (48 : Int32)), (.int (46 : Int32)), (.int (48 : Int32)), (.int (46 : Int32)), (.int (49 : Int32)), (.int (0 : Int32)), (.int (0 : Int32)), (.int (0 : Int32)), (.int (0 : Int32)), (.int (0 : Int32)), (.int (0 : Int32)), (.int (0 : Int32)), (.int (0 : Int32)), (.int (0 : Int32)), (.int (0 : Int32)), (.int (0 : Int32)), (.int (0 : Int32)), (.int (0 : Int32)), (.int (0 : Int32)), (.int (0 : Int32)), (.int (0 : Int32)), (.int (0 : Int32)), (.int (0 : Int32))]) := by
  refine own_M.of (plainFor_of_name (by first | (simp [plainName, overriddenIn]; done) | decide +kernel)) ?_
  intro p e s m below meth c S0 hx hby hml hown hnm hret hlk hZ A00
  have A0 := A00.cast (ef_own_c92 m o0)
  have KK : Keep h0 h0 ([] : List Addr) := Keep.refl _ _
  have A1 := A0.go (f' := mkF m 1 #[.val (.ref o0), .val (.int (34 : Int32)), .unset] [(.int (34 : Int32))]) fun _ _ X _ k => XS.iloadN X.here hx rfl (hb hby dm31_0) rfl k
  have A2 := A1.go (f' := mkF m 2 #[.val (.ref o0), .val (.int (34 : Int32)), .unset] [(.ref o0), (.int (34 : Int32))]) fun _ _ X _ k => XS.aloadN X.here hx rfl (hb hby dm31_1) rfl rfl k
  have A3 : own_R p l e _ _ m _ below meth c S0 n0 h0 0 0 (mkF m 3 #[.val (.ref o0), .val (.int (34 : Int32)), .unset] [(.int (16 : Int32)), (.int (34 : Int32))]) := A2.len hx hZ (hb hby dm31_2) V_o0
  have q4 : ¬ ((34 : Int32) = (16 : Int32)) := by decide
  have A5 := A3.go (f' := mkF m 14 #[.val (.ref o0), .val (.int (34 : Int32)), .unset] []) fun _ _ X _ k => XS.icmpYes X.here hx rfl (pc0 := 3) (pc' := 14) rfl (hb hby dm31_3) rfl ((feq q4).2) (by decide) (by decide) k
  have A6 := A5.go (f' := mkF m 15 #[.val (.ref o0), .val (.int (34 : Int32)), .unset] [(.int (34 : Int32))]) fun _ _ X _ k => XS.iloadN X.here hx rfl (hb hby dm31_14) rfl k
  obtain ⟨h7, E8, V_x1, A9⟩ := A6.newP hx hZ (hb hby dm31_15) (hw _ (List.mem_of_getElem? (i := 10) rfl)) (by decide) (cap := 34) (by decide) (by decide) (by decide) (by decide)
  obtain ⟨x1, gx1⟩ : ∃ z, z = h0.size := ⟨_, rfl⟩
  rw [← gx1] at V_x1 A9
  have ne_o0_x1 : o0 ≠ x1 := by rw [gx1]; exact Nat.ne_of_lt V_o0.lt
  have ne_x1_o0 := Ne.symm ne_o0_x1
  have g_x1 : n0 ≤ x1 := by rw [gx1]; exact Z0
  have sz_x1 : h0.size ≤ x1 := by rw [gx1]; exact KK.1
  have V_o0 : own_Ar Z h7 o0 .byte [(.int (104 : Int32)), (.int (116 : Int32)), (.int (116 : Int32)), (.int (112 : Int32)), (.int (58 : Int32)), (.int (47 : Int32)), (.int (47 : Int32)), (.int (49 : Int32)), (.int (50 : Int32)), (.int (55 : Int32)), (.int (46 : Int32)), (.int (48 : Int32)), (.int (46 : Int32)), (.int (48 : Int32)), (.int (46 : Int32)), (.int (49 : Int32))] := V_o0.ext E8
  have Z0 : n0 ≤ h7.size := Nat.le_trans Z0 E8.1
  have KK : Keep h0 h7 [] := KK.ext E8
  have V_x1 : own_Ar Z h7 x1 .byte [(.int (0 : Int32)), (.int (0 : Int32)), (.int (0 : Int32)), (.int (0 : Int32)), (.int (0 : Int32)), (.int (0 : Int32)), (.int (0 : Int32)), (.int (0 : Int32)), (.int (0 : Int32)), (.int (0 : Int32)), (.int (0 : Int32)), (.int (0 : Int32)), (.int (0 : Int32)), (.int (0 : Int32)), (.int (0 : Int32)), (.int (0 : Int32)), (.int (0 : Int32)), (.int (0 : Int32)), (.int (0 : Int32)), (.int (0 : Int32)), (.int (0 : Int32)), (.int (0 : Int32)), (.int (0 : Int32)), (.int (0 : Int32)), (.int (0 : Int32)), (.int (0 : Int32)), (.int (0 : Int32)), (.int (0 : Int32)), (.int (0 : Int32)), (.int (0 : Int32)), (.int (0 : Int32)), (.int (0 : Int32)), (.int (0 : Int32)), (.int (0 : Int32))] := V_x1
  have A10 : own_R p l e _ _ m _ below meth c S0 n0 h7 1 34 (mkF m 17 #[.val (.ref o0), .val (.int (34 : Int32)), .unset] [(.ref x1)]) := A9
  have A11 := A10.go (f' := mkF m 18 #[.val (.ref o0), .val (.int (34 : Int32)), .val (.ref x1)] []) fun _ _ X _ k => XS.astoreN X.here hx rfl (hb hby dm31_17) rfl rfl (l' := #[.val (.ref o0), .val (.int (34 : Int32)), .val (.ref x1)]) rfl k
  have A12 := A11.go (f' := mkF m 19 #[.val (.ref o0), .val (.int (34 : Int32)), .val (.ref x1)] [(.ref o0)]) fun _ _ X _ k => XS.aloadN X.here hx rfl (hb hby dm31_18) rfl rfl k
  have A13 := A12.go (f' := mkF m 20 #[.val (.ref o0), .val (.int (34 : Int32)), .val (.ref x1)] [(.int (0 : Int32)), (.ref o0)]) fun _ _ X _ k => XS.iconst X.here hx rfl (hb hby dm31_19) k
  have A14 := A13.go (f' := mkF m 21 #[.val (.ref o0), .val (.int (34 : Int32)), .val (.ref x1)] [(.ref x1), (.int (0 : Int32)), (.ref o0)]) fun _ _ X _ k => XS.aloadN X.here hx rfl (hb hby dm31_20) rfl rfl k
  have A15 := A14.go (f' := mkF m 22 #[.val (.ref o0), .val (.int (34 : Int32)), .val (.ref x1)] [(.int (0 : Int32)), (.ref x1), (.int (0 : Int32)), (.ref o0)]) fun _ _ X _ k => XS.iconst X.here hx rfl (hb hby dm31_21) k
  have A16 := A15.go (f' := mkF m 23 #[.val (.ref o0), .val (.int (34 : Int32)), .val (.ref x1)] [(.ref o0), (.int (0 : Int32)), (.ref x1), (.int (0 : Int32)), (.ref o0)]) fun _ _ X _ k => XS.aloadN X.here hx rfl (hb hby dm31_22) rfl rfl k
  have A17 : own_R p l e _ _ m _ below meth c S0 n0 h7 1 34 (mkF m 24 #[.val (.ref o0), .val (.int (34 : Int32)), .val (.ref x1)] [(.int (16 : Int32)), (.int (0 : Int32)), (.ref x1), (.int (0 : Int32)), (.ref o0)]) := A16.len hx hZ (hb hby dm31_23) V_o0
  have A18 := A17.go (f' := mkF m 25 #[.val (.ref o0), .val (.int (34 : Int32)), .val (.ref x1)] [(.int (34 : Int32)), (.int (16 : Int32)), (.int (0 : Int32)), (.ref x1), (.int (0 : Int32)), (.ref o0)]) fun _ _ X _ k => XS.iloadN X.here hx rfl (hb hby dm31_24) rfl k
  obtain ⟨vA19, hA19, ⟨rfl, rfl⟩, A19⟩ := A18.callS (own_c91 l Z a0 hw h7 n0 Z0) hx hZ hown (hb hby dm31_25) (hw _ (List.mem_of_getElem? (i := 196) rfl)) (hw _ (List.mem_of_getElem? (i := 197) rfl)) (hw _ (List.mem_of_getElem? (i := 188) rfl)) (hw _ (List.mem_of_getElem? (i := 198) rfl)) ⟨by decide, by decide⟩ (lenOf pd__28II_29I rfl) (argsL := [(.int (16 : Int32)), (.int (34 : Int32))]) (rest := [(.int (0 : Int32)), (.ref x1), (.int (0 : Int32)), (.ref o0)]) rfl rfl (by rw [hml]; rfl) (W := 4) (Nat.le_of_eq rfl) (by decide) (by decide) (by decide) (by decide)
  have A20 : own_R p l e _ _ m _ below meth c S0 n0 h7 1 34 (mkF m 28 #[.val (.ref o0), .val (.int (34 : Int32)), .val (.ref x1)] [(.int (16 : Int32)), (.int (0 : Int32)), (.ref x1), (.int (0 : Int32)), (.ref o0)]) := A19
  obtain ⟨hA21, KA21, P_V_x1, A21⟩ := A20.cpA (vr := [(.int (104 : Int32)), (.int (116 : Int32)), (.int (116 : Int32)), (.int (112 : Int32)), (.int (58 : Int32)), (.int (47 : Int32)), (.int (47 : Int32)), (.int (49 : Int32)), (.int (50 : Int32)), (.int (55 : Int32)), (.int (46 : Int32)), (.int (48 : Int32)), (.int (46 : Int32)), (.int (48 : Int32)), (.int (46 : Int32)), (.int (49 : Int32)), (.int (0 : Int32)), (.int (0 : Int32)), (.int (0 : Int32)), (.int (0 : Int32)), (.int (0 : Int32)), (.int (0 : Int32)), (.int (0 : Int32)), (.int (0 : Int32)), (.int (0 : Int32)), (.int (0 : Int32)), (.int (0 : Int32)), (.int (0 : Int32)), (.int (0 : Int32)), (.int (0 : Int32)), (.int (0 : Int32)), (.int (0 : Int32)), (.int (0 : Int32)), (.int (0 : Int32))]) hx hZ hown (hb hby dm31_28) (hw _ (List.mem_of_getElem? (i := 199) rfl)) (hw _ (List.mem_of_getElem? (i := 175) rfl)) (hw _ (List.mem_of_getElem? (i := 173) rfl)) (hw _ (List.mem_of_getElem? (i := 174) rfl)) V_o0 V_x1 rfl (by decide) (by decide) (z1 := (16 : Int32)) (z2 := (34 : Int32)) (by decide) (by decide) (by decide) (by decide) (by decide) (by decide) (by decide) (by decide) (by decide) rfl rfl g_x1 (by rw [hml]; rfl) (W := 0) (Nat.le_of_eq rfl) (by decide) (by decide)
  have V_o0 : own_Ar Z hA21 o0 .byte [(.int (104 : Int32)), (.int (116 : Int32)), (.int (116 : Int32)), (.int (112 : Int32)), (.int (58 : Int32)), (.int (47 : Int32)), (.int (47 : Int32)), (.int (49 : Int32)), (.int (50 : Int32)), (.int (55 : Int32)), (.int (46 : Int32)), (.int (48 : Int32)), (.int (46 : Int32)), (.int (48 : Int32)), (.int (46 : Int32)), (.int (49 : Int32))] := V_o0.keep KA21 (ninS ne_o0_x1 nin0)
  have Z0 : n0 ≤ hA21.size := Nat.le_trans Z0 KA21.1
  have KK : Keep h0 hA21 [] := KK.trans KA21 (allS (P := fun x => x ∈ ([] : List Addr) ∨ h0.size ≤ x) (Or.inr sz_x1) all0)
  have V_x1 := P_V_x1
  have A22 : own_R p l e _ _ m _ below meth c S0 n0 hA21 1 34 (mkF m 31 #[.val (.ref o0), .val (.int (34 : Int32)), .val (.ref x1)] []) := A21
  have A23 := A22.go (f' := mkF m 32 #[.val (.ref o0), .val (.int (34 : Int32)), .val (.ref x1)] [(.ref x1)]) fun _ _ X _ k => XS.aloadN X.here hx rfl (hb hby dm31_31) rfl rfl k
  exact A23.ret hx hlk hret (hb hby dm31_32) rfl (Or.inr (Or.inr (Or.inr (Or.inr ⟨rfl, rfl, rfl⟩)))) (by decide) (by decide) ⟨x1, rfl, KK, sz_x1, V_x1⟩
theorem ef_own_c93 (m : MethodId) (o0 : Addr) : entryFrame m #[(.ref o0), (.int (17 : Int32))] 3 = mkF m 0 #[.val (.ref o0), .val (.int (17 : Int32)), .unset] [] := by first | (simp [entryFrame, mkF, argsToLocals, Value.category, maxLocals]; done) | rfl
set_option maxRecDepth 65536 in
set_option maxHeartbeats 40000000 in
theorem own_c93 (l : Launch) (Z : State) (a0 : Array Value) (hw : ∀ d ∈ tables_1, d.before a0 Z = true) (o0 o1 : Addr) (h0 : Heap) (n0 : Nat) (Z0 : n0 ≤ h0.size) (E_o0 : Exa Z h0 o0 "java/lang/StringBuilder") (F_o0_value : Fld Z h0 o0 "java/lang/AbstractStringBuilder" "value" "[B" (.ref o1)) (F_o0_coder : Fld Z h0 o0 "java/lang/AbstractStringBuilder" "coder" "B" (.int (0 : Int32))) (F_o0_count : Fld Z h0 o0 "java/lang/AbstractStringBuilder" "count" "I" (.int (16 : Int32))) (V_o1 : own_Ar Z h0 o1 .byte [(.int (104 : Int32)), (.int (116 : Int32)), (.int (116 : Int32)), (.int (112 : Int32)), (.int (58 : Int32)), (.int (47 : Int32)), (.int (47 : Int32)), (.int (49 : Int32)), (.int (50 : Int32)), (.int (55 : Int32)), (.int (46 : Int32)), (.int (48 : Int32)), (.int (46 : Int32)), (.int (48 : Int32)), (.int (46 : Int32)), (.int (49 : Int32))]) (ne_o1_o0 : o1 ≠ o0) (g_o0 : n0 ≤ o0) :
    own_M l Z (⟨"java/lang/AbstractStringBuilder", "ensureCapacityInternal", "(I)V"⟩ : MethodName) jdk_68_method_9_code 3 none [] ({ frames := 3, cells := 1, slots := 34, locals := 48 } : Room) #[(.ref o0), (.int (17 : Int32))] h0 n0 (fun v h => ∃ x1 : Addr, v = none ∧ Keep h0 h [o0] ∧ h0.size ≤ x1 ∧ Fld Z h o0 "java/lang/AbstractStringBuilder" "value" "[B" (.ref x1) ∧ Fld Z h o0 "java/lang/AbstractStringBuilder" "coder" "B" (.int (0 : Int32)) ∧ Fld Z h o0 "java/lang/AbstractStringBuilder" "count" "I" (.int (16 : Int32)) ∧ own_Ar Z h x1 .byte [(.int (104 : Int32)), (.int (116 : Int32)), (.int (116 : Int32)), (.int (112 : Int32)), (.int (58 : Int32)), (.int (47 : Int32)), (.int (47 : Int32)), (.int (49 : Int32)), (.int (50 : Int32)), (.int (55 : Int32)), (.int (46 : Int32)), (.int (48 : Int32)), (.int (46 : Int32)), (.int (48 : Int32)), (.int (46 : Int32)), (.int (49 : Int32)), (.int (0 : Int32)), (.int (0 : Int32)), (.int (0 : Int32)), (.int (0 : Int32)), (.int (0 : Int32)), (.int (0 : Int32)), (.int (0 : Int32)), (.int (0 : Int32)), (.int (0 : Int32)), (.int (0 : Int32)), (.int (0 : Int32)), (.int (0 : Int32)), (.int (0 : Int32)), (.int (0 : Int32)), (.int (0 : Int32)), (.int (0 : Int32)), (.int (0 : Int32)), (.int (0 : Int32))]) := by
  refine own_M.of (plainFor_of_name (by first | (simp [plainName, overriddenIn]; done) | decide +kernel)) ?_
  intro p e s m below meth c S0 hx hby hml hown hnm hret hlk hZ A00
  have A0 := A00.cast (ef_own_c93 m o0)
  have KK : Keep h0 h0 ([o0] : List Addr) := Keep.refl _ _
  have A1 := A0.go (f' := mkF m 1 #[.val (.ref o0), .val (.int (17 : Int32)), .unset] [(.ref o0)]) fun _ _ X _ k => XS.aloadN X.here hx rfl (hb hby dm24_0) rfl rfl k
  have A2 : own_R p l e _ _ m _ below meth c S0 n0 h0 0 0 (mkF m 4 #[.val (.ref o0), .val (.int (17 : Int32)), .unset] [(.ref o1)]) := A1.getF hx hZ hown (hb hby dm24_1) (hw _ (List.mem_of_getElem? (i := 130) rfl)) Via.refl F_o0_value
  have A3 : own_R p l e _ _ m _ below meth c S0 n0 h0 0 0 (mkF m 5 #[.val (.ref o0), .val (.int (17 : Int32)), .unset] [(.int (16 : Int32))]) := A2.len hx hZ (hb hby dm24_4) V_o1
  have A4 := A3.go (f' := mkF m 6 #[.val (.ref o0), .val (.int (17 : Int32)), .unset] [(.ref o0), (.int (16 : Int32))]) fun _ _ X _ k => XS.aloadN X.here hx rfl (hb hby dm24_5) rfl rfl k
  have A5 : own_R p l e _ _ m _ below meth c S0 n0 h0 0 0 (mkF m 9 #[.val (.ref o0), .val (.int (17 : Int32)), .unset] [(.int (0 : Int32)), (.int (16 : Int32))]) := A4.getF hx hZ hown (hb hby dm24_6) (hw _ (List.mem_of_getElem? (i := 132) rfl)) Via.refl F_o0_coder
  have A6 := A5.go (f' := mkF m 10 #[.val (.ref o0), .val (.int (17 : Int32)), .unset] [(.int (16 : Int32))]) fun _ _ X _ k => XS.ishr X.here hx rfl (hb hby dm24_9) rfl k
  have A7 := A6.go (f' := mkF m 11 #[.val (.ref o0), .val (.int (17 : Int32)), .val (.int (16 : Int32))] []) fun _ _ X _ k => XS.istoreN X.here hx rfl (hb hby dm24_10) rfl (l' := #[.val (.ref o0), .val (.int (17 : Int32)), .val (.int (16 : Int32))]) rfl k
  have A8 := A7.go (f' := mkF m 12 #[.val (.ref o0), .val (.int (17 : Int32)), .val (.int (16 : Int32))] [(.int (17 : Int32))]) fun _ _ X _ k => XS.iloadN X.here hx rfl (hb hby dm24_11) rfl k
  have A9 := A8.go (f' := mkF m 13 #[.val (.ref o0), .val (.int (17 : Int32)), .val (.int (16 : Int32))] [(.int (16 : Int32)), (.int (17 : Int32))]) fun _ _ X _ k => XS.iloadN X.here hx rfl (hb hby dm24_12) rfl k
  have A10 := A9.go (f' := mkF m 14 #[.val (.ref o0), .val (.int (17 : Int32)), .val (.int (16 : Int32))] [(.int (1 : Int32))]) fun _ _ X _ k => XS.isub X.here hx rfl (hb hby dm24_13) rfl k
  have q11 : ((0 : Int32) < (1 : Int32)) := by decide
  have A12 := A10.go (f' := mkF m 17 #[.val (.ref o0), .val (.int (17 : Int32)), .val (.int (16 : Int32))] []) fun _ _ X _ k => XS.ifNo X.here hx rfl (hb hby dm24_14) rfl ((if0 _ _).trans (tlt q11).2.2.2) k
  have A13 := A12.go (f' := mkF m 18 #[.val (.ref o0), .val (.int (17 : Int32)), .val (.int (16 : Int32))] [(.ref o0)]) fun _ _ X _ k => XS.aloadN X.here hx rfl (hb hby dm24_17) rfl rfl k
  have A14 := A13.go (f' := mkF m 19 #[.val (.ref o0), .val (.int (17 : Int32)), .val (.int (16 : Int32))] [(.ref o0), (.ref o0)]) fun _ _ X _ k => XS.aloadN X.here hx rfl (hb hby dm24_18) rfl rfl k
  have A15 : own_R p l e _ _ m _ below meth c S0 n0 h0 0 0 (mkF m 22 #[.val (.ref o0), .val (.int (17 : Int32)), .val (.int (16 : Int32))] [(.ref o1), (.ref o0)]) := A14.getF hx hZ hown (hb hby dm24_19) (hw _ (List.mem_of_getElem? (i := 130) rfl)) Via.refl F_o0_value
  have A16 := A15.go (f' := mkF m 23 #[.val (.ref o0), .val (.int (17 : Int32)), .val (.int (16 : Int32))] [(.ref o0), (.ref o1), (.ref o0)]) fun _ _ X _ k => XS.aloadN X.here hx rfl (hb hby dm24_22) rfl rfl k
  have A17 := A16.go (f' := mkF m 24 #[.val (.ref o0), .val (.int (17 : Int32)), .val (.int (16 : Int32))] [(.int (17 : Int32)), (.ref o0), (.ref o1), (.ref o0)]) fun _ _ X _ k => XS.iloadN X.here hx rfl (hb hby dm24_23) rfl k
  obtain ⟨vA18, hA18, ⟨rfl, rfl⟩, A18⟩ := A17.callV (b := o0) (own_c88 l Z a0 hw o0 o1 h0 n0 Z0 F_o0_value F_o0_coder V_o1) E_o0 hx hZ hown (hb hby dm24_24) (hw _ (List.mem_of_getElem? (i := 177) rfl)) (own_declares (hw _ (List.mem_of_getElem? (i := 178) rfl)) (hw _ (List.mem_of_getElem? (i := 181) rfl))) (hw _ (List.mem_of_getElem? (i := 180) rfl)) (hw _ (List.mem_of_getElem? (i := 178) rfl)) (hw _ (List.mem_of_getElem? (i := 181) rfl)) (hw _ (List.mem_of_getElem? (i := 126) rfl)) (own_nf (y' := (⟨"java/lang/AbstractStringBuilder", "ensureCapacityInternal", "(I)V"⟩ : MethodName)) (hw _ (List.mem_of_getElem? (i := 154) rfl)) rfl) ⟨by decide, by decide⟩ (lenOf pd__28I_29I rfl) (argsL := [(.int (17 : Int32))]) (rest := [(.ref o1), (.ref o0)]) rfl rfl (by rw [hml]; rfl) (W := 2) (Nat.le_of_eq rfl) (by decide) (by decide) (by decide) (by decide)
  have A19 : own_R p l e _ _ m _ below meth c S0 n0 h0 0 0 (mkF m 27 #[.val (.ref o0), .val (.int (17 : Int32)), .val (.int (16 : Int32))] [(.int (34 : Int32)), (.ref o1), (.ref o0)]) := A18
  have A20 := A19.go (f' := mkF m 28 #[.val (.ref o0), .val (.int (17 : Int32)), .val (.int (16 : Int32))] [(.ref o0), (.int (34 : Int32)), (.ref o1), (.ref o0)]) fun _ _ X _ k => XS.aloadN X.here hx rfl (hb hby dm24_27) rfl rfl k
  have A21 : own_R p l e _ _ m _ below meth c S0 n0 h0 0 0 (mkF m 31 #[.val (.ref o0), .val (.int (17 : Int32)), .val (.int (16 : Int32))] [(.int (0 : Int32)), (.int (34 : Int32)), (.ref o1), (.ref o0)]) := A20.getF hx hZ hown (hb hby dm24_28) (hw _ (List.mem_of_getElem? (i := 132) rfl)) Via.refl F_o0_coder
  have A22 := A21.go (f' := mkF m 32 #[.val (.ref o0), .val (.int (17 : Int32)), .val (.int (16 : Int32))] [(.int (34 : Int32)), (.ref o1), (.ref o0)]) fun _ _ X _ k => XS.ishl X.here hx rfl (hb hby dm24_31) rfl k
  obtain ⟨vA23, hA23, ⟨x1, rfl, KA23, zz_x1, P_V_x1⟩, A23⟩ := A22.callS (own_c92 l Z a0 hw o1 h0 n0 Z0 V_o1) hx hZ hown (hb hby dm24_32) (hw _ (List.mem_of_getElem? (i := 192) rfl)) (hw _ (List.mem_of_getElem? (i := 193) rfl)) (hw _ (List.mem_of_getElem? (i := 194) rfl)) (hw _ (List.mem_of_getElem? (i := 195) rfl)) ⟨by decide, by decide⟩ (lenOf pd__28_5bBI_29_5bB rfl) (argsL := [(.ref o1), (.int (34 : Int32))]) (rest := [(.ref o0)]) rfl rfl (by rw [hml]; rfl) (W := 1) (Nat.le_of_eq rfl) (by decide) (by decide) (by decide) (by decide)
  have ne_o0_x1 : o0 ≠ x1 := Nat.ne_of_lt (Nat.lt_of_lt_of_le E_o0.lt zz_x1)
  have ne_x1_o0 := Ne.symm ne_o0_x1
  have ne_o1_x1 : o1 ≠ x1 := Nat.ne_of_lt (Nat.lt_of_lt_of_le V_o1.lt zz_x1)
  have ne_x1_o1 := Ne.symm ne_o1_x1
  have g_x1 : n0 ≤ x1 := Nat.le_trans Z0 zz_x1
  have sz_x1 : h0.size ≤ x1 := Nat.le_trans KK.1 zz_x1
  have E_o0 : Exa Z hA23 o0 "java/lang/StringBuilder" := E_o0.keep KA23
  have F_o0_value : Fld Z hA23 o0 "java/lang/AbstractStringBuilder" "value" "[B" (.ref o1) := F_o0_value.keep KA23 nin0
  have F_o0_coder : Fld Z hA23 o0 "java/lang/AbstractStringBuilder" "coder" "B" (.int (0 : Int32)) := F_o0_coder.keep KA23 nin0
  have F_o0_count : Fld Z hA23 o0 "java/lang/AbstractStringBuilder" "count" "I" (.int (16 : Int32)) := F_o0_count.keep KA23 nin0
  have V_o1 : own_Ar Z hA23 o1 .byte [(.int (104 : Int32)), (.int (116 : Int32)), (.int (116 : Int32)), (.int (112 : Int32)), (.int (58 : Int32)), (.int (47 : Int32)), (.int (47 : Int32)), (.int (49 : Int32)), (.int (50 : Int32)), (.int (55 : Int32)), (.int (46 : Int32)), (.int (48 : Int32)), (.int (46 : Int32)), (.int (48 : Int32)), (.int (46 : Int32)), (.int (49 : Int32))] := V_o1.keep KA23 nin0
  have Z0 : n0 ≤ hA23.size := Nat.le_trans Z0 KA23.1
  have KK : Keep h0 hA23 [o0] := KK.trans KA23 all0
  have V_x1 : own_Ar Z hA23 x1 .byte [(.int (104 : Int32)), (.int (116 : Int32)), (.int (116 : Int32)), (.int (112 : Int32)), (.int (58 : Int32)), (.int (47 : Int32)), (.int (47 : Int32)), (.int (49 : Int32)), (.int (50 : Int32)), (.int (55 : Int32)), (.int (46 : Int32)), (.int (48 : Int32)), (.int (46 : Int32)), (.int (48 : Int32)), (.int (46 : Int32)), (.int (49 : Int32)), (.int (0 : Int32)), (.int (0 : Int32)), (.int (0 : Int32)), (.int (0 : Int32)), (.int (0 : Int32)), (.int (0 : Int32)), (.int (0 : Int32)), (.int (0 : Int32)), (.int (0 : Int32)), (.int (0 : Int32)), (.int (0 : Int32)), (.int (0 : Int32)), (.int (0 : Int32)), (.int (0 : Int32)), (.int (0 : Int32)), (.int (0 : Int32)), (.int (0 : Int32)), (.int (0 : Int32))] := P_V_x1
  have A24 : own_R p l e _ _ m _ below meth c S0 n0 hA23 1 34 (mkF m 35 #[.val (.ref o0), .val (.int (17 : Int32)), .val (.int (16 : Int32))] [(.ref x1), (.ref o0)]) := A23
  obtain ⟨h25, W26, A27⟩ := A24.putF hx hZ hown (hb hby dm24_35) (hw _ (List.mem_of_getElem? (i := 130) rfl)) F_o0_value E_o0 (Or.inl (hw _ (List.mem_of_getElem? (i := 131) rfl))) (hw _ (List.mem_of_getElem? (i := 117) rfl)) (ty := (.array .byte)) (by decide) rfl rfl g_o0
  have E_o0 : Exa Z h25 o0 "java/lang/StringBuilder" := E_o0.wr W26
  have F_o0_value : Fld Z h25 o0 "java/lang/AbstractStringBuilder" "value" "[B" (.ref x1) := F_o0_value.same W26
  have F_o0_coder : Fld Z h25 o0 "java/lang/AbstractStringBuilder" "coder" "B" (.int (0 : Int32)) := F_o0_coder.other W26 (Or.inr (slot_ne (Or.inl (hw _ (List.mem_of_getElem? (i := 133) rfl))) (Or.inl (hw _ (List.mem_of_getElem? (i := 131) rfl))) (by decide) (t := .byte) (t' := (.array .byte)) (by decide) (by decide)))
  have F_o0_count : Fld Z h25 o0 "java/lang/AbstractStringBuilder" "count" "I" (.int (16 : Int32)) := F_o0_count.other W26 (Or.inr (slot_ne (Or.inl (hw _ (List.mem_of_getElem? (i := 150) rfl))) (Or.inl (hw _ (List.mem_of_getElem? (i := 131) rfl))) (by decide) (t := .int) (t' := (.array .byte)) (by decide) (by decide)))
  have V_o1 : own_Ar Z h25 o1 .byte [(.int (104 : Int32)), (.int (116 : Int32)), (.int (116 : Int32)), (.int (112 : Int32)), (.int (58 : Int32)), (.int (47 : Int32)), (.int (47 : Int32)), (.int (49 : Int32)), (.int (50 : Int32)), (.int (55 : Int32)), (.int (46 : Int32)), (.int (48 : Int32)), (.int (46 : Int32)), (.int (48 : Int32)), (.int (46 : Int32)), (.int (49 : Int32))] := V_o1.other W26 ne_o1_o0
  have V_x1 : own_Ar Z h25 x1 .byte [(.int (104 : Int32)), (.int (116 : Int32)), (.int (116 : Int32)), (.int (112 : Int32)), (.int (58 : Int32)), (.int (47 : Int32)), (.int (47 : Int32)), (.int (49 : Int32)), (.int (50 : Int32)), (.int (55 : Int32)), (.int (46 : Int32)), (.int (48 : Int32)), (.int (46 : Int32)), (.int (48 : Int32)), (.int (46 : Int32)), (.int (49 : Int32)), (.int (0 : Int32)), (.int (0 : Int32)), (.int (0 : Int32)), (.int (0 : Int32)), (.int (0 : Int32)), (.int (0 : Int32)), (.int (0 : Int32)), (.int (0 : Int32)), (.int (0 : Int32)), (.int (0 : Int32)), (.int (0 : Int32)), (.int (0 : Int32)), (.int (0 : Int32)), (.int (0 : Int32)), (.int (0 : Int32)), (.int (0 : Int32)), (.int (0 : Int32)), (.int (0 : Int32))] := V_x1.other W26 ne_x1_o0
  have Z0 : n0 ≤ h25.size := by rw [W26.size]; exact Z0
  have KK : Keep h0 h25 [o0] := KK.wr W26 (Or.inl (by simp))
  have A28 : own_R p l e _ _ m _ below meth c S0 n0 h25 1 34 (mkF m 38 #[.val (.ref o0), .val (.int (17 : Int32)), .val (.int (16 : Int32))] []) := A27
  exact A28.retV hx hlk hret (hb hby dm24_38) (by decide) (by decide) ⟨x1, rfl, KK, sz_x1, F_o0_value, F_o0_coder, F_o0_count, V_x1⟩
theorem ef_own_c96 (m : MethodId) (o0 : Addr) (o1 : Addr) : entryFrame m #[(.ref o0), (.ref o1), (.int (16 : Int32)), (.int (0 : Int32))] 4 = mkF m 0 #[.val (.ref o0), .val (.ref o1), .val (.int (16 : Int32)), .val (.int (0 : Int32))] [] := by first | (simp [entryFrame, mkF, argsToLocals, Value.category, maxLocals]; done) | rfl
set_option maxRecDepth 65536 in
set_option maxHeartbeats 40000000 in
theorem own_c96 (l : Launch) (Z : State) (a0 : Array Value) (hw : ∀ d ∈ tables_1, d.before a0 Z = true) (o0 o1 o2 : Addr) (cs : Int32) (h0 : Heap) (n0 : Nat) (Z0 : n0 ≤ h0.size) (E_o0 : Exa Z h0 o0 "java/lang/String") (F_o0_coder : Fld Z h0 o0 "java/lang/String" "coder" "B" (.int (0 : Int32))) (F_o0_value : Fld Z h0 o0 "java/lang/String" "value" "[B" (.ref o2)) (V_o1 : own_Ar Z h0 o1 .byte [(.int (104 : Int32)), (.int (116 : Int32)), (.int (116 : Int32)), (.int (112 : Int32)), (.int (58 : Int32)), (.int (47 : Int32)), (.int (47 : Int32)), (.int (49 : Int32)), (.int (50 : Int32)), (.int (55 : Int32)), (.int (46 : Int32)), (.int (48 : Int32)), (.int (46 : Int32)), (.int (48 : Int32)), (.int (46 : Int32)), (.int (49 : Int32)), (.int (0 : Int32)), (.int (0 : Int32)), (.int (0 : Int32)), (.int (0 : Int32)), (.int (0 : Int32)), (.int (0 : Int32)), (.int (0 : Int32)), (.int (0 : Int32)), (.int (0 : Int32)), (.int (0 : Int32)), (.int (0 : Int32)), (.int (0 : Int32)), (.int (0 : Int32)), (.int (0 : Int32)), (.int (0 : Int32)), (.int (0 : Int32)), (.int (0 : Int32)), (.int (0 : Int32))]) (V_o2 : own_Ar Z h0 o2 .byte [(.int (58 : Int32))]) (S_cs : Sta Z h0 "java/lang/String" "COMPACT_STRINGS" "Z" (.int cs)) (hcs : ¬ (cs = (0 : Int32))) (ne_o0_o1 : o0 ≠ o1) (ne_o2_o1 : o2 ≠ o1) (g_o1 : n0 ≤ o1) :
    own_M l Z (⟨"java/lang/String", "getBytes", "([BIB)V"⟩ : MethodName) jdk_42_method_147_code 4 none [] ({ frames := 1, cells := 0, slots := 0, locals := 18 } : Room) #[(.ref o0), (.ref o1), (.int (16 : Int32)), (.int (0 : Int32))] h0 n0 (fun v h => v = none ∧ Keep h0 h [o1] ∧ own_Ar Z h o1 .byte [(.int (104 : Int32)), (.int (116 : Int32)), (.int (116 : Int32)), (.int (112 : Int32)), (.int (58 : Int32)), (.int (47 : Int32)), (.int (47 : Int32)), (.int (49 : Int32)), (.int (50 : Int32)), (.int (55 : Int32)), (.int (46 : Int32)), (.int (48 : Int32)), (.int (46 : Int32)), (.int (48 : Int32)), (.int (46 : Int32)), (.int (49 : Int32)), (.int (58 : Int32)), (.int (0 : Int32)), (.int (0 : Int32)), (.int (0 : Int32)), (.int (0 : Int32)), (.int (0 : Int32)), (.int (0 : Int32)), (.int (0 : Int32)), (.int (0 : Int32)), (.int (0 : Int32)), (.int (0 : Int32)), (.int (0 : Int32)), (.int (0 : Int32)), (.int (0 : Int32)), (.int (0 : Int32)), (.int (0 : Int32)), (.int (0 : Int32)), (.int (0 : Int32))]) := by
  refine own_M.of (plainFor_of_name (by first | (simp [plainName, overriddenIn]; done) | decide +kernel)) ?_
  intro p e s m below meth c S0 hx hby hml hown hnm hret hlk hZ A00
  have A0 := A00.cast (ef_own_c96 m o0 o1)
  have KK : Keep h0 h0 ([o1] : List Addr) := Keep.refl _ _
  have A1 := A0.go (f' := mkF m 1 #[.val (.ref o0), .val (.ref o1), .val (.int (16 : Int32)), .val (.int (0 : Int32))] [(.ref o0)]) fun _ _ X _ k => XS.aloadN X.here hx rfl (hb hby dm27_0) rfl rfl k
  obtain ⟨vA2, hA2, ⟨rfl, rfl⟩, A2⟩ := A1.callV (b := o0) (own_c27 l Z a0 hw o0 cs h0 n0 Z0 F_o0_coder S_cs hcs) E_o0 hx hZ hown (hb hby dm27_1) (hw _ (List.mem_of_getElem? (i := 96) rfl)) (hw _ (List.mem_of_getElem? (i := 97) rfl)) (hw _ (List.mem_of_getElem? (i := 99) rfl)) (hw _ (List.mem_of_getElem? (i := 98) rfl)) (hw _ (List.mem_of_getElem? (i := 100) rfl)) (hw _ (List.mem_of_getElem? (i := 8) rfl)) (own_nf (y' := (⟨"java/lang/String", "contains", "(Ljava/lang/CharSequence;)Z"⟩ : MethodName)) (hw _ (List.mem_of_getElem? (i := 80) rfl)) rfl) ⟨by decide, by decide⟩ (lenOf pd__28_29B rfl) (argsL := []) (rest := []) rfl rfl (by rw [hml]; rfl) (W := 0) (Nat.le_of_eq rfl) (by decide) (by decide) (by decide) (by decide)
  have A3 : own_R p l e _ _ m _ below meth c S0 n0 h0 0 0 (mkF m 4 #[.val (.ref o0), .val (.ref o1), .val (.int (16 : Int32)), .val (.int (0 : Int32))] [(.int (0 : Int32))]) := A2
  have A4 := A3.go (f' := mkF m 5 #[.val (.ref o0), .val (.ref o1), .val (.int (16 : Int32)), .val (.int (0 : Int32))] [(.int (0 : Int32)), (.int (0 : Int32))]) fun _ _ X _ k => XS.iloadN X.here hx rfl (hb hby dm27_4) rfl k
  have q5 : ((0 : Int32) = (0 : Int32)) := rfl
  have A6 := A4.go (f' := mkF m 8 #[.val (.ref o0), .val (.ref o1), .val (.int (16 : Int32)), .val (.int (0 : Int32))] []) fun _ _ X _ k => XS.icmpNo X.here hx rfl (hb hby dm27_5) rfl ((teq q5).2) k
  have A7 := A6.go (f' := mkF m 9 #[.val (.ref o0), .val (.ref o1), .val (.int (16 : Int32)), .val (.int (0 : Int32))] [(.ref o0)]) fun _ _ X _ k => XS.aloadN X.here hx rfl (hb hby dm27_8) rfl rfl k
  have A8 : own_R p l e _ _ m _ below meth c S0 n0 h0 0 0 (mkF m 12 #[.val (.ref o0), .val (.ref o1), .val (.int (16 : Int32)), .val (.int (0 : Int32))] [(.ref o2)]) := A7.getF hx hZ hown (hb hby dm27_9) (hw _ (List.mem_of_getElem? (i := 108) rfl)) Via.refl F_o0_value
  have A9 := A8.go (f' := mkF m 13 #[.val (.ref o0), .val (.ref o1), .val (.int (16 : Int32)), .val (.int (0 : Int32))] [(.int (0 : Int32)), (.ref o2)]) fun _ _ X _ k => XS.iconst X.here hx rfl (hb hby dm27_12) k
  have A10 := A9.go (f' := mkF m 14 #[.val (.ref o0), .val (.ref o1), .val (.int (16 : Int32)), .val (.int (0 : Int32))] [(.ref o1), (.int (0 : Int32)), (.ref o2)]) fun _ _ X _ k => XS.aloadN X.here hx rfl (hb hby dm27_13) rfl rfl k
  have A11 := A10.go (f' := mkF m 15 #[.val (.ref o0), .val (.ref o1), .val (.int (16 : Int32)), .val (.int (0 : Int32))] [(.int (16 : Int32)), (.ref o1), (.int (0 : Int32)), (.ref o2)]) fun _ _ X _ k => XS.iloadN X.here hx rfl (hb hby dm27_14) rfl k
  have A12 := A11.go (f' := mkF m 16 #[.val (.ref o0), .val (.ref o1), .val (.int (16 : Int32)), .val (.int (0 : Int32))] [(.int (0 : Int32)), (.int (16 : Int32)), (.ref o1), (.int (0 : Int32)), (.ref o2)]) fun _ _ X _ k => XS.iloadN X.here hx rfl (hb hby dm27_15) rfl k
  have A13 := A12.go (f' := mkF m 17 #[.val (.ref o0), .val (.ref o1), .val (.int (16 : Int32)), .val (.int (0 : Int32))] [(.int (16 : Int32)), (.ref o1), (.int (0 : Int32)), (.ref o2)]) fun _ _ X _ k => XS.ishl X.here hx rfl (hb hby dm27_16) rfl k
  have A14 := A13.go (f' := mkF m 18 #[.val (.ref o0), .val (.ref o1), .val (.int (16 : Int32)), .val (.int (0 : Int32))] [(.ref o0), (.int (16 : Int32)), (.ref o1), (.int (0 : Int32)), (.ref o2)]) fun _ _ X _ k => XS.aloadN X.here hx rfl (hb hby dm27_17) rfl rfl k
  have A15 : own_R p l e _ _ m _ below meth c S0 n0 h0 0 0 (mkF m 21 #[.val (.ref o0), .val (.ref o1), .val (.int (16 : Int32)), .val (.int (0 : Int32))] [(.ref o2), (.int (16 : Int32)), (.ref o1), (.int (0 : Int32)), (.ref o2)]) := A14.getF hx hZ hown (hb hby dm27_18) (hw _ (List.mem_of_getElem? (i := 108) rfl)) Via.refl F_o0_value
  have A16 : own_R p l e _ _ m _ below meth c S0 n0 h0 0 0 (mkF m 22 #[.val (.ref o0), .val (.ref o1), .val (.int (16 : Int32)), .val (.int (0 : Int32))] [(.int (1 : Int32)), (.int (16 : Int32)), (.ref o1), (.int (0 : Int32)), (.ref o2)]) := A15.len hx hZ (hb hby dm27_21) V_o2
  obtain ⟨hA17, KA17, P_V_o1, A17⟩ := A16.cpA (vr := [(.int (104 : Int32)), (.int (116 : Int32)), (.int (116 : Int32)), (.int (112 : Int32)), (.int (58 : Int32)), (.int (47 : Int32)), (.int (47 : Int32)), (.int (49 : Int32)), (.int (50 : Int32)), (.int (55 : Int32)), (.int (46 : Int32)), (.int (48 : Int32)), (.int (46 : Int32)), (.int (48 : Int32)), (.int (46 : Int32)), (.int (49 : Int32)), (.int (58 : Int32)), (.int (0 : Int32)), (.int (0 : Int32)), (.int (0 : Int32)), (.int (0 : Int32)), (.int (0 : Int32)), (.int (0 : Int32)), (.int (0 : Int32)), (.int (0 : Int32)), (.int (0 : Int32)), (.int (0 : Int32)), (.int (0 : Int32)), (.int (0 : Int32)), (.int (0 : Int32)), (.int (0 : Int32)), (.int (0 : Int32)), (.int (0 : Int32)), (.int (0 : Int32))]) hx hZ hown (hb hby dm27_22) (hw _ (List.mem_of_getElem? (i := 172) rfl)) (hw _ (List.mem_of_getElem? (i := 175) rfl)) (hw _ (List.mem_of_getElem? (i := 173) rfl)) (hw _ (List.mem_of_getElem? (i := 174) rfl)) V_o2 V_o1 rfl (by decide) (by decide) (z1 := (1 : Int32)) (z2 := (34 : Int32)) (by decide) (by decide) (by decide) (by decide) (by decide) (by decide) (by decide) (by decide) (by decide) rfl rfl g_o1 (by rw [hml]; rfl) (W := 0) (Nat.le_of_eq rfl) (by decide) (by decide)
  have S_cs : Sta Z hA17 "java/lang/String" "COMPACT_STRINGS" "Z" (.int cs) := own_staK S_cs KA17 (allS (P := fun x => ∀ cell : Cell, h0[x]? = some cell → cell.vm.isStatics = false) V_o1.nostat all0)
  have E_o0 : Exa Z hA17 o0 "java/lang/String" := E_o0.keep KA17
  have F_o0_coder : Fld Z hA17 o0 "java/lang/String" "coder" "B" (.int (0 : Int32)) := F_o0_coder.keep KA17 (ninS ne_o0_o1 nin0)
  have F_o0_value : Fld Z hA17 o0 "java/lang/String" "value" "[B" (.ref o2) := F_o0_value.keep KA17 (ninS ne_o0_o1 nin0)
  have V_o2 : own_Ar Z hA17 o2 .byte [(.int (58 : Int32))] := V_o2.keep KA17 (ninS ne_o2_o1 nin0)
  have Z0 : n0 ≤ hA17.size := Nat.le_trans Z0 KA17.1
  have KK : Keep h0 hA17 [o1] := KK.trans KA17 (allS (P := fun x => x ∈ ([o1] : List Addr) ∨ h0.size ≤ x) (Or.inl (by simp)) all0)
  have V_o1 := P_V_o1
  have A18 : own_R p l e _ _ m _ below meth c S0 n0 hA17 0 0 (mkF m 25 #[.val (.ref o0), .val (.ref o1), .val (.int (16 : Int32)), .val (.int (0 : Int32))] []) := A17
  have A19 := A18.go (f' := mkF m 43 #[.val (.ref o0), .val (.ref o1), .val (.int (16 : Int32)), .val (.int (0 : Int32))] []) fun _ _ X _ k => XS.goto X.here hx rfl (pc0 := 25) (pc' := 43) rfl (hb hby dm27_25) (by decide) (by decide) k
  exact A19.retV hx hlk hret (hb hby dm27_43) (by decide) (by decide) ⟨rfl, KK, V_o1⟩
theorem ef_own_c97 (m : MethodId) (o0 : Addr) (o1 : Addr) : entryFrame m #[(.ref o0), (.int (16 : Int32)), (.ref o1)] 3 = mkF m 0 #[.val (.ref o0), .val (.int (16 : Int32)), .val (.ref o1)] [] := by first | (simp [entryFrame, mkF, argsToLocals, Value.category, maxLocals]; done) | rfl
set_option maxRecDepth 65536 in
set_option maxHeartbeats 40000000 in
theorem own_c97 (l : Launch) (Z : State) (a0 : Array Value) (hw : ∀ d ∈ tables_1, d.before a0 Z = true) (o0 o1 o2 o3 : Addr) (cs : Int32) (h0 : Heap) (n0 : Nat) (Z0 : n0 ≤ h0.size) (E_o0 : Exa Z h0 o0 "java/lang/StringBuilder") (F_o0_value : Fld Z h0 o0 "java/lang/AbstractStringBuilder" "value" "[B" (.ref o2)) (F_o0_coder : Fld Z h0 o0 "java/lang/AbstractStringBuilder" "coder" "B" (.int (0 : Int32))) (E_o1 : Exa Z h0 o1 "java/lang/String") (F_o1_coder : Fld Z h0 o1 "java/lang/String" "coder" "B" (.int (0 : Int32))) (F_o1_value : Fld Z h0 o1 "java/lang/String" "value" "[B" (.ref o3)) (V_o2 : own_Ar Z h0 o2 .byte [(.int (104 : Int32)), (.int (116 : Int32)), (.int (116 : Int32)), (.int (112 : Int32)), (.int (58 : Int32)), (.int (47 : Int32)), (.int (47 : Int32)), (.int (49 : Int32)), (.int (50 : Int32)), (.int (55 : Int32)), (.int (46 : Int32)), (.int (48 : Int32)), (.int (46 : Int32)), (.int (48 : Int32)), (.int (46 : Int32)), (.int (49 : Int32)), (.int (0 : Int32)), (.int (0 : Int32)), (.int (0 : Int32)), (.int (0 : Int32)), (.int (0 : Int32)), (.int (0 : Int32)), (.int (0 : Int32)), (.int (0 : Int32)), (.int (0 : Int32)), (.int (0 : Int32)), (.int (0 : Int32)), (.int (0 : Int32)), (.int (0 : Int32)), (.int (0 : Int32)), (.int (0 : Int32)), (.int (0 : Int32)), (.int (0 : Int32)), (.int (0 : Int32))]) (V_o3 : own_Ar Z h0 o3 .byte [(.int (58 : Int32))]) (S_cs : Sta Z h0 "java/lang/String" "COMPACT_STRINGS" "Z" (.int cs)) (hcs : ¬ (cs = (0 : Int32))) (ne_o0_o2 : o0 ≠ o2) (ne_o1_o2 : o1 ≠ o2) (ne_o3_o2 : o3 ≠ o2) (g_o2 : n0 ≤ o2) :
    own_M l Z (⟨"java/lang/AbstractStringBuilder", "putStringAt", "(ILjava/lang/String;)V"⟩ : MethodName) jdk_68_method_73_code 3 none [] ({ frames := 2, cells := 0, slots := 0, locals := 33 } : Room) #[(.ref o0), (.int (16 : Int32)), (.ref o1)] h0 n0 (fun v h => v = none ∧ Keep h0 h [o2] ∧ own_Ar Z h o2 .byte [(.int (104 : Int32)), (.int (116 : Int32)), (.int (116 : Int32)), (.int (112 : Int32)), (.int (58 : Int32)), (.int (47 : Int32)), (.int (47 : Int32)), (.int (49 : Int32)), (.int (50 : Int32)), (.int (55 : Int32)), (.int (46 : Int32)), (.int (48 : Int32)), (.int (46 : Int32)), (.int (48 : Int32)), (.int (46 : Int32)), (.int (49 : Int32)), (.int (58 : Int32)), (.int (0 : Int32)), (.int (0 : Int32)), (.int (0 : Int32)), (.int (0 : Int32)), (.int (0 : Int32)), (.int (0 : Int32)), (.int (0 : Int32)), (.int (0 : Int32)), (.int (0 : Int32)), (.int (0 : Int32)), (.int (0 : Int32)), (.int (0 : Int32)), (.int (0 : Int32)), (.int (0 : Int32)), (.int (0 : Int32)), (.int (0 : Int32)), (.int (0 : Int32))]) := by
  refine own_M.of (plainFor_of_name (by first | (simp [plainName, overriddenIn]; done) | decide +kernel)) ?_
  intro p e s m below meth c S0 hx hby hml hown hnm hret hlk hZ A00
  have A0 := A00.cast (ef_own_c97 m o0 o1)
  have KK : Keep h0 h0 ([o2] : List Addr) := Keep.refl _ _
  have A1 := A0.go (f' := mkF m 1 #[.val (.ref o0), .val (.int (16 : Int32)), .val (.ref o1)] [(.ref o0)]) fun _ _ X _ k => XS.aloadN X.here hx rfl (hb hby dm25_0) rfl rfl k
  have A2 := A1.go (f' := mkF m 2 #[.val (.ref o0), .val (.int (16 : Int32)), .val (.ref o1)] [(.ref o1), (.ref o0)]) fun _ _ X _ k => XS.aloadN X.here hx rfl (hb hby dm25_1) rfl rfl k
  obtain ⟨vA3, hA3, ⟨rfl, rfl⟩, A3⟩ := A2.callV (b := o0) (own_c48 l Z a0 hw o0 o1 cs h0 n0 Z0 F_o0_coder E_o1 F_o1_coder S_cs hcs) E_o0 hx hZ hown (hb hby dm25_2) (hw _ (List.mem_of_getElem? (i := 161) rfl)) (own_declares (hw _ (List.mem_of_getElem? (i := 162) rfl)) (hw _ (List.mem_of_getElem? (i := 165) rfl))) (hw _ (List.mem_of_getElem? (i := 164) rfl)) (hw _ (List.mem_of_getElem? (i := 162) rfl)) (hw _ (List.mem_of_getElem? (i := 165) rfl)) (hw _ (List.mem_of_getElem? (i := 126) rfl)) (own_nf (y' := (⟨"java/lang/AbstractStringBuilder", "ensureCapacityInternal", "(I)V"⟩ : MethodName)) (hw _ (List.mem_of_getElem? (i := 154) rfl)) rfl) ⟨by decide, by decide⟩ (lenOf pd__28Ljava_2flang_2fString_3b_29V rfl) (argsL := [(.ref o1)]) (rest := []) rfl rfl (by rw [hml]; rfl) (W := 0) (Nat.le_of_eq rfl) (by decide) (by decide) (by decide) (by decide)
  have A4 : own_R p l e _ _ m _ below meth c S0 n0 h0 0 0 (mkF m 5 #[.val (.ref o0), .val (.int (16 : Int32)), .val (.ref o1)] []) := A3
  have A5 := A4.go (f' := mkF m 6 #[.val (.ref o0), .val (.int (16 : Int32)), .val (.ref o1)] [(.ref o1)]) fun _ _ X _ k => XS.aloadN X.here hx rfl (hb hby dm25_5) rfl rfl k
  have A6 := A5.go (f' := mkF m 7 #[.val (.ref o0), .val (.int (16 : Int32)), .val (.ref o1)] [(.ref o0), (.ref o1)]) fun _ _ X _ k => XS.aloadN X.here hx rfl (hb hby dm25_6) rfl rfl k
  have A7 : own_R p l e _ _ m _ below meth c S0 n0 h0 0 0 (mkF m 10 #[.val (.ref o0), .val (.int (16 : Int32)), .val (.ref o1)] [(.ref o2), (.ref o1)]) := A6.getF hx hZ hown (hb hby dm25_7) (hw _ (List.mem_of_getElem? (i := 130) rfl)) Via.refl F_o0_value
  have A8 := A7.go (f' := mkF m 11 #[.val (.ref o0), .val (.int (16 : Int32)), .val (.ref o1)] [(.int (16 : Int32)), (.ref o2), (.ref o1)]) fun _ _ X _ k => XS.iloadN X.here hx rfl (hb hby dm25_10) rfl k
  have A9 := A8.go (f' := mkF m 12 #[.val (.ref o0), .val (.int (16 : Int32)), .val (.ref o1)] [(.ref o0), (.int (16 : Int32)), (.ref o2), (.ref o1)]) fun _ _ X _ k => XS.aloadN X.here hx rfl (hb hby dm25_11) rfl rfl k
  have A10 : own_R p l e _ _ m _ below meth c S0 n0 h0 0 0 (mkF m 15 #[.val (.ref o0), .val (.int (16 : Int32)), .val (.ref o1)] [(.int (0 : Int32)), (.int (16 : Int32)), (.ref o2), (.ref o1)]) := A9.getF hx hZ hown (hb hby dm25_12) (hw _ (List.mem_of_getElem? (i := 132) rfl)) Via.refl F_o0_coder
  obtain ⟨vA11, hA11, ⟨rfl, KA11, P_V_o2⟩, A11⟩ := A10.callV (b := o1) (own_c96 l Z a0 hw o1 o2 o3 cs h0 n0 Z0 E_o1 F_o1_coder F_o1_value V_o2 V_o3 S_cs hcs ne_o1_o2 ne_o3_o2 g_o2) E_o1 hx hZ hown (hb hby dm25_15) (hw _ (List.mem_of_getElem? (i := 167) rfl)) (hw _ (List.mem_of_getElem? (i := 168) rfl)) (hw _ (List.mem_of_getElem? (i := 170) rfl)) (hw _ (List.mem_of_getElem? (i := 169) rfl)) (hw _ (List.mem_of_getElem? (i := 171) rfl)) (hw _ (List.mem_of_getElem? (i := 8) rfl)) (own_nf (y' := (⟨"java/lang/String", "contains", "(Ljava/lang/CharSequence;)Z"⟩ : MethodName)) (hw _ (List.mem_of_getElem? (i := 80) rfl)) rfl) ⟨by decide, by decide⟩ (lenOf pd__28_5bBIB_29V rfl) (argsL := [(.ref o2), (.int (16 : Int32)), (.int (0 : Int32))]) (rest := []) rfl rfl (by rw [hml]; rfl) (W := 0) (Nat.le_of_eq rfl) (by decide) (by decide) (by decide) (by decide)
  have S_cs : Sta Z hA11 "java/lang/String" "COMPACT_STRINGS" "Z" (.int cs) := own_staK S_cs KA11 (allS (P := fun x => ∀ cell : Cell, h0[x]? = some cell → cell.vm.isStatics = false) V_o2.nostat all0)
  have E_o0 : Exa Z hA11 o0 "java/lang/StringBuilder" := E_o0.keep KA11
  have F_o0_value : Fld Z hA11 o0 "java/lang/AbstractStringBuilder" "value" "[B" (.ref o2) := F_o0_value.keep KA11 (ninS ne_o0_o2 nin0)
  have F_o0_coder : Fld Z hA11 o0 "java/lang/AbstractStringBuilder" "coder" "B" (.int (0 : Int32)) := F_o0_coder.keep KA11 (ninS ne_o0_o2 nin0)
  have E_o1 : Exa Z hA11 o1 "java/lang/String" := E_o1.keep KA11
  have F_o1_coder : Fld Z hA11 o1 "java/lang/String" "coder" "B" (.int (0 : Int32)) := F_o1_coder.keep KA11 (ninS ne_o1_o2 nin0)
  have F_o1_value : Fld Z hA11 o1 "java/lang/String" "value" "[B" (.ref o3) := F_o1_value.keep KA11 (ninS ne_o1_o2 nin0)
  have V_o3 : own_Ar Z hA11 o3 .byte [(.int (58 : Int32))] := V_o3.keep KA11 (ninS ne_o3_o2 nin0)
  have Z0 : n0 ≤ hA11.size := Nat.le_trans Z0 KA11.1
  have KK : Keep h0 hA11 [o2] := KK.trans KA11 (allS (P := fun x => x ∈ ([o2] : List Addr) ∨ h0.size ≤ x) (Or.inl (by simp)) all0)
  have V_o2 : own_Ar Z hA11 o2 .byte [(.int (104 : Int32)), (.int (116 : Int32)), (.int (116 : Int32)), (.int (112 : Int32)), (.int (58 : Int32)), (.int (47 : Int32)), (.int (47 : Int32)), (.int (49 : Int32)), (.int (50 : Int32)), (.int (55 : Int32)), (.int (46 : Int32)), (.int (48 : Int32)), (.int (46 : Int32)), (.int (48 : Int32)), (.int (46 : Int32)), (.int (49 : Int32)), (.int (58 : Int32)), (.int (0 : Int32)), (.int (0 : Int32)), (.int (0 : Int32)), (.int (0 : Int32)), (.int (0 : Int32)), (.int (0 : Int32)), (.int (0 : Int32)), (.int (0 : Int32)), (.int (0 : Int32)), (.int (0 : Int32)), (.int (0 : Int32)), (.int (0 : Int32)), (.int (0 : Int32)), (.int (0 : Int32)), (.int (0 : Int32)), (.int (0 : Int32)), (.int (0 : Int32))] := P_V_o2
  have A12 : own_R p l e _ _ m _ below meth c S0 n0 hA11 0 0 (mkF m 18 #[.val (.ref o0), .val (.int (16 : Int32)), .val (.ref o1)] []) := A11
  exact A12.retV hx hlk hret (hb hby dm25_18) (by decide) (by decide) ⟨rfl, KK, V_o2⟩
theorem ef_own_c98 (m : MethodId) (o0 : Addr) (o1 : Addr) : entryFrame m #[(.ref o0), (.ref o1)] 3 = mkF m 0 #[.val (.ref o0), .val (.ref o1), .unset] [] := by first | (simp [entryFrame, mkF, argsToLocals, Value.category, maxLocals]; done) | rfl
set_option maxRecDepth 65536 in
set_option maxHeartbeats 40000000 in
theorem own_c98 (l : Launch) (Z : State) (a0 : Array Value) (hw : ∀ d ∈ tables_1, d.before a0 Z = true) (o0 o1 o2 o3 : Addr) (cs : Int32) (h0 : Heap) (n0 : Nat) (Z0 : n0 ≤ h0.size) (E_o0 : Exa Z h0 o0 "java/lang/StringBuilder") (F_o0_value : Fld Z h0 o0 "java/lang/AbstractStringBuilder" "value" "[B" (.ref o2)) (F_o0_coder : Fld Z h0 o0 "java/lang/AbstractStringBuilder" "coder" "B" (.int (0 : Int32))) (F_o0_count : Fld Z h0 o0 "java/lang/AbstractStringBuilder" "count" "I" (.int (16 : Int32))) (E_o1 : Exa Z h0 o1 "java/lang/String") (F_o1_coder : Fld Z h0 o1 "java/lang/String" "coder" "B" (.int (0 : Int32))) (F_o1_value : Fld Z h0 o1 "java/lang/String" "value" "[B" (.ref o3)) (V_o2 : own_Ar Z h0 o2 .byte [(.int (104 : Int32)), (.int (116 : Int32)), (.int (116 : Int32)), (.int (112 : Int32)), (.int (58 : Int32)), (.int (47 : Int32)), (.int (47 : Int32)), (.int (49 : Int32)), (.int (50 : Int32)), (.int (55 : Int32)), (.int (46 : Int32)), (.int (48 : Int32)), (.int (46 : Int32)), (.int (48 : Int32)), (.int (46 : Int32)), (.int (49 : Int32))]) (V_o3 : own_Ar Z h0 o3 .byte [(.int (58 : Int32))]) (S_cs : Sta Z h0 "java/lang/String" "COMPACT_STRINGS" "Z" (.int cs)) (hcs : ¬ (cs = (0 : Int32))) (ne_o1_o0 : o1 ≠ o0) (ne_o2_o0 : o2 ≠ o0) (ne_o3_o0 : o3 ≠ o0) (g_o0 : n0 ≤ o0) :
    own_M l Z (⟨"java/lang/AbstractStringBuilder", "append", "(Ljava/lang/String;)Ljava/lang/AbstractStringBuilder;"⟩ : MethodName) jdk_68_method_22_code 3 (some (.object "java/lang/AbstractStringBuilder")) [] ({ frames := 4, cells := 1, slots := 34, locals := 62 } : Room) #[(.ref o0), (.ref o1)] h0 n0 (fun v h => ∃ x1 : Addr, v = some (.ref o0) ∧ Keep h0 h [o0] ∧ h0.size ≤ x1 ∧ Fld Z h o0 "java/lang/AbstractStringBuilder" "value" "[B" (.ref x1) ∧ Fld Z h o0 "java/lang/AbstractStringBuilder" "coder" "B" (.int (0 : Int32)) ∧ Fld Z h o0 "java/lang/AbstractStringBuilder" "count" "I" (.int (17 : Int32)) ∧ own_Ar Z h x1 .byte [(.int (104 : Int32)), (.int (116 : Int32)), (.int (116 : Int32)), (.int (112 : Int32)), (.int (58 : Int32)), (.int (47 : Int32)), (.int (47 : Int32)), (.int (49 : Int32)), (.int (50 : Int32)), (.int (55 : Int32)), (.int (46 : Int32)), (.int (48 : Int32)), (.int (46 : Int32)), (.int (48 : Int32)), (.int (46 : Int32)), (.int (49 : Int32)), (.int (58 : Int32)), (.int (0 : Int32)), (.int (0 : Int32)), (.int (0 : Int32)), (.int (0 : Int32)), (.int (0 : Int32)), (.int (0 : Int32)), (.int (0 : Int32)), (.int (0 : Int32)), (.int (0 : Int32)), (.int (0 : Int32)), (.int (0 : Int32)), (.int (0 : Int32)), (.int (0 : Int32)), (.int (0 : Int32)), (.int (0 : Int32)), (.int (0 : Int32)), (.int (0 : Int32))]) := by
  refine own_M.of (plainFor_of_name (by first | (simp [plainName, overriddenIn]; done) | decide +kernel)) ?_
  intro p e s m below meth c S0 hx hby hml hown hnm hret hlk hZ A00
  have A0 := A00.cast (ef_own_c98 m o0 o1)
  have KK : Keep h0 h0 ([o0] : List Addr) := Keep.refl _ _
  have A1 := A0.go (f' := mkF m 1 #[.val (.ref o0), .val (.ref o1), .unset] [(.ref o1)]) fun _ _ X _ k => XS.aloadN X.here hx rfl (hb hby dm22_0) rfl rfl k
  have A2 := A1.go (f' := mkF m 9 #[.val (.ref o0), .val (.ref o1), .unset] []) fun _ _ X _ k => XS.ifnonnullYes X.here hx rfl (pc0 := 1) (pc' := 9) rfl (hb hby dm22_1) rfl (by decide) (by decide) k
  have A3 := A2.go (f' := mkF m 10 #[.val (.ref o0), .val (.ref o1), .unset] [(.ref o1)]) fun _ _ X _ k => XS.aloadN X.here hx rfl (hb hby dm22_9) rfl rfl k
  obtain ⟨vA4, hA4, ⟨rfl, rfl⟩, A4⟩ := A3.callV (b := o1) (own_c81 l Z a0 hw o1 o3 cs h0 n0 Z0 E_o1 F_o1_coder F_o1_value V_o3 S_cs hcs) E_o1 hx hZ hown (hb hby dm22_10) (hw _ (List.mem_of_getElem? (i := 144) rfl)) (hw _ (List.mem_of_getElem? (i := 145) rfl)) (hw _ (List.mem_of_getElem? (i := 147) rfl)) (hw _ (List.mem_of_getElem? (i := 146) rfl)) (hw _ (List.mem_of_getElem? (i := 148) rfl)) (hw _ (List.mem_of_getElem? (i := 8) rfl)) (own_nf (y' := (⟨"java/lang/String", "contains", "(Ljava/lang/CharSequence;)Z"⟩ : MethodName)) (hw _ (List.mem_of_getElem? (i := 80) rfl)) rfl) ⟨by decide, by decide⟩ (lenOf pd__28_29I rfl) (argsL := []) (rest := []) rfl rfl (by rw [hml]; rfl) (W := 0) (Nat.le_of_eq rfl) (by decide) (by decide) (by decide) (by decide)
  have A5 : own_R p l e _ _ m _ below meth c S0 n0 h0 0 0 (mkF m 13 #[.val (.ref o0), .val (.ref o1), .unset] [(.int (1 : Int32))]) := A4
  have A6 := A5.go (f' := mkF m 14 #[.val (.ref o0), .val (.ref o1), .val (.int (1 : Int32))] []) fun _ _ X _ k => XS.istoreN X.here hx rfl (hb hby dm22_13) rfl (l' := #[.val (.ref o0), .val (.ref o1), .val (.int (1 : Int32))]) rfl k
  have A7 := A6.go (f' := mkF m 15 #[.val (.ref o0), .val (.ref o1), .val (.int (1 : Int32))] [(.ref o0)]) fun _ _ X _ k => XS.aloadN X.here hx rfl (hb hby dm22_14) rfl rfl k
  have A8 := A7.go (f' := mkF m 16 #[.val (.ref o0), .val (.ref o1), .val (.int (1 : Int32))] [(.ref o0), (.ref o0)]) fun _ _ X _ k => XS.aloadN X.here hx rfl (hb hby dm22_15) rfl rfl k
  have A9 : own_R p l e _ _ m _ below meth c S0 n0 h0 0 0 (mkF m 19 #[.val (.ref o0), .val (.ref o1), .val (.int (1 : Int32))] [(.int (16 : Int32)), (.ref o0)]) := A8.getF hx hZ hown (hb hby dm22_16) (hw _ (List.mem_of_getElem? (i := 149) rfl)) Via.refl F_o0_count
  have A10 := A9.go (f' := mkF m 20 #[.val (.ref o0), .val (.ref o1), .val (.int (1 : Int32))] [(.int (1 : Int32)), (.int (16 : Int32)), (.ref o0)]) fun _ _ X _ k => XS.iloadN X.here hx rfl (hb hby dm22_19) rfl k
  have A11 := A10.go (f' := mkF m 21 #[.val (.ref o0), .val (.ref o1), .val (.int (1 : Int32))] [(.int (17 : Int32)), (.ref o0)]) fun _ _ X _ k => XS.iadd X.here hx rfl (hb hby dm22_20) rfl k
  obtain ⟨vA12, hA12, ⟨x1, rfl, KA12, zz_x1, P_F_o0_value, P_F_o0_coder, P_F_o0_count, P_V_x1⟩, A12⟩ := A11.callV (b := o0) (own_c93 l Z a0 hw o0 o2 h0 n0 Z0 E_o0 F_o0_value F_o0_coder F_o0_count V_o2 ne_o2_o0 g_o0) E_o0 hx hZ hown (hb hby dm22_21) (hw _ (List.mem_of_getElem? (i := 151) rfl)) (own_declares (hw _ (List.mem_of_getElem? (i := 152) rfl)) (hw _ (List.mem_of_getElem? (i := 155) rfl))) (hw _ (List.mem_of_getElem? (i := 154) rfl)) (hw _ (List.mem_of_getElem? (i := 152) rfl)) (hw _ (List.mem_of_getElem? (i := 155) rfl)) (hw _ (List.mem_of_getElem? (i := 126) rfl)) (own_nf (y' := (⟨"java/lang/AbstractStringBuilder", "ensureCapacityInternal", "(I)V"⟩ : MethodName)) (hw _ (List.mem_of_getElem? (i := 154) rfl)) rfl) ⟨by decide, by decide⟩ (lenOf pd__28I_29V rfl) (argsL := [(.int (17 : Int32))]) (rest := []) rfl rfl (by rw [hml]; rfl) (W := 0) (Nat.le_of_eq rfl) (by decide) (by decide) (by decide) (by decide)
  have ne_o0_x1 : o0 ≠ x1 := Nat.ne_of_lt (Nat.lt_of_lt_of_le E_o0.lt zz_x1)
  have ne_x1_o0 := Ne.symm ne_o0_x1
  have ne_o1_x1 : o1 ≠ x1 := Nat.ne_of_lt (Nat.lt_of_lt_of_le E_o1.lt zz_x1)
  have ne_x1_o1 := Ne.symm ne_o1_x1
  have ne_o2_x1 : o2 ≠ x1 := Nat.ne_of_lt (Nat.lt_of_lt_of_le V_o2.lt zz_x1)
  have ne_x1_o2 := Ne.symm ne_o2_x1
  have ne_o3_x1 : o3 ≠ x1 := Nat.ne_of_lt (Nat.lt_of_lt_of_le V_o3.lt zz_x1)
  have ne_x1_o3 := Ne.symm ne_o3_x1
  have g_x1 : n0 ≤ x1 := Nat.le_trans Z0 zz_x1
  have sz_x1 : h0.size ≤ x1 := Nat.le_trans KK.1 zz_x1
  have S_cs : Sta Z hA12 "java/lang/String" "COMPACT_STRINGS" "Z" (.int cs) := own_staK S_cs KA12 (allS (P := fun x => ∀ cell : Cell, h0[x]? = some cell → cell.vm.isStatics = false) E_o0.nostat all0)
  have E_o0 : Exa Z hA12 o0 "java/lang/StringBuilder" := E_o0.keep KA12
  have E_o1 : Exa Z hA12 o1 "java/lang/String" := E_o1.keep KA12
  have F_o1_coder : Fld Z hA12 o1 "java/lang/String" "coder" "B" (.int (0 : Int32)) := F_o1_coder.keep KA12 (ninS ne_o1_o0 nin0)
  have F_o1_value : Fld Z hA12 o1 "java/lang/String" "value" "[B" (.ref o3) := F_o1_value.keep KA12 (ninS ne_o1_o0 nin0)
  have V_o2 : own_Ar Z hA12 o2 .byte [(.int (104 : Int32)), (.int (116 : Int32)), (.int (116 : Int32)), (.int (112 : Int32)), (.int (58 : Int32)), (.int (47 : Int32)), (.int (47 : Int32)), (.int (49 : Int32)), (.int (50 : Int32)), (.int (55 : Int32)), (.int (46 : Int32)), (.int (48 : Int32)), (.int (46 : Int32)), (.int (48 : Int32)), (.int (46 : Int32)), (.int (49 : Int32))] := V_o2.keep KA12 (ninS ne_o2_o0 nin0)
  have V_o3 : own_Ar Z hA12 o3 .byte [(.int (58 : Int32))] := V_o3.keep KA12 (ninS ne_o3_o0 nin0)
  have Z0 : n0 ≤ hA12.size := Nat.le_trans Z0 KA12.1
  have KK : Keep h0 hA12 [o0] := KK.trans KA12 (allS (P := fun x => x ∈ ([o0] : List Addr) ∨ h0.size ≤ x) (Or.inl (by simp)) all0)
  have F_o0_value : Fld Z hA12 o0 "java/lang/AbstractStringBuilder" "value" "[B" (.ref x1) := P_F_o0_value
  have F_o0_coder : Fld Z hA12 o0 "java/lang/AbstractStringBuilder" "coder" "B" (.int (0 : Int32)) := P_F_o0_coder
  have F_o0_count : Fld Z hA12 o0 "java/lang/AbstractStringBuilder" "count" "I" (.int (16 : Int32)) := P_F_o0_count
  have V_x1 : own_Ar Z hA12 x1 .byte [(.int (104 : Int32)), (.int (116 : Int32)), (.int (116 : Int32)), (.int (112 : Int32)), (.int (58 : Int32)), (.int (47 : Int32)), (.int (47 : Int32)), (.int (49 : Int32)), (.int (50 : Int32)), (.int (55 : Int32)), (.int (46 : Int32)), (.int (48 : Int32)), (.int (46 : Int32)), (.int (48 : Int32)), (.int (46 : Int32)), (.int (49 : Int32)), (.int (0 : Int32)), (.int (0 : Int32)), (.int (0 : Int32)), (.int (0 : Int32)), (.int (0 : Int32)), (.int (0 : Int32)), (.int (0 : Int32)), (.int (0 : Int32)), (.int (0 : Int32)), (.int (0 : Int32)), (.int (0 : Int32)), (.int (0 : Int32)), (.int (0 : Int32)), (.int (0 : Int32)), (.int (0 : Int32)), (.int (0 : Int32)), (.int (0 : Int32)), (.int (0 : Int32))] := P_V_x1
  have A13 : own_R p l e _ _ m _ below meth c S0 n0 hA12 1 34 (mkF m 24 #[.val (.ref o0), .val (.ref o1), .val (.int (1 : Int32))] []) := A12
  have A14 := A13.go (f' := mkF m 25 #[.val (.ref o0), .val (.ref o1), .val (.int (1 : Int32))] [(.ref o0)]) fun _ _ X _ k => XS.aloadN X.here hx rfl (hb hby dm22_24) rfl rfl k
  have A15 := A14.go (f' := mkF m 26 #[.val (.ref o0), .val (.ref o1), .val (.int (1 : Int32))] [(.ref o0), (.ref o0)]) fun _ _ X _ k => XS.aloadN X.here hx rfl (hb hby dm22_25) rfl rfl k
  have A16 : own_R p l e _ _ m _ below meth c S0 n0 hA12 1 34 (mkF m 29 #[.val (.ref o0), .val (.ref o1), .val (.int (1 : Int32))] [(.int (16 : Int32)), (.ref o0)]) := A15.getF hx hZ hown (hb hby dm22_26) (hw _ (List.mem_of_getElem? (i := 149) rfl)) Via.refl F_o0_count
  have A17 := A16.go (f' := mkF m 30 #[.val (.ref o0), .val (.ref o1), .val (.int (1 : Int32))] [(.ref o1), (.int (16 : Int32)), (.ref o0)]) fun _ _ X _ k => XS.aloadN X.here hx rfl (hb hby dm22_29) rfl rfl k
  obtain ⟨vA18, hA18, ⟨rfl, KA18, P_V_x1⟩, A18⟩ := A17.callV (b := o0) (own_c97 l Z a0 hw o0 o1 x1 o3 cs hA12 n0 Z0 E_o0 F_o0_value F_o0_coder E_o1 F_o1_coder F_o1_value V_x1 V_o3 S_cs hcs ne_o0_x1 ne_o1_x1 ne_o3_x1 g_x1) E_o0 hx hZ hown (hb hby dm22_30) (hw _ (List.mem_of_getElem? (i := 156) rfl)) (own_declares (hw _ (List.mem_of_getElem? (i := 157) rfl)) (hw _ (List.mem_of_getElem? (i := 160) rfl))) (hw _ (List.mem_of_getElem? (i := 159) rfl)) (hw _ (List.mem_of_getElem? (i := 157) rfl)) (hw _ (List.mem_of_getElem? (i := 160) rfl)) (hw _ (List.mem_of_getElem? (i := 126) rfl)) (own_nf (y' := (⟨"java/lang/AbstractStringBuilder", "ensureCapacityInternal", "(I)V"⟩ : MethodName)) (hw _ (List.mem_of_getElem? (i := 154) rfl)) rfl) ⟨by decide, by decide⟩ (lenOf pd__28ILjava_2flang_2fString_3b_29V rfl) (argsL := [(.int (16 : Int32)), (.ref o1)]) (rest := []) rfl rfl (by rw [hml]; rfl) (W := 0) (Nat.le_of_eq rfl) (by decide) (by decide) (by decide) (by decide)
  have S_cs : Sta Z hA18 "java/lang/String" "COMPACT_STRINGS" "Z" (.int cs) := own_staK S_cs KA18 (allS (P := fun x => ∀ cell : Cell, hA12[x]? = some cell → cell.vm.isStatics = false) V_x1.nostat all0)
  have E_o0 : Exa Z hA18 o0 "java/lang/StringBuilder" := E_o0.keep KA18
  have E_o1 : Exa Z hA18 o1 "java/lang/String" := E_o1.keep KA18
  have F_o1_coder : Fld Z hA18 o1 "java/lang/String" "coder" "B" (.int (0 : Int32)) := F_o1_coder.keep KA18 (ninS ne_o1_x1 nin0)
  have F_o1_value : Fld Z hA18 o1 "java/lang/String" "value" "[B" (.ref o3) := F_o1_value.keep KA18 (ninS ne_o1_x1 nin0)
  have V_o2 : own_Ar Z hA18 o2 .byte [(.int (104 : Int32)), (.int (116 : Int32)), (.int (116 : Int32)), (.int (112 : Int32)), (.int (58 : Int32)), (.int (47 : Int32)), (.int (47 : Int32)), (.int (49 : Int32)), (.int (50 : Int32)), (.int (55 : Int32)), (.int (46 : Int32)), (.int (48 : Int32)), (.int (46 : Int32)), (.int (48 : Int32)), (.int (46 : Int32)), (.int (49 : Int32))] := V_o2.keep KA18 (ninS ne_o2_x1 nin0)
  have V_o3 : own_Ar Z hA18 o3 .byte [(.int (58 : Int32))] := V_o3.keep KA18 (ninS ne_o3_x1 nin0)
  have F_o0_value : Fld Z hA18 o0 "java/lang/AbstractStringBuilder" "value" "[B" (.ref x1) := F_o0_value.keep KA18 (ninS ne_o0_x1 nin0)
  have F_o0_coder : Fld Z hA18 o0 "java/lang/AbstractStringBuilder" "coder" "B" (.int (0 : Int32)) := F_o0_coder.keep KA18 (ninS ne_o0_x1 nin0)
  have F_o0_count : Fld Z hA18 o0 "java/lang/AbstractStringBuilder" "count" "I" (.int (16 : Int32)) := F_o0_count.keep KA18 (ninS ne_o0_x1 nin0)
  have Z0 : n0 ≤ hA18.size := Nat.le_trans Z0 KA18.1
  have KK : Keep h0 hA18 [o0] := KK.trans KA18 (allS (P := fun x => x ∈ ([o0] : List Addr) ∨ h0.size ≤ x) (Or.inr sz_x1) all0)
  have V_x1 : own_Ar Z hA18 x1 .byte [(.int (104 : Int32)), (.int (116 : Int32)), (.int (116 : Int32)), (.int (112 : Int32)), (.int (58 : Int32)), (.int (47 : Int32)), (.int (47 : Int32)), (.int (49 : Int32)), (.int (50 : Int32)), (.int (55 : Int32)), (.int (46 : Int32)), (.int (48 : Int32)), (.int (46 : Int32)), (.int (48 : Int32)), (.int (46 : Int32)), (.int (49 : Int32)), (.int (58 : Int32)), (.int (0 : Int32)), (.int (0 : Int32)), (.int (0 : Int32)), (.int (0 : Int32)), (.int (0 : Int32)), (.int (0 : Int32)), (.int (0 : Int32)), (.int (0 : Int32)), (.int (0 : Int32)), (.int (0 : Int32)), (.int (0 : Int32)), (.int (0 : Int32)), (.int (0 : Int32)), (.int (0 : Int32)), (.int (0 : Int32)), (.int (0 : Int32)), (.int (0 : Int32))] := P_V_x1
  have A19 : own_R p l e _ _ m _ below meth c S0 n0 hA18 1 34 (mkF m 33 #[.val (.ref o0), .val (.ref o1), .val (.int (1 : Int32))] []) := A18
  have A20 := A19.go (f' := mkF m 34 #[.val (.ref o0), .val (.ref o1), .val (.int (1 : Int32))] [(.ref o0)]) fun _ _ X _ k => XS.aloadN X.here hx rfl (hb hby dm22_33) rfl rfl k
  have A21 := A20.go (f' := mkF m 35 #[.val (.ref o0), .val (.ref o1), .val (.int (1 : Int32))] [(.ref o0), (.ref o0)]) fun _ _ X _ k => XS.dup X.here hx rfl (hb hby dm22_34) rfl rfl k
  have A22 : own_R p l e _ _ m _ below meth c S0 n0 hA18 1 34 (mkF m 38 #[.val (.ref o0), .val (.ref o1), .val (.int (1 : Int32))] [(.int (16 : Int32)), (.ref o0)]) := A21.getF hx hZ hown (hb hby dm22_35) (hw _ (List.mem_of_getElem? (i := 149) rfl)) Via.refl F_o0_count
  have A23 := A22.go (f' := mkF m 39 #[.val (.ref o0), .val (.ref o1), .val (.int (1 : Int32))] [(.int (1 : Int32)), (.int (16 : Int32)), (.ref o0)]) fun _ _ X _ k => XS.iloadN X.here hx rfl (hb hby dm22_38) rfl k
  have A24 := A23.go (f' := mkF m 40 #[.val (.ref o0), .val (.ref o1), .val (.int (1 : Int32))] [(.int (17 : Int32)), (.ref o0)]) fun _ _ X _ k => XS.iadd X.here hx rfl (hb hby dm22_39) rfl k
  obtain ⟨h25, W26, A27⟩ := A24.putF hx hZ hown (hb hby dm22_40) (hw _ (List.mem_of_getElem? (i := 149) rfl)) F_o0_count E_o0 (Or.inl (hw _ (List.mem_of_getElem? (i := 150) rfl))) (hw _ (List.mem_of_getElem? (i := 117) rfl)) (ty := .int) (by decide) rfl rfl g_o0
  have E_o0 : Exa Z h25 o0 "java/lang/StringBuilder" := E_o0.wr W26
  have E_o1 : Exa Z h25 o1 "java/lang/String" := E_o1.wr W26
  have F_o1_coder : Fld Z h25 o1 "java/lang/String" "coder" "B" (.int (0 : Int32)) := F_o1_coder.other W26 (Or.inl ne_o1_o0)
  have F_o1_value : Fld Z h25 o1 "java/lang/String" "value" "[B" (.ref o3) := F_o1_value.other W26 (Or.inl ne_o1_o0)
  have V_o2 : own_Ar Z h25 o2 .byte [(.int (104 : Int32)), (.int (116 : Int32)), (.int (116 : Int32)), (.int (112 : Int32)), (.int (58 : Int32)), (.int (47 : Int32)), (.int (47 : Int32)), (.int (49 : Int32)), (.int (50 : Int32)), (.int (55 : Int32)), (.int (46 : Int32)), (.int (48 : Int32)), (.int (46 : Int32)), (.int (48 : Int32)), (.int (46 : Int32)), (.int (49 : Int32))] := V_o2.other W26 ne_o2_o0
  have V_o3 : own_Ar Z h25 o3 .byte [(.int (58 : Int32))] := V_o3.other W26 ne_o3_o0
  have S_cs : Sta Z h25 "java/lang/String" "COMPACT_STRINGS" "Z" (.int cs) := S_cs.wr W26
  have F_o0_value : Fld Z h25 o0 "java/lang/AbstractStringBuilder" "value" "[B" (.ref x1) := F_o0_value.other W26 (Or.inr (slot_ne (Or.inl (hw _ (List.mem_of_getElem? (i := 131) rfl))) (Or.inl (hw _ (List.mem_of_getElem? (i := 150) rfl))) (by decide) (t := (.array .byte)) (t' := .int) (by decide) (by decide)))
  have F_o0_coder : Fld Z h25 o0 "java/lang/AbstractStringBuilder" "coder" "B" (.int (0 : Int32)) := F_o0_coder.other W26 (Or.inr (slot_ne (Or.inl (hw _ (List.mem_of_getElem? (i := 133) rfl))) (Or.inl (hw _ (List.mem_of_getElem? (i := 150) rfl))) (by decide) (t := .byte) (t' := .int) (by decide) (by decide)))
  have F_o0_count : Fld Z h25 o0 "java/lang/AbstractStringBuilder" "count" "I" (.int (17 : Int32)) := F_o0_count.same W26
  have V_x1 : own_Ar Z h25 x1 .byte [(.int (104 : Int32)), (.int (116 : Int32)), (.int (116 : Int32)), (.int (112 : Int32)), (.int (58 : Int32)), (.int (47 : Int32)), (.int (47 : Int32)), (.int (49 : Int32)), (.int (50 : Int32)), (.int (55 : Int32)), (.int (46 : Int32)), (.int (48 : Int32)), (.int (46 : Int32)), (.int (48 : Int32)), (.int (46 : Int32)), (.int (49 : Int32)), (.int (58 : Int32)), (.int (0 : Int32)), (.int (0 : Int32)), (.int (0 : Int32)), (.int (0 : Int32)), (.int (0 : Int32)), (.int (0 : Int32)), (.int (0 : Int32)), (.int (0 : Int32)), (.int (0 : Int32)), (.int (0 : Int32)), (.int (0 : Int32)), (.int (0 : Int32)), (.int (0 : Int32)), (.int (0 : Int32)), (.int (0 : Int32)), (.int (0 : Int32)), (.int (0 : Int32))] := V_x1.other W26 ne_x1_o0
  have Z0 : n0 ≤ h25.size := by rw [W26.size]; exact Z0
  have KK : Keep h0 h25 [o0] := KK.wr W26 (Or.inl (by simp))
  have A28 : own_R p l e _ _ m _ below meth c S0 n0 h25 1 34 (mkF m 43 #[.val (.ref o0), .val (.ref o1), .val (.int (1 : Int32))] []) := A27
  have A29 := A28.go (f' := mkF m 44 #[.val (.ref o0), .val (.ref o1), .val (.int (1 : Int32))] [(.ref o0)]) fun _ _ X _ k => XS.aloadN X.here hx rfl (hb hby dm22_43) rfl rfl k
  exact A29.ret hx hlk hret (hb hby dm22_44) rfl (Or.inr (Or.inr (Or.inr (Or.inr ⟨rfl, rfl, rfl⟩)))) (by decide) (by decide) ⟨x1, rfl, KK, sz_x1, F_o0_value, F_o0_coder, F_o0_count, V_x1⟩
theorem ef_own_c99 (m : MethodId) (o0 : Addr) (o1 : Addr) : entryFrame m #[(.ref o0), (.ref o1)] 2 = mkF m 0 #[.val (.ref o0), .val (.ref o1)] [] := by first | (simp [entryFrame, mkF, argsToLocals, Value.category, maxLocals]; done) | rfl
set_option maxRecDepth 65536 in
set_option maxHeartbeats 40000000 in
theorem own_c99 (l : Launch) (Z : State) (a0 : Array Value) (hw : ∀ d ∈ tables_1, d.before a0 Z = true) (o0 o1 o2 o3 : Addr) (cs : Int32) (h0 : Heap) (n0 : Nat) (Z0 : n0 ≤ h0.size) (E_o0 : Exa Z h0 o0 "java/lang/StringBuilder") (F_o0_value : Fld Z h0 o0 "java/lang/AbstractStringBuilder" "value" "[B" (.ref o2)) (F_o0_coder : Fld Z h0 o0 "java/lang/AbstractStringBuilder" "coder" "B" (.int (0 : Int32))) (F_o0_count : Fld Z h0 o0 "java/lang/AbstractStringBuilder" "count" "I" (.int (16 : Int32))) (E_o1 : Exa Z h0 o1 "java/lang/String") (F_o1_coder : Fld Z h0 o1 "java/lang/String" "coder" "B" (.int (0 : Int32))) (F_o1_value : Fld Z h0 o1 "java/lang/String" "value" "[B" (.ref o3)) (V_o2 : own_Ar Z h0 o2 .byte [(.int (104 : Int32)), (.int (116 : Int32)), (.int (116 : Int32)), (.int (112 : Int32)), (.int (58 : Int32)), (.int (47 : Int32)), (.int (47 : Int32)), (.int (49 : Int32)), (.int (50 : Int32)), (.int (55 : Int32)), (.int (46 : Int32)), (.int (48 : Int32)), (.int (46 : Int32)), (.int (48 : Int32)), (.int (46 : Int32)), (.int (49 : Int32))]) (V_o3 : own_Ar Z h0 o3 .byte [(.int (58 : Int32))]) (S_cs : Sta Z h0 "java/lang/String" "COMPACT_STRINGS" "Z" (.int cs)) (hcs : ¬ (cs = (0 : Int32))) (ne_o1_o0 : o1 ≠ o0) (ne_o2_o0 : o2 ≠ o0) (ne_o3_o0 : o3 ≠ o0) (g_o0 : n0 ≤ o0) :
    own_M l Z (⟨"java/lang/StringBuilder", "append", "(Ljava/lang/String;)Ljava/lang/StringBuilder;"⟩ : MethodName) jdk_67_method_7_code 2 (some (.object "java/lang/StringBuilder")) [] ({ frames := 5, cells := 1, slots := 34, locals := 76 } : Room) #[(.ref o0), (.ref o1)] h0 n0 (fun v h => ∃ x1 : Addr, v = some (.ref o0) ∧ Keep h0 h [o0] ∧ h0.size ≤ x1 ∧ Fld Z h o0 "java/lang/AbstractStringBuilder" "value" "[B" (.ref x1) ∧ Fld Z h o0 "java/lang/AbstractStringBuilder" "coder" "B" (.int (0 : Int32)) ∧ Fld Z h o0 "java/lang/AbstractStringBuilder" "count" "I" (.int (17 : Int32)) ∧ own_Ar Z h x1 .byte [(.int (104 : Int32)), (.int (116 : Int32)), (.int (116 : Int32)), (.int (112 : Int32)), (.int (58 : Int32)), (.int (47 : Int32)), (.int (47 : Int32)), (.int (49 : Int32)), (.int (50 : Int32)), (.int (55 : Int32)), (.int (46 : Int32)), (.int (48 : Int32)), (.int (46 : Int32)), (.int (48 : Int32)), (.int (46 : Int32)), (.int (49 : Int32)), (.int (58 : Int32)), (.int (0 : Int32)), (.int (0 : Int32)), (.int (0 : Int32)), (.int (0 : Int32)), (.int (0 : Int32)), (.int (0 : Int32)), (.int (0 : Int32)), (.int (0 : Int32)), (.int (0 : Int32)), (.int (0 : Int32)), (.int (0 : Int32)), (.int (0 : Int32)), (.int (0 : Int32)), (.int (0 : Int32)), (.int (0 : Int32)), (.int (0 : Int32)), (.int (0 : Int32))]) := by
  refine own_M.of (plainFor_of_name (by first | (simp [plainName, overriddenIn]; done) | decide +kernel)) ?_
  intro p e s m below meth c S0 hx hby hml hown hnm hret hlk hZ A00
  have A0 := A00.cast (ef_own_c99 m o0 o1)
  have KK : Keep h0 h0 ([o0] : List Addr) := Keep.refl _ _
  have A1 := A0.go (f' := mkF m 1 #[.val (.ref o0), .val (.ref o1)] [(.ref o0)]) fun _ _ X _ k => XS.aloadN X.here hx rfl (hb hby dm21_0) rfl rfl k
  have A2 := A1.go (f' := mkF m 2 #[.val (.ref o0), .val (.ref o1)] [(.ref o1), (.ref o0)]) fun _ _ X _ k => XS.aloadN X.here hx rfl (hb hby dm21_1) rfl rfl k
  obtain ⟨vA3, hA3, ⟨x1, rfl, KA3, zz_x1, P_F_o0_value, P_F_o0_coder, P_F_o0_count, P_V_x1⟩, A3⟩ := A2.callU (b := o0) (own_c98 l Z a0 hw o0 o1 o2 o3 cs h0 n0 Z0 E_o0 F_o0_value F_o0_coder F_o0_count E_o1 F_o1_coder F_o1_value V_o2 V_o3 S_cs hcs ne_o1_o0 ne_o2_o0 ne_o3_o0 g_o0) E_o0 hx hZ hown (hb hby dm21_2) (by decide) (hw _ (List.mem_of_getElem? (i := 139) rfl)) (own_same (y' := (⟨"java/lang/AbstractStringBuilder", "ensureCapacityInternal", "(I)V"⟩ : MethodName)) (hw _ (List.mem_of_getElem? (i := 154) rfl)) rfl (hw _ (List.mem_of_getElem? (i := 140) rfl)) ⟨by decide, by decide⟩) (hw _ (List.mem_of_getElem? (i := 140) rfl)) (hw _ (List.mem_of_getElem? (i := 141) rfl)) (hw _ (List.mem_of_getElem? (i := 143) rfl)) (hw _ (List.mem_of_getElem? (i := 126) rfl)) (lenOf pd__28Ljava_2flang_2fString_3b_29Ljava_2flang_2fAbstractStringBuilder_3b rfl) (argsL := [(.ref o1)]) (rest := []) rfl rfl (by rw [hml]; rfl) (W := 0) (Nat.le_of_eq rfl) (by decide) (by decide) (by decide) (by decide)
  have ne_o0_x1 : o0 ≠ x1 := Nat.ne_of_lt (Nat.lt_of_lt_of_le E_o0.lt zz_x1)
  have ne_x1_o0 := Ne.symm ne_o0_x1
  have ne_o1_x1 : o1 ≠ x1 := Nat.ne_of_lt (Nat.lt_of_lt_of_le E_o1.lt zz_x1)
  have ne_x1_o1 := Ne.symm ne_o1_x1
  have ne_o2_x1 : o2 ≠ x1 := Nat.ne_of_lt (Nat.lt_of_lt_of_le V_o2.lt zz_x1)
  have ne_x1_o2 := Ne.symm ne_o2_x1
  have ne_o3_x1 : o3 ≠ x1 := Nat.ne_of_lt (Nat.lt_of_lt_of_le V_o3.lt zz_x1)
  have ne_x1_o3 := Ne.symm ne_o3_x1
  have g_x1 : n0 ≤ x1 := Nat.le_trans Z0 zz_x1
  have sz_x1 : h0.size ≤ x1 := Nat.le_trans KK.1 zz_x1
  have S_cs : Sta Z hA3 "java/lang/String" "COMPACT_STRINGS" "Z" (.int cs) := own_staK S_cs KA3 (allS (P := fun x => ∀ cell : Cell, h0[x]? = some cell → cell.vm.isStatics = false) E_o0.nostat all0)
  have E_o0 : Exa Z hA3 o0 "java/lang/StringBuilder" := E_o0.keep KA3
  have E_o1 : Exa Z hA3 o1 "java/lang/String" := E_o1.keep KA3
  have F_o1_coder : Fld Z hA3 o1 "java/lang/String" "coder" "B" (.int (0 : Int32)) := F_o1_coder.keep KA3 (ninS ne_o1_o0 nin0)
  have F_o1_value : Fld Z hA3 o1 "java/lang/String" "value" "[B" (.ref o3) := F_o1_value.keep KA3 (ninS ne_o1_o0 nin0)
  have V_o2 : own_Ar Z hA3 o2 .byte [(.int (104 : Int32)), (.int (116 : Int32)), (.int (116 : Int32)), (.int (112 : Int32)), (.int (58 : Int32)), (.int (47 : Int32)), (.int (47 : Int32)), (.int (49 : Int32)), (.int (50 : Int32)), (.int (55 : Int32)), (.int (46 : Int32)), (.int (48 : Int32)), (.int (46 : Int32)), (.int (48 : Int32)), (.int (46 : Int32)), (.int (49 : Int32))] := V_o2.keep KA3 (ninS ne_o2_o0 nin0)
  have V_o3 : own_Ar Z hA3 o3 .byte [(.int (58 : Int32))] := V_o3.keep KA3 (ninS ne_o3_o0 nin0)
  have Z0 : n0 ≤ hA3.size := Nat.le_trans Z0 KA3.1
  have KK : Keep h0 hA3 [o0] := KK.trans KA3 (allS (P := fun x => x ∈ ([o0] : List Addr) ∨ h0.size ≤ x) (Or.inl (by simp)) all0)
  have F_o0_value : Fld Z hA3 o0 "java/lang/AbstractStringBuilder" "value" "[B" (.ref x1) := P_F_o0_value
  have F_o0_coder : Fld Z hA3 o0 "java/lang/AbstractStringBuilder" "coder" "B" (.int (0 : Int32)) := P_F_o0_coder
  have F_o0_count : Fld Z hA3 o0 "java/lang/AbstractStringBuilder" "count" "I" (.int (17 : Int32)) := P_F_o0_count
  have V_x1 : own_Ar Z hA3 x1 .byte [(.int (104 : Int32)), (.int (116 : Int32)), (.int (116 : Int32)), (.int (112 : Int32)), (.int (58 : Int32)), (.int (47 : Int32)), (.int (47 : Int32)), (.int (49 : Int32)), (.int (50 : Int32)), (.int (55 : Int32)), (.int (46 : Int32)), (.int (48 : Int32)), (.int (46 : Int32)), (.int (48 : Int32)), (.int (46 : Int32)), (.int (49 : Int32)), (.int (58 : Int32)), (.int (0 : Int32)), (.int (0 : Int32)), (.int (0 : Int32)), (.int (0 : Int32)), (.int (0 : Int32)), (.int (0 : Int32)), (.int (0 : Int32)), (.int (0 : Int32)), (.int (0 : Int32)), (.int (0 : Int32)), (.int (0 : Int32)), (.int (0 : Int32)), (.int (0 : Int32)), (.int (0 : Int32)), (.int (0 : Int32)), (.int (0 : Int32)), (.int (0 : Int32))] := P_V_x1
  have A4 : own_R p l e _ _ m _ below meth c S0 n0 hA3 1 34 (mkF m 5 #[.val (.ref o0), .val (.ref o1)] [(.ref o0)]) := A3
  have A5 := A4.go (f' := mkF m 6 #[.val (.ref o0), .val (.ref o1)] []) fun _ _ X _ k => XS.pop X.here hx rfl (hb hby dm21_5) rfl rfl k
  have A6 := A5.go (f' := mkF m 7 #[.val (.ref o0), .val (.ref o1)] [(.ref o0)]) fun _ _ X _ k => XS.aloadN X.here hx rfl (hb hby dm21_6) rfl rfl k
  exact A6.ret hx hlk hret (hb hby dm21_7) rfl (Or.inr (Or.inr (Or.inr (Or.inr ⟨rfl, rfl, rfl⟩)))) (by decide) (by decide) ⟨x1, rfl, KK, sz_x1, F_o0_value, F_o0_coder, F_o0_count, V_x1⟩
theorem ef_own_c103 (m : MethodId)  : entryFrame m #[(.int (0 : Int32))] 4 = mkF m 0 #[.val (.int (0 : Int32)), .unset, .unset, .unset] [] := by first | (simp [entryFrame, mkF, argsToLocals, Value.category, maxLocals]; done) | rfl
set_option maxRecDepth 65536 in
set_option maxHeartbeats 40000000 in
theorem own_c103 (l : Launch) (Z : State) (a0 : Array Value) (hw : ∀ d ∈ tables_1, d.before a0 Z = true)  (h0 : Heap) (n0 : Nat) (Z0 : n0 ≤ h0.size)  :
    own_M l Z (⟨"java/lang/Integer", "stringSize", "(I)I"⟩ : MethodName) jdk_33_method_13_code 4 (some .int) [] ({ frames := 0, cells := 0, slots := 0, locals := 0 } : Room) #[(.int (0 : Int32))] h0 n0 (fun v h => v = some (.int (1 : Int32)) ∧ h0 = h) := by
  refine own_M.of (plainFor_of_name (by first | (simp [plainName, overriddenIn]; done) | decide +kernel)) ?_
  intro p e s m below meth c S0 hx hby hml hown hnm hret hlk hZ A00
  have A0 := A00.cast (ef_own_c103 m )
  have KK : Keep h0 h0 ([] : List Addr) := Keep.refl _ _
  have A1 := A0.go (f' := mkF m 1 #[.val (.int (0 : Int32)), .unset, .unset, .unset] [(.int (1 : Int32))]) fun _ _ X _ k => XS.iconst X.here hx rfl (hb hby dm35_0) k
  have A2 := A1.go (f' := mkF m 2 #[.val (.int (0 : Int32)), .val (.int (1 : Int32)), .unset, .unset] []) fun _ _ X _ k => XS.istoreN X.here hx rfl (hb hby dm35_1) rfl (l' := #[.val (.int (0 : Int32)), .val (.int (1 : Int32)), .unset, .unset]) rfl k
  have A3 := A2.go (f' := mkF m 3 #[.val (.int (0 : Int32)), .val (.int (1 : Int32)), .unset, .unset] [(.int (0 : Int32))]) fun _ _ X _ k => XS.iloadN X.here hx rfl (hb hby dm35_2) rfl k
  have q4 : ¬ ((0 : Int32) < (0 : Int32)) := by decide
  have A5 := A3.go (f' := mkF m 6 #[.val (.int (0 : Int32)), .val (.int (1 : Int32)), .unset, .unset] []) fun _ _ X _ k => XS.ifNo X.here hx rfl (hb hby dm35_3) rfl ((if0 _ _).trans (flt q4).1) k
  have A6 := A5.go (f' := mkF m 7 #[.val (.int (0 : Int32)), .val (.int (1 : Int32)), .unset, .unset] [(.int (0 : Int32))]) fun _ _ X _ k => XS.iconst X.here hx rfl (hb hby dm35_6) k
  have A7 := A6.go (f' := mkF m 8 #[.val (.int (0 : Int32)), .val (.int (0 : Int32)), .unset, .unset] []) fun _ _ X _ k => XS.istoreN X.here hx rfl (hb hby dm35_7) rfl (l' := #[.val (.int (0 : Int32)), .val (.int (0 : Int32)), .unset, .unset]) rfl k
  have A8 := A7.go (f' := mkF m 9 #[.val (.int (0 : Int32)), .val (.int (0 : Int32)), .unset, .unset] [(.int (0 : Int32))]) fun _ _ X _ k => XS.iloadN X.here hx rfl (hb hby dm35_8) rfl k
  have A9 := A8.go (f' := mkF m 10 #[.val (.int (0 : Int32)), .val (.int (0 : Int32)), .unset, .unset] [(.int (0 : Int32))]) fun _ _ X _ k => XS.ineg X.here hx rfl (hb hby dm35_9) rfl k
  have A10 := A9.go (f' := mkF m 11 #[.val (.int (0 : Int32)), .val (.int (0 : Int32)), .unset, .unset] []) fun _ _ X _ k => XS.istoreN X.here hx rfl (hb hby dm35_10) rfl (l' := #[.val (.int (0 : Int32)), .val (.int (0 : Int32)), .unset, .unset]) rfl k
  have A11 := A10.go (f' := mkF m 13 #[.val (.int (0 : Int32)), .val (.int (0 : Int32)), .unset, .unset] [(.int (-10 : Int32))]) fun _ _ X _ k => XS.bipush X.here hx rfl (hb hby dm35_11) k
  have A12 := A11.go (f' := mkF m 14 #[.val (.int (0 : Int32)), .val (.int (0 : Int32)), .val (.int (-10 : Int32)), .unset] []) fun _ _ X _ k => XS.istoreN X.here hx rfl (hb hby dm35_13) rfl (l' := #[.val (.int (0 : Int32)), .val (.int (0 : Int32)), .val (.int (-10 : Int32)), .unset]) rfl k
  have A13 := A12.go (f' := mkF m 15 #[.val (.int (0 : Int32)), .val (.int (0 : Int32)), .val (.int (-10 : Int32)), .unset] [(.int (1 : Int32))]) fun _ _ X _ k => XS.iconst X.here hx rfl (hb hby dm35_14) k
  have A14 := A13.go (f' := mkF m 16 #[.val (.int (0 : Int32)), .val (.int (0 : Int32)), .val (.int (-10 : Int32)), .val (.int (1 : Int32))] []) fun _ _ X _ k => XS.istoreN X.here hx rfl (hb hby dm35_15) rfl (l' := #[.val (.int (0 : Int32)), .val (.int (0 : Int32)), .val (.int (-10 : Int32)), .val (.int (1 : Int32))]) rfl k
  have A15 := A14.go (f' := mkF m 17 #[.val (.int (0 : Int32)), .val (.int (0 : Int32)), .val (.int (-10 : Int32)), .val (.int (1 : Int32))] [(.int (1 : Int32))]) fun _ _ X _ k => XS.iloadN X.here hx rfl (hb hby dm35_16) rfl k
  have A16 := A15.go (f' := mkF m 19 #[.val (.int (0 : Int32)), .val (.int (0 : Int32)), .val (.int (-10 : Int32)), .val (.int (1 : Int32))] [(.int (10 : Int32)), (.int (1 : Int32))]) fun _ _ X _ k => XS.bipush X.here hx rfl (hb hby dm35_17) k
  have q17 : ((1 : Int32) < (10 : Int32)) := by decide
  have A18 := A16.go (f' := mkF m 22 #[.val (.int (0 : Int32)), .val (.int (0 : Int32)), .val (.int (-10 : Int32)), .val (.int (1 : Int32))] []) fun _ _ X _ k => XS.icmpNo X.here hx rfl (hb hby dm35_19) rfl ((tlt q17).2.1) k
  have A19 := A18.go (f' := mkF m 23 #[.val (.int (0 : Int32)), .val (.int (0 : Int32)), .val (.int (-10 : Int32)), .val (.int (1 : Int32))] [(.int (0 : Int32))]) fun _ _ X _ k => XS.iloadN X.here hx rfl (hb hby dm35_22) rfl k
  have A20 := A19.go (f' := mkF m 24 #[.val (.int (0 : Int32)), .val (.int (0 : Int32)), .val (.int (-10 : Int32)), .val (.int (1 : Int32))] [(.int (-10 : Int32)), (.int (0 : Int32))]) fun _ _ X _ k => XS.iloadN X.here hx rfl (hb hby dm35_23) rfl k
  have q21 : ((-10 : Int32) < (0 : Int32)) := by decide
  have A22 := A20.go (f' := mkF m 27 #[.val (.int (0 : Int32)), .val (.int (0 : Int32)), .val (.int (-10 : Int32)), .val (.int (1 : Int32))] []) fun _ _ X _ k => XS.icmpNo X.here hx rfl (hb hby dm35_24) rfl ((tlt q21).2.2.2) k
  have A23 := A22.go (f' := mkF m 28 #[.val (.int (0 : Int32)), .val (.int (0 : Int32)), .val (.int (-10 : Int32)), .val (.int (1 : Int32))] [(.int (1 : Int32))]) fun _ _ X _ k => XS.iloadN X.here hx rfl (hb hby dm35_27) rfl k
  have A24 := A23.go (f' := mkF m 29 #[.val (.int (0 : Int32)), .val (.int (0 : Int32)), .val (.int (-10 : Int32)), .val (.int (1 : Int32))] [(.int (0 : Int32)), (.int (1 : Int32))]) fun _ _ X _ k => XS.iloadN X.here hx rfl (hb hby dm35_28) rfl k
  have A25 := A24.go (f' := mkF m 30 #[.val (.int (0 : Int32)), .val (.int (0 : Int32)), .val (.int (-10 : Int32)), .val (.int (1 : Int32))] [(.int (1 : Int32))]) fun _ _ X _ k => XS.iadd X.here hx rfl (hb hby dm35_29) rfl k
  exact A25.ret hx hlk hret (hb hby dm35_30) rfl (Or.inl ⟨rfl, by simp, _, rfl⟩) (by decide) (by decide) ⟨rfl, rfl⟩
theorem ef_own_c105 (m : MethodId) (o0 : Addr) : entryFrame m #[(.ref o0), (.int (18 : Int32))] 3 = mkF m 0 #[.val (.ref o0), .val (.int (18 : Int32)), .unset] [] := by first | (simp [entryFrame, mkF, argsToLocals, Value.category, maxLocals]; done) | rfl
set_option maxRecDepth 65536 in
set_option maxHeartbeats 40000000 in
theorem own_c105 (l : Launch) (Z : State) (a0 : Array Value) (hw : ∀ d ∈ tables_1, d.before a0 Z = true) (o0 o1 : Addr) (h0 : Heap) (n0 : Nat) (Z0 : n0 ≤ h0.size) (F_o0_value : Fld Z h0 o0 "java/lang/AbstractStringBuilder" "value" "[B" (.ref o1)) (F_o0_coder : Fld Z h0 o0 "java/lang/AbstractStringBuilder" "coder" "B" (.int (0 : Int32))) (V_o1 : own_Ar Z h0 o1 .byte [(.int (104 : Int32)), (.int (116 : Int32)), (.int (116 : Int32)), (.int (112 : Int32)), (.int (58 : Int32)), (.int (47 : Int32)), (.int (47 : Int32)), (.int (49 : Int32)), (.int (50 : Int32)), (.int (55 : Int32)), (.int (46 : Int32)), (.int (48 : Int32)), (.int (46 : Int32)), (.int (48 : Int32)), (.int (46 : Int32)), (.int (49 : Int32)), (.int (58 : Int32)), (.int (0 : Int32)), (.int (0 : Int32)), (.int (0 : Int32)), (.int (0 : Int32)), (.int (0 : Int32)), (.int (0 : Int32)), (.int (0 : Int32)), (.int (0 : Int32)), (.int (0 : Int32)), (.int (0 : Int32)), (.int (0 : Int32)), (.int (0 : Int32)), (.int (0 : Int32)), (.int (0 : Int32)), (.int (0 : Int32)), (.int (0 : Int32)), (.int (0 : Int32))]) :
    own_M l Z (⟨"java/lang/AbstractStringBuilder", "ensureCapacityInternal", "(I)V"⟩ : MethodName) jdk_68_method_9_code 3 none [] ({ frames := 0, cells := 0, slots := 0, locals := 0 } : Room) #[(.ref o0), (.int (18 : Int32))] h0 n0 (fun v h => v = none ∧ h0 = h) := by
  refine own_M.of (plainFor_of_name (by first | (simp [plainName, overriddenIn]; done) | decide +kernel)) ?_
  intro p e s m below meth c S0 hx hby hml hown hnm hret hlk hZ A00
  have A0 := A00.cast (ef_own_c105 m o0)
  have KK : Keep h0 h0 ([] : List Addr) := Keep.refl _ _
  have A1 := A0.go (f' := mkF m 1 #[.val (.ref o0), .val (.int (18 : Int32)), .unset] [(.ref o0)]) fun _ _ X _ k => XS.aloadN X.here hx rfl (hb hby dm24_0) rfl rfl k
  have A2 : own_R p l e _ _ m _ below meth c S0 n0 h0 0 0 (mkF m 4 #[.val (.ref o0), .val (.int (18 : Int32)), .unset] [(.ref o1)]) := A1.getF hx hZ hown (hb hby dm24_1) (hw _ (List.mem_of_getElem? (i := 130) rfl)) Via.refl F_o0_value
  have A3 : own_R p l e _ _ m _ below meth c S0 n0 h0 0 0 (mkF m 5 #[.val (.ref o0), .val (.int (18 : Int32)), .unset] [(.int (34 : Int32))]) := A2.len hx hZ (hb hby dm24_4) V_o1
  have A4 := A3.go (f' := mkF m 6 #[.val (.ref o0), .val (.int (18 : Int32)), .unset] [(.ref o0), (.int (34 : Int32))]) fun _ _ X _ k => XS.aloadN X.here hx rfl (hb hby dm24_5) rfl rfl k
  have A5 : own_R p l e _ _ m _ below meth c S0 n0 h0 0 0 (mkF m 9 #[.val (.ref o0), .val (.int (18 : Int32)), .unset] [(.int (0 : Int32)), (.int (34 : Int32))]) := A4.getF hx hZ hown (hb hby dm24_6) (hw _ (List.mem_of_getElem? (i := 132) rfl)) Via.refl F_o0_coder
  have A6 := A5.go (f' := mkF m 10 #[.val (.ref o0), .val (.int (18 : Int32)), .unset] [(.int (34 : Int32))]) fun _ _ X _ k => XS.ishr X.here hx rfl (hb hby dm24_9) rfl k
  have A7 := A6.go (f' := mkF m 11 #[.val (.ref o0), .val (.int (18 : Int32)), .val (.int (34 : Int32))] []) fun _ _ X _ k => XS.istoreN X.here hx rfl (hb hby dm24_10) rfl (l' := #[.val (.ref o0), .val (.int (18 : Int32)), .val (.int (34 : Int32))]) rfl k
  have A8 := A7.go (f' := mkF m 12 #[.val (.ref o0), .val (.int (18 : Int32)), .val (.int (34 : Int32))] [(.int (18 : Int32))]) fun _ _ X _ k => XS.iloadN X.here hx rfl (hb hby dm24_11) rfl k
  have A9 := A8.go (f' := mkF m 13 #[.val (.ref o0), .val (.int (18 : Int32)), .val (.int (34 : Int32))] [(.int (34 : Int32)), (.int (18 : Int32))]) fun _ _ X _ k => XS.iloadN X.here hx rfl (hb hby dm24_12) rfl k
  have A10 := A9.go (f' := mkF m 14 #[.val (.ref o0), .val (.int (18 : Int32)), .val (.int (34 : Int32))] [(.int (-16 : Int32))]) fun _ _ X _ k => XS.isub X.here hx rfl (hb hby dm24_13) rfl k
  have q11 : ¬ ((0 : Int32) < (-16 : Int32)) := by decide
  have A12 := A10.go (f' := mkF m 38 #[.val (.ref o0), .val (.int (18 : Int32)), .val (.int (34 : Int32))] []) fun _ _ X _ k => XS.ifYes X.here hx rfl (pc0 := 14) (pc' := 38) rfl (hb hby dm24_14) rfl ((if0 _ _).trans (flt q11).2.2.2) (by decide) (by decide) k
  exact A12.retV hx hlk hret (hb hby dm24_38) (by decide) (by decide) ⟨rfl, rfl⟩
theorem ef_own_c107 (m : MethodId) (o0 : Addr) : entryFrame m #[(.ref o0)] 1 = mkF m 0 #[.val (.ref o0)] [] := by first | (simp [entryFrame, mkF, argsToLocals, Value.category, maxLocals]; done) | rfl
set_option maxRecDepth 65536 in
set_option maxHeartbeats 40000000 in
theorem own_c107 (l : Launch) (Z : State) (a0 : Array Value) (hw : ∀ d ∈ tables_1, d.before a0 Z = true) (o0 : Addr) (cs : Int32) (h0 : Heap) (n0 : Nat) (Z0 : n0 ≤ h0.size) (F_o0_coder : Fld Z h0 o0 "java/lang/AbstractStringBuilder" "coder" "B" (.int (0 : Int32))) (S_cs : Sta Z h0 "java/lang/String" "COMPACT_STRINGS" "Z" (.int cs)) (hcs : ¬ (cs = (0 : Int32))) :
    own_M l Z (⟨"java/lang/AbstractStringBuilder", "isLatin1", "()Z"⟩ : MethodName) jdk_68_method_68_code 1 (some .boolean) [] ({ frames := 0, cells := 0, slots := 0, locals := 0 } : Room) #[(.ref o0)] h0 n0 (fun v h => v = some (.int (1 : Int32)) ∧ h0 = h) := by
  refine own_M.of (plainFor_of_name (by first | (simp [plainName, overriddenIn]; done) | decide +kernel)) ?_
  intro p e s m below meth c S0 hx hby hml hown hnm hret hlk hZ A00
  have A0 := A00.cast (ef_own_c107 m o0)
  have KK : Keep h0 h0 ([] : List Addr) := Keep.refl _ _
  have A1 : own_R p l e _ _ m _ below meth c S0 n0 h0 0 0 (mkF m 3 #[.val (.ref o0)] [(.int cs)]) := A0.getS hx hZ hown (hb hby dm36_0) (hw _ (List.mem_of_getElem? (i := 129) rfl)) Via.refl S_cs
  have A2 := A1.go (f' := mkF m 6 #[.val (.ref o0)] []) fun _ _ X _ k => XS.ifNo X.here hx rfl (hb hby dm36_3) rfl ((if0 _ _).trans (feq hcs).1) k
  have A3 := A2.go (f' := mkF m 7 #[.val (.ref o0)] [(.ref o0)]) fun _ _ X _ k => XS.aloadN X.here hx rfl (hb hby dm36_6) rfl rfl k
  have A4 : own_R p l e _ _ m _ below meth c S0 n0 h0 0 0 (mkF m 10 #[.val (.ref o0)] [(.int (0 : Int32))]) := A3.getF hx hZ hown (hb hby dm36_7) (hw _ (List.mem_of_getElem? (i := 132) rfl)) Via.refl F_o0_coder
  have q5 : ((0 : Int32) = (0 : Int32)) := rfl
  have A6 := A4.go (f' := mkF m 13 #[.val (.ref o0)] []) fun _ _ X _ k => XS.ifNo X.here hx rfl (hb hby dm36_10) rfl ((if0 _ _).trans (teq q5).2) k
  have A7 := A6.go (f' := mkF m 14 #[.val (.ref o0)] [(.int (1 : Int32))]) fun _ _ X _ k => XS.iconst X.here hx rfl (hb hby dm36_13) k
  have A8 := A7.go (f' := mkF m 18 #[.val (.ref o0)] [(.int (1 : Int32))]) fun _ _ X _ k => XS.goto X.here hx rfl (pc0 := 14) (pc' := 18) rfl (hb hby dm36_14) (by decide) (by decide) k
  exact A8.ret hx hlk hret (hb hby dm36_18) rfl (Or.inl ⟨rfl, by simp, _, rfl⟩) (by decide) (by decide) ⟨rfl, rfl⟩
theorem ef_own_c109 (m : MethodId) (o0 : Addr) : entryFrame m #[(.int (0 : Int32)), (.int (18 : Int32)), (.ref o0)] 7 = mkF m 0 #[.val (.int (0 : Int32)), .val (.int (18 : Int32)), .val (.ref o0), .unset, .unset, .unset, .unset] [] := by first | (simp [entryFrame, mkF, argsToLocals, Value.category, maxLocals]; done) | rfl
set_option maxRecDepth 65536 in
set_option maxHeartbeats 40000000 in
theorem own_c109 (l : Launch) (Z : State) (a0 : Array Value) (hw : ∀ d ∈ tables_1, d.before a0 Z = true) (o0 : Addr) (dig : Addr) (ds : List Value) (h0 : Heap) (n0 : Nat) (Z0 : n0 ≤ h0.size) (V_o0 : own_Ar Z h0 o0 .byte [(.int (104 : Int32)), (.int (116 : Int32)), (.int (116 : Int32)), (.int (112 : Int32)), (.int (58 : Int32)), (.int (47 : Int32)), (.int (47 : Int32)), (.int (49 : Int32)), (.int (50 : Int32)), (.int (55 : Int32)), (.int (46 : Int32)), (.int (48 : Int32)), (.int (46 : Int32)), (.int (48 : Int32)), (.int (46 : Int32)), (.int (49 : Int32)), (.int (58 : Int32)), (.int (0 : Int32)), (.int (0 : Int32)), (.int (0 : Int32)), (.int (0 : Int32)), (.int (0 : Int32)), (.int (0 : Int32)), (.int (0 : Int32)), (.int (0 : Int32)), (.int (0 : Int32)), (.int (0 : Int32)), (.int (0 : Int32)), (.int (0 : Int32)), (.int (0 : Int32)), (.int (0 : Int32)), (.int (0 : Int32)), (.int (0 : Int32)), (.int (0 : Int32))]) (V_dig : own_Ar Z h0 dig .byte ds) (S_dig : Sta Z h0 "java/lang/Integer" "DigitOnes" "[B" (.ref dig)) (hds : ds[0]? = some (.int (48 : Int32))) (ne_dig_o0 : dig ≠ o0) (g_o0 : n0 ≤ o0) :
    own_M l Z (⟨"java/lang/Integer", "getChars", "(II[B)I"⟩ : MethodName) jdk_33_method_12_code 7 (some .int) [] ({ frames := 0, cells := 0, slots := 0, locals := 0 } : Room) #[(.int (0 : Int32)), (.int (18 : Int32)), (.ref o0)] h0 n0 (fun v h => v = some (.int (17 : Int32)) ∧ Keep h0 h [o0] ∧ own_Ar Z h o0 .byte [(.int (104 : Int32)), (.int (116 : Int32)), (.int (116 : Int32)), (.int (112 : Int32)), (.int (58 : Int32)), (.int (47 : Int32)), (.int (47 : Int32)), (.int (49 : Int32)), (.int (50 : Int32)), (.int (55 : Int32)), (.int (46 : Int32)), (.int (48 : Int32)), (.int (46 : Int32)), (.int (48 : Int32)), (.int (46 : Int32)), (.int (49 : Int32)), (.int (58 : Int32)), (.int (48 : Int32)), (.int (0 : Int32)), (.int (0 : Int32)), (.int (0 : Int32)), (.int (0 : Int32)), (.int (0 : Int32)), (.int (0 : Int32)), (.int (0 : Int32)), (.int (0 : Int32)), (.int (0 : Int32)), (.int (0 : Int32)), (.int (0 : Int32)), (.int (0 : Int32)), (.int (0 : Int32)), (.int (0 : Int32)), (.int (0 : Int32)), (.int (0 : Int32))]) := by
  refine own_M.of (plainFor_of_name (by first | (simp [plainName, overriddenIn]; done) | decide +kernel)) ?_
  intro p e s m below meth c S0 hx hby hml hown hnm hret hlk hZ A00
  have A0 := A00.cast (ef_own_c109 m o0)
  have KK : Keep h0 h0 ([o0] : List Addr) := Keep.refl _ _
  have A1 := A0.go (f' := mkF m 1 #[.val (.int (0 : Int32)), .val (.int (18 : Int32)), .val (.ref o0), .unset, .unset, .unset, .unset] [(.int (18 : Int32))]) fun _ _ X _ k => XS.iloadN X.here hx rfl (hb hby dm37_0) rfl k
  have A2 := A1.go (f' := mkF m 3 #[.val (.int (0 : Int32)), .val (.int (18 : Int32)), .val (.ref o0), .unset, .unset, .val (.int (18 : Int32)), .unset] []) fun _ _ X _ k => XS.istore X.here hx rfl (hb hby dm37_1) rfl (l' := #[.val (.int (0 : Int32)), .val (.int (18 : Int32)), .val (.ref o0), .unset, .unset, .val (.int (18 : Int32)), .unset]) rfl k
  have A3 := A2.go (f' := mkF m 4 #[.val (.int (0 : Int32)), .val (.int (18 : Int32)), .val (.ref o0), .unset, .unset, .val (.int (18 : Int32)), .unset] [(.int (0 : Int32))]) fun _ _ X _ k => XS.iloadN X.here hx rfl (hb hby dm37_3) rfl k
  have q4 : ¬ ((0 : Int32) < (0 : Int32)) := by decide
  have A5 := A3.go (f' := mkF m 11 #[.val (.int (0 : Int32)), .val (.int (18 : Int32)), .val (.ref o0), .unset, .unset, .val (.int (18 : Int32)), .unset] []) fun _ _ X _ k => XS.ifYes X.here hx rfl (pc0 := 4) (pc' := 11) rfl (hb hby dm37_4) rfl ((if0 _ _).trans (flt q4).2.1) (by decide) (by decide) k
  have A6 := A5.go (f' := mkF m 12 #[.val (.int (0 : Int32)), .val (.int (18 : Int32)), .val (.ref o0), .unset, .unset, .val (.int (18 : Int32)), .unset] [(.int (0 : Int32))]) fun _ _ X _ k => XS.iconst X.here hx rfl (hb hby dm37_11) k
  have A7 := A6.go (f' := mkF m 14 #[.val (.int (0 : Int32)), .val (.int (18 : Int32)), .val (.ref o0), .unset, .unset, .val (.int (18 : Int32)), .val (.int (0 : Int32))] []) fun _ _ X _ k => XS.istore X.here hx rfl (hb hby dm37_12) rfl (l' := #[.val (.int (0 : Int32)), .val (.int (18 : Int32)), .val (.ref o0), .unset, .unset, .val (.int (18 : Int32)), .val (.int (0 : Int32))]) rfl k
  have A8 := A7.go (f' := mkF m 16 #[.val (.int (0 : Int32)), .val (.int (18 : Int32)), .val (.ref o0), .unset, .unset, .val (.int (18 : Int32)), .val (.int (0 : Int32))] [(.int (0 : Int32))]) fun _ _ X _ k => XS.iload X.here hx rfl (hb hby dm37_14) rfl k
  have q9 : ((0 : Int32) = (0 : Int32)) := rfl
  have A10 := A8.go (f' := mkF m 19 #[.val (.int (0 : Int32)), .val (.int (18 : Int32)), .val (.ref o0), .unset, .unset, .val (.int (18 : Int32)), .val (.int (0 : Int32))] []) fun _ _ X _ k => XS.ifNo X.here hx rfl (hb hby dm37_16) rfl ((if0 _ _).trans (teq q9).2) k
  have A11 := A10.go (f' := mkF m 20 #[.val (.int (0 : Int32)), .val (.int (18 : Int32)), .val (.ref o0), .unset, .unset, .val (.int (18 : Int32)), .val (.int (0 : Int32))] [(.int (0 : Int32))]) fun _ _ X _ k => XS.iloadN X.here hx rfl (hb hby dm37_19) rfl k
  have A12 := A11.go (f' := mkF m 21 #[.val (.int (0 : Int32)), .val (.int (18 : Int32)), .val (.ref o0), .unset, .unset, .val (.int (18 : Int32)), .val (.int (0 : Int32))] [(.int (0 : Int32))]) fun _ _ X _ k => XS.ineg X.here hx rfl (hb hby dm37_20) rfl k
  have A13 := A12.go (f' := mkF m 22 #[.val (.int (0 : Int32)), .val (.int (18 : Int32)), .val (.ref o0), .unset, .unset, .val (.int (18 : Int32)), .val (.int (0 : Int32))] []) fun _ _ X _ k => XS.istoreN X.here hx rfl (hb hby dm37_21) rfl (l' := #[.val (.int (0 : Int32)), .val (.int (18 : Int32)), .val (.ref o0), .unset, .unset, .val (.int (18 : Int32)), .val (.int (0 : Int32))]) rfl k
  have A14 := A13.go (f' := mkF m 23 #[.val (.int (0 : Int32)), .val (.int (18 : Int32)), .val (.ref o0), .unset, .unset, .val (.int (18 : Int32)), .val (.int (0 : Int32))] [(.int (0 : Int32))]) fun _ _ X _ k => XS.iloadN X.here hx rfl (hb hby dm37_22) rfl k
  have A15 := A14.go (f' := mkF m 25 #[.val (.int (0 : Int32)), .val (.int (18 : Int32)), .val (.ref o0), .unset, .unset, .val (.int (18 : Int32)), .val (.int (0 : Int32))] [(.int (-100 : Int32)), (.int (0 : Int32))]) fun _ _ X _ k => XS.bipush X.here hx rfl (hb hby dm37_23) k
  have q16 : ((-100 : Int32) < (0 : Int32)) := by decide
  have A17 := A15.go (f' := mkF m 72 #[.val (.int (0 : Int32)), .val (.int (18 : Int32)), .val (.ref o0), .unset, .unset, .val (.int (18 : Int32)), .val (.int (0 : Int32))] []) fun _ _ X _ k => XS.icmpYes X.here hx rfl (pc0 := 25) (pc' := 72) rfl (hb hby dm37_25) rfl ((tlt q16).2.2.1) (by decide) (by decide) k
  have A18 := A17.go (f' := mkF m 73 #[.val (.int (0 : Int32)), .val (.int (18 : Int32)), .val (.ref o0), .unset, .unset, .val (.int (18 : Int32)), .val (.int (0 : Int32))] [(.ref o0)]) fun _ _ X _ k => XS.aloadN X.here hx rfl (hb hby dm37_72) rfl rfl k
  have A19 := A18.go (f' := mkF m 76 #[.val (.int (0 : Int32)), .val (.int (18 : Int32)), .val (.ref o0), .unset, .unset, .val (.int (17 : Int32)), .val (.int (0 : Int32))] [(.ref o0)]) fun _ _ X _ k => XS.iinc X.here hx rfl (hb hby dm37_73) rfl (l' := #[.val (.int (0 : Int32)), .val (.int (18 : Int32)), .val (.ref o0), .unset, .unset, .val (.int (17 : Int32)), .val (.int (0 : Int32))]) rfl k
  have A20 := A19.go (f' := mkF m 78 #[.val (.int (0 : Int32)), .val (.int (18 : Int32)), .val (.ref o0), .unset, .unset, .val (.int (17 : Int32)), .val (.int (0 : Int32))] [(.int (17 : Int32)), (.ref o0)]) fun _ _ X _ k => XS.iload X.here hx rfl (hb hby dm37_76) rfl k
  have A21 : own_R p l e _ _ m _ below meth c S0 n0 h0 0 0 (mkF m 81 #[.val (.int (0 : Int32)), .val (.int (18 : Int32)), .val (.ref o0), .unset, .unset, .val (.int (17 : Int32)), .val (.int (0 : Int32))] [(.ref dig), (.int (17 : Int32)), (.ref o0)]) := A20.getS hx hZ hown (hb hby dm37_78) (hw _ (List.mem_of_getElem? (i := 221) rfl)) Via.refl S_dig
  have A22 := A21.go (f' := mkF m 82 #[.val (.int (0 : Int32)), .val (.int (18 : Int32)), .val (.ref o0), .unset, .unset, .val (.int (17 : Int32)), .val (.int (0 : Int32))] [(.int (0 : Int32)), (.ref dig), (.int (17 : Int32)), (.ref o0)]) fun _ _ X _ k => XS.iloadN X.here hx rfl (hb hby dm37_81) rfl k
  have A23 := A22.go (f' := mkF m 83 #[.val (.int (0 : Int32)), .val (.int (18 : Int32)), .val (.ref o0), .unset, .unset, .val (.int (17 : Int32)), .val (.int (0 : Int32))] [(.int (0 : Int32)), (.ref dig), (.int (17 : Int32)), (.ref o0)]) fun _ _ X _ k => XS.ineg X.here hx rfl (hb hby dm37_82) rfl k
  have A24 : own_R p l e _ _ m _ below meth c S0 n0 h0 0 0 (mkF m 84 #[.val (.int (0 : Int32)), .val (.int (18 : Int32)), .val (.ref o0), .unset, .unset, .val (.int (17 : Int32)), .val (.int (0 : Int32))] [(.int (48 : Int32)), (.int (17 : Int32)), (.ref o0)]) := A23.ldB hx hZ (hb hby dm37_83) V_dig (by decide) hds
  obtain ⟨h25, W26, A27⟩ := A24.stB hx hZ (hb hby dm37_84) V_o0 (by decide) (by simp +decide) g_o0
  have V_o0 : own_Ar Z h25 o0 .byte [(.int (104 : Int32)), (.int (116 : Int32)), (.int (116 : Int32)), (.int (112 : Int32)), (.int (58 : Int32)), (.int (47 : Int32)), (.int (47 : Int32)), (.int (49 : Int32)), (.int (50 : Int32)), (.int (55 : Int32)), (.int (46 : Int32)), (.int (48 : Int32)), (.int (46 : Int32)), (.int (48 : Int32)), (.int (46 : Int32)), (.int (49 : Int32)), (.int (58 : Int32)), (.int (48 : Int32)), (.int (0 : Int32)), (.int (0 : Int32)), (.int (0 : Int32)), (.int (0 : Int32)), (.int (0 : Int32)), (.int (0 : Int32)), (.int (0 : Int32)), (.int (0 : Int32)), (.int (0 : Int32)), (.int (0 : Int32)), (.int (0 : Int32)), (.int (0 : Int32)), (.int (0 : Int32)), (.int (0 : Int32)), (.int (0 : Int32)), (.int (0 : Int32))] := V_o0.same W26
  have V_dig : own_Ar Z h25 dig .byte ds := V_dig.other W26 ne_dig_o0
  have S_dig : Sta Z h25 "java/lang/Integer" "DigitOnes" "[B" (.ref dig) := S_dig.wr W26
  have Z0 : n0 ≤ h25.size := by rw [W26.size]; exact Z0
  have KK : Keep h0 h25 [o0] := KK.wr W26 (Or.inl (by simp))
  have A28 : own_R p l e _ _ m _ below meth c S0 n0 h25 0 0 (mkF m 85 #[.val (.int (0 : Int32)), .val (.int (18 : Int32)), .val (.ref o0), .unset, .unset, .val (.int (17 : Int32)), .val (.int (0 : Int32))] []) := A27
  have A29 := A28.go (f' := mkF m 86 #[.val (.int (0 : Int32)), .val (.int (18 : Int32)), .val (.ref o0), .unset, .unset, .val (.int (17 : Int32)), .val (.int (0 : Int32))] [(.int (0 : Int32))]) fun _ _ X _ k => XS.iloadN X.here hx rfl (hb hby dm37_85) rfl k
  have A30 := A29.go (f' := mkF m 88 #[.val (.int (0 : Int32)), .val (.int (18 : Int32)), .val (.ref o0), .unset, .unset, .val (.int (17 : Int32)), .val (.int (0 : Int32))] [(.int (-9 : Int32)), (.int (0 : Int32))]) fun _ _ X _ k => XS.bipush X.here hx rfl (hb hby dm37_86) k
  have q31 : ¬ ((0 : Int32) < (-9 : Int32)) := by decide
  have A32 := A30.go (f' := mkF m 104 #[.val (.int (0 : Int32)), .val (.int (18 : Int32)), .val (.ref o0), .unset, .unset, .val (.int (17 : Int32)), .val (.int (0 : Int32))] []) fun _ _ X _ k => XS.icmpYes X.here hx rfl (pc0 := 88) (pc' := 104) rfl (hb hby dm37_88) rfl ((flt q31).2.1) (by decide) (by decide) k
  have A33 := A32.go (f' := mkF m 106 #[.val (.int (0 : Int32)), .val (.int (18 : Int32)), .val (.ref o0), .unset, .unset, .val (.int (17 : Int32)), .val (.int (0 : Int32))] [(.int (0 : Int32))]) fun _ _ X _ k => XS.iload X.here hx rfl (hb hby dm37_104) rfl k
  have A34 := A33.go (f' := mkF m 118 #[.val (.int (0 : Int32)), .val (.int (18 : Int32)), .val (.ref o0), .unset, .unset, .val (.int (17 : Int32)), .val (.int (0 : Int32))] []) fun _ _ X _ k => XS.ifYes X.here hx rfl (pc0 := 106) (pc' := 118) rfl (hb hby dm37_106) rfl ((if0 _ _).trans (teq q9).1) (by decide) (by decide) k
  have A35 := A34.go (f' := mkF m 120 #[.val (.int (0 : Int32)), .val (.int (18 : Int32)), .val (.ref o0), .unset, .unset, .val (.int (17 : Int32)), .val (.int (0 : Int32))] [(.int (17 : Int32))]) fun _ _ X _ k => XS.iload X.here hx rfl (hb hby dm37_118) rfl k
  exact A35.ret hx hlk hret (hb hby dm37_120) rfl (Or.inl ⟨rfl, by simp, _, rfl⟩) (by decide) (by decide) ⟨rfl, KK, V_o0⟩
theorem ef_own_c110 (m : MethodId) (o0 : Addr) : entryFrame m #[(.ref o0), (.int (0 : Int32))] 4 = mkF m 0 #[.val (.ref o0), .val (.int (0 : Int32)), .unset, .unset] [] := by first | (simp [entryFrame, mkF, argsToLocals, Value.category, maxLocals]; done) | rfl
set_option maxRecDepth 65536 in
set_option maxHeartbeats 40000000 in
theorem own_c110 (l : Launch) (Z : State) (a0 : Array Value) (hw : ∀ d ∈ tables_1, d.before a0 Z = true) (o0 o1 : Addr) (cs : Int32) (dig : Addr) (ds : List Value) (h0 : Heap) (n0 : Nat) (Z0 : n0 ≤ h0.size) (E_o0 : Exa Z h0 o0 "java/lang/StringBuilder") (F_o0_value : Fld Z h0 o0 "java/lang/AbstractStringBuilder" "value" "[B" (.ref o1)) (F_o0_coder : Fld Z h0 o0 "java/lang/AbstractStringBuilder" "coder" "B" (.int (0 : Int32))) (F_o0_count : Fld Z h0 o0 "java/lang/AbstractStringBuilder" "count" "I" (.int (17 : Int32))) (V_dig : own_Ar Z h0 dig .byte ds) (V_o1 : own_Ar Z h0 o1 .byte [(.int (104 : Int32)), (.int (116 : Int32)), (.int (116 : Int32)), (.int (112 : Int32)), (.int (58 : Int32)), (.int (47 : Int32)), (.int (47 : Int32)), (.int (49 : Int32)), (.int (50 : Int32)), (.int (55 : Int32)), (.int (46 : Int32)), (.int (48 : Int32)), (.int (46 : Int32)), (.int (48 : Int32)), (.int (46 : Int32)), (.int (49 : Int32)), (.int (58 : Int32)), (.int (0 : Int32)), (.int (0 : Int32)), (.int (0 : Int32)), (.int (0 : Int32)), (.int (0 : Int32)), (.int (0 : Int32)), (.int (0 : Int32)), (.int (0 : Int32)), (.int (0 : Int32)), (.int (0 : Int32)), (.int (0 : Int32)), (.int (0 : Int32)), (.int (0 : Int32)), (.int (0 : Int32)), (.int (0 : Int32)), (.int (0 : Int32)), (.int (0 : Int32))]) (S_cs : Sta Z h0 "java/lang/String" "COMPACT_STRINGS" "Z" (.int cs)) (S_dig : Sta Z h0 "java/lang/Integer" "DigitOnes" "[B" (.ref dig)) (hcs : ¬ (cs = (0 : Int32))) (hds : ds[0]? = some (.int (48 : Int32))) (ne_dig_o0 : dig ≠ o0) (ne_dig_o1 : dig ≠ o1) (ne_o0_o1 : o0 ≠ o1) (ne_o1_o0 : o1 ≠ o0) (g_o0 : n0 ≤ o0) (g_o1 : n0 ≤ o1) :
    own_M l Z (⟨"java/lang/AbstractStringBuilder", "append", "(I)Ljava/lang/AbstractStringBuilder;"⟩ : MethodName) jdk_68_method_32_code 4 (some (.object "java/lang/AbstractStringBuilder")) [] ({ frames := 1, cells := 0, slots := 0, locals := 18 } : Room) #[(.ref o0), (.int (0 : Int32))] h0 n0 (fun v h => v = some (.ref o0) ∧ Keep h0 h [o0, o1] ∧ Fld Z h o0 "java/lang/AbstractStringBuilder" "value" "[B" (.ref o1) ∧ Fld Z h o0 "java/lang/AbstractStringBuilder" "coder" "B" (.int (0 : Int32)) ∧ Fld Z h o0 "java/lang/AbstractStringBuilder" "count" "I" (.int (18 : Int32)) ∧ own_Ar Z h o1 .byte [(.int (104 : Int32)), (.int (116 : Int32)), (.int (116 : Int32)), (.int (112 : Int32)), (.int (58 : Int32)), (.int (47 : Int32)), (.int (47 : Int32)), (.int (49 : Int32)), (.int (50 : Int32)), (.int (55 : Int32)), (.int (46 : Int32)), (.int (48 : Int32)), (.int (46 : Int32)), (.int (48 : Int32)), (.int (46 : Int32)), (.int (49 : Int32)), (.int (58 : Int32)), (.int (48 : Int32)), (.int (0 : Int32)), (.int (0 : Int32)), (.int (0 : Int32)), (.int (0 : Int32)), (.int (0 : Int32)), (.int (0 : Int32)), (.int (0 : Int32)), (.int (0 : Int32)), (.int (0 : Int32)), (.int (0 : Int32)), (.int (0 : Int32)), (.int (0 : Int32)), (.int (0 : Int32)), (.int (0 : Int32)), (.int (0 : Int32)), (.int (0 : Int32))]) := by
  refine own_M.of (plainFor_of_name (by first | (simp [plainName, overriddenIn]; done) | decide +kernel)) ?_
  intro p e s m below meth c S0 hx hby hml hown hnm hret hlk hZ A00
  have A0 := A00.cast (ef_own_c110 m o0)
  have KK : Keep h0 h0 ([o0, o1] : List Addr) := Keep.refl _ _
  have A1 := A0.go (f' := mkF m 1 #[.val (.ref o0), .val (.int (0 : Int32)), .unset, .unset] [(.ref o0)]) fun _ _ X _ k => XS.aloadN X.here hx rfl (hb hby dm34_0) rfl rfl k
  have A2 : own_R p l e _ _ m _ below meth c S0 n0 h0 0 0 (mkF m 4 #[.val (.ref o0), .val (.int (0 : Int32)), .unset, .unset] [(.int (17 : Int32))]) := A1.getF hx hZ hown (hb hby dm34_1) (hw _ (List.mem_of_getElem? (i := 149) rfl)) Via.refl F_o0_count
  have A3 := A2.go (f' := mkF m 5 #[.val (.ref o0), .val (.int (0 : Int32)), .val (.int (17 : Int32)), .unset] []) fun _ _ X _ k => XS.istoreN X.here hx rfl (hb hby dm34_4) rfl (l' := #[.val (.ref o0), .val (.int (0 : Int32)), .val (.int (17 : Int32)), .unset]) rfl k
  have A4 := A3.go (f' := mkF m 6 #[.val (.ref o0), .val (.int (0 : Int32)), .val (.int (17 : Int32)), .unset] [(.int (17 : Int32))]) fun _ _ X _ k => XS.iloadN X.here hx rfl (hb hby dm34_5) rfl k
  have A5 := A4.go (f' := mkF m 7 #[.val (.ref o0), .val (.int (0 : Int32)), .val (.int (17 : Int32)), .unset] [(.int (0 : Int32)), (.int (17 : Int32))]) fun _ _ X _ k => XS.iloadN X.here hx rfl (hb hby dm34_6) rfl k
  obtain ⟨vA6, hA6, ⟨rfl, rfl⟩, A6⟩ := A5.callS (own_c103 l Z a0 hw h0 n0 Z0) hx hZ hown (hb hby dm34_7) (hw _ (List.mem_of_getElem? (i := 209) rfl)) (hw _ (List.mem_of_getElem? (i := 210) rfl)) (hw _ (List.mem_of_getElem? (i := 211) rfl)) (hw _ (List.mem_of_getElem? (i := 212) rfl)) ⟨by decide, by decide⟩ (lenOf pd__28I_29I rfl) (argsL := [(.int (0 : Int32))]) (rest := [(.int (17 : Int32))]) rfl rfl (by rw [hml]; rfl) (W := 1) (Nat.le_of_eq rfl) (by decide) (by decide) (by decide) (by decide)
  have A7 : own_R p l e _ _ m _ below meth c S0 n0 h0 0 0 (mkF m 10 #[.val (.ref o0), .val (.int (0 : Int32)), .val (.int (17 : Int32)), .unset] [(.int (1 : Int32)), (.int (17 : Int32))]) := A6
  have A8 := A7.go (f' := mkF m 11 #[.val (.ref o0), .val (.int (0 : Int32)), .val (.int (17 : Int32)), .unset] [(.int (18 : Int32))]) fun _ _ X _ k => XS.iadd X.here hx rfl (hb hby dm34_10) rfl k
  have A9 := A8.go (f' := mkF m 12 #[.val (.ref o0), .val (.int (0 : Int32)), .val (.int (17 : Int32)), .val (.int (18 : Int32))] []) fun _ _ X _ k => XS.istoreN X.here hx rfl (hb hby dm34_11) rfl (l' := #[.val (.ref o0), .val (.int (0 : Int32)), .val (.int (17 : Int32)), .val (.int (18 : Int32))]) rfl k
  have A10 := A9.go (f' := mkF m 13 #[.val (.ref o0), .val (.int (0 : Int32)), .val (.int (17 : Int32)), .val (.int (18 : Int32))] [(.ref o0)]) fun _ _ X _ k => XS.aloadN X.here hx rfl (hb hby dm34_12) rfl rfl k
  have A11 := A10.go (f' := mkF m 14 #[.val (.ref o0), .val (.int (0 : Int32)), .val (.int (17 : Int32)), .val (.int (18 : Int32))] [(.int (18 : Int32)), (.ref o0)]) fun _ _ X _ k => XS.iloadN X.here hx rfl (hb hby dm34_13) rfl k
  obtain ⟨vA12, hA12, ⟨rfl, rfl⟩, A12⟩ := A11.callV (b := o0) (own_c105 l Z a0 hw o0 o1 h0 n0 Z0 F_o0_value F_o0_coder V_o1) E_o0 hx hZ hown (hb hby dm34_14) (hw _ (List.mem_of_getElem? (i := 151) rfl)) (own_declares (hw _ (List.mem_of_getElem? (i := 152) rfl)) (hw _ (List.mem_of_getElem? (i := 155) rfl))) (hw _ (List.mem_of_getElem? (i := 154) rfl)) (hw _ (List.mem_of_getElem? (i := 152) rfl)) (hw _ (List.mem_of_getElem? (i := 155) rfl)) (hw _ (List.mem_of_getElem? (i := 126) rfl)) (own_nf (y' := (⟨"java/lang/AbstractStringBuilder", "ensureCapacityInternal", "(I)V"⟩ : MethodName)) (hw _ (List.mem_of_getElem? (i := 154) rfl)) rfl) ⟨by decide, by decide⟩ (lenOf pd__28I_29V rfl) (argsL := [(.int (18 : Int32))]) (rest := []) rfl rfl (by rw [hml]; rfl) (W := 0) (Nat.le_of_eq rfl) (by decide) (by decide) (by decide) (by decide)
  have A13 : own_R p l e _ _ m _ below meth c S0 n0 h0 0 0 (mkF m 17 #[.val (.ref o0), .val (.int (0 : Int32)), .val (.int (17 : Int32)), .val (.int (18 : Int32))] []) := A12
  have A14 := A13.go (f' := mkF m 18 #[.val (.ref o0), .val (.int (0 : Int32)), .val (.int (17 : Int32)), .val (.int (18 : Int32))] [(.ref o0)]) fun _ _ X _ k => XS.aloadN X.here hx rfl (hb hby dm34_17) rfl rfl k
  obtain ⟨vA15, hA15, ⟨rfl, rfl⟩, A15⟩ := A14.callV (b := o0) (own_c107 l Z a0 hw o0 cs h0 n0 Z0 F_o0_coder S_cs hcs) E_o0 hx hZ hown (hb hby dm34_18) (hw _ (List.mem_of_getElem? (i := 213) rfl)) (hw _ (List.mem_of_getElem? (i := 214) rfl)) (hw _ (List.mem_of_getElem? (i := 216) rfl)) (hw _ (List.mem_of_getElem? (i := 215) rfl)) (hw _ (List.mem_of_getElem? (i := 217) rfl)) (hw _ (List.mem_of_getElem? (i := 126) rfl)) (own_nf (y' := (⟨"java/lang/AbstractStringBuilder", "ensureCapacityInternal", "(I)V"⟩ : MethodName)) (hw _ (List.mem_of_getElem? (i := 154) rfl)) rfl) ⟨by decide, by decide⟩ (lenOf pd__28_29Z rfl) (argsL := []) (rest := []) rfl rfl (by rw [hml]; rfl) (W := 0) (Nat.le_of_eq rfl) (by decide) (by decide) (by decide) (by decide)
  have A16 : own_R p l e _ _ m _ below meth c S0 n0 h0 0 0 (mkF m 21 #[.val (.ref o0), .val (.int (0 : Int32)), .val (.int (17 : Int32)), .val (.int (18 : Int32))] [(.int (1 : Int32))]) := A15
  have q17 : ¬ ((1 : Int32) = (0 : Int32)) := by decide
  have A18 := A16.go (f' := mkF m 24 #[.val (.ref o0), .val (.int (0 : Int32)), .val (.int (17 : Int32)), .val (.int (18 : Int32))] []) fun _ _ X _ k => XS.ifNo X.here hx rfl (hb hby dm34_21) rfl ((if0 _ _).trans (feq q17).1) k
  have A19 := A18.go (f' := mkF m 25 #[.val (.ref o0), .val (.int (0 : Int32)), .val (.int (17 : Int32)), .val (.int (18 : Int32))] [(.int (0 : Int32))]) fun _ _ X _ k => XS.iloadN X.here hx rfl (hb hby dm34_24) rfl k
  have A20 := A19.go (f' := mkF m 26 #[.val (.ref o0), .val (.int (0 : Int32)), .val (.int (17 : Int32)), .val (.int (18 : Int32))] [(.int (18 : Int32)), (.int (0 : Int32))]) fun _ _ X _ k => XS.iloadN X.here hx rfl (hb hby dm34_25) rfl k
  have A21 := A20.go (f' := mkF m 27 #[.val (.ref o0), .val (.int (0 : Int32)), .val (.int (17 : Int32)), .val (.int (18 : Int32))] [(.ref o0), (.int (18 : Int32)), (.int (0 : Int32))]) fun _ _ X _ k => XS.aloadN X.here hx rfl (hb hby dm34_26) rfl rfl k
  have A22 : own_R p l e _ _ m _ below meth c S0 n0 h0 0 0 (mkF m 30 #[.val (.ref o0), .val (.int (0 : Int32)), .val (.int (17 : Int32)), .val (.int (18 : Int32))] [(.ref o1), (.int (18 : Int32)), (.int (0 : Int32))]) := A21.getF hx hZ hown (hb hby dm34_27) (hw _ (List.mem_of_getElem? (i := 130) rfl)) Via.refl F_o0_value
  obtain ⟨vA23, hA23, ⟨rfl, KA23, P_V_o1⟩, A23⟩ := A22.callS (own_c109 l Z a0 hw o1 dig ds h0 n0 Z0 V_o1 V_dig S_dig hds ne_dig_o1 g_o1) hx hZ hown (hb hby dm34_30) (hw _ (List.mem_of_getElem? (i := 218) rfl)) (hw _ (List.mem_of_getElem? (i := 219) rfl)) (hw _ (List.mem_of_getElem? (i := 211) rfl)) (hw _ (List.mem_of_getElem? (i := 220) rfl)) ⟨by decide, by decide⟩ (lenOf pd__28II_5bB_29I rfl) (argsL := [(.int (0 : Int32)), (.int (18 : Int32)), (.ref o1)]) (rest := []) rfl rfl (by rw [hml]; rfl) (W := 0) (Nat.le_of_eq rfl) (by decide) (by decide) (by decide) (by decide)
  have S_cs : Sta Z hA23 "java/lang/String" "COMPACT_STRINGS" "Z" (.int cs) := own_staK S_cs KA23 (allS (P := fun x => ∀ cell : Cell, h0[x]? = some cell → cell.vm.isStatics = false) V_o1.nostat all0)
  have S_dig : Sta Z hA23 "java/lang/Integer" "DigitOnes" "[B" (.ref dig) := own_staK S_dig KA23 (allS (P := fun x => ∀ cell : Cell, h0[x]? = some cell → cell.vm.isStatics = false) V_o1.nostat all0)
  have E_o0 : Exa Z hA23 o0 "java/lang/StringBuilder" := E_o0.keep KA23
  have F_o0_value : Fld Z hA23 o0 "java/lang/AbstractStringBuilder" "value" "[B" (.ref o1) := F_o0_value.keep KA23 (ninS ne_o0_o1 nin0)
  have F_o0_coder : Fld Z hA23 o0 "java/lang/AbstractStringBuilder" "coder" "B" (.int (0 : Int32)) := F_o0_coder.keep KA23 (ninS ne_o0_o1 nin0)
  have F_o0_count : Fld Z hA23 o0 "java/lang/AbstractStringBuilder" "count" "I" (.int (17 : Int32)) := F_o0_count.keep KA23 (ninS ne_o0_o1 nin0)
  have V_dig : own_Ar Z hA23 dig .byte ds := V_dig.keep KA23 (ninS ne_dig_o1 nin0)
  have Z0 : n0 ≤ hA23.size := Nat.le_trans Z0 KA23.1
  have KK : Keep h0 hA23 [o0, o1] := KK.trans KA23 (allS (P := fun x => x ∈ ([o0, o1] : List Addr) ∨ h0.size ≤ x) (Or.inl (by simp)) all0)
  have V_o1 : own_Ar Z hA23 o1 .byte [(.int (104 : Int32)), (.int (116 : Int32)), (.int (116 : Int32)), (.int (112 : Int32)), (.int (58 : Int32)), (.int (47 : Int32)), (.int (47 : Int32)), (.int (49 : Int32)), (.int (50 : Int32)), (.int (55 : Int32)), (.int (46 : Int32)), (.int (48 : Int32)), (.int (46 : Int32)), (.int (48 : Int32)), (.int (46 : Int32)), (.int (49 : Int32)), (.int (58 : Int32)), (.int (48 : Int32)), (.int (0 : Int32)), (.int (0 : Int32)), (.int (0 : Int32)), (.int (0 : Int32)), (.int (0 : Int32)), (.int (0 : Int32)), (.int (0 : Int32)), (.int (0 : Int32)), (.int (0 : Int32)), (.int (0 : Int32)), (.int (0 : Int32)), (.int (0 : Int32)), (.int (0 : Int32)), (.int (0 : Int32)), (.int (0 : Int32)), (.int (0 : Int32))] := P_V_o1
  have A24 : own_R p l e _ _ m _ below meth c S0 n0 hA23 0 0 (mkF m 33 #[.val (.ref o0), .val (.int (0 : Int32)), .val (.int (17 : Int32)), .val (.int (18 : Int32))] [(.int (17 : Int32))]) := A23
  have A25 := A24.go (f' := mkF m 34 #[.val (.ref o0), .val (.int (0 : Int32)), .val (.int (17 : Int32)), .val (.int (18 : Int32))] []) fun _ _ X _ k => XS.pop X.here hx rfl (hb hby dm34_33) rfl rfl k
  have A26 := A25.go (f' := mkF m 48 #[.val (.ref o0), .val (.int (0 : Int32)), .val (.int (17 : Int32)), .val (.int (18 : Int32))] []) fun _ _ X _ k => XS.goto X.here hx rfl (pc0 := 34) (pc' := 48) rfl (hb hby dm34_34) (by decide) (by decide) k
  have A27 := A26.go (f' := mkF m 49 #[.val (.ref o0), .val (.int (0 : Int32)), .val (.int (17 : Int32)), .val (.int (18 : Int32))] [(.ref o0)]) fun _ _ X _ k => XS.aloadN X.here hx rfl (hb hby dm34_48) rfl rfl k
  have A28 := A27.go (f' := mkF m 50 #[.val (.ref o0), .val (.int (0 : Int32)), .val (.int (17 : Int32)), .val (.int (18 : Int32))] [(.int (18 : Int32)), (.ref o0)]) fun _ _ X _ k => XS.iloadN X.here hx rfl (hb hby dm34_49) rfl k
  obtain ⟨h29, W30, A31⟩ := A28.putF hx hZ hown (hb hby dm34_50) (hw _ (List.mem_of_getElem? (i := 149) rfl)) F_o0_count E_o0 (Or.inl (hw _ (List.mem_of_getElem? (i := 150) rfl))) (hw _ (List.mem_of_getElem? (i := 117) rfl)) (ty := .int) (by decide) rfl rfl g_o0
  have E_o0 : Exa Z h29 o0 "java/lang/StringBuilder" := E_o0.wr W30
  have F_o0_value : Fld Z h29 o0 "java/lang/AbstractStringBuilder" "value" "[B" (.ref o1) := F_o0_value.other W30 (Or.inr (slot_ne (Or.inl (hw _ (List.mem_of_getElem? (i := 131) rfl))) (Or.inl (hw _ (List.mem_of_getElem? (i := 150) rfl))) (by decide) (t := (.array .byte)) (t' := .int) (by decide) (by decide)))
  have F_o0_coder : Fld Z h29 o0 "java/lang/AbstractStringBuilder" "coder" "B" (.int (0 : Int32)) := F_o0_coder.other W30 (Or.inr (slot_ne (Or.inl (hw _ (List.mem_of_getElem? (i := 133) rfl))) (Or.inl (hw _ (List.mem_of_getElem? (i := 150) rfl))) (by decide) (t := .byte) (t' := .int) (by decide) (by decide)))
  have F_o0_count : Fld Z h29 o0 "java/lang/AbstractStringBuilder" "count" "I" (.int (18 : Int32)) := F_o0_count.same W30
  have V_dig : own_Ar Z h29 dig .byte ds := V_dig.other W30 ne_dig_o0
  have S_cs : Sta Z h29 "java/lang/String" "COMPACT_STRINGS" "Z" (.int cs) := S_cs.wr W30
  have S_dig : Sta Z h29 "java/lang/Integer" "DigitOnes" "[B" (.ref dig) := S_dig.wr W30
  have V_o1 : own_Ar Z h29 o1 .byte [(.int (104 : Int32)), (.int (116 : Int32)), (.int (116 : Int32)), (.int (112 : Int32)), (.int (58 : Int32)), (.int (47 : Int32)), (.int (47 : Int32)), (.int (49 : Int32)), (.int (50 : Int32)), (.int (55 : Int32)), (.int (46 : Int32)), (.int (48 : Int32)), (.int (46 : Int32)), (.int (48 : Int32)), (.int (46 : Int32)), (.int (49 : Int32)), (.int (58 : Int32)), (.int (48 : Int32)), (.int (0 : Int32)), (.int (0 : Int32)), (.int (0 : Int32)), (.int (0 : Int32)), (.int (0 : Int32)), (.int (0 : Int32)), (.int (0 : Int32)), (.int (0 : Int32)), (.int (0 : Int32)), (.int (0 : Int32)), (.int (0 : Int32)), (.int (0 : Int32)), (.int (0 : Int32)), (.int (0 : Int32)), (.int (0 : Int32)), (.int (0 : Int32))] := V_o1.other W30 ne_o1_o0
  have Z0 : n0 ≤ h29.size := by rw [W30.size]; exact Z0
  have KK : Keep h0 h29 [o0, o1] := KK.wr W30 (Or.inl (by simp))
  have A32 : own_R p l e _ _ m _ below meth c S0 n0 h29 0 0 (mkF m 53 #[.val (.ref o0), .val (.int (0 : Int32)), .val (.int (17 : Int32)), .val (.int (18 : Int32))] []) := A31
  have A33 := A32.go (f' := mkF m 54 #[.val (.ref o0), .val (.int (0 : Int32)), .val (.int (17 : Int32)), .val (.int (18 : Int32))] [(.ref o0)]) fun _ _ X _ k => XS.aloadN X.here hx rfl (hb hby dm34_53) rfl rfl k
  exact A33.ret hx hlk hret (hb hby dm34_54) rfl (Or.inr (Or.inr (Or.inr (Or.inr ⟨rfl, rfl, rfl⟩)))) (by decide) (by decide) ⟨rfl, KK, F_o0_value, F_o0_coder, F_o0_count, V_o1⟩
theorem ef_own_c111 (m : MethodId) (o0 : Addr) : entryFrame m #[(.ref o0), (.int (0 : Int32))] 2 = mkF m 0 #[.val (.ref o0), .val (.int (0 : Int32))] [] := by first | (simp [entryFrame, mkF, argsToLocals, Value.category, maxLocals]; done) | rfl
set_option maxRecDepth 65536 in
set_option maxHeartbeats 40000000 in
theorem own_c111 (l : Launch) (Z : State) (a0 : Array Value) (hw : ∀ d ∈ tables_1, d.before a0 Z = true) (o0 o1 : Addr) (cs : Int32) (dig : Addr) (ds : List Value) (h0 : Heap) (n0 : Nat) (Z0 : n0 ≤ h0.size) (E_o0 : Exa Z h0 o0 "java/lang/StringBuilder") (F_o0_value : Fld Z h0 o0 "java/lang/AbstractStringBuilder" "value" "[B" (.ref o1)) (F_o0_coder : Fld Z h0 o0 "java/lang/AbstractStringBuilder" "coder" "B" (.int (0 : Int32))) (F_o0_count : Fld Z h0 o0 "java/lang/AbstractStringBuilder" "count" "I" (.int (17 : Int32))) (V_dig : own_Ar Z h0 dig .byte ds) (V_o1 : own_Ar Z h0 o1 .byte [(.int (104 : Int32)), (.int (116 : Int32)), (.int (116 : Int32)), (.int (112 : Int32)), (.int (58 : Int32)), (.int (47 : Int32)), (.int (47 : Int32)), (.int (49 : Int32)), (.int (50 : Int32)), (.int (55 : Int32)), (.int (46 : Int32)), (.int (48 : Int32)), (.int (46 : Int32)), (.int (48 : Int32)), (.int (46 : Int32)), (.int (49 : Int32)), (.int (58 : Int32)), (.int (0 : Int32)), (.int (0 : Int32)), (.int (0 : Int32)), (.int (0 : Int32)), (.int (0 : Int32)), (.int (0 : Int32)), (.int (0 : Int32)), (.int (0 : Int32)), (.int (0 : Int32)), (.int (0 : Int32)), (.int (0 : Int32)), (.int (0 : Int32)), (.int (0 : Int32)), (.int (0 : Int32)), (.int (0 : Int32)), (.int (0 : Int32)), (.int (0 : Int32))]) (S_cs : Sta Z h0 "java/lang/String" "COMPACT_STRINGS" "Z" (.int cs)) (S_dig : Sta Z h0 "java/lang/Integer" "DigitOnes" "[B" (.ref dig)) (hcs : ¬ (cs = (0 : Int32))) (hds : ds[0]? = some (.int (48 : Int32))) (ne_dig_o0 : dig ≠ o0) (ne_dig_o1 : dig ≠ o1) (ne_o0_o1 : o0 ≠ o1) (ne_o1_o0 : o1 ≠ o0) (g_o0 : n0 ≤ o0) (g_o1 : n0 ≤ o1) :
    own_M l Z (⟨"java/lang/StringBuilder", "append", "(I)Ljava/lang/StringBuilder;"⟩ : MethodName) jdk_67_method_15_code 2 (some (.object "java/lang/StringBuilder")) [] ({ frames := 2, cells := 0, slots := 0, locals := 33 } : Room) #[(.ref o0), (.int (0 : Int32))] h0 n0 (fun v h => v = some (.ref o0) ∧ Keep h0 h [o0, o1] ∧ Fld Z h o0 "java/lang/AbstractStringBuilder" "value" "[B" (.ref o1) ∧ Fld Z h o0 "java/lang/AbstractStringBuilder" "coder" "B" (.int (0 : Int32)) ∧ Fld Z h o0 "java/lang/AbstractStringBuilder" "count" "I" (.int (18 : Int32)) ∧ own_Ar Z h o1 .byte [(.int (104 : Int32)), (.int (116 : Int32)), (.int (116 : Int32)), (.int (112 : Int32)), (.int (58 : Int32)), (.int (47 : Int32)), (.int (47 : Int32)), (.int (49 : Int32)), (.int (50 : Int32)), (.int (55 : Int32)), (.int (46 : Int32)), (.int (48 : Int32)), (.int (46 : Int32)), (.int (48 : Int32)), (.int (46 : Int32)), (.int (49 : Int32)), (.int (58 : Int32)), (.int (48 : Int32)), (.int (0 : Int32)), (.int (0 : Int32)), (.int (0 : Int32)), (.int (0 : Int32)), (.int (0 : Int32)), (.int (0 : Int32)), (.int (0 : Int32)), (.int (0 : Int32)), (.int (0 : Int32)), (.int (0 : Int32)), (.int (0 : Int32)), (.int (0 : Int32)), (.int (0 : Int32)), (.int (0 : Int32)), (.int (0 : Int32)), (.int (0 : Int32))]) := by
  refine own_M.of (plainFor_of_name (by first | (simp [plainName, overriddenIn]; done) | decide +kernel)) ?_
  intro p e s m below meth c S0 hx hby hml hown hnm hret hlk hZ A00
  have A0 := A00.cast (ef_own_c111 m o0)
  have KK : Keep h0 h0 ([o0, o1] : List Addr) := Keep.refl _ _
  have A1 := A0.go (f' := mkF m 1 #[.val (.ref o0), .val (.int (0 : Int32))] [(.ref o0)]) fun _ _ X _ k => XS.aloadN X.here hx rfl (hb hby dm33_0) rfl rfl k
  have A2 := A1.go (f' := mkF m 2 #[.val (.ref o0), .val (.int (0 : Int32))] [(.int (0 : Int32)), (.ref o0)]) fun _ _ X _ k => XS.iloadN X.here hx rfl (hb hby dm33_1) rfl k
  obtain ⟨vA3, hA3, ⟨rfl, KA3, P_F_o0_value, P_F_o0_coder, P_F_o0_count, P_V_o1⟩, A3⟩ := A2.callU (b := o0) (own_c110 l Z a0 hw o0 o1 cs dig ds h0 n0 Z0 E_o0 F_o0_value F_o0_coder F_o0_count V_dig V_o1 S_cs S_dig hcs hds ne_dig_o0 ne_dig_o1 ne_o0_o1 ne_o1_o0 g_o0 g_o1) E_o0 hx hZ hown (hb hby dm33_2) (by decide) (hw _ (List.mem_of_getElem? (i := 205) rfl)) (own_same (y' := (⟨"java/lang/AbstractStringBuilder", "ensureCapacityInternal", "(I)V"⟩ : MethodName)) (hw _ (List.mem_of_getElem? (i := 154) rfl)) rfl (hw _ (List.mem_of_getElem? (i := 206) rfl)) ⟨by decide, by decide⟩) (hw _ (List.mem_of_getElem? (i := 206) rfl)) (hw _ (List.mem_of_getElem? (i := 141) rfl)) (hw _ (List.mem_of_getElem? (i := 208) rfl)) (hw _ (List.mem_of_getElem? (i := 126) rfl)) (lenOf pd__28I_29Ljava_2flang_2fAbstractStringBuilder_3b rfl) (argsL := [(.int (0 : Int32))]) (rest := []) rfl rfl (by rw [hml]; rfl) (W := 0) (Nat.le_of_eq rfl) (by decide) (by decide) (by decide) (by decide)
  have S_cs : Sta Z hA3 "java/lang/String" "COMPACT_STRINGS" "Z" (.int cs) := own_staK S_cs KA3 (allS (P := fun x => ∀ cell : Cell, h0[x]? = some cell → cell.vm.isStatics = false) E_o0.nostat (allS (P := fun x => ∀ cell : Cell, h0[x]? = some cell → cell.vm.isStatics = false) V_o1.nostat all0))
  have S_dig : Sta Z hA3 "java/lang/Integer" "DigitOnes" "[B" (.ref dig) := own_staK S_dig KA3 (allS (P := fun x => ∀ cell : Cell, h0[x]? = some cell → cell.vm.isStatics = false) E_o0.nostat (allS (P := fun x => ∀ cell : Cell, h0[x]? = some cell → cell.vm.isStatics = false) V_o1.nostat all0))
  have E_o0 : Exa Z hA3 o0 "java/lang/StringBuilder" := E_o0.keep KA3
  have V_dig : own_Ar Z hA3 dig .byte ds := V_dig.keep KA3 (ninS ne_dig_o0 (ninS ne_dig_o1 nin0))
  have Z0 : n0 ≤ hA3.size := Nat.le_trans Z0 KA3.1
  have KK : Keep h0 hA3 [o0, o1] := KK.trans KA3 (allS (P := fun x => x ∈ ([o0, o1] : List Addr) ∨ h0.size ≤ x) (Or.inl (by simp)) (allS (P := fun x => x ∈ ([o0, o1] : List Addr) ∨ h0.size ≤ x) (Or.inl (by simp)) all0))
  have F_o0_value : Fld Z hA3 o0 "java/lang/AbstractStringBuilder" "value" "[B" (.ref o1) := P_F_o0_value
  have F_o0_coder : Fld Z hA3 o0 "java/lang/AbstractStringBuilder" "coder" "B" (.int (0 : Int32)) := P_F_o0_coder
  have F_o0_count : Fld Z hA3 o0 "java/lang/AbstractStringBuilder" "count" "I" (.int (18 : Int32)) := P_F_o0_count
  have V_o1 : own_Ar Z hA3 o1 .byte [(.int (104 : Int32)), (.int (116 : Int32)), (.int (116 : Int32)), (.int (112 : Int32)), (.int (58 : Int32)), (.int (47 : Int32)), (.int (47 : Int32)), (.int (49 : Int32)), (.int (50 : Int32)), (.int (55 : Int32)), (.int (46 : Int32)), (.int (48 : Int32)), (.int (46 : Int32)), (.int (48 : Int32)), (.int (46 : Int32)), (.int (49 : Int32)), (.int (58 : Int32)), (.int (48 : Int32)), (.int (0 : Int32)), (.int (0 : Int32)), (.int (0 : Int32)), (.int (0 : Int32)), (.int (0 : Int32)), (.int (0 : Int32)), (.int (0 : Int32)), (.int (0 : Int32)), (.int (0 : Int32)), (.int (0 : Int32)), (.int (0 : Int32)), (.int (0 : Int32)), (.int (0 : Int32)), (.int (0 : Int32)), (.int (0 : Int32)), (.int (0 : Int32))] := P_V_o1
  have A4 : own_R p l e _ _ m _ below meth c S0 n0 hA3 0 0 (mkF m 5 #[.val (.ref o0), .val (.int (0 : Int32))] [(.ref o0)]) := A3
  have A5 := A4.go (f' := mkF m 6 #[.val (.ref o0), .val (.int (0 : Int32))] []) fun _ _ X _ k => XS.pop X.here hx rfl (hb hby dm33_5) rfl rfl k
  have A6 := A5.go (f' := mkF m 7 #[.val (.ref o0), .val (.int (0 : Int32))] [(.ref o0)]) fun _ _ X _ k => XS.aloadN X.here hx rfl (hb hby dm33_6) rfl rfl k
  exact A6.ret hx hlk hret (hb hby dm33_7) rfl (Or.inr (Or.inr (Or.inr (Or.inr ⟨rfl, rfl, rfl⟩)))) (by decide) (by decide) ⟨rfl, KK, F_o0_value, F_o0_coder, F_o0_count, V_o1⟩
theorem ef_own_c116 (m : MethodId) (o0 : Addr) : entryFrame m #[(.ref o0)] 1 = mkF m 0 #[.val (.ref o0)] [] := by first | (simp [entryFrame, mkF, argsToLocals, Value.category, maxLocals]; done) | rfl
set_option maxRecDepth 65536 in
set_option maxHeartbeats 40000000 in
theorem own_c116 (l : Launch) (Z : State) (a0 : Array Value) (hw : ∀ d ∈ tables_1, d.before a0 Z = true) (o0 o1 : Addr) (h0 : Heap) (n0 : Nat) (Z0 : n0 ≤ h0.size) (F_o0_value : Fld Z h0 o0 "java/lang/AbstractStringBuilder" "value" "[B" (.ref o1)) :
    own_M l Z (⟨"java/lang/AbstractStringBuilder", "getValue", "()[B"⟩ : MethodName) jdk_68_method_64_code 1 (some (.array .byte)) [] ({ frames := 0, cells := 0, slots := 0, locals := 0 } : Room) #[(.ref o0)] h0 n0 (fun v h => v = some (.ref o1) ∧ h0 = h) := by
  refine own_M.of (plainFor_of_name (by first | (simp [plainName, overriddenIn]; done) | decide +kernel)) ?_
  intro p e s m below meth c S0 hx hby hml hown hnm hret hlk hZ A00
  have A0 := A00.cast (ef_own_c116 m o0)
  have KK : Keep h0 h0 ([] : List Addr) := Keep.refl _ _
  have A1 := A0.go (f' := mkF m 1 #[.val (.ref o0)] [(.ref o0)]) fun _ _ X _ k => XS.aloadN X.here hx rfl (hb hby dm41_0) rfl rfl k
  have A2 : own_R p l e _ _ m _ below meth c S0 n0 h0 0 0 (mkF m 4 #[.val (.ref o0)] [(.ref o1)]) := A1.getF hx hZ hown (hb hby dm41_1) (hw _ (List.mem_of_getElem? (i := 130) rfl)) Via.refl F_o0_value
  exact A2.ret hx hlk hret (hb hby dm41_4) rfl (Or.inr (Or.inr (Or.inr (Or.inr ⟨rfl, rfl, rfl⟩)))) (by decide) (by decide) ⟨rfl, rfl⟩
theorem ef_own_c119 (m : MethodId) (o0 : Addr) : entryFrame m #[(.ref o0)] 1 = mkF m 0 #[.val (.ref o0)] [] := by first | (simp [entryFrame, mkF, argsToLocals, Value.category, maxLocals]; done) | rfl
set_option maxRecDepth 65536 in
set_option maxHeartbeats 40000000 in
theorem own_c119 (l : Launch) (Z : State) (a0 : Array Value) (hw : ∀ d ∈ tables_1, d.before a0 Z = true) (o0 : Addr) (h0 : Heap) (n0 : Nat) (Z0 : n0 ≤ h0.size) (F_o0_count : Fld Z h0 o0 "java/lang/AbstractStringBuilder" "count" "I" (.int (18 : Int32))) :
    own_M l Z (⟨"java/lang/AbstractStringBuilder", "length", "()I"⟩ : MethodName) jdk_68_method_6_code 1 (some .int) [] ({ frames := 0, cells := 0, slots := 0, locals := 0 } : Room) #[(.ref o0)] h0 n0 (fun v h => v = some (.int (18 : Int32)) ∧ h0 = h) := by
  refine own_M.of (plainFor_of_name (by first | (simp [plainName, overriddenIn]; done) | decide +kernel)) ?_
  intro p e s m below meth c S0 hx hby hml hown hnm hret hlk hZ A00
  have A0 := A00.cast (ef_own_c119 m o0)
  have KK : Keep h0 h0 ([] : List Addr) := Keep.refl _ _
  have A1 := A0.go (f' := mkF m 1 #[.val (.ref o0)] [(.ref o0)]) fun _ _ X _ k => XS.aloadN X.here hx rfl (hb hby dm43_0) rfl rfl k
  have A2 : own_R p l e _ _ m _ below meth c S0 n0 h0 0 0 (mkF m 4 #[.val (.ref o0)] [(.int (18 : Int32))]) := A1.getF hx hZ hown (hb hby dm43_1) (hw _ (List.mem_of_getElem? (i := 149) rfl)) Via.refl F_o0_count
  exact A2.ret hx hlk hret (hb hby dm43_4) rfl (Or.inl ⟨rfl, by simp, _, rfl⟩) (by decide) (by decide) ⟨rfl, rfl⟩
theorem ef_own_c120 (m : MethodId) (o0 : Addr) : entryFrame m #[(.ref o0)] 1 = mkF m 0 #[.val (.ref o0)] [] := by first | (simp [entryFrame, mkF, argsToLocals, Value.category, maxLocals]; done) | rfl
set_option maxRecDepth 65536 in
set_option maxHeartbeats 40000000 in
theorem own_c120 (l : Launch) (Z : State) (a0 : Array Value) (hw : ∀ d ∈ tables_1, d.before a0 Z = true) (o0 : Addr) (h0 : Heap) (n0 : Nat) (Z0 : n0 ≤ h0.size) (E_o0 : Exa Z h0 o0 "java/lang/StringBuilder") (F_o0_count : Fld Z h0 o0 "java/lang/AbstractStringBuilder" "count" "I" (.int (18 : Int32))) :
    own_M l Z (⟨"java/lang/StringBuilder", "length", "()I"⟩ : MethodName) jdk_67_method_93_code 1 (some .int) [] ({ frames := 1, cells := 0, slots := 0, locals := 12 } : Room) #[(.ref o0)] h0 n0 (fun v h => v = some (.int (18 : Int32)) ∧ h0 = h) := by
  refine own_M.of (plainFor_of_name (by first | (simp [plainName, overriddenIn]; done) | decide +kernel)) ?_
  intro p e s m below meth c S0 hx hby hml hown hnm hret hlk hZ A00
  have A0 := A00.cast (ef_own_c120 m o0)
  have KK : Keep h0 h0 ([] : List Addr) := Keep.refl _ _
  have A1 := A0.go (f' := mkF m 1 #[.val (.ref o0)] [(.ref o0)]) fun _ _ X _ k => XS.aloadN X.here hx rfl (hb hby dm42_0) rfl rfl k
  obtain ⟨vA2, hA2, ⟨rfl, rfl⟩, A2⟩ := A1.callU (b := o0) (own_c119 l Z a0 hw o0 h0 n0 Z0 F_o0_count) E_o0 hx hZ hown (hb hby dm42_1) (by decide) (hw _ (List.mem_of_getElem? (i := 247) rfl)) (own_same (y' := (⟨"java/lang/AbstractStringBuilder", "ensureCapacityInternal", "(I)V"⟩ : MethodName)) (hw _ (List.mem_of_getElem? (i := 154) rfl)) rfl (hw _ (List.mem_of_getElem? (i := 243) rfl)) ⟨by decide, by decide⟩) (hw _ (List.mem_of_getElem? (i := 243) rfl)) (hw _ (List.mem_of_getElem? (i := 141) rfl)) (hw _ (List.mem_of_getElem? (i := 248) rfl)) (hw _ (List.mem_of_getElem? (i := 126) rfl)) (lenOf pd__28_29I rfl) (argsL := []) (rest := []) rfl rfl (by rw [hml]; rfl) (W := 0) (Nat.le_of_eq rfl) (by decide) (by decide) (by decide) (by decide)
  have A3 : own_R p l e _ _ m _ below meth c S0 n0 h0 0 0 (mkF m 4 #[.val (.ref o0)] [(.int (18 : Int32))]) := A2
  exact A3.ret hx hlk hret (hb hby dm42_4) rfl (Or.inl ⟨rfl, by simp, _, rfl⟩) (by decide) (by decide) ⟨rfl, rfl⟩
theorem ef_own_c124 (m : MethodId)  : entryFrame m #[(.int (0 : Int32)), (.int (18 : Int32))] 2 = mkF m 0 #[.val (.int (0 : Int32)), .val (.int (18 : Int32))] [] := by first | (simp [entryFrame, mkF, argsToLocals, Value.category, maxLocals]; done) | rfl
set_option maxRecDepth 65536 in
set_option maxHeartbeats 40000000 in
theorem own_c124 (l : Launch) (Z : State) (a0 : Array Value) (hw : ∀ d ∈ tables_1, d.before a0 Z = true)  (h0 : Heap) (n0 : Nat) (Z0 : n0 ≤ h0.size)  :
    own_M l Z (⟨"java/util/Arrays", "checkLength", "(II)V"⟩ : MethodName) jdk_65_method_131_code 2 none [] ({ frames := 0, cells := 0, slots := 0, locals := 0 } : Room) #[(.int (0 : Int32)), (.int (18 : Int32))] h0 n0 (fun v h => v = none ∧ h0 = h) := by
  refine own_M.of (plainFor_of_name (by first | (simp [plainName, overriddenIn]; done) | decide +kernel)) ?_
  intro p e s m below meth c S0 hx hby hml hown hnm hret hlk hZ A00
  have A0 := A00.cast (ef_own_c124 m )
  have KK : Keep h0 h0 ([] : List Addr) := Keep.refl _ _
  have A1 := A0.go (f' := mkF m 1 #[.val (.int (0 : Int32)), .val (.int (18 : Int32))] [(.int (18 : Int32))]) fun _ _ X _ k => XS.iloadN X.here hx rfl (hb hby dm46_0) rfl k
  have A2 := A1.go (f' := mkF m 2 #[.val (.int (0 : Int32)), .val (.int (18 : Int32))] [(.int (0 : Int32)), (.int (18 : Int32))]) fun _ _ X _ k => XS.iloadN X.here hx rfl (hb hby dm46_1) rfl k
  have q3 : ¬ ((18 : Int32) < (0 : Int32)) := by decide
  have A4 := A2.go (f' := mkF m 37 #[.val (.int (0 : Int32)), .val (.int (18 : Int32))] []) fun _ _ X _ k => XS.icmpYes X.here hx rfl (pc0 := 2) (pc' := 37) rfl (hb hby dm46_2) rfl ((flt q3).2.1) (by decide) (by decide) k
  exact A4.retV hx hlk hret (hb hby dm46_37) (by decide) (by decide) ⟨rfl, rfl⟩
theorem ef_own_c126 (m : MethodId)  : entryFrame m #[(.int (34 : Int32)), (.int (18 : Int32))] 2 = mkF m 0 #[.val (.int (34 : Int32)), .val (.int (18 : Int32))] [] := by first | (simp [entryFrame, mkF, argsToLocals, Value.category, maxLocals]; done) | rfl
set_option maxRecDepth 65536 in
set_option maxHeartbeats 40000000 in
theorem own_c126 (l : Launch) (Z : State) (a0 : Array Value) (hw : ∀ d ∈ tables_1, d.before a0 Z = true)  (h0 : Heap) (n0 : Nat) (Z0 : n0 ≤ h0.size)  :
    own_M l Z (⟨"java/lang/Math", "min", "(II)I"⟩ : MethodName) jdk_29_method_69_code 2 (some .int) [] ({ frames := 0, cells := 0, slots := 0, locals := 0 } : Room) #[(.int (34 : Int32)), (.int (18 : Int32))] h0 n0 (fun v h => v = some (.int (18 : Int32)) ∧ h0 = h) := by
  refine own_M.of (by decide +kernel) ?_
  intro p e s m below meth c S0 hx hby hml hown hnm hret hlk hZ A00
  have A0 := A00.cast (ef_own_c126 m )
  have KK : Keep h0 h0 ([] : List Addr) := Keep.refl _ _
  have A1 := A0.go (f' := mkF m 1 #[.val (.int (34 : Int32)), .val (.int (18 : Int32))] [(.int (34 : Int32))]) fun _ _ X _ k => XS.iloadN X.here hx rfl (hb hby dm32_0) rfl k
  have A2 := A1.go (f' := mkF m 2 #[.val (.int (34 : Int32)), .val (.int (18 : Int32))] [(.int (18 : Int32)), (.int (34 : Int32))]) fun _ _ X _ k => XS.iloadN X.here hx rfl (hb hby dm32_1) rfl k
  have q3 : ((18 : Int32) < (34 : Int32)) := by decide
  have A4 := A2.go (f' := mkF m 9 #[.val (.int (34 : Int32)), .val (.int (18 : Int32))] []) fun _ _ X _ k => XS.icmpYes X.here hx rfl (pc0 := 2) (pc' := 9) rfl (hb hby dm32_2) rfl ((tlt q3).2.2.1) (by decide) (by decide) k
  have A5 := A4.go (f' := mkF m 10 #[.val (.int (34 : Int32)), .val (.int (18 : Int32))] [(.int (18 : Int32))]) fun _ _ X _ k => XS.iloadN X.here hx rfl (hb hby dm32_9) rfl k
  exact A5.ret hx hlk hret (hb hby dm32_10) rfl (Or.inl ⟨rfl, by simp, _, rfl⟩) (by decide) (by decide) ⟨rfl, rfl⟩
theorem ef_own_c127 (m : MethodId) (o0 : Addr) : entryFrame m #[(.ref o0), (.int (0 : Int32)), (.int (18 : Int32))] 5 = mkF m 0 #[.val (.ref o0), .val (.int (0 : Int32)), .val (.int (18 : Int32)), .unset, .unset] [] := by first | (simp [entryFrame, mkF, argsToLocals, Value.category, maxLocals]; done) | rfl
set_option maxRecDepth 65536 in
set_option maxHeartbeats 40000000 in
theorem own_c127 (l : Launch) (Z : State) (a0 : Array Value) (hw : ∀ d ∈ tables_1, d.before a0 Z = true) (o0 : Addr) (h0 : Heap) (n0 : Nat) (Z0 : n0 ≤ h0.size) (V_o0 : own_Ar Z h0 o0 .byte [(.int (104 : Int32)), (.int (116 : Int32)), (.int (116 : Int32)), (.int (112 : Int32)), (.int (58 : Int32)), (.int (47 : Int32)), (.int (47 : Int32)), (.int (49 : Int32)), (.int (50 : Int32)), (.int (55 : Int32)), (.int (46 : Int32)), (.int (48 : Int32)), (.int (46 : Int32)), (.int (48 : Int32)), (.int (46 : Int32)), (.int (49 : Int32)), (.int (58 : Int32)), (.int (48 : Int32)), (.int (0 : Int32)), (.int (0 : Int32)), (.int (0 : Int32)), (.int (0 : Int32)), (.int (0 : Int32)), (.int (0 : Int32)), (.int (0 : Int32)), (.int (0 : Int32)), (.int (0 : Int32)), (.int (0 : Int32)), (.int (0 : Int32)), (.int (0 : Int32)), (.int (0 : Int32)), (.int (0 : Int32)), (.int (0 : Int32)), (.int (0 : Int32))]) :
    own_M l Z (⟨"java/util/Arrays", "copyOfRangeByte", "([BII)[B"⟩ : MethodName) jdk_65_method_133_code 5 (some (.array .byte)) [] ({ frames := 1, cells := 1, slots := 18, locals := 18 } : Room) #[(.ref o0), (.int (0 : Int32)), (.int (18 : Int32))] h0 n0 (fun v h => ∃ x1 : Addr, v = some (.ref x1) ∧ Keep h0 h [] ∧ h0.size ≤ x1 ∧ own_Ar Z h x1 .byte [(.int (104 : Int32)), (.int (116 : Int32)), (.int (116 : Int32)), (.int (112 : Int32)), (.int (58 : Int32)), (.int (47 : Int32)), (.int (47 : Int32)), (.int (49 : Int32)), (.int (50 : Int32)), (.int (55 : Int32)), (.int (46 : Int32)), (.int (48 : Int32)), (.int (46 : Int32)), (.int (48 : Int32)), (.int (46 : Int32)), (.int (49 : Int32)), (.int (58 : Int32)), (.int (48 : Int32))]) := by
  refine own_M.of (plainFor_of_name (by first | (simp [plainName, overriddenIn]; done) | decide +kernel)) ?_
  intro p e s m below meth c S0 hx hby hml hown hnm hret hlk hZ A00
  have A0 := A00.cast (ef_own_c127 m o0)
  have KK : Keep h0 h0 ([] : List Addr) := Keep.refl _ _
  have A1 := A0.go (f' := mkF m 1 #[.val (.ref o0), .val (.int (0 : Int32)), .val (.int (18 : Int32)), .unset, .unset] [(.int (0 : Int32))]) fun _ _ X _ k => XS.iloadN X.here hx rfl (hb hby dm45_0) rfl k
  have A2 := A1.go (f' := mkF m 2 #[.val (.ref o0), .val (.int (0 : Int32)), .val (.int (18 : Int32)), .unset, .unset] [(.int (18 : Int32)), (.int (0 : Int32))]) fun _ _ X _ k => XS.iloadN X.here hx rfl (hb hby dm45_1) rfl k
  obtain ⟨vA3, hA3, ⟨rfl, rfl⟩, A3⟩ := A2.callS (own_c124 l Z a0 hw h0 n0 Z0) hx hZ hown (hb hby dm45_2) (hw _ (List.mem_of_getElem? (i := 256) rfl)) (hw _ (List.mem_of_getElem? (i := 257) rfl)) (hw _ (List.mem_of_getElem? (i := 194) rfl)) (hw _ (List.mem_of_getElem? (i := 258) rfl)) ⟨by decide, by decide⟩ (lenOf pd__28II_29V rfl) (argsL := [(.int (0 : Int32)), (.int (18 : Int32))]) (rest := []) rfl rfl (by rw [hml]; rfl) (W := 0) (Nat.le_of_eq rfl) (by decide) (by decide) (by decide) (by decide)
  have A4 : own_R p l e _ _ m _ below meth c S0 n0 h0 0 0 (mkF m 5 #[.val (.ref o0), .val (.int (0 : Int32)), .val (.int (18 : Int32)), .unset, .unset] []) := A3
  have A5 := A4.go (f' := mkF m 6 #[.val (.ref o0), .val (.int (0 : Int32)), .val (.int (18 : Int32)), .unset, .unset] [(.int (18 : Int32))]) fun _ _ X _ k => XS.iloadN X.here hx rfl (hb hby dm45_5) rfl k
  have A6 := A5.go (f' := mkF m 7 #[.val (.ref o0), .val (.int (0 : Int32)), .val (.int (18 : Int32)), .unset, .unset] [(.int (0 : Int32)), (.int (18 : Int32))]) fun _ _ X _ k => XS.iloadN X.here hx rfl (hb hby dm45_6) rfl k
  have A7 := A6.go (f' := mkF m 8 #[.val (.ref o0), .val (.int (0 : Int32)), .val (.int (18 : Int32)), .unset, .unset] [(.int (18 : Int32))]) fun _ _ X _ k => XS.isub X.here hx rfl (hb hby dm45_7) rfl k
  have A8 := A7.go (f' := mkF m 9 #[.val (.ref o0), .val (.int (0 : Int32)), .val (.int (18 : Int32)), .val (.int (18 : Int32)), .unset] []) fun _ _ X _ k => XS.istoreN X.here hx rfl (hb hby dm45_8) rfl (l' := #[.val (.ref o0), .val (.int (0 : Int32)), .val (.int (18 : Int32)), .val (.int (18 : Int32)), .unset]) rfl k
  have A9 := A8.go (f' := mkF m 10 #[.val (.ref o0), .val (.int (0 : Int32)), .val (.int (18 : Int32)), .val (.int (18 : Int32)), .unset] [(.int (18 : Int32))]) fun _ _ X _ k => XS.iloadN X.here hx rfl (hb hby dm45_9) rfl k
  obtain ⟨h10, E11, V_x1, A12⟩ := A9.newP hx hZ (hb hby dm45_10) (hw _ (List.mem_of_getElem? (i := 10) rfl)) (by decide) (cap := 18) (by decide) (by decide) (by decide) (by decide)
  obtain ⟨x1, gx1⟩ : ∃ z, z = h0.size := ⟨_, rfl⟩
  rw [← gx1] at V_x1 A12
  have ne_o0_x1 : o0 ≠ x1 := by rw [gx1]; exact Nat.ne_of_lt V_o0.lt
  have ne_x1_o0 := Ne.symm ne_o0_x1
  have g_x1 : n0 ≤ x1 := by rw [gx1]; exact Z0
  have sz_x1 : h0.size ≤ x1 := by rw [gx1]; exact KK.1
  have V_o0 : own_Ar Z h10 o0 .byte [(.int (104 : Int32)), (.int (116 : Int32)), (.int (116 : Int32)), (.int (112 : Int32)), (.int (58 : Int32)), (.int (47 : Int32)), (.int (47 : Int32)), (.int (49 : Int32)), (.int (50 : Int32)), (.int (55 : Int32)), (.int (46 : Int32)), (.int (48 : Int32)), (.int (46 : Int32)), (.int (48 : Int32)), (.int (46 : Int32)), (.int (49 : Int32)), (.int (58 : Int32)), (.int (48 : Int32)), (.int (0 : Int32)), (.int (0 : Int32)), (.int (0 : Int32)), (.int (0 : Int32)), (.int (0 : Int32)), (.int (0 : Int32)), (.int (0 : Int32)), (.int (0 : Int32)), (.int (0 : Int32)), (.int (0 : Int32)), (.int (0 : Int32)), (.int (0 : Int32)), (.int (0 : Int32)), (.int (0 : Int32)), (.int (0 : Int32)), (.int (0 : Int32))] := V_o0.ext E11
  have Z0 : n0 ≤ h10.size := Nat.le_trans Z0 E11.1
  have KK : Keep h0 h10 [] := KK.ext E11
  have V_x1 : own_Ar Z h10 x1 .byte [(.int (0 : Int32)), (.int (0 : Int32)), (.int (0 : Int32)), (.int (0 : Int32)), (.int (0 : Int32)), (.int (0 : Int32)), (.int (0 : Int32)), (.int (0 : Int32)), (.int (0 : Int32)), (.int (0 : Int32)), (.int (0 : Int32)), (.int (0 : Int32)), (.int (0 : Int32)), (.int (0 : Int32)), (.int (0 : Int32)), (.int (0 : Int32)), (.int (0 : Int32)), (.int (0 : Int32))] := V_x1
  have A13 : own_R p l e _ _ m _ below meth c S0 n0 h10 1 18 (mkF m 12 #[.val (.ref o0), .val (.int (0 : Int32)), .val (.int (18 : Int32)), .val (.int (18 : Int32)), .unset] [(.ref x1)]) := A12
  have A14 := A13.go (f' := mkF m 14 #[.val (.ref o0), .val (.int (0 : Int32)), .val (.int (18 : Int32)), .val (.int (18 : Int32)), .val (.ref x1)] []) fun _ _ X _ k => XS.astore X.here hx rfl (hb hby dm45_12) rfl rfl (l' := #[.val (.ref o0), .val (.int (0 : Int32)), .val (.int (18 : Int32)), .val (.int (18 : Int32)), .val (.ref x1)]) rfl k
  have A15 := A14.go (f' := mkF m 15 #[.val (.ref o0), .val (.int (0 : Int32)), .val (.int (18 : Int32)), .val (.int (18 : Int32)), .val (.ref x1)] [(.ref o0)]) fun _ _ X _ k => XS.aloadN X.here hx rfl (hb hby dm45_14) rfl rfl k
  have A16 := A15.go (f' := mkF m 16 #[.val (.ref o0), .val (.int (0 : Int32)), .val (.int (18 : Int32)), .val (.int (18 : Int32)), .val (.ref x1)] [(.int (0 : Int32)), (.ref o0)]) fun _ _ X _ k => XS.iloadN X.here hx rfl (hb hby dm45_15) rfl k
  have A17 := A16.go (f' := mkF m 18 #[.val (.ref o0), .val (.int (0 : Int32)), .val (.int (18 : Int32)), .val (.int (18 : Int32)), .val (.ref x1)] [(.ref x1), (.int (0 : Int32)), (.ref o0)]) fun _ _ X _ k => XS.aload X.here hx rfl (hb hby dm45_16) rfl rfl k
  have A18 := A17.go (f' := mkF m 19 #[.val (.ref o0), .val (.int (0 : Int32)), .val (.int (18 : Int32)), .val (.int (18 : Int32)), .val (.ref x1)] [(.int (0 : Int32)), (.ref x1), (.int (0 : Int32)), (.ref o0)]) fun _ _ X _ k => XS.iconst X.here hx rfl (hb hby dm45_18) k
  have A19 := A18.go (f' := mkF m 20 #[.val (.ref o0), .val (.int (0 : Int32)), .val (.int (18 : Int32)), .val (.int (18 : Int32)), .val (.ref x1)] [(.ref o0), (.int (0 : Int32)), (.ref x1), (.int (0 : Int32)), (.ref o0)]) fun _ _ X _ k => XS.aloadN X.here hx rfl (hb hby dm45_19) rfl rfl k
  have A20 : own_R p l e _ _ m _ below meth c S0 n0 h10 1 18 (mkF m 21 #[.val (.ref o0), .val (.int (0 : Int32)), .val (.int (18 : Int32)), .val (.int (18 : Int32)), .val (.ref x1)] [(.int (34 : Int32)), (.int (0 : Int32)), (.ref x1), (.int (0 : Int32)), (.ref o0)]) := A19.len hx hZ (hb hby dm45_20) V_o0
  have A21 := A20.go (f' := mkF m 22 #[.val (.ref o0), .val (.int (0 : Int32)), .val (.int (18 : Int32)), .val (.int (18 : Int32)), .val (.ref x1)] [(.int (0 : Int32)), (.int (34 : Int32)), (.int (0 : Int32)), (.ref x1), (.int (0 : Int32)), (.ref o0)]) fun _ _ X _ k => XS.iloadN X.here hx rfl (hb hby dm45_21) rfl k
  have A22 := A21.go (f' := mkF m 23 #[.val (.ref o0), .val (.int (0 : Int32)), .val (.int (18 : Int32)), .val (.int (18 : Int32)), .val (.ref x1)] [(.int (34 : Int32)), (.int (0 : Int32)), (.ref x1), (.int (0 : Int32)), (.ref o0)]) fun _ _ X _ k => XS.isub X.here hx rfl (hb hby dm45_22) rfl k
  have A23 := A22.go (f' := mkF m 24 #[.val (.ref o0), .val (.int (0 : Int32)), .val (.int (18 : Int32)), .val (.int (18 : Int32)), .val (.ref x1)] [(.int (18 : Int32)), (.int (34 : Int32)), (.int (0 : Int32)), (.ref x1), (.int (0 : Int32)), (.ref o0)]) fun _ _ X _ k => XS.iloadN X.here hx rfl (hb hby dm45_23) rfl k
  obtain ⟨vA24, hA24, ⟨rfl, rfl⟩, A24⟩ := A23.callS (own_c126 l Z a0 hw h10 n0 Z0) hx hZ hown (hb hby dm45_24) (hw _ (List.mem_of_getElem? (i := 196) rfl)) (hw _ (List.mem_of_getElem? (i := 197) rfl)) (hw _ (List.mem_of_getElem? (i := 188) rfl)) (hw _ (List.mem_of_getElem? (i := 198) rfl)) ⟨by decide, by decide⟩ (lenOf pd__28II_29I rfl) (argsL := [(.int (34 : Int32)), (.int (18 : Int32))]) (rest := [(.int (0 : Int32)), (.ref x1), (.int (0 : Int32)), (.ref o0)]) rfl rfl (by rw [hml]; rfl) (W := 4) (Nat.le_of_eq rfl) (by decide) (by decide) (by decide) (by decide)
  have A25 : own_R p l e _ _ m _ below meth c S0 n0 h10 1 18 (mkF m 27 #[.val (.ref o0), .val (.int (0 : Int32)), .val (.int (18 : Int32)), .val (.int (18 : Int32)), .val (.ref x1)] [(.int (18 : Int32)), (.int (0 : Int32)), (.ref x1), (.int (0 : Int32)), (.ref o0)]) := A24
  obtain ⟨hA26, KA26, P_V_x1, A26⟩ := A25.cpA (vr := [(.int (104 : Int32)), (.int (116 : Int32)), (.int (116 : Int32)), (.int (112 : Int32)), (.int (58 : Int32)), (.int (47 : Int32)), (.int (47 : Int32)), (.int (49 : Int32)), (.int (50 : Int32)), (.int (55 : Int32)), (.int (46 : Int32)), (.int (48 : Int32)), (.int (46 : Int32)), (.int (48 : Int32)), (.int (46 : Int32)), (.int (49 : Int32)), (.int (58 : Int32)), (.int (48 : Int32))]) hx hZ hown (hb hby dm45_27) (hw _ (List.mem_of_getElem? (i := 199) rfl)) (hw _ (List.mem_of_getElem? (i := 175) rfl)) (hw _ (List.mem_of_getElem? (i := 173) rfl)) (hw _ (List.mem_of_getElem? (i := 174) rfl)) V_o0 V_x1 rfl (by decide) (by decide) (z1 := (34 : Int32)) (z2 := (18 : Int32)) (by decide) (by decide) (by decide) (by decide) (by decide) (by decide) (by decide) (by decide) (by decide) rfl rfl g_x1 (by rw [hml]; rfl) (W := 0) (Nat.le_of_eq rfl) (by decide) (by decide)
  have V_o0 : own_Ar Z hA26 o0 .byte [(.int (104 : Int32)), (.int (116 : Int32)), (.int (116 : Int32)), (.int (112 : Int32)), (.int (58 : Int32)), (.int (47 : Int32)), (.int (47 : Int32)), (.int (49 : Int32)), (.int (50 : Int32)), (.int (55 : Int32)), (.int (46 : Int32)), (.int (48 : Int32)), (.int (46 : Int32)), (.int (48 : Int32)), (.int (46 : Int32)), (.int (49 : Int32)), (.int (58 : Int32)), (.int (48 : Int32)), (.int (0 : Int32)), (.int (0 : Int32)), (.int (0 : Int32)), (.int (0 : Int32)), (.int (0 : Int32)), (.int (0 : Int32)), (.int (0 : Int32)), (.int (0 : Int32)), (.int (0 : Int32)), (.int (0 : Int32)), (.int (0 : Int32)), (.int (0 : Int32)), (.int (0 : Int32)), (.int (0 : Int32)), (.int (0 : Int32)), (.int (0 : Int32))] := V_o0.keep KA26 (ninS ne_o0_x1 nin0)
  have Z0 : n0 ≤ hA26.size := Nat.le_trans Z0 KA26.1
  have KK : Keep h0 hA26 [] := KK.trans KA26 (allS (P := fun x => x ∈ ([] : List Addr) ∨ h0.size ≤ x) (Or.inr sz_x1) all0)
  have V_x1 := P_V_x1
  have A27 : own_R p l e _ _ m _ below meth c S0 n0 hA26 1 18 (mkF m 30 #[.val (.ref o0), .val (.int (0 : Int32)), .val (.int (18 : Int32)), .val (.int (18 : Int32)), .val (.ref x1)] []) := A26
  have A28 := A27.go (f' := mkF m 32 #[.val (.ref o0), .val (.int (0 : Int32)), .val (.int (18 : Int32)), .val (.int (18 : Int32)), .val (.ref x1)] [(.ref x1)]) fun _ _ X _ k => XS.aload X.here hx rfl (hb hby dm45_30) rfl rfl k
  exact A28.ret hx hlk hret (hb hby dm45_32) rfl (Or.inr (Or.inr (Or.inr (Or.inr ⟨rfl, rfl, rfl⟩)))) (by decide) (by decide) ⟨x1, rfl, KK, sz_x1, V_x1⟩
theorem ef_own_c128 (m : MethodId) (o0 : Addr) : entryFrame m #[(.ref o0), (.int (0 : Int32)), (.int (18 : Int32))] 3 = mkF m 0 #[.val (.ref o0), .val (.int (0 : Int32)), .val (.int (18 : Int32))] [] := by first | (simp [entryFrame, mkF, argsToLocals, Value.category, maxLocals]; done) | rfl
set_option maxRecDepth 65536 in
set_option maxHeartbeats 40000000 in
theorem own_c128 (l : Launch) (Z : State) (a0 : Array Value) (hw : ∀ d ∈ tables_1, d.before a0 Z = true) (o0 : Addr) (h0 : Heap) (n0 : Nat) (Z0 : n0 ≤ h0.size) (V_o0 : own_Ar Z h0 o0 .byte [(.int (104 : Int32)), (.int (116 : Int32)), (.int (116 : Int32)), (.int (112 : Int32)), (.int (58 : Int32)), (.int (47 : Int32)), (.int (47 : Int32)), (.int (49 : Int32)), (.int (50 : Int32)), (.int (55 : Int32)), (.int (46 : Int32)), (.int (48 : Int32)), (.int (46 : Int32)), (.int (48 : Int32)), (.int (46 : Int32)), (.int (49 : Int32)), (.int (58 : Int32)), (.int (48 : Int32)), (.int (0 : Int32)), (.int (0 : Int32)), (.int (0 : Int32)), (.int (0 : Int32)), (.int (0 : Int32)), (.int (0 : Int32)), (.int (0 : Int32)), (.int (0 : Int32)), (.int (0 : Int32)), (.int (0 : Int32)), (.int (0 : Int32)), (.int (0 : Int32)), (.int (0 : Int32)), (.int (0 : Int32)), (.int (0 : Int32)), (.int (0 : Int32))]) :
    own_M l Z (⟨"java/util/Arrays", "copyOfRange", "([BII)[B"⟩ : MethodName) jdk_65_method_132_code 3 (some (.array .byte)) [] ({ frames := 2, cells := 1, slots := 18, locals := 34 } : Room) #[(.ref o0), (.int (0 : Int32)), (.int (18 : Int32))] h0 n0 (fun v h => ∃ x1 : Addr, v = some (.ref x1) ∧ Keep h0 h [] ∧ h0.size ≤ x1 ∧ own_Ar Z h x1 .byte [(.int (104 : Int32)), (.int (116 : Int32)), (.int (116 : Int32)), (.int (112 : Int32)), (.int (58 : Int32)), (.int (47 : Int32)), (.int (47 : Int32)), (.int (49 : Int32)), (.int (50 : Int32)), (.int (55 : Int32)), (.int (46 : Int32)), (.int (48 : Int32)), (.int (46 : Int32)), (.int (48 : Int32)), (.int (46 : Int32)), (.int (49 : Int32)), (.int (58 : Int32)), (.int (48 : Int32))]) := by
  refine own_M.of (plainFor_of_name (by first | (simp [plainName, overriddenIn]; done) | decide +kernel)) ?_
  intro p e s m below meth c S0 hx hby hml hown hnm hret hlk hZ A00
  have A0 := A00.cast (ef_own_c128 m o0)
  have KK : Keep h0 h0 ([] : List Addr) := Keep.refl _ _
  have A1 := A0.go (f' := mkF m 1 #[.val (.ref o0), .val (.int (0 : Int32)), .val (.int (18 : Int32))] [(.int (0 : Int32))]) fun _ _ X _ k => XS.iloadN X.here hx rfl (hb hby dm44_0) rfl k
  have q2 : ((0 : Int32) = (0 : Int32)) := rfl
  have A3 := A1.go (f' := mkF m 4 #[.val (.ref o0), .val (.int (0 : Int32)), .val (.int (18 : Int32))] []) fun _ _ X _ k => XS.ifNo X.here hx rfl (hb hby dm44_1) rfl ((if0 _ _).trans (teq q2).2) k
  have A4 := A3.go (f' := mkF m 5 #[.val (.ref o0), .val (.int (0 : Int32)), .val (.int (18 : Int32))] [(.int (18 : Int32))]) fun _ _ X _ k => XS.iloadN X.here hx rfl (hb hby dm44_4) rfl k
  have A5 := A4.go (f' := mkF m 6 #[.val (.ref o0), .val (.int (0 : Int32)), .val (.int (18 : Int32))] [(.ref o0), (.int (18 : Int32))]) fun _ _ X _ k => XS.aloadN X.here hx rfl (hb hby dm44_5) rfl rfl k
  have A6 : own_R p l e _ _ m _ below meth c S0 n0 h0 0 0 (mkF m 7 #[.val (.ref o0), .val (.int (0 : Int32)), .val (.int (18 : Int32))] [(.int (34 : Int32)), (.int (18 : Int32))]) := A5.len hx hZ (hb hby dm44_6) V_o0
  have q7 : ¬ ((18 : Int32) = (34 : Int32)) := by decide
  have A8 := A6.go (f' := mkF m 10 #[.val (.ref o0), .val (.int (0 : Int32)), .val (.int (18 : Int32))] []) fun _ _ X _ k => XS.icmpNo X.here hx rfl (hb hby dm44_7) rfl ((feq q7).1) k
  have A9 := A8.go (f' := mkF m 11 #[.val (.ref o0), .val (.int (0 : Int32)), .val (.int (18 : Int32))] [(.ref o0)]) fun _ _ X _ k => XS.aloadN X.here hx rfl (hb hby dm44_10) rfl rfl k
  have A10 := A9.go (f' := mkF m 12 #[.val (.ref o0), .val (.int (0 : Int32)), .val (.int (18 : Int32))] [(.int (0 : Int32)), (.ref o0)]) fun _ _ X _ k => XS.iloadN X.here hx rfl (hb hby dm44_11) rfl k
  have A11 := A10.go (f' := mkF m 13 #[.val (.ref o0), .val (.int (0 : Int32)), .val (.int (18 : Int32))] [(.int (18 : Int32)), (.int (0 : Int32)), (.ref o0)]) fun _ _ X _ k => XS.iloadN X.here hx rfl (hb hby dm44_12) rfl k
  obtain ⟨vA12, hA12, ⟨x1, rfl, KA12, zz_x1, P_V_x1⟩, A12⟩ := A11.callS (own_c127 l Z a0 hw o0 h0 n0 Z0 V_o0) hx hZ hown (hb hby dm44_13) (hw _ (List.mem_of_getElem? (i := 253) rfl)) (hw _ (List.mem_of_getElem? (i := 254) rfl)) (hw _ (List.mem_of_getElem? (i := 194) rfl)) (hw _ (List.mem_of_getElem? (i := 255) rfl)) ⟨by decide, by decide⟩ (lenOf pd__28_5bBII_29_5bB rfl) (argsL := [(.ref o0), (.int (0 : Int32)), (.int (18 : Int32))]) (rest := []) rfl rfl (by rw [hml]; rfl) (W := 0) (Nat.le_of_eq rfl) (by decide) (by decide) (by decide) (by decide)
  have ne_o0_x1 : o0 ≠ x1 := Nat.ne_of_lt (Nat.lt_of_lt_of_le V_o0.lt zz_x1)
  have ne_x1_o0 := Ne.symm ne_o0_x1
  have g_x1 : n0 ≤ x1 := Nat.le_trans Z0 zz_x1
  have sz_x1 : h0.size ≤ x1 := Nat.le_trans KK.1 zz_x1
  have V_o0 : own_Ar Z hA12 o0 .byte [(.int (104 : Int32)), (.int (116 : Int32)), (.int (116 : Int32)), (.int (112 : Int32)), (.int (58 : Int32)), (.int (47 : Int32)), (.int (47 : Int32)), (.int (49 : Int32)), (.int (50 : Int32)), (.int (55 : Int32)), (.int (46 : Int32)), (.int (48 : Int32)), (.int (46 : Int32)), (.int (48 : Int32)), (.int (46 : Int32)), (.int (49 : Int32)), (.int (58 : Int32)), (.int (48 : Int32)), (.int (0 : Int32)), (.int (0 : Int32)), (.int (0 : Int32)), (.int (0 : Int32)), (.int (0 : Int32)), (.int (0 : Int32)), (.int (0 : Int32)), (.int (0 : Int32)), (.int (0 : Int32)), (.int (0 : Int32)), (.int (0 : Int32)), (.int (0 : Int32)), (.int (0 : Int32)), (.int (0 : Int32)), (.int (0 : Int32)), (.int (0 : Int32))] := V_o0.keep KA12 nin0
  have Z0 : n0 ≤ hA12.size := Nat.le_trans Z0 KA12.1
  have KK : Keep h0 hA12 [] := KK.trans KA12 all0
  have V_x1 : own_Ar Z hA12 x1 .byte [(.int (104 : Int32)), (.int (116 : Int32)), (.int (116 : Int32)), (.int (112 : Int32)), (.int (58 : Int32)), (.int (47 : Int32)), (.int (47 : Int32)), (.int (49 : Int32)), (.int (50 : Int32)), (.int (55 : Int32)), (.int (46 : Int32)), (.int (48 : Int32)), (.int (46 : Int32)), (.int (48 : Int32)), (.int (46 : Int32)), (.int (49 : Int32)), (.int (58 : Int32)), (.int (48 : Int32))] := P_V_x1
  have A13 : own_R p l e _ _ m _ below meth c S0 n0 hA12 1 18 (mkF m 16 #[.val (.ref o0), .val (.int (0 : Int32)), .val (.int (18 : Int32))] [(.ref x1)]) := A12
  exact A13.ret hx hlk hret (hb hby dm44_16) rfl (Or.inr (Or.inr (Or.inr (Or.inr ⟨rfl, rfl, rfl⟩)))) (by decide) (by decide) ⟨x1, rfl, KK, sz_x1, V_x1⟩
theorem ef_own_c129 (m : MethodId) (o0 : Addr) (o1 : Addr) : entryFrame m #[(.ref o0), (.ref o1), .null] 5 = mkF m 0 #[.val (.ref o0), .val (.ref o1), .val .null, .unset, .unset] [] := by first | (simp [entryFrame, mkF, argsToLocals, Value.category, maxLocals]; done) | rfl
set_option maxRecDepth 65536 in
set_option maxHeartbeats 40000000 in
theorem own_c129 (l : Launch) (Z : State) (a0 : Array Value) (hw : ∀ d ∈ tables_1, d.before a0 Z = true) (o0 o1 o2 : Addr) (cs : Int32) (h0 : Heap) (n0 : Nat) (Z0 : n0 ≤ h0.size) (E_o0 : Exa Z h0 o0 "java/lang/String") (F_o0_value : Fld Z h0 o0 "java/lang/String" "value" "[B" .null) (F_o0_coder : Fld Z h0 o0 "java/lang/String" "coder" "B" (.int (0 : Int32))) (E_o1 : Exa Z h0 o1 "java/lang/StringBuilder") (F_o1_value : Fld Z h0 o1 "java/lang/AbstractStringBuilder" "value" "[B" (.ref o2)) (F_o1_coder : Fld Z h0 o1 "java/lang/AbstractStringBuilder" "coder" "B" (.int (0 : Int32))) (F_o1_count : Fld Z h0 o1 "java/lang/AbstractStringBuilder" "count" "I" (.int (18 : Int32))) (V_o2 : own_Ar Z h0 o2 .byte [(.int (104 : Int32)), (.int (116 : Int32)), (.int (116 : Int32)), (.int (112 : Int32)), (.int (58 : Int32)), (.int (47 : Int32)), (.int (47 : Int32)), (.int (49 : Int32)), (.int (50 : Int32)), (.int (55 : Int32)), (.int (46 : Int32)), (.int (48 : Int32)), (.int (46 : Int32)), (.int (48 : Int32)), (.int (46 : Int32)), (.int (49 : Int32)), (.int (58 : Int32)), (.int (48 : Int32)), (.int (0 : Int32)), (.int (0 : Int32)), (.int (0 : Int32)), (.int (0 : Int32)), (.int (0 : Int32)), (.int (0 : Int32)), (.int (0 : Int32)), (.int (0 : Int32)), (.int (0 : Int32)), (.int (0 : Int32)), (.int (0 : Int32)), (.int (0 : Int32)), (.int (0 : Int32)), (.int (0 : Int32)), (.int (0 : Int32)), (.int (0 : Int32))]) (S_cs : Sta Z h0 "java/lang/String" "COMPACT_STRINGS" "Z" (.int cs)) (hcs : ¬ (cs = (0 : Int32))) (ne_o1_o0 : o1 ≠ o0) (ne_o2_o0 : o2 ≠ o0) (g_o0 : n0 ≤ o0) :
    own_M l Z (⟨"java/lang/String", "<init>", "(Ljava/lang/AbstractStringBuilder;Ljava/lang/Void;)V"⟩ : MethodName) jdk_42_method_150_code 5 none [] ({ frames := 3, cells := 1, slots := 18, locals := 49 } : Room) #[(.ref o0), (.ref o1), .null] h0 n0 (fun v h => ∃ x1 : Addr, v = none ∧ Keep h0 h [o0] ∧ h0.size ≤ x1 ∧ Fld Z h o0 "java/lang/String" "value" "[B" (.ref x1) ∧ Fld Z h o0 "java/lang/String" "coder" "B" (.int (0 : Int32)) ∧ own_Ar Z h x1 .byte [(.int (104 : Int32)), (.int (116 : Int32)), (.int (116 : Int32)), (.int (112 : Int32)), (.int (58 : Int32)), (.int (47 : Int32)), (.int (47 : Int32)), (.int (49 : Int32)), (.int (50 : Int32)), (.int (55 : Int32)), (.int (46 : Int32)), (.int (48 : Int32)), (.int (46 : Int32)), (.int (48 : Int32)), (.int (46 : Int32)), (.int (49 : Int32)), (.int (58 : Int32)), (.int (48 : Int32))]) := by
  refine own_M.of (plainFor_of_name (by first | (simp [plainName, overriddenIn]; done) | decide +kernel)) ?_
  intro p e s m below meth c S0 hx hby hml hown hnm hret hlk hZ A00
  have A0 := A00.cast (ef_own_c129 m o0 o1)
  have KK : Keep h0 h0 ([o0] : List Addr) := Keep.refl _ _
  have A1 := A0.go (f' := mkF m 1 #[.val (.ref o0), .val (.ref o1), .val .null, .unset, .unset] [(.ref o0)]) fun _ _ X _ k => XS.aloadN X.here hx rfl (hb hby dm40_0) rfl rfl k
  have A2 : own_R p l e _ _ m _ below meth c S0 n0 h0 0 0 (mkF m 4 #[.val (.ref o0), .val (.ref o1), .val .null, .unset, .unset] []) := A1.initO hx hZ hown (hb hby dm40_1) (hw _ (List.mem_of_getElem? (i := 235) rfl)) (hw _ (List.mem_of_getElem? (i := 30) rfl)) (hw _ (List.mem_of_getElem? (i := 31) rfl)) (by rw [hml]; rfl) (W := 0) (Nat.le_of_eq rfl) (by decide) (by decide)
  have A3 := A2.go (f' := mkF m 5 #[.val (.ref o0), .val (.ref o1), .val .null, .unset, .unset] [(.ref o1)]) fun _ _ X _ k => XS.aloadN X.here hx rfl (hb hby dm40_4) rfl rfl k
  obtain ⟨vA4, hA4, ⟨rfl, rfl⟩, A4⟩ := A3.callV (b := o1) (own_c116 l Z a0 hw o1 o2 h0 n0 Z0 F_o1_value) E_o1 hx hZ hown (hb hby dm40_5) (hw _ (List.mem_of_getElem? (i := 236) rfl)) (hw _ (List.mem_of_getElem? (i := 237) rfl)) (hw _ (List.mem_of_getElem? (i := 239) rfl)) (hw _ (List.mem_of_getElem? (i := 238) rfl)) (hw _ (List.mem_of_getElem? (i := 240) rfl)) (hw _ (List.mem_of_getElem? (i := 126) rfl)) (own_nf (y' := (⟨"java/lang/AbstractStringBuilder", "ensureCapacityInternal", "(I)V"⟩ : MethodName)) (hw _ (List.mem_of_getElem? (i := 154) rfl)) rfl) ⟨by decide, by decide⟩ (lenOf pd__28_29_5bB rfl) (argsL := []) (rest := []) rfl rfl (by rw [hml]; rfl) (W := 0) (Nat.le_of_eq rfl) (by decide) (by decide) (by decide) (by decide)
  have A5 : own_R p l e _ _ m _ below meth c S0 n0 h0 0 0 (mkF m 8 #[.val (.ref o0), .val (.ref o1), .val .null, .unset, .unset] [(.ref o2)]) := A4
  have A6 := A5.go (f' := mkF m 9 #[.val (.ref o0), .val (.ref o1), .val .null, .val (.ref o2), .unset] []) fun _ _ X _ k => XS.astoreN X.here hx rfl (hb hby dm40_8) rfl rfl (l' := #[.val (.ref o0), .val (.ref o1), .val .null, .val (.ref o2), .unset]) rfl k
  have A7 := A6.go (f' := mkF m 10 #[.val (.ref o0), .val (.ref o1), .val .null, .val (.ref o2), .unset] [(.ref o1)]) fun _ _ X _ k => XS.aloadN X.here hx rfl (hb hby dm40_9) rfl rfl k
  obtain ⟨vA8, hA8, ⟨rfl, rfl⟩, A8⟩ := A7.callV (b := o1) (own_c120 l Z a0 hw o1 h0 n0 Z0 E_o1 F_o1_count) E_o1 hx hZ hown (hb hby dm40_10) (hw _ (List.mem_of_getElem? (i := 241) rfl)) (hw _ (List.mem_of_getElem? (i := 242) rfl)) (hw _ (List.mem_of_getElem? (i := 244) rfl)) (hw _ (List.mem_of_getElem? (i := 245) rfl)) (hw _ (List.mem_of_getElem? (i := 246) rfl)) (hw _ (List.mem_of_getElem? (i := 118) rfl)) (own_nf (y' := (⟨"java/lang/AbstractStringBuilder", "ensureCapacityInternal", "(I)V"⟩ : MethodName)) (hw _ (List.mem_of_getElem? (i := 154) rfl)) rfl) ⟨by decide, by decide⟩ (lenOf pd__28_29I rfl) (argsL := []) (rest := []) rfl rfl (by rw [hml]; rfl) (W := 0) (Nat.le_of_eq rfl) (by decide) (by decide) (by decide) (by decide)
  have A9 : own_R p l e _ _ m _ below meth c S0 n0 h0 0 0 (mkF m 13 #[.val (.ref o0), .val (.ref o1), .val .null, .val (.ref o2), .unset] [(.int (18 : Int32))]) := A8
  have A10 := A9.go (f' := mkF m 15 #[.val (.ref o0), .val (.ref o1), .val .null, .val (.ref o2), .val (.int (18 : Int32))] []) fun _ _ X _ k => XS.istore X.here hx rfl (hb hby dm40_13) rfl (l' := #[.val (.ref o0), .val (.ref o1), .val .null, .val (.ref o2), .val (.int (18 : Int32))]) rfl k
  have A11 := A10.go (f' := mkF m 16 #[.val (.ref o0), .val (.ref o1), .val .null, .val (.ref o2), .val (.int (18 : Int32))] [(.ref o1)]) fun _ _ X _ k => XS.aloadN X.here hx rfl (hb hby dm40_15) rfl rfl k
  obtain ⟨vA12, hA12, ⟨rfl, rfl⟩, A12⟩ := A11.callV (b := o1) (own_c107 l Z a0 hw o1 cs h0 n0 Z0 F_o1_coder S_cs hcs) E_o1 hx hZ hown (hb hby dm40_16) (hw _ (List.mem_of_getElem? (i := 249) rfl)) (hw _ (List.mem_of_getElem? (i := 214) rfl)) (hw _ (List.mem_of_getElem? (i := 216) rfl)) (hw _ (List.mem_of_getElem? (i := 215) rfl)) (hw _ (List.mem_of_getElem? (i := 217) rfl)) (hw _ (List.mem_of_getElem? (i := 126) rfl)) (own_nf (y' := (⟨"java/lang/AbstractStringBuilder", "ensureCapacityInternal", "(I)V"⟩ : MethodName)) (hw _ (List.mem_of_getElem? (i := 154) rfl)) rfl) ⟨by decide, by decide⟩ (lenOf pd__28_29Z rfl) (argsL := []) (rest := []) rfl rfl (by rw [hml]; rfl) (W := 0) (Nat.le_of_eq rfl) (by decide) (by decide) (by decide) (by decide)
  have A13 : own_R p l e _ _ m _ below meth c S0 n0 h0 0 0 (mkF m 19 #[.val (.ref o0), .val (.ref o1), .val .null, .val (.ref o2), .val (.int (18 : Int32))] [(.int (1 : Int32))]) := A12
  have q14 : ¬ ((1 : Int32) = (0 : Int32)) := by decide
  have A15 := A13.go (f' := mkF m 22 #[.val (.ref o0), .val (.ref o1), .val .null, .val (.ref o2), .val (.int (18 : Int32))] []) fun _ _ X _ k => XS.ifNo X.here hx rfl (hb hby dm40_19) rfl ((if0 _ _).trans (feq q14).1) k
  have A16 := A15.go (f' := mkF m 23 #[.val (.ref o0), .val (.ref o1), .val .null, .val (.ref o2), .val (.int (18 : Int32))] [(.ref o0)]) fun _ _ X _ k => XS.aloadN X.here hx rfl (hb hby dm40_22) rfl rfl k
  have A17 := A16.go (f' := mkF m 24 #[.val (.ref o0), .val (.ref o1), .val .null, .val (.ref o2), .val (.int (18 : Int32))] [(.int (0 : Int32)), (.ref o0)]) fun _ _ X _ k => XS.iconst X.here hx rfl (hb hby dm40_23) k
  obtain ⟨h18, W19, A20⟩ := A17.putF hx hZ hown (hb hby dm40_24) (hw _ (List.mem_of_getElem? (i := 102) rfl)) F_o0_coder E_o0 (Or.inr ⟨(hw _ (List.mem_of_getElem? (i := 12) rfl)), rfl, hnm⟩) (hw _ (List.mem_of_getElem? (i := 9) rfl)) (ty := .byte) (by decide) rfl rfl g_o0
  have E_o0 : Exa Z h18 o0 "java/lang/String" := E_o0.wr W19
  have F_o0_value : Fld Z h18 o0 "java/lang/String" "value" "[B" .null := F_o0_value.other W19 (Or.inr (slot_ne (Or.inr (hw _ (List.mem_of_getElem? (i := 11) rfl))) (Or.inr (hw _ (List.mem_of_getElem? (i := 12) rfl))) (by decide) (t := (.array .byte)) (t' := .byte) (by decide) (by decide)))
  have F_o0_coder : Fld Z h18 o0 "java/lang/String" "coder" "B" (.int (0 : Int32)) := F_o0_coder.same W19
  have E_o1 : Exa Z h18 o1 "java/lang/StringBuilder" := E_o1.wr W19
  have F_o1_value : Fld Z h18 o1 "java/lang/AbstractStringBuilder" "value" "[B" (.ref o2) := F_o1_value.other W19 (Or.inl ne_o1_o0)
  have F_o1_coder : Fld Z h18 o1 "java/lang/AbstractStringBuilder" "coder" "B" (.int (0 : Int32)) := F_o1_coder.other W19 (Or.inl ne_o1_o0)
  have F_o1_count : Fld Z h18 o1 "java/lang/AbstractStringBuilder" "count" "I" (.int (18 : Int32)) := F_o1_count.other W19 (Or.inl ne_o1_o0)
  have V_o2 : own_Ar Z h18 o2 .byte [(.int (104 : Int32)), (.int (116 : Int32)), (.int (116 : Int32)), (.int (112 : Int32)), (.int (58 : Int32)), (.int (47 : Int32)), (.int (47 : Int32)), (.int (49 : Int32)), (.int (50 : Int32)), (.int (55 : Int32)), (.int (46 : Int32)), (.int (48 : Int32)), (.int (46 : Int32)), (.int (48 : Int32)), (.int (46 : Int32)), (.int (49 : Int32)), (.int (58 : Int32)), (.int (48 : Int32)), (.int (0 : Int32)), (.int (0 : Int32)), (.int (0 : Int32)), (.int (0 : Int32)), (.int (0 : Int32)), (.int (0 : Int32)), (.int (0 : Int32)), (.int (0 : Int32)), (.int (0 : Int32)), (.int (0 : Int32)), (.int (0 : Int32)), (.int (0 : Int32)), (.int (0 : Int32)), (.int (0 : Int32)), (.int (0 : Int32)), (.int (0 : Int32))] := V_o2.other W19 ne_o2_o0
  have S_cs : Sta Z h18 "java/lang/String" "COMPACT_STRINGS" "Z" (.int cs) := S_cs.wr W19
  have Z0 : n0 ≤ h18.size := by rw [W19.size]; exact Z0
  have KK : Keep h0 h18 [o0] := KK.wr W19 (Or.inl (by simp))
  have A21 : own_R p l e _ _ m _ below meth c S0 n0 h18 0 0 (mkF m 27 #[.val (.ref o0), .val (.ref o1), .val .null, .val (.ref o2), .val (.int (18 : Int32))] []) := A20
  have A22 := A21.go (f' := mkF m 28 #[.val (.ref o0), .val (.ref o1), .val .null, .val (.ref o2), .val (.int (18 : Int32))] [(.ref o0)]) fun _ _ X _ k => XS.aloadN X.here hx rfl (hb hby dm40_27) rfl rfl k
  have A23 := A22.go (f' := mkF m 29 #[.val (.ref o0), .val (.ref o1), .val .null, .val (.ref o2), .val (.int (18 : Int32))] [(.ref o2), (.ref o0)]) fun _ _ X _ k => XS.aloadN X.here hx rfl (hb hby dm40_28) rfl rfl k
  have A24 := A23.go (f' := mkF m 30 #[.val (.ref o0), .val (.ref o1), .val .null, .val (.ref o2), .val (.int (18 : Int32))] [(.int (0 : Int32)), (.ref o2), (.ref o0)]) fun _ _ X _ k => XS.iconst X.here hx rfl (hb hby dm40_29) k
  have A25 := A24.go (f' := mkF m 32 #[.val (.ref o0), .val (.ref o1), .val .null, .val (.ref o2), .val (.int (18 : Int32))] [(.int (18 : Int32)), (.int (0 : Int32)), (.ref o2), (.ref o0)]) fun _ _ X _ k => XS.iload X.here hx rfl (hb hby dm40_30) rfl k
  obtain ⟨vA26, hA26, ⟨x1, rfl, KA26, zz_x1, P_V_x1⟩, A26⟩ := A25.callS (own_c128 l Z a0 hw o2 h18 n0 Z0 V_o2) hx hZ hown (hb hby dm40_32) (hw _ (List.mem_of_getElem? (i := 250) rfl)) (hw _ (List.mem_of_getElem? (i := 251) rfl)) (hw _ (List.mem_of_getElem? (i := 194) rfl)) (hw _ (List.mem_of_getElem? (i := 252) rfl)) ⟨by decide, by decide⟩ (lenOf pd__28_5bBII_29_5bB rfl) (argsL := [(.ref o2), (.int (0 : Int32)), (.int (18 : Int32))]) (rest := [(.ref o0)]) rfl rfl (by rw [hml]; rfl) (W := 1) (Nat.le_of_eq rfl) (by decide) (by decide) (by decide) (by decide)
  have ne_o0_x1 : o0 ≠ x1 := Nat.ne_of_lt (Nat.lt_of_lt_of_le E_o0.lt zz_x1)
  have ne_x1_o0 := Ne.symm ne_o0_x1
  have ne_o1_x1 : o1 ≠ x1 := Nat.ne_of_lt (Nat.lt_of_lt_of_le E_o1.lt zz_x1)
  have ne_x1_o1 := Ne.symm ne_o1_x1
  have ne_o2_x1 : o2 ≠ x1 := Nat.ne_of_lt (Nat.lt_of_lt_of_le V_o2.lt zz_x1)
  have ne_x1_o2 := Ne.symm ne_o2_x1
  have g_x1 : n0 ≤ x1 := Nat.le_trans Z0 zz_x1
  have sz_x1 : h0.size ≤ x1 := Nat.le_trans KK.1 zz_x1
  have S_cs : Sta Z hA26 "java/lang/String" "COMPACT_STRINGS" "Z" (.int cs) := own_staK S_cs KA26 all0
  have E_o0 : Exa Z hA26 o0 "java/lang/String" := E_o0.keep KA26
  have F_o0_value : Fld Z hA26 o0 "java/lang/String" "value" "[B" .null := F_o0_value.keep KA26 nin0
  have F_o0_coder : Fld Z hA26 o0 "java/lang/String" "coder" "B" (.int (0 : Int32)) := F_o0_coder.keep KA26 nin0
  have E_o1 : Exa Z hA26 o1 "java/lang/StringBuilder" := E_o1.keep KA26
  have F_o1_value : Fld Z hA26 o1 "java/lang/AbstractStringBuilder" "value" "[B" (.ref o2) := F_o1_value.keep KA26 nin0
  have F_o1_coder : Fld Z hA26 o1 "java/lang/AbstractStringBuilder" "coder" "B" (.int (0 : Int32)) := F_o1_coder.keep KA26 nin0
  have F_o1_count : Fld Z hA26 o1 "java/lang/AbstractStringBuilder" "count" "I" (.int (18 : Int32)) := F_o1_count.keep KA26 nin0
  have V_o2 : own_Ar Z hA26 o2 .byte [(.int (104 : Int32)), (.int (116 : Int32)), (.int (116 : Int32)), (.int (112 : Int32)), (.int (58 : Int32)), (.int (47 : Int32)), (.int (47 : Int32)), (.int (49 : Int32)), (.int (50 : Int32)), (.int (55 : Int32)), (.int (46 : Int32)), (.int (48 : Int32)), (.int (46 : Int32)), (.int (48 : Int32)), (.int (46 : Int32)), (.int (49 : Int32)), (.int (58 : Int32)), (.int (48 : Int32)), (.int (0 : Int32)), (.int (0 : Int32)), (.int (0 : Int32)), (.int (0 : Int32)), (.int (0 : Int32)), (.int (0 : Int32)), (.int (0 : Int32)), (.int (0 : Int32)), (.int (0 : Int32)), (.int (0 : Int32)), (.int (0 : Int32)), (.int (0 : Int32)), (.int (0 : Int32)), (.int (0 : Int32)), (.int (0 : Int32)), (.int (0 : Int32))] := V_o2.keep KA26 nin0
  have Z0 : n0 ≤ hA26.size := Nat.le_trans Z0 KA26.1
  have KK : Keep h0 hA26 [o0] := KK.trans KA26 all0
  have V_x1 : own_Ar Z hA26 x1 .byte [(.int (104 : Int32)), (.int (116 : Int32)), (.int (116 : Int32)), (.int (112 : Int32)), (.int (58 : Int32)), (.int (47 : Int32)), (.int (47 : Int32)), (.int (49 : Int32)), (.int (50 : Int32)), (.int (55 : Int32)), (.int (46 : Int32)), (.int (48 : Int32)), (.int (46 : Int32)), (.int (48 : Int32)), (.int (46 : Int32)), (.int (49 : Int32)), (.int (58 : Int32)), (.int (48 : Int32))] := P_V_x1
  have A27 : own_R p l e _ _ m _ below meth c S0 n0 hA26 1 18 (mkF m 35 #[.val (.ref o0), .val (.ref o1), .val .null, .val (.ref o2), .val (.int (18 : Int32))] [(.ref x1), (.ref o0)]) := A26
  obtain ⟨h28, W29, A30⟩ := A27.putF hx hZ hown (hb hby dm40_35) (hw _ (List.mem_of_getElem? (i := 108) rfl)) F_o0_value E_o0 (Or.inr ⟨(hw _ (List.mem_of_getElem? (i := 11) rfl)), rfl, hnm⟩) (hw _ (List.mem_of_getElem? (i := 9) rfl)) (ty := (.array .byte)) (by decide) rfl rfl g_o0
  have E_o0 : Exa Z h28 o0 "java/lang/String" := E_o0.wr W29
  have F_o0_value : Fld Z h28 o0 "java/lang/String" "value" "[B" (.ref x1) := F_o0_value.same W29
  have F_o0_coder : Fld Z h28 o0 "java/lang/String" "coder" "B" (.int (0 : Int32)) := F_o0_coder.other W29 (Or.inr (slot_ne (Or.inr (hw _ (List.mem_of_getElem? (i := 12) rfl))) (Or.inr (hw _ (List.mem_of_getElem? (i := 11) rfl))) (by decide) (t := .byte) (t' := (.array .byte)) (by decide) (by decide)))
  have E_o1 : Exa Z h28 o1 "java/lang/StringBuilder" := E_o1.wr W29
  have F_o1_value : Fld Z h28 o1 "java/lang/AbstractStringBuilder" "value" "[B" (.ref o2) := F_o1_value.other W29 (Or.inl ne_o1_o0)
  have F_o1_coder : Fld Z h28 o1 "java/lang/AbstractStringBuilder" "coder" "B" (.int (0 : Int32)) := F_o1_coder.other W29 (Or.inl ne_o1_o0)
  have F_o1_count : Fld Z h28 o1 "java/lang/AbstractStringBuilder" "count" "I" (.int (18 : Int32)) := F_o1_count.other W29 (Or.inl ne_o1_o0)
  have V_o2 : own_Ar Z h28 o2 .byte [(.int (104 : Int32)), (.int (116 : Int32)), (.int (116 : Int32)), (.int (112 : Int32)), (.int (58 : Int32)), (.int (47 : Int32)), (.int (47 : Int32)), (.int (49 : Int32)), (.int (50 : Int32)), (.int (55 : Int32)), (.int (46 : Int32)), (.int (48 : Int32)), (.int (46 : Int32)), (.int (48 : Int32)), (.int (46 : Int32)), (.int (49 : Int32)), (.int (58 : Int32)), (.int (48 : Int32)), (.int (0 : Int32)), (.int (0 : Int32)), (.int (0 : Int32)), (.int (0 : Int32)), (.int (0 : Int32)), (.int (0 : Int32)), (.int (0 : Int32)), (.int (0 : Int32)), (.int (0 : Int32)), (.int (0 : Int32)), (.int (0 : Int32)), (.int (0 : Int32)), (.int (0 : Int32)), (.int (0 : Int32)), (.int (0 : Int32)), (.int (0 : Int32))] := V_o2.other W29 ne_o2_o0
  have S_cs : Sta Z h28 "java/lang/String" "COMPACT_STRINGS" "Z" (.int cs) := S_cs.wr W29
  have V_x1 : own_Ar Z h28 x1 .byte [(.int (104 : Int32)), (.int (116 : Int32)), (.int (116 : Int32)), (.int (112 : Int32)), (.int (58 : Int32)), (.int (47 : Int32)), (.int (47 : Int32)), (.int (49 : Int32)), (.int (50 : Int32)), (.int (55 : Int32)), (.int (46 : Int32)), (.int (48 : Int32)), (.int (46 : Int32)), (.int (48 : Int32)), (.int (46 : Int32)), (.int (49 : Int32)), (.int (58 : Int32)), (.int (48 : Int32))] := V_x1.other W29 ne_x1_o0
  have Z0 : n0 ≤ h28.size := by rw [W29.size]; exact Z0
  have KK : Keep h0 h28 [o0] := KK.wr W29 (Or.inl (by simp))
  have A31 : own_R p l e _ _ m _ below meth c S0 n0 h28 1 18 (mkF m 38 #[.val (.ref o0), .val (.ref o1), .val .null, .val (.ref o2), .val (.int (18 : Int32))] []) := A30
  have A32 := A31.go (f' := mkF m 97 #[.val (.ref o0), .val (.ref o1), .val .null, .val (.ref o2), .val (.int (18 : Int32))] []) fun _ _ X _ k => XS.goto X.here hx rfl (pc0 := 38) (pc' := 97) rfl (hb hby dm40_38) (by decide) (by decide) k
  exact A32.retV hx hlk hret (hb hby dm40_97) (by decide) (by decide) ⟨x1, rfl, KK, sz_x1, F_o0_value, F_o0_coder, V_x1⟩
theorem ef_own_c130 (m : MethodId) (o0 : Addr) (o1 : Addr) : entryFrame m #[(.ref o0), (.ref o1)] 2 = mkF m 0 #[.val (.ref o0), .val (.ref o1)] [] := by first | (simp [entryFrame, mkF, argsToLocals, Value.category, maxLocals]; done) | rfl
set_option maxRecDepth 65536 in
set_option maxHeartbeats 40000000 in
theorem own_c130 (l : Launch) (Z : State) (a0 : Array Value) (hw : ∀ d ∈ tables_1, d.before a0 Z = true) (o0 o1 o2 : Addr) (cs : Int32) (h0 : Heap) (n0 : Nat) (Z0 : n0 ≤ h0.size) (E_o0 : Exa Z h0 o0 "java/lang/String") (F_o0_value : Fld Z h0 o0 "java/lang/String" "value" "[B" .null) (F_o0_coder : Fld Z h0 o0 "java/lang/String" "coder" "B" (.int (0 : Int32))) (E_o1 : Exa Z h0 o1 "java/lang/StringBuilder") (F_o1_value : Fld Z h0 o1 "java/lang/AbstractStringBuilder" "value" "[B" (.ref o2)) (F_o1_coder : Fld Z h0 o1 "java/lang/AbstractStringBuilder" "coder" "B" (.int (0 : Int32))) (F_o1_count : Fld Z h0 o1 "java/lang/AbstractStringBuilder" "count" "I" (.int (18 : Int32))) (V_o2 : own_Ar Z h0 o2 .byte [(.int (104 : Int32)), (.int (116 : Int32)), (.int (116 : Int32)), (.int (112 : Int32)), (.int (58 : Int32)), (.int (47 : Int32)), (.int (47 : Int32)), (.int (49 : Int32)), (.int (50 : Int32)), (.int (55 : Int32)), (.int (46 : Int32)), (.int (48 : Int32)), (.int (46 : Int32)), (.int (48 : Int32)), (.int (46 : Int32)), (.int (49 : Int32)), (.int (58 : Int32)), (.int (48 : Int32)), (.int (0 : Int32)), (.int (0 : Int32)), (.int (0 : Int32)), (.int (0 : Int32)), (.int (0 : Int32)), (.int (0 : Int32)), (.int (0 : Int32)), (.int (0 : Int32)), (.int (0 : Int32)), (.int (0 : Int32)), (.int (0 : Int32)), (.int (0 : Int32)), (.int (0 : Int32)), (.int (0 : Int32)), (.int (0 : Int32)), (.int (0 : Int32))]) (S_cs : Sta Z h0 "java/lang/String" "COMPACT_STRINGS" "Z" (.int cs)) (hcs : ¬ (cs = (0 : Int32))) (ne_o1_o0 : o1 ≠ o0) (ne_o2_o0 : o2 ≠ o0) (g_o0 : n0 ≤ o0) :
    own_M l Z (⟨"java/lang/String", "<init>", "(Ljava/lang/StringBuilder;)V"⟩ : MethodName) jdk_42_method_53_code 2 none [] ({ frames := 4, cells := 1, slots := 18, locals := 65 } : Room) #[(.ref o0), (.ref o1)] h0 n0 (fun v h => ∃ x1 : Addr, v = none ∧ Keep h0 h [o0] ∧ h0.size ≤ x1 ∧ Fld Z h o0 "java/lang/String" "value" "[B" (.ref x1) ∧ Fld Z h o0 "java/lang/String" "coder" "B" (.int (0 : Int32)) ∧ own_Ar Z h x1 .byte [(.int (104 : Int32)), (.int (116 : Int32)), (.int (116 : Int32)), (.int (112 : Int32)), (.int (58 : Int32)), (.int (47 : Int32)), (.int (47 : Int32)), (.int (49 : Int32)), (.int (50 : Int32)), (.int (55 : Int32)), (.int (46 : Int32)), (.int (48 : Int32)), (.int (46 : Int32)), (.int (48 : Int32)), (.int (46 : Int32)), (.int (49 : Int32)), (.int (58 : Int32)), (.int (48 : Int32))]) := by
  refine own_M.of (plainFor_of_name (by first | (simp [plainName, overriddenIn]; done) | decide +kernel)) ?_
  intro p e s m below meth c S0 hx hby hml hown hnm hret hlk hZ A00
  have A0 := A00.cast (ef_own_c130 m o0 o1)
  have KK : Keep h0 h0 ([o0] : List Addr) := Keep.refl _ _
  have A1 := A0.go (f' := mkF m 1 #[.val (.ref o0), .val (.ref o1)] [(.ref o0)]) fun _ _ X _ k => XS.aloadN X.here hx rfl (hb hby dm39_0) rfl rfl k
  have A2 := A1.go (f' := mkF m 2 #[.val (.ref o0), .val (.ref o1)] [(.ref o1), (.ref o0)]) fun _ _ X _ k => XS.aloadN X.here hx rfl (hb hby dm39_1) rfl rfl k
  have A3 := A2.go (f' := mkF m 3 #[.val (.ref o0), .val (.ref o1)] [.null, (.ref o1), (.ref o0)]) fun _ _ X _ k => XS.aconstNull X.here hx rfl (hb hby dm39_2) k
  obtain ⟨vA4, hA4, ⟨x1, rfl, KA4, zz_x1, P_F_o0_value, P_F_o0_coder, P_V_x1⟩, A4⟩ := A3.callI (b := o0) (own_c129 l Z a0 hw o0 o1 o2 cs h0 n0 Z0 E_o0 F_o0_value F_o0_coder E_o1 F_o1_value F_o1_coder F_o1_count V_o2 S_cs hcs ne_o1_o0 ne_o2_o0 g_o0) hx hZ hown (hb hby dm39_3) rfl (hw _ (List.mem_of_getElem? (i := 232) rfl)) (hw _ (List.mem_of_getElem? (i := 233) rfl)) (hw _ (List.mem_of_getElem? (i := 234) rfl)) (hw _ (List.mem_of_getElem? (i := 8) rfl)) ⟨by decide, by decide⟩ (lenOf pd__28Ljava_2flang_2fAbstractStringBuilder_3bLjava_2flang_2fVoid_3b_29V rfl) (argsL := [(.ref o1), .null]) (rest := []) rfl rfl (by rw [hml]; rfl) (W := 0) (Nat.le_of_eq rfl) (by decide) (by decide) (by decide) (by decide)
  have ne_o0_x1 : o0 ≠ x1 := Nat.ne_of_lt (Nat.lt_of_lt_of_le E_o0.lt zz_x1)
  have ne_x1_o0 := Ne.symm ne_o0_x1
  have ne_o1_x1 : o1 ≠ x1 := Nat.ne_of_lt (Nat.lt_of_lt_of_le E_o1.lt zz_x1)
  have ne_x1_o1 := Ne.symm ne_o1_x1
  have ne_o2_x1 : o2 ≠ x1 := Nat.ne_of_lt (Nat.lt_of_lt_of_le V_o2.lt zz_x1)
  have ne_x1_o2 := Ne.symm ne_o2_x1
  have g_x1 : n0 ≤ x1 := Nat.le_trans Z0 zz_x1
  have sz_x1 : h0.size ≤ x1 := Nat.le_trans KK.1 zz_x1
  have S_cs : Sta Z hA4 "java/lang/String" "COMPACT_STRINGS" "Z" (.int cs) := own_staK S_cs KA4 (allS (P := fun x => ∀ cell : Cell, h0[x]? = some cell → cell.vm.isStatics = false) E_o0.nostat all0)
  have E_o0 : Exa Z hA4 o0 "java/lang/String" := E_o0.keep KA4
  have E_o1 : Exa Z hA4 o1 "java/lang/StringBuilder" := E_o1.keep KA4
  have F_o1_value : Fld Z hA4 o1 "java/lang/AbstractStringBuilder" "value" "[B" (.ref o2) := F_o1_value.keep KA4 (ninS ne_o1_o0 nin0)
  have F_o1_coder : Fld Z hA4 o1 "java/lang/AbstractStringBuilder" "coder" "B" (.int (0 : Int32)) := F_o1_coder.keep KA4 (ninS ne_o1_o0 nin0)
  have F_o1_count : Fld Z hA4 o1 "java/lang/AbstractStringBuilder" "count" "I" (.int (18 : Int32)) := F_o1_count.keep KA4 (ninS ne_o1_o0 nin0)
  have V_o2 : own_Ar Z hA4 o2 .byte [(.int (104 : Int32)), (.int (116 : Int32)), (.int (116 : Int32)), (.int (112 : Int32)), (.int (58 : Int32)), (.int (47 : Int32)), (.int (47 : Int32)), (.int (49 : Int32)), (.int (50 : Int32)), (.int (55 : Int32)), (.int (46 : Int32)), (.int (48 : Int32)), (.int (46 : Int32)), (.int (48 : Int32)), (.int (46 : Int32)), (.int (49 : Int32)), (.int (58 : Int32)), (.int (48 : Int32)), (.int (0 : Int32)), (.int (0 : Int32)), (.int (0 : Int32)), (.int (0 : Int32)), (.int (0 : Int32)), (.int (0 : Int32)), (.int (0 : Int32)), (.int (0 : Int32)), (.int (0 : Int32)), (.int (0 : Int32)), (.int (0 : Int32)), (.int (0 : Int32)), (.int (0 : Int32)), (.int (0 : Int32)), (.int (0 : Int32)), (.int (0 : Int32))] := V_o2.keep KA4 (ninS ne_o2_o0 nin0)
  have Z0 : n0 ≤ hA4.size := Nat.le_trans Z0 KA4.1
  have KK : Keep h0 hA4 [o0] := KK.trans KA4 (allS (P := fun x => x ∈ ([o0] : List Addr) ∨ h0.size ≤ x) (Or.inl (by simp)) all0)
  have F_o0_value : Fld Z hA4 o0 "java/lang/String" "value" "[B" (.ref x1) := P_F_o0_value
  have F_o0_coder : Fld Z hA4 o0 "java/lang/String" "coder" "B" (.int (0 : Int32)) := P_F_o0_coder
  have V_x1 : own_Ar Z hA4 x1 .byte [(.int (104 : Int32)), (.int (116 : Int32)), (.int (116 : Int32)), (.int (112 : Int32)), (.int (58 : Int32)), (.int (47 : Int32)), (.int (47 : Int32)), (.int (49 : Int32)), (.int (50 : Int32)), (.int (55 : Int32)), (.int (46 : Int32)), (.int (48 : Int32)), (.int (46 : Int32)), (.int (48 : Int32)), (.int (46 : Int32)), (.int (49 : Int32)), (.int (58 : Int32)), (.int (48 : Int32))] := P_V_x1
  have A5 : own_R p l e _ _ m _ below meth c S0 n0 hA4 1 18 (mkF m 6 #[.val (.ref o0), .val (.ref o1)] []) := A4
  exact A5.retV hx hlk hret (hb hby dm39_6) (by decide) (by decide) ⟨x1, rfl, KK, sz_x1, F_o0_value, F_o0_coder, V_x1⟩
theorem ef_own_c131 (m : MethodId) (o0 : Addr) : entryFrame m #[(.ref o0)] 1 = mkF m 0 #[.val (.ref o0)] [] := by first | (simp [entryFrame, mkF, argsToLocals, Value.category, maxLocals]; done) | rfl
set_option maxRecDepth 65536 in
set_option maxHeartbeats 40000000 in
theorem own_c131 (l : Launch) (Z : State) (a0 : Array Value) (hw : ∀ d ∈ tables_1, d.before a0 Z = true) (o0 o1 : Addr) (cs : Int32) (h0 : Heap) (n0 : Nat) (Z0 : n0 ≤ h0.size) (E_o0 : Exa Z h0 o0 "java/lang/StringBuilder") (F_o0_value : Fld Z h0 o0 "java/lang/AbstractStringBuilder" "value" "[B" (.ref o1)) (F_o0_coder : Fld Z h0 o0 "java/lang/AbstractStringBuilder" "coder" "B" (.int (0 : Int32))) (F_o0_count : Fld Z h0 o0 "java/lang/AbstractStringBuilder" "count" "I" (.int (18 : Int32))) (V_o1 : own_Ar Z h0 o1 .byte [(.int (104 : Int32)), (.int (116 : Int32)), (.int (116 : Int32)), (.int (112 : Int32)), (.int (58 : Int32)), (.int (47 : Int32)), (.int (47 : Int32)), (.int (49 : Int32)), (.int (50 : Int32)), (.int (55 : Int32)), (.int (46 : Int32)), (.int (48 : Int32)), (.int (46 : Int32)), (.int (48 : Int32)), (.int (46 : Int32)), (.int (49 : Int32)), (.int (58 : Int32)), (.int (48 : Int32)), (.int (0 : Int32)), (.int (0 : Int32)), (.int (0 : Int32)), (.int (0 : Int32)), (.int (0 : Int32)), (.int (0 : Int32)), (.int (0 : Int32)), (.int (0 : Int32)), (.int (0 : Int32)), (.int (0 : Int32)), (.int (0 : Int32)), (.int (0 : Int32)), (.int (0 : Int32)), (.int (0 : Int32)), (.int (0 : Int32)), (.int (0 : Int32))]) (S_cs : Sta Z h0 "java/lang/String" "COMPACT_STRINGS" "Z" (.int cs)) (hcs : ¬ (cs = (0 : Int32))) :
    own_M l Z (⟨"java/lang/StringBuilder", "toString", "()Ljava/lang/String;"⟩ : MethodName) jdk_67_method_42_code 1 (some (.object "java/lang/String")) [] ({ frames := 5, cells := 2, slots := 22, locals := 79 } : Room) #[(.ref o0)] h0 n0 (fun v h => ∃ x1 x2 : Addr, v = some (.ref x1) ∧ Keep h0 h [] ∧ h0.size ≤ x1 ∧ h0.size ≤ x2 ∧ x2 ≠ x1 ∧ Exa Z h x1 "java/lang/String" ∧ Fld Z h x1 "java/lang/String" "value" "[B" (.ref x2) ∧ Fld Z h x1 "java/lang/String" "coder" "B" (.int (0 : Int32)) ∧ own_Ar Z h x2 .byte [(.int (104 : Int32)), (.int (116 : Int32)), (.int (116 : Int32)), (.int (112 : Int32)), (.int (58 : Int32)), (.int (47 : Int32)), (.int (47 : Int32)), (.int (49 : Int32)), (.int (50 : Int32)), (.int (55 : Int32)), (.int (46 : Int32)), (.int (48 : Int32)), (.int (46 : Int32)), (.int (48 : Int32)), (.int (46 : Int32)), (.int (49 : Int32)), (.int (58 : Int32)), (.int (48 : Int32))]) := by
  refine own_M.of (plainFor_of_name (by first | (simp [plainName, overriddenIn]; done) | decide +kernel)) ?_
  intro p e s m below meth c S0 hx hby hml hown hnm hret hlk hZ A00
  have A0 := A00.cast (ef_own_c131 m o0)
  have KK : Keep h0 h0 ([] : List Addr) := Keep.refl _ _
  obtain ⟨h1, E2, E_x1, D_x1, A3⟩ := A0.newO hx hZ hown (hb hby dm38_0) (hw _ (List.mem_of_getElem? (i := 227) rfl)) (hw _ (List.mem_of_getElem? (i := 9) rfl)) (hw _ (List.mem_of_getElem? (i := 8) rfl)) (by decide) (by decide)
  obtain ⟨x1, gx1⟩ : ∃ z, z = h0.size := ⟨_, rfl⟩
  rw [← gx1] at E_x1 D_x1 A3
  have ne_o0_x1 : o0 ≠ x1 := by rw [gx1]; exact Nat.ne_of_lt E_o0.lt
  have ne_x1_o0 := Ne.symm ne_o0_x1
  have ne_o1_x1 : o1 ≠ x1 := by rw [gx1]; exact Nat.ne_of_lt V_o1.lt
  have ne_x1_o1 := Ne.symm ne_o1_x1
  have g_x1 : n0 ≤ x1 := by rw [gx1]; exact Z0
  have sz_x1 : h0.size ≤ x1 := by rw [gx1]; exact KK.1
  have E_o0 : Exa Z h1 o0 "java/lang/StringBuilder" := E_o0.ext E2
  have F_o0_value : Fld Z h1 o0 "java/lang/AbstractStringBuilder" "value" "[B" (.ref o1) := F_o0_value.ext E2
  have F_o0_coder : Fld Z h1 o0 "java/lang/AbstractStringBuilder" "coder" "B" (.int (0 : Int32)) := F_o0_coder.ext E2
  have F_o0_count : Fld Z h1 o0 "java/lang/AbstractStringBuilder" "count" "I" (.int (18 : Int32)) := F_o0_count.ext E2
  have V_o1 : own_Ar Z h1 o1 .byte [(.int (104 : Int32)), (.int (116 : Int32)), (.int (116 : Int32)), (.int (112 : Int32)), (.int (58 : Int32)), (.int (47 : Int32)), (.int (47 : Int32)), (.int (49 : Int32)), (.int (50 : Int32)), (.int (55 : Int32)), (.int (46 : Int32)), (.int (48 : Int32)), (.int (46 : Int32)), (.int (48 : Int32)), (.int (46 : Int32)), (.int (49 : Int32)), (.int (58 : Int32)), (.int (48 : Int32)), (.int (0 : Int32)), (.int (0 : Int32)), (.int (0 : Int32)), (.int (0 : Int32)), (.int (0 : Int32)), (.int (0 : Int32)), (.int (0 : Int32)), (.int (0 : Int32)), (.int (0 : Int32)), (.int (0 : Int32)), (.int (0 : Int32)), (.int (0 : Int32)), (.int (0 : Int32)), (.int (0 : Int32)), (.int (0 : Int32)), (.int (0 : Int32))] := V_o1.ext E2
  have S_cs : Sta Z h1 "java/lang/String" "COMPACT_STRINGS" "Z" (.int cs) := S_cs.ext E2
  have Z0 : n0 ≤ h1.size := Nat.le_trans Z0 E2.1
  have KK : Keep h0 h1 [] := KK.ext E2
  have F_x1_value : Fld Z h1 x1 "java/lang/String" "value" "[B" .null := D_x1 (Or.inr (hw _ (List.mem_of_getElem? (i := 11) rfl))) (ty := (.array .byte)) (by decide)
  have F_x1_coder : Fld Z h1 x1 "java/lang/String" "coder" "B" (.int (0 : Int32)) := D_x1 (Or.inr (hw _ (List.mem_of_getElem? (i := 12) rfl))) (ty := .byte) (by decide)
  have A4 : own_R p l e _ _ m _ below meth c S0 n0 h1 1 4 (mkF m 3 #[.val (.ref o0)] [(.ref x1)]) := A3
  have A5 := A4.go (f' := mkF m 4 #[.val (.ref o0)] [(.ref x1), (.ref x1)]) fun _ _ X _ k => XS.dup X.here hx rfl (hb hby dm38_3) rfl rfl k
  have A6 := A5.go (f' := mkF m 5 #[.val (.ref o0)] [(.ref o0), (.ref x1), (.ref x1)]) fun _ _ X _ k => XS.aloadN X.here hx rfl (hb hby dm38_4) rfl rfl k
  obtain ⟨vA7, hA7, ⟨x2, rfl, KA7, zz_x2, P_F_x1_value, P_F_x1_coder, P_V_x2⟩, A7⟩ := A6.callI (b := x1) (own_c130 l Z a0 hw x1 o0 o1 cs h1 n0 Z0 E_x1 F_x1_value F_x1_coder E_o0 F_o0_value F_o0_coder F_o0_count V_o1 S_cs hcs ne_o0_x1 ne_o1_x1 g_x1) hx hZ hown (hb hby dm38_5) rfl (hw _ (List.mem_of_getElem? (i := 228) rfl)) (hw _ (List.mem_of_getElem? (i := 229) rfl)) (hw _ (List.mem_of_getElem? (i := 231) rfl)) (hw _ (List.mem_of_getElem? (i := 8) rfl)) ⟨by decide, by decide⟩ (lenOf pd__28Ljava_2flang_2fStringBuilder_3b_29V rfl) (argsL := [(.ref o0)]) (rest := [(.ref x1)]) rfl rfl (by rw [hml]; rfl) (W := 1) (Nat.le_of_eq rfl) (by decide) (by decide) (by decide) (by decide)
  have ne_o0_x2 : o0 ≠ x2 := Nat.ne_of_lt (Nat.lt_of_lt_of_le E_o0.lt zz_x2)
  have ne_x2_o0 := Ne.symm ne_o0_x2
  have ne_o1_x2 : o1 ≠ x2 := Nat.ne_of_lt (Nat.lt_of_lt_of_le V_o1.lt zz_x2)
  have ne_x2_o1 := Ne.symm ne_o1_x2
  have ne_x1_x2 : x1 ≠ x2 := Nat.ne_of_lt (Nat.lt_of_lt_of_le E_x1.lt zz_x2)
  have ne_x2_x1 := Ne.symm ne_x1_x2
  have g_x2 : n0 ≤ x2 := Nat.le_trans Z0 zz_x2
  have sz_x2 : h0.size ≤ x2 := Nat.le_trans KK.1 zz_x2
  have S_cs : Sta Z hA7 "java/lang/String" "COMPACT_STRINGS" "Z" (.int cs) := own_staK S_cs KA7 (allS (P := fun x => ∀ cell : Cell, h1[x]? = some cell → cell.vm.isStatics = false) E_x1.nostat all0)
  have E_o0 : Exa Z hA7 o0 "java/lang/StringBuilder" := E_o0.keep KA7
  have F_o0_value : Fld Z hA7 o0 "java/lang/AbstractStringBuilder" "value" "[B" (.ref o1) := F_o0_value.keep KA7 (ninS ne_o0_x1 nin0)
  have F_o0_coder : Fld Z hA7 o0 "java/lang/AbstractStringBuilder" "coder" "B" (.int (0 : Int32)) := F_o0_coder.keep KA7 (ninS ne_o0_x1 nin0)
  have F_o0_count : Fld Z hA7 o0 "java/lang/AbstractStringBuilder" "count" "I" (.int (18 : Int32)) := F_o0_count.keep KA7 (ninS ne_o0_x1 nin0)
  have V_o1 : own_Ar Z hA7 o1 .byte [(.int (104 : Int32)), (.int (116 : Int32)), (.int (116 : Int32)), (.int (112 : Int32)), (.int (58 : Int32)), (.int (47 : Int32)), (.int (47 : Int32)), (.int (49 : Int32)), (.int (50 : Int32)), (.int (55 : Int32)), (.int (46 : Int32)), (.int (48 : Int32)), (.int (46 : Int32)), (.int (48 : Int32)), (.int (46 : Int32)), (.int (49 : Int32)), (.int (58 : Int32)), (.int (48 : Int32)), (.int (0 : Int32)), (.int (0 : Int32)), (.int (0 : Int32)), (.int (0 : Int32)), (.int (0 : Int32)), (.int (0 : Int32)), (.int (0 : Int32)), (.int (0 : Int32)), (.int (0 : Int32)), (.int (0 : Int32)), (.int (0 : Int32)), (.int (0 : Int32)), (.int (0 : Int32)), (.int (0 : Int32)), (.int (0 : Int32)), (.int (0 : Int32))] := V_o1.keep KA7 (ninS ne_o1_x1 nin0)
  have E_x1 : Exa Z hA7 x1 "java/lang/String" := E_x1.keep KA7
  have Z0 : n0 ≤ hA7.size := Nat.le_trans Z0 KA7.1
  have KK : Keep h0 hA7 [] := KK.trans KA7 (allS (P := fun x => x ∈ ([] : List Addr) ∨ h0.size ≤ x) (Or.inr sz_x1) all0)
  have F_x1_value : Fld Z hA7 x1 "java/lang/String" "value" "[B" (.ref x2) := P_F_x1_value
  have F_x1_coder : Fld Z hA7 x1 "java/lang/String" "coder" "B" (.int (0 : Int32)) := P_F_x1_coder
  have V_x2 : own_Ar Z hA7 x2 .byte [(.int (104 : Int32)), (.int (116 : Int32)), (.int (116 : Int32)), (.int (112 : Int32)), (.int (58 : Int32)), (.int (47 : Int32)), (.int (47 : Int32)), (.int (49 : Int32)), (.int (50 : Int32)), (.int (55 : Int32)), (.int (46 : Int32)), (.int (48 : Int32)), (.int (46 : Int32)), (.int (48 : Int32)), (.int (46 : Int32)), (.int (49 : Int32)), (.int (58 : Int32)), (.int (48 : Int32))] := P_V_x2
  have A8 : own_R p l e _ _ m _ below meth c S0 n0 hA7 2 22 (mkF m 8 #[.val (.ref o0)] [(.ref x1)]) := A7
  exact A8.ret hx hlk hret (hb hby dm38_8) rfl (Or.inr (Or.inr (Or.inr (Or.inr ⟨rfl, rfl, rfl⟩)))) (by decide) (by decide) ⟨x1, x2, rfl, KK, sz_x1, sz_x2, ne_x2_x1, E_x1, F_x1_value, F_x1_coder, V_x2⟩
theorem ef_own_c132 (m : MethodId) (o0 : Addr) : entryFrame m #[(.ref o0), (.int (0 : Int32))] 4 = mkF m 0 #[.val (.ref o0), .val (.int (0 : Int32)), .unset, .unset] [] := by first | (simp [entryFrame, mkF, argsToLocals, Value.category, maxLocals]; done) | rfl
set_option maxRecDepth 65536 in
set_option maxHeartbeats 40000000 in
theorem own_c132 (l : Launch) (Z : State) (a0 : Array Value) (hw : ∀ d ∈ tables_1, d.before a0 Z = true) (o0 o1 o3 : Addr) (cs : Int32) (dig : Addr) (ds : List Value) (h0 : Heap) (n0 : Nat) (Z0 : n0 ≤ h0.size) (hEL : EW Z a0 own_EL) (own_wS : ∀ a ∈ Bundle.stringAtoms, a.before a0 Z = true) (F_o0_host : Fld Z h0 o0 "com/example/periwinkle/periwinkle/server/ServerSettings" "host" "Ljava/lang/String;" (.ref o1)) (F_o0_tlsCertificate : Fld Z h0 o0 "com/example/periwinkle/periwinkle/server/ServerSettings" "tlsCertificate" "Ljava/nio/file/Path;" .null) (V_dig : own_Ar Z h0 dig .byte ds) (E_o1 : Exa Z h0 o1 "java/lang/String") (F_o1_coder : Fld Z h0 o1 "java/lang/String" "coder" "B" (.int (0 : Int32))) (F_o1_value : Fld Z h0 o1 "java/lang/String" "value" "[B" (.ref o3)) (V_o3 : own_Ar Z h0 o3 .byte [(.int (49 : Int32)), (.int (50 : Int32)), (.int (55 : Int32)), (.int (46 : Int32)), (.int (48 : Int32)), (.int (46 : Int32)), (.int (48 : Int32)), (.int (46 : Int32)), (.int (49 : Int32))]) (S_cs : Sta Z h0 "java/lang/String" "COMPACT_STRINGS" "Z" (.int cs)) (S_dig : Sta Z h0 "java/lang/Integer" "DigitOnes" "[B" (.ref dig)) (hcs : ¬ (cs = (0 : Int32))) (hds : ds[0]? = some (.int (48 : Int32))) :
    own_MS l Z own_EL (⟨"com/example/periwinkle/periwinkle/server/ServerSettings", "url", "(I)Ljava/lang/String;"⟩ : MethodName) prog_37_method_17_code 4 (some (.object "java/lang/String")) [] ({ frames := 6, cells := 13, slots := 128, locals := 91 } : Room) #[(.ref o0), (.int (0 : Int32))] h0 n0 (fun v h => ∃ x12 x13 : Addr, v = some (.ref x12) ∧ Keep h0 h [] ∧ h0.size ≤ x12 ∧ h0.size ≤ x13 ∧ x13 ≠ x12 ∧ Exa Z h x12 "java/lang/String" ∧ Fld Z h x12 "java/lang/String" "value" "[B" (.ref x13) ∧ Fld Z h x12 "java/lang/String" "coder" "B" (.int (0 : Int32)) ∧ own_Ar Z h x13 .byte [(.int (104 : Int32)), (.int (116 : Int32)), (.int (116 : Int32)), (.int (112 : Int32)), (.int (58 : Int32)), (.int (47 : Int32)), (.int (47 : Int32)), (.int (49 : Int32)), (.int (50 : Int32)), (.int (55 : Int32)), (.int (46 : Int32)), (.int (48 : Int32)), (.int (46 : Int32)), (.int (48 : Int32)), (.int (46 : Int32)), (.int (49 : Int32)), (.int (58 : Int32)), (.int (48 : Int32))]) := by
  refine own_MS.of (plainFor_of_name (by first | (simp [plainName, overriddenIn]; done) | decide +kernel)) ?_
  intro p e s m below meth c S0 vm0 k0 hx hby hml hown hnm hret hlk hZ hS hk HC A00
  have A0 := A00.cast (ef_own_c132 m o0)
  have KK : Keep h0 h0 ([] : List Addr) := Keep.refl _ _
  have A1 := A0.go (f' := mkF m 1 #[.val (.ref o0), .val (.int (0 : Int32)), .unset, .unset] [(.ref o0)]) fun _ _ X _ k => XS.aloadN X.here hx rfl (hb hby dm11_0) rfl rfl k
  have A2 : own_R p l e _ _ m _ below meth c S0 n0 h0 0 0 (mkF m 4 #[.val (.ref o0), .val (.int (0 : Int32)), .unset, .unset] [.null]) := A1.getF hx hZ hown (hb hby dm11_1) (hw _ (List.mem_of_getElem? (i := 44) rfl)) Via.refl F_o0_tlsCertificate
  have A3 := A2.go (f' := mkF m 12 #[.val (.ref o0), .val (.int (0 : Int32)), .unset, .unset] []) fun _ _ X _ k => XS.ifnullYes X.here hx rfl (pc0 := 4) (pc' := 12) rfl (hb hby dm11_4) rfl (by decide) (by decide) k
  obtain ⟨x1, x2, vmA6, kA6, h4, E5, E_x1, F_x1_coder, F_x1_value, V_x2, ns_x1, hS, hk, hZ, hown, HCs, hLA6, A6⟩ := A3.ldcS hx hZ hown (hb hby dm11_12) (hw _ (List.mem_of_getElem? (i := 75) rfl)) own_wS hS hk hEL (by simp +decide [own_EL]) (CHr.refl HC.1) (vs := [(.int (104 : Int32)), (.int (116 : Int32)), (.int (116 : Int32)), (.int (112 : Int32))]) (z := (4 : Int32)) ⟨by decide, by decide⟩ (by decide) (by decide) (n := 16) (by decide) (by decide) (by decide) (by decide)
  have HC := HC.trans HCs
  have F_o0_host : Fld Z h4 o0 "com/example/periwinkle/periwinkle/server/ServerSettings" "host" "Ljava/lang/String;" (.ref o1) := F_o0_host.ext E5
  have F_o0_tlsCertificate : Fld Z h4 o0 "com/example/periwinkle/periwinkle/server/ServerSettings" "tlsCertificate" "Ljava/nio/file/Path;" .null := F_o0_tlsCertificate.ext E5
  have V_dig : own_Ar Z h4 dig .byte ds := V_dig.ext E5
  have E_o1 : Exa Z h4 o1 "java/lang/String" := E_o1.ext E5
  have F_o1_coder : Fld Z h4 o1 "java/lang/String" "coder" "B" (.int (0 : Int32)) := F_o1_coder.ext E5
  have F_o1_value : Fld Z h4 o1 "java/lang/String" "value" "[B" (.ref o3) := F_o1_value.ext E5
  have V_o3 : own_Ar Z h4 o3 .byte [(.int (49 : Int32)), (.int (50 : Int32)), (.int (55 : Int32)), (.int (46 : Int32)), (.int (48 : Int32)), (.int (46 : Int32)), (.int (48 : Int32)), (.int (46 : Int32)), (.int (49 : Int32))] := V_o3.ext E5
  have S_cs : Sta Z h4 "java/lang/String" "COMPACT_STRINGS" "Z" (.int cs) := S_cs.ext E5
  have S_dig : Sta Z h4 "java/lang/Integer" "DigitOnes" "[B" (.ref dig) := S_dig.ext E5
  have Z0 : n0 ≤ h4.size := Nat.le_trans Z0 E5.1
  have KK : Keep h0 h4 [] := KK.ext E5
  have A7 : own_R p l e _ _ m _ below meth c S0 n0 h4 2 20 (mkF m 14 #[.val (.ref o0), .val (.int (0 : Int32)), .unset, .unset] [(.ref x1)]) := A6
  have A8 := A7.go (f' := mkF m 15 #[.val (.ref o0), .val (.int (0 : Int32)), .val (.ref x1), .unset] []) fun _ _ X _ k => XS.astoreN X.here hx rfl (hb hby dm11_14) rfl rfl (l' := #[.val (.ref o0), .val (.int (0 : Int32)), .val (.ref x1), .unset]) rfl k
  have A9 := A8.go (f' := mkF m 16 #[.val (.ref o0), .val (.int (0 : Int32)), .val (.ref x1), .unset] [(.ref o0)]) fun _ _ X _ k => XS.aloadN X.here hx rfl (hb hby dm11_15) rfl rfl k
  have A10 : own_R p l e _ _ m _ below meth c S0 n0 h4 2 20 (mkF m 19 #[.val (.ref o0), .val (.int (0 : Int32)), .val (.ref x1), .unset] [(.ref o1)]) := A9.getF hx hZ hown (hb hby dm11_16) (hw _ (List.mem_of_getElem? (i := 40) rfl)) Via.refl F_o0_host
  obtain ⟨x3, x4, vmA13, kA13, h11, E12, E_x3, F_x3_coder, F_x3_value, V_x4, ns_x3, hS, hk, hZ, hown, HCs, hLA13, A13⟩ := A10.ldcS hx hZ hown (hb hby dm11_19) (hw _ (List.mem_of_getElem? (i := 76) rfl)) own_wS hS hk hEL (by simp +decide [own_EL]) (CHr.refl HC.1) (vs := [(.int (58 : Int32))]) (z := (1 : Int32)) ⟨by decide, by decide⟩ (by decide) (by decide) (n := 4) (by decide) (by decide) (by decide) (by decide)
  have HC := HC.trans HCs
  have F_o0_host : Fld Z h11 o0 "com/example/periwinkle/periwinkle/server/ServerSettings" "host" "Ljava/lang/String;" (.ref o1) := F_o0_host.ext E12
  have F_o0_tlsCertificate : Fld Z h11 o0 "com/example/periwinkle/periwinkle/server/ServerSettings" "tlsCertificate" "Ljava/nio/file/Path;" .null := F_o0_tlsCertificate.ext E12
  have V_dig : own_Ar Z h11 dig .byte ds := V_dig.ext E12
  have E_o1 : Exa Z h11 o1 "java/lang/String" := E_o1.ext E12
  have F_o1_coder : Fld Z h11 o1 "java/lang/String" "coder" "B" (.int (0 : Int32)) := F_o1_coder.ext E12
  have F_o1_value : Fld Z h11 o1 "java/lang/String" "value" "[B" (.ref o3) := F_o1_value.ext E12
  have V_o3 : own_Ar Z h11 o3 .byte [(.int (49 : Int32)), (.int (50 : Int32)), (.int (55 : Int32)), (.int (46 : Int32)), (.int (48 : Int32)), (.int (46 : Int32)), (.int (48 : Int32)), (.int (46 : Int32)), (.int (49 : Int32))] := V_o3.ext E12
  have S_cs : Sta Z h11 "java/lang/String" "COMPACT_STRINGS" "Z" (.int cs) := S_cs.ext E12
  have S_dig : Sta Z h11 "java/lang/Integer" "DigitOnes" "[B" (.ref dig) := S_dig.ext E12
  have E_x1 : Exa Z h11 x1 "java/lang/String" := E_x1.ext E12
  have F_x1_coder : Fld Z h11 x1 "java/lang/String" "coder" "B" (.int (0 : Int32)) := F_x1_coder.ext E12
  have F_x1_value : Fld Z h11 x1 "java/lang/String" "value" "[B" (.ref x2) := F_x1_value.ext E12
  have V_x2 : own_Ar Z h11 x2 .byte [(.int (104 : Int32)), (.int (116 : Int32)), (.int (116 : Int32)), (.int (112 : Int32))] := V_x2.ext E12
  have Z0 : n0 ≤ h11.size := Nat.le_trans Z0 E12.1
  have KK : Keep h0 h11 [] := KK.ext E12
  have A14 : own_R p l e _ _ m _ below meth c S0 n0 h11 4 28 (mkF m 21 #[.val (.ref o0), .val (.int (0 : Int32)), .val (.ref x1), .unset] [(.ref x3), (.ref o1)]) := A13
  obtain ⟨vA15, hA15, ⟨rfl, rfl⟩, A15⟩ := A14.callV (b := o1) (own_c35 l Z a0 hw o1 x3 o3 x4 cs h11 n0 Z0 E_o1 F_o1_coder F_o1_value E_x3 F_x3_coder F_x3_value V_o3 V_x4 S_cs hcs) E_o1 hx hZ hown (hb hby dm11_21) (hw _ (List.mem_of_getElem? (i := 77) rfl)) (hw _ (List.mem_of_getElem? (i := 78) rfl)) (hw _ (List.mem_of_getElem? (i := 80) rfl)) (hw _ (List.mem_of_getElem? (i := 79) rfl)) (hw _ (List.mem_of_getElem? (i := 81) rfl)) (hw _ (List.mem_of_getElem? (i := 8) rfl)) (own_nf (y' := (⟨"java/lang/String", "contains", "(Ljava/lang/CharSequence;)Z"⟩ : MethodName)) (hw _ (List.mem_of_getElem? (i := 80) rfl)) rfl) ⟨by decide, by decide⟩ (lenOf pd__28Ljava_2flang_2fCharSequence_3b_29Z rfl) (argsL := [(.ref x3)]) (rest := []) rfl rfl (by rw [hml]; rfl) (W := 0) (Nat.le_of_eq rfl) (by decide) (by decide) (by decide) (by decide)
  have A16 : own_R p l e _ _ m _ below meth c S0 n0 h11 4 28 (mkF m 24 #[.val (.ref o0), .val (.int (0 : Int32)), .val (.ref x1), .unset] [(.int (0 : Int32))]) := A15
  have q17 : ((0 : Int32) = (0 : Int32)) := rfl
  have A18 := A16.go (f' := mkF m 57 #[.val (.ref o0), .val (.int (0 : Int32)), .val (.ref x1), .unset] []) fun _ _ X _ k => XS.ifYes X.here hx rfl (pc0 := 24) (pc' := 57) rfl (hb hby dm11_24) rfl ((if0 _ _).trans (teq q17).1) (by decide) (by decide) k
  have A19 := A18.go (f' := mkF m 58 #[.val (.ref o0), .val (.int (0 : Int32)), .val (.ref x1), .unset] [(.ref o0)]) fun _ _ X _ k => XS.aloadN X.here hx rfl (hb hby dm11_57) rfl rfl k
  have A20 : own_R p l e _ _ m _ below meth c S0 n0 h11 4 28 (mkF m 61 #[.val (.ref o0), .val (.int (0 : Int32)), .val (.ref x1), .unset] [(.ref o1)]) := A19.getF hx hZ hown (hb hby dm11_58) (hw _ (List.mem_of_getElem? (i := 40) rfl)) Via.refl F_o0_host
  have A21 := A20.go (f' := mkF m 62 #[.val (.ref o0), .val (.int (0 : Int32)), .val (.ref x1), .val (.ref o1)] []) fun _ _ X _ k => XS.astoreN X.here hx rfl (hb hby dm11_61) rfl rfl (l' := #[.val (.ref o0), .val (.int (0 : Int32)), .val (.ref x1), .val (.ref o1)]) rfl k
  obtain ⟨h22, E23, E_x5, D_x5, A24⟩ := A21.newO hx hZ hown (hb hby dm11_62) (hw _ (List.mem_of_getElem? (i := 116) rfl)) (hw _ (List.mem_of_getElem? (i := 117) rfl)) (hw _ (List.mem_of_getElem? (i := 118) rfl)) (by decide) (by decide)
  obtain ⟨x5, gx5⟩ : ∃ z, z = h11.size := ⟨_, rfl⟩
  rw [← gx5] at E_x5 D_x5 A24
  have ne_o0_x5 : o0 ≠ x5 := by rw [gx5]; exact Nat.ne_of_lt F_o0_host.lt
  have ne_x5_o0 := Ne.symm ne_o0_x5
  have ne_dig_x5 : dig ≠ x5 := by rw [gx5]; exact Nat.ne_of_lt V_dig.lt
  have ne_x5_dig := Ne.symm ne_dig_x5
  have ne_o1_x5 : o1 ≠ x5 := by rw [gx5]; exact Nat.ne_of_lt E_o1.lt
  have ne_x5_o1 := Ne.symm ne_o1_x5
  have ne_o3_x5 : o3 ≠ x5 := by rw [gx5]; exact Nat.ne_of_lt V_o3.lt
  have ne_x5_o3 := Ne.symm ne_o3_x5
  have ne_x1_x5 : x1 ≠ x5 := by rw [gx5]; exact Nat.ne_of_lt E_x1.lt
  have ne_x5_x1 := Ne.symm ne_x1_x5
  have ne_x2_x5 : x2 ≠ x5 := by rw [gx5]; exact Nat.ne_of_lt V_x2.lt
  have ne_x5_x2 := Ne.symm ne_x2_x5
  have ne_x3_x5 : x3 ≠ x5 := by rw [gx5]; exact Nat.ne_of_lt E_x3.lt
  have ne_x5_x3 := Ne.symm ne_x3_x5
  have ne_x4_x5 : x4 ≠ x5 := by rw [gx5]; exact Nat.ne_of_lt V_x4.lt
  have ne_x5_x4 := Ne.symm ne_x4_x5
  have g_x5 : n0 ≤ x5 := by rw [gx5]; exact Z0
  have sz_x5 : h0.size ≤ x5 := by rw [gx5]; exact KK.1
  have F_o0_host : Fld Z h22 o0 "com/example/periwinkle/periwinkle/server/ServerSettings" "host" "Ljava/lang/String;" (.ref o1) := F_o0_host.ext E23
  have F_o0_tlsCertificate : Fld Z h22 o0 "com/example/periwinkle/periwinkle/server/ServerSettings" "tlsCertificate" "Ljava/nio/file/Path;" .null := F_o0_tlsCertificate.ext E23
  have V_dig : own_Ar Z h22 dig .byte ds := V_dig.ext E23
  have E_o1 : Exa Z h22 o1 "java/lang/String" := E_o1.ext E23
  have F_o1_coder : Fld Z h22 o1 "java/lang/String" "coder" "B" (.int (0 : Int32)) := F_o1_coder.ext E23
  have F_o1_value : Fld Z h22 o1 "java/lang/String" "value" "[B" (.ref o3) := F_o1_value.ext E23
  have V_o3 : own_Ar Z h22 o3 .byte [(.int (49 : Int32)), (.int (50 : Int32)), (.int (55 : Int32)), (.int (46 : Int32)), (.int (48 : Int32)), (.int (46 : Int32)), (.int (48 : Int32)), (.int (46 : Int32)), (.int (49 : Int32))] := V_o3.ext E23
  have S_cs : Sta Z h22 "java/lang/String" "COMPACT_STRINGS" "Z" (.int cs) := S_cs.ext E23
  have S_dig : Sta Z h22 "java/lang/Integer" "DigitOnes" "[B" (.ref dig) := S_dig.ext E23
  have E_x1 : Exa Z h22 x1 "java/lang/String" := E_x1.ext E23
  have F_x1_coder : Fld Z h22 x1 "java/lang/String" "coder" "B" (.int (0 : Int32)) := F_x1_coder.ext E23
  have F_x1_value : Fld Z h22 x1 "java/lang/String" "value" "[B" (.ref x2) := F_x1_value.ext E23
  have V_x2 : own_Ar Z h22 x2 .byte [(.int (104 : Int32)), (.int (116 : Int32)), (.int (116 : Int32)), (.int (112 : Int32))] := V_x2.ext E23
  have E_x3 : Exa Z h22 x3 "java/lang/String" := E_x3.ext E23
  have F_x3_coder : Fld Z h22 x3 "java/lang/String" "coder" "B" (.int (0 : Int32)) := F_x3_coder.ext E23
  have F_x3_value : Fld Z h22 x3 "java/lang/String" "value" "[B" (.ref x4) := F_x3_value.ext E23
  have V_x4 : own_Ar Z h22 x4 .byte [(.int (58 : Int32))] := V_x4.ext E23
  have Z0 : n0 ≤ h22.size := Nat.le_trans Z0 E23.1
  have KK : Keep h0 h22 [] := KK.ext E23
  have HC := HC.trans (CHr.ext E23 HC.1)
  have hk := Nat.le_trans hk E23.1
  have F_x5_value : Fld Z h22 x5 "java/lang/AbstractStringBuilder" "value" "[B" .null := D_x5 (Or.inl (hw _ (List.mem_of_getElem? (i := 131) rfl))) (ty := (.array .byte)) (by decide)
  have F_x5_coder : Fld Z h22 x5 "java/lang/AbstractStringBuilder" "coder" "B" (.int (0 : Int32)) := D_x5 (Or.inl (hw _ (List.mem_of_getElem? (i := 133) rfl))) (ty := .byte) (by decide)
  have F_x5_count : Fld Z h22 x5 "java/lang/AbstractStringBuilder" "count" "I" (.int (0 : Int32)) := D_x5 (Or.inl (hw _ (List.mem_of_getElem? (i := 150) rfl))) (ty := .int) (by decide)
  have A25 : own_R p l e _ _ m _ below meth c S0 n0 h22 5 32 (mkF m 65 #[.val (.ref o0), .val (.int (0 : Int32)), .val (.ref x1), .val (.ref o1)] [(.ref x5)]) := A24
  have A26 := A25.go (f' := mkF m 66 #[.val (.ref o0), .val (.int (0 : Int32)), .val (.ref x1), .val (.ref o1)] [(.ref x5), (.ref x5)]) fun _ _ X _ k => XS.dup X.here hx rfl (hb hby dm11_65) rfl rfl k
  obtain ⟨vA27, hA27, ⟨x6, rfl, KA27, zz_x6, P_F_x5_value, P_F_x5_coder, P_F_x5_count, P_V_x6⟩, A27⟩ := A26.callI (b := x5) (own_c39 l Z a0 hw x5 cs h22 n0 Z0 E_x5 F_x5_value F_x5_coder F_x5_count S_cs hcs g_x5) hx hZ hown (hb hby dm11_66) rfl (hw _ (List.mem_of_getElem? (i := 119) rfl)) (hw _ (List.mem_of_getElem? (i := 120) rfl)) (hw _ (List.mem_of_getElem? (i := 121) rfl)) (hw _ (List.mem_of_getElem? (i := 118) rfl)) ⟨by decide, by decide⟩ (lenOf pd__28_29V rfl) (argsL := []) (rest := [(.ref x5)]) rfl rfl (by rw [hml]; rfl) (W := 1) (Nat.le_of_eq rfl) (by decide) (by decide) (by decide) (by decide)
  have ne_o0_x6 : o0 ≠ x6 := Nat.ne_of_lt (Nat.lt_of_lt_of_le F_o0_host.lt zz_x6)
  have ne_x6_o0 := Ne.symm ne_o0_x6
  have ne_dig_x6 : dig ≠ x6 := Nat.ne_of_lt (Nat.lt_of_lt_of_le V_dig.lt zz_x6)
  have ne_x6_dig := Ne.symm ne_dig_x6
  have ne_o1_x6 : o1 ≠ x6 := Nat.ne_of_lt (Nat.lt_of_lt_of_le E_o1.lt zz_x6)
  have ne_x6_o1 := Ne.symm ne_o1_x6
  have ne_o3_x6 : o3 ≠ x6 := Nat.ne_of_lt (Nat.lt_of_lt_of_le V_o3.lt zz_x6)
  have ne_x6_o3 := Ne.symm ne_o3_x6
  have ne_x1_x6 : x1 ≠ x6 := Nat.ne_of_lt (Nat.lt_of_lt_of_le E_x1.lt zz_x6)
  have ne_x6_x1 := Ne.symm ne_x1_x6
  have ne_x2_x6 : x2 ≠ x6 := Nat.ne_of_lt (Nat.lt_of_lt_of_le V_x2.lt zz_x6)
  have ne_x6_x2 := Ne.symm ne_x2_x6
  have ne_x3_x6 : x3 ≠ x6 := Nat.ne_of_lt (Nat.lt_of_lt_of_le E_x3.lt zz_x6)
  have ne_x6_x3 := Ne.symm ne_x3_x6
  have ne_x4_x6 : x4 ≠ x6 := Nat.ne_of_lt (Nat.lt_of_lt_of_le V_x4.lt zz_x6)
  have ne_x6_x4 := Ne.symm ne_x4_x6
  have ne_x5_x6 : x5 ≠ x6 := Nat.ne_of_lt (Nat.lt_of_lt_of_le E_x5.lt zz_x6)
  have ne_x6_x5 := Ne.symm ne_x5_x6
  have g_x6 : n0 ≤ x6 := Nat.le_trans Z0 zz_x6
  have sz_x6 : h0.size ≤ x6 := Nat.le_trans KK.1 zz_x6
  have SX_x5 : Safe Z own_EL _ h22 x5 := Safe.exa hZ.alike E_x5 (by decide) (by decide)
  have hsA : ∀ x ∈ ([x5] : List Addr), Safe Z own_EL vmA13 h22 x := (allS SX_x5 all0)
  have SX_x6 := Safe.keep KA27 hsA HC.1 (Safe.new zz_x6)
  have HC := HC.trans (CHr.keep KA27 hsA HC.1)
  have hk := Nat.le_trans hk KA27.1
  have S_cs : Sta Z hA27 "java/lang/String" "COMPACT_STRINGS" "Z" (.int cs) := own_staK S_cs KA27 (allS (P := fun x => ∀ cell : Cell, h22[x]? = some cell → cell.vm.isStatics = false) E_x5.nostat all0)
  have S_dig : Sta Z hA27 "java/lang/Integer" "DigitOnes" "[B" (.ref dig) := own_staK S_dig KA27 (allS (P := fun x => ∀ cell : Cell, h22[x]? = some cell → cell.vm.isStatics = false) E_x5.nostat all0)
  have F_o0_host : Fld Z hA27 o0 "com/example/periwinkle/periwinkle/server/ServerSettings" "host" "Ljava/lang/String;" (.ref o1) := F_o0_host.keep KA27 (ninS ne_o0_x5 nin0)
  have F_o0_tlsCertificate : Fld Z hA27 o0 "com/example/periwinkle/periwinkle/server/ServerSettings" "tlsCertificate" "Ljava/nio/file/Path;" .null := F_o0_tlsCertificate.keep KA27 (ninS ne_o0_x5 nin0)
  have V_dig : own_Ar Z hA27 dig .byte ds := V_dig.keep KA27 (ninS ne_dig_x5 nin0)
  have E_o1 : Exa Z hA27 o1 "java/lang/String" := E_o1.keep KA27
  have F_o1_coder : Fld Z hA27 o1 "java/lang/String" "coder" "B" (.int (0 : Int32)) := F_o1_coder.keep KA27 (ninS ne_o1_x5 nin0)
  have F_o1_value : Fld Z hA27 o1 "java/lang/String" "value" "[B" (.ref o3) := F_o1_value.keep KA27 (ninS ne_o1_x5 nin0)
  have V_o3 : own_Ar Z hA27 o3 .byte [(.int (49 : Int32)), (.int (50 : Int32)), (.int (55 : Int32)), (.int (46 : Int32)), (.int (48 : Int32)), (.int (46 : Int32)), (.int (48 : Int32)), (.int (46 : Int32)), (.int (49 : Int32))] := V_o3.keep KA27 (ninS ne_o3_x5 nin0)
  have E_x1 : Exa Z hA27 x1 "java/lang/String" := E_x1.keep KA27
  have F_x1_coder : Fld Z hA27 x1 "java/lang/String" "coder" "B" (.int (0 : Int32)) := F_x1_coder.keep KA27 (ninS ne_x1_x5 nin0)
  have F_x1_value : Fld Z hA27 x1 "java/lang/String" "value" "[B" (.ref x2) := F_x1_value.keep KA27 (ninS ne_x1_x5 nin0)
  have V_x2 : own_Ar Z hA27 x2 .byte [(.int (104 : Int32)), (.int (116 : Int32)), (.int (116 : Int32)), (.int (112 : Int32))] := V_x2.keep KA27 (ninS ne_x2_x5 nin0)
  have E_x3 : Exa Z hA27 x3 "java/lang/String" := E_x3.keep KA27
  have F_x3_coder : Fld Z hA27 x3 "java/lang/String" "coder" "B" (.int (0 : Int32)) := F_x3_coder.keep KA27 (ninS ne_x3_x5 nin0)
  have F_x3_value : Fld Z hA27 x3 "java/lang/String" "value" "[B" (.ref x4) := F_x3_value.keep KA27 (ninS ne_x3_x5 nin0)
  have V_x4 : own_Ar Z hA27 x4 .byte [(.int (58 : Int32))] := V_x4.keep KA27 (ninS ne_x4_x5 nin0)
  have E_x5 : Exa Z hA27 x5 "java/lang/StringBuilder" := E_x5.keep KA27
  have Z0 : n0 ≤ hA27.size := Nat.le_trans Z0 KA27.1
  have KK : Keep h0 hA27 [] := KK.trans KA27 (allS (P := fun x => x ∈ ([] : List Addr) ∨ h0.size ≤ x) (Or.inr sz_x5) all0)
  have F_x5_value : Fld Z hA27 x5 "java/lang/AbstractStringBuilder" "value" "[B" (.ref x6) := P_F_x5_value
  have F_x5_coder : Fld Z hA27 x5 "java/lang/AbstractStringBuilder" "coder" "B" (.int (0 : Int32)) := P_F_x5_coder
  have F_x5_count : Fld Z hA27 x5 "java/lang/AbstractStringBuilder" "count" "I" (.int (0 : Int32)) := P_F_x5_count
  have V_x6 : own_Ar Z hA27 x6 .byte [(.int (0 : Int32)), (.int (0 : Int32)), (.int (0 : Int32)), (.int (0 : Int32)), (.int (0 : Int32)), (.int (0 : Int32)), (.int (0 : Int32)), (.int (0 : Int32)), (.int (0 : Int32)), (.int (0 : Int32)), (.int (0 : Int32)), (.int (0 : Int32)), (.int (0 : Int32)), (.int (0 : Int32)), (.int (0 : Int32)), (.int (0 : Int32))] := P_V_x6
  have A28 : own_R p l e _ _ m _ below meth c S0 n0 hA27 6 48 (mkF m 69 #[.val (.ref o0), .val (.int (0 : Int32)), .val (.ref x1), .val (.ref o1)] [(.ref x5)]) := A27
  have A29 := A28.go (f' := mkF m 70 #[.val (.ref o0), .val (.int (0 : Int32)), .val (.ref x1), .val (.ref o1)] [(.ref x1), (.ref x5)]) fun _ _ X _ k => XS.aloadN X.here hx rfl (hb hby dm11_69) rfl rfl k
  obtain ⟨vA30, hA30, ⟨rfl, KA30, P_F_x5_value, P_F_x5_coder, P_F_x5_count, P_V_x6⟩, A30⟩ := A29.callV (b := x5) (own_c53 l Z a0 hw x5 x1 x6 x2 cs hA27 n0 Z0 E_x5 F_x5_value F_x5_coder F_x5_count E_x1 F_x1_coder F_x1_value V_x6 V_x2 S_cs hcs ne_x5_x6 ne_x1_x5 ne_x1_x6 ne_x6_x5 ne_x2_x5 ne_x2_x6 g_x5 g_x6) E_x5 hx hZ hown (hb hby dm11_70) (hw _ (List.mem_of_getElem? (i := 134) rfl)) (hw _ (List.mem_of_getElem? (i := 135) rfl)) (hw _ (List.mem_of_getElem? (i := 137) rfl)) (hw _ (List.mem_of_getElem? (i := 136) rfl)) (hw _ (List.mem_of_getElem? (i := 138) rfl)) (hw _ (List.mem_of_getElem? (i := 118) rfl)) (own_nf (y' := (⟨"java/lang/StringBuilder", "append", "(Ljava/lang/String;)Ljava/lang/StringBuilder;"⟩ : MethodName)) (hw _ (List.mem_of_getElem? (i := 137) rfl)) rfl) ⟨by decide, by decide⟩ (lenOf pd__28Ljava_2flang_2fString_3b_29Ljava_2flang_2fStringBuilder_3b rfl) (argsL := [(.ref x1)]) (rest := []) rfl rfl (by rw [hml]; rfl) (W := 0) (Nat.le_of_eq rfl) (by decide) (by decide) (by decide) (by decide)
  have SX_x5 : Safe Z own_EL _ hA27 x5 := Safe.exa hZ.alike E_x5 (by decide) (by decide)
  have hsA : ∀ x ∈ ([x5, x6] : List Addr), Safe Z own_EL vmA13 hA27 x := (allS SX_x5 (allS SX_x6 all0))
  have SX_x6 := Safe.keep KA30 hsA HC.1 SX_x6
  have HC := HC.trans (CHr.keep KA30 hsA HC.1)
  have hk := Nat.le_trans hk KA30.1
  have S_cs : Sta Z hA30 "java/lang/String" "COMPACT_STRINGS" "Z" (.int cs) := own_staK S_cs KA30 (allS (P := fun x => ∀ cell : Cell, hA27[x]? = some cell → cell.vm.isStatics = false) E_x5.nostat (allS (P := fun x => ∀ cell : Cell, hA27[x]? = some cell → cell.vm.isStatics = false) V_x6.nostat all0))
  have S_dig : Sta Z hA30 "java/lang/Integer" "DigitOnes" "[B" (.ref dig) := own_staK S_dig KA30 (allS (P := fun x => ∀ cell : Cell, hA27[x]? = some cell → cell.vm.isStatics = false) E_x5.nostat (allS (P := fun x => ∀ cell : Cell, hA27[x]? = some cell → cell.vm.isStatics = false) V_x6.nostat all0))
  have F_o0_host : Fld Z hA30 o0 "com/example/periwinkle/periwinkle/server/ServerSettings" "host" "Ljava/lang/String;" (.ref o1) := F_o0_host.keep KA30 (ninS ne_o0_x5 (ninS ne_o0_x6 nin0))
  have F_o0_tlsCertificate : Fld Z hA30 o0 "com/example/periwinkle/periwinkle/server/ServerSettings" "tlsCertificate" "Ljava/nio/file/Path;" .null := F_o0_tlsCertificate.keep KA30 (ninS ne_o0_x5 (ninS ne_o0_x6 nin0))
  have V_dig : own_Ar Z hA30 dig .byte ds := V_dig.keep KA30 (ninS ne_dig_x5 (ninS ne_dig_x6 nin0))
  have E_o1 : Exa Z hA30 o1 "java/lang/String" := E_o1.keep KA30
  have F_o1_coder : Fld Z hA30 o1 "java/lang/String" "coder" "B" (.int (0 : Int32)) := F_o1_coder.keep KA30 (ninS ne_o1_x5 (ninS ne_o1_x6 nin0))
  have F_o1_value : Fld Z hA30 o1 "java/lang/String" "value" "[B" (.ref o3) := F_o1_value.keep KA30 (ninS ne_o1_x5 (ninS ne_o1_x6 nin0))
  have V_o3 : own_Ar Z hA30 o3 .byte [(.int (49 : Int32)), (.int (50 : Int32)), (.int (55 : Int32)), (.int (46 : Int32)), (.int (48 : Int32)), (.int (46 : Int32)), (.int (48 : Int32)), (.int (46 : Int32)), (.int (49 : Int32))] := V_o3.keep KA30 (ninS ne_o3_x5 (ninS ne_o3_x6 nin0))
  have E_x1 : Exa Z hA30 x1 "java/lang/String" := E_x1.keep KA30
  have F_x1_coder : Fld Z hA30 x1 "java/lang/String" "coder" "B" (.int (0 : Int32)) := F_x1_coder.keep KA30 (ninS ne_x1_x5 (ninS ne_x1_x6 nin0))
  have F_x1_value : Fld Z hA30 x1 "java/lang/String" "value" "[B" (.ref x2) := F_x1_value.keep KA30 (ninS ne_x1_x5 (ninS ne_x1_x6 nin0))
  have V_x2 : own_Ar Z hA30 x2 .byte [(.int (104 : Int32)), (.int (116 : Int32)), (.int (116 : Int32)), (.int (112 : Int32))] := V_x2.keep KA30 (ninS ne_x2_x5 (ninS ne_x2_x6 nin0))
  have E_x3 : Exa Z hA30 x3 "java/lang/String" := E_x3.keep KA30
  have F_x3_coder : Fld Z hA30 x3 "java/lang/String" "coder" "B" (.int (0 : Int32)) := F_x3_coder.keep KA30 (ninS ne_x3_x5 (ninS ne_x3_x6 nin0))
  have F_x3_value : Fld Z hA30 x3 "java/lang/String" "value" "[B" (.ref x4) := F_x3_value.keep KA30 (ninS ne_x3_x5 (ninS ne_x3_x6 nin0))
  have V_x4 : own_Ar Z hA30 x4 .byte [(.int (58 : Int32))] := V_x4.keep KA30 (ninS ne_x4_x5 (ninS ne_x4_x6 nin0))
  have E_x5 : Exa Z hA30 x5 "java/lang/StringBuilder" := E_x5.keep KA30
  have Z0 : n0 ≤ hA30.size := Nat.le_trans Z0 KA30.1
  have KK : Keep h0 hA30 [] := KK.trans KA30 (allS (P := fun x => x ∈ ([] : List Addr) ∨ h0.size ≤ x) (Or.inr sz_x5) (allS (P := fun x => x ∈ ([] : List Addr) ∨ h0.size ≤ x) (Or.inr sz_x6) all0))
  have F_x5_value : Fld Z hA30 x5 "java/lang/AbstractStringBuilder" "value" "[B" (.ref x6) := P_F_x5_value
  have F_x5_coder : Fld Z hA30 x5 "java/lang/AbstractStringBuilder" "coder" "B" (.int (0 : Int32)) := P_F_x5_coder
  have F_x5_count : Fld Z hA30 x5 "java/lang/AbstractStringBuilder" "count" "I" (.int (4 : Int32)) := P_F_x5_count
  have V_x6 : own_Ar Z hA30 x6 .byte [(.int (104 : Int32)), (.int (116 : Int32)), (.int (116 : Int32)), (.int (112 : Int32)), (.int (0 : Int32)), (.int (0 : Int32)), (.int (0 : Int32)), (.int (0 : Int32)), (.int (0 : Int32)), (.int (0 : Int32)), (.int (0 : Int32)), (.int (0 : Int32)), (.int (0 : Int32)), (.int (0 : Int32)), (.int (0 : Int32)), (.int (0 : Int32))] := P_V_x6
  have A31 : own_R p l e _ _ m _ below meth c S0 n0 hA30 6 48 (mkF m 73 #[.val (.ref o0), .val (.int (0 : Int32)), .val (.ref x1), .val (.ref o1)] [(.ref x5)]) := A30
  obtain ⟨x7, x8, vmA34, kA34, h32, E33, E_x7, F_x7_coder, F_x7_value, V_x8, ns_x7, hS, hk, hZ, hown, HCs, hLA34, A34⟩ := A31.ldcS hx hZ hown (hb hby dm11_73) (hw _ (List.mem_of_getElem? (i := 176) rfl)) own_wS hS hk hEL (by simp +decide [own_EL]) (CHr.refl HC.1) (vs := [(.int (58 : Int32)), (.int (47 : Int32)), (.int (47 : Int32))]) (z := (3 : Int32)) ⟨by decide, by decide⟩ (by decide) (by decide) (n := 12) (by decide) (by decide) (by decide) (by decide)
  have SX_x6 := HCs.safe V_x6.lt SX_x6
  have HC := HC.trans HCs
  have F_o0_host : Fld Z h32 o0 "com/example/periwinkle/periwinkle/server/ServerSettings" "host" "Ljava/lang/String;" (.ref o1) := F_o0_host.ext E33
  have F_o0_tlsCertificate : Fld Z h32 o0 "com/example/periwinkle/periwinkle/server/ServerSettings" "tlsCertificate" "Ljava/nio/file/Path;" .null := F_o0_tlsCertificate.ext E33
  have V_dig : own_Ar Z h32 dig .byte ds := V_dig.ext E33
  have E_o1 : Exa Z h32 o1 "java/lang/String" := E_o1.ext E33
  have F_o1_coder : Fld Z h32 o1 "java/lang/String" "coder" "B" (.int (0 : Int32)) := F_o1_coder.ext E33
  have F_o1_value : Fld Z h32 o1 "java/lang/String" "value" "[B" (.ref o3) := F_o1_value.ext E33
  have V_o3 : own_Ar Z h32 o3 .byte [(.int (49 : Int32)), (.int (50 : Int32)), (.int (55 : Int32)), (.int (46 : Int32)), (.int (48 : Int32)), (.int (46 : Int32)), (.int (48 : Int32)), (.int (46 : Int32)), (.int (49 : Int32))] := V_o3.ext E33
  have S_cs : Sta Z h32 "java/lang/String" "COMPACT_STRINGS" "Z" (.int cs) := S_cs.ext E33
  have S_dig : Sta Z h32 "java/lang/Integer" "DigitOnes" "[B" (.ref dig) := S_dig.ext E33
  have E_x1 : Exa Z h32 x1 "java/lang/String" := E_x1.ext E33
  have F_x1_coder : Fld Z h32 x1 "java/lang/String" "coder" "B" (.int (0 : Int32)) := F_x1_coder.ext E33
  have F_x1_value : Fld Z h32 x1 "java/lang/String" "value" "[B" (.ref x2) := F_x1_value.ext E33
  have V_x2 : own_Ar Z h32 x2 .byte [(.int (104 : Int32)), (.int (116 : Int32)), (.int (116 : Int32)), (.int (112 : Int32))] := V_x2.ext E33
  have E_x3 : Exa Z h32 x3 "java/lang/String" := E_x3.ext E33
  have F_x3_coder : Fld Z h32 x3 "java/lang/String" "coder" "B" (.int (0 : Int32)) := F_x3_coder.ext E33
  have F_x3_value : Fld Z h32 x3 "java/lang/String" "value" "[B" (.ref x4) := F_x3_value.ext E33
  have V_x4 : own_Ar Z h32 x4 .byte [(.int (58 : Int32))] := V_x4.ext E33
  have E_x5 : Exa Z h32 x5 "java/lang/StringBuilder" := E_x5.ext E33
  have F_x5_value : Fld Z h32 x5 "java/lang/AbstractStringBuilder" "value" "[B" (.ref x6) := F_x5_value.ext E33
  have F_x5_coder : Fld Z h32 x5 "java/lang/AbstractStringBuilder" "coder" "B" (.int (0 : Int32)) := F_x5_coder.ext E33
  have F_x5_count : Fld Z h32 x5 "java/lang/AbstractStringBuilder" "count" "I" (.int (4 : Int32)) := F_x5_count.ext E33
  have V_x6 : own_Ar Z h32 x6 .byte [(.int (104 : Int32)), (.int (116 : Int32)), (.int (116 : Int32)), (.int (112 : Int32)), (.int (0 : Int32)), (.int (0 : Int32)), (.int (0 : Int32)), (.int (0 : Int32)), (.int (0 : Int32)), (.int (0 : Int32)), (.int (0 : Int32)), (.int (0 : Int32)), (.int (0 : Int32)), (.int (0 : Int32)), (.int (0 : Int32)), (.int (0 : Int32))] := V_x6.ext E33
  have Z0 : n0 ≤ h32.size := Nat.le_trans Z0 E33.1
  have KK : Keep h0 h32 [] := KK.ext E33
  have SX_x5 : Safe Z own_EL _ h32 x5 := Safe.exa hZ.alike E_x5 (by decide) (by decide)
  have ne_x5_x7 : x5 ≠ x7 := (ns_x7 _ SX_x5).1
  have ne_x7_x5 := Ne.symm ne_x5_x7
  have ne_x5_x8 : x5 ≠ x8 := (ns_x7 _ SX_x5).2
  have ne_x8_x5 := Ne.symm ne_x5_x8
  have ne_x6_x7 : x6 ≠ x7 := (ns_x7 _ SX_x6).1
  have ne_x7_x6 := Ne.symm ne_x6_x7
  have ne_x6_x8 : x6 ≠ x8 := (ns_x7 _ SX_x6).2
  have ne_x8_x6 := Ne.symm ne_x6_x8
  have A35 : own_R p l e _ _ m _ below meth c S0 n0 h32 8 64 (mkF m 75 #[.val (.ref o0), .val (.int (0 : Int32)), .val (.ref x1), .val (.ref o1)] [(.ref x7), (.ref x5)]) := A34
  obtain ⟨vA36, hA36, ⟨rfl, KA36, P_F_x5_value, P_F_x5_coder, P_F_x5_count, P_V_x6⟩, A36⟩ := A35.callV (b := x5) (own_c65 l Z a0 hw x5 x7 x6 x8 cs h32 n0 Z0 E_x5 F_x5_value F_x5_coder F_x5_count E_x7 F_x7_coder F_x7_value V_x6 V_x8 S_cs hcs ne_x5_x6 ne_x7_x5 ne_x7_x6 ne_x6_x5 ne_x8_x5 ne_x8_x6 g_x5 g_x6) E_x5 hx hZ hown (hb hby dm11_75) (hw _ (List.mem_of_getElem? (i := 134) rfl)) (hw _ (List.mem_of_getElem? (i := 135) rfl)) (hw _ (List.mem_of_getElem? (i := 137) rfl)) (hw _ (List.mem_of_getElem? (i := 136) rfl)) (hw _ (List.mem_of_getElem? (i := 138) rfl)) (hw _ (List.mem_of_getElem? (i := 118) rfl)) (own_nf (y' := (⟨"java/lang/StringBuilder", "append", "(Ljava/lang/String;)Ljava/lang/StringBuilder;"⟩ : MethodName)) (hw _ (List.mem_of_getElem? (i := 137) rfl)) rfl) ⟨by decide, by decide⟩ (lenOf pd__28Ljava_2flang_2fString_3b_29Ljava_2flang_2fStringBuilder_3b rfl) (argsL := [(.ref x7)]) (rest := []) rfl rfl (by rw [hml]; rfl) (W := 0) (Nat.le_of_eq rfl) (by decide) (by decide) (by decide) (by decide)
  have SX_x5 : Safe Z own_EL _ h32 x5 := Safe.exa hZ.alike E_x5 (by decide) (by decide)
  have hsA : ∀ x ∈ ([x5, x6] : List Addr), Safe Z own_EL vmA34 h32 x := (allS SX_x5 (allS SX_x6 all0))
  have SX_x6 := Safe.keep KA36 hsA HC.1 SX_x6
  have HC := HC.trans (CHr.keep KA36 hsA HC.1)
  have hk := Nat.le_trans hk KA36.1
  have S_cs : Sta Z hA36 "java/lang/String" "COMPACT_STRINGS" "Z" (.int cs) := own_staK S_cs KA36 (allS (P := fun x => ∀ cell : Cell, h32[x]? = some cell → cell.vm.isStatics = false) E_x5.nostat (allS (P := fun x => ∀ cell : Cell, h32[x]? = some cell → cell.vm.isStatics = false) V_x6.nostat all0))
  have S_dig : Sta Z hA36 "java/lang/Integer" "DigitOnes" "[B" (.ref dig) := own_staK S_dig KA36 (allS (P := fun x => ∀ cell : Cell, h32[x]? = some cell → cell.vm.isStatics = false) E_x5.nostat (allS (P := fun x => ∀ cell : Cell, h32[x]? = some cell → cell.vm.isStatics = false) V_x6.nostat all0))
  have F_o0_host : Fld Z hA36 o0 "com/example/periwinkle/periwinkle/server/ServerSettings" "host" "Ljava/lang/String;" (.ref o1) := F_o0_host.keep KA36 (ninS ne_o0_x5 (ninS ne_o0_x6 nin0))
  have F_o0_tlsCertificate : Fld Z hA36 o0 "com/example/periwinkle/periwinkle/server/ServerSettings" "tlsCertificate" "Ljava/nio/file/Path;" .null := F_o0_tlsCertificate.keep KA36 (ninS ne_o0_x5 (ninS ne_o0_x6 nin0))
  have V_dig : own_Ar Z hA36 dig .byte ds := V_dig.keep KA36 (ninS ne_dig_x5 (ninS ne_dig_x6 nin0))
  have E_o1 : Exa Z hA36 o1 "java/lang/String" := E_o1.keep KA36
  have F_o1_coder : Fld Z hA36 o1 "java/lang/String" "coder" "B" (.int (0 : Int32)) := F_o1_coder.keep KA36 (ninS ne_o1_x5 (ninS ne_o1_x6 nin0))
  have F_o1_value : Fld Z hA36 o1 "java/lang/String" "value" "[B" (.ref o3) := F_o1_value.keep KA36 (ninS ne_o1_x5 (ninS ne_o1_x6 nin0))
  have V_o3 : own_Ar Z hA36 o3 .byte [(.int (49 : Int32)), (.int (50 : Int32)), (.int (55 : Int32)), (.int (46 : Int32)), (.int (48 : Int32)), (.int (46 : Int32)), (.int (48 : Int32)), (.int (46 : Int32)), (.int (49 : Int32))] := V_o3.keep KA36 (ninS ne_o3_x5 (ninS ne_o3_x6 nin0))
  have E_x1 : Exa Z hA36 x1 "java/lang/String" := E_x1.keep KA36
  have F_x1_coder : Fld Z hA36 x1 "java/lang/String" "coder" "B" (.int (0 : Int32)) := F_x1_coder.keep KA36 (ninS ne_x1_x5 (ninS ne_x1_x6 nin0))
  have F_x1_value : Fld Z hA36 x1 "java/lang/String" "value" "[B" (.ref x2) := F_x1_value.keep KA36 (ninS ne_x1_x5 (ninS ne_x1_x6 nin0))
  have V_x2 : own_Ar Z hA36 x2 .byte [(.int (104 : Int32)), (.int (116 : Int32)), (.int (116 : Int32)), (.int (112 : Int32))] := V_x2.keep KA36 (ninS ne_x2_x5 (ninS ne_x2_x6 nin0))
  have E_x3 : Exa Z hA36 x3 "java/lang/String" := E_x3.keep KA36
  have F_x3_coder : Fld Z hA36 x3 "java/lang/String" "coder" "B" (.int (0 : Int32)) := F_x3_coder.keep KA36 (ninS ne_x3_x5 (ninS ne_x3_x6 nin0))
  have F_x3_value : Fld Z hA36 x3 "java/lang/String" "value" "[B" (.ref x4) := F_x3_value.keep KA36 (ninS ne_x3_x5 (ninS ne_x3_x6 nin0))
  have V_x4 : own_Ar Z hA36 x4 .byte [(.int (58 : Int32))] := V_x4.keep KA36 (ninS ne_x4_x5 (ninS ne_x4_x6 nin0))
  have E_x5 : Exa Z hA36 x5 "java/lang/StringBuilder" := E_x5.keep KA36
  have E_x7 : Exa Z hA36 x7 "java/lang/String" := E_x7.keep KA36
  have F_x7_coder : Fld Z hA36 x7 "java/lang/String" "coder" "B" (.int (0 : Int32)) := F_x7_coder.keep KA36 (ninS ne_x7_x5 (ninS ne_x7_x6 nin0))
  have F_x7_value : Fld Z hA36 x7 "java/lang/String" "value" "[B" (.ref x8) := F_x7_value.keep KA36 (ninS ne_x7_x5 (ninS ne_x7_x6 nin0))
  have V_x8 : own_Ar Z hA36 x8 .byte [(.int (58 : Int32)), (.int (47 : Int32)), (.int (47 : Int32))] := V_x8.keep KA36 (ninS ne_x8_x5 (ninS ne_x8_x6 nin0))
  have Z0 : n0 ≤ hA36.size := Nat.le_trans Z0 KA36.1
  have KK : Keep h0 hA36 [] := KK.trans KA36 (allS (P := fun x => x ∈ ([] : List Addr) ∨ h0.size ≤ x) (Or.inr sz_x5) (allS (P := fun x => x ∈ ([] : List Addr) ∨ h0.size ≤ x) (Or.inr sz_x6) all0))
  have F_x5_value : Fld Z hA36 x5 "java/lang/AbstractStringBuilder" "value" "[B" (.ref x6) := P_F_x5_value
  have F_x5_coder : Fld Z hA36 x5 "java/lang/AbstractStringBuilder" "coder" "B" (.int (0 : Int32)) := P_F_x5_coder
  have F_x5_count : Fld Z hA36 x5 "java/lang/AbstractStringBuilder" "count" "I" (.int (7 : Int32)) := P_F_x5_count
  have V_x6 : own_Ar Z hA36 x6 .byte [(.int (104 : Int32)), (.int (116 : Int32)), (.int (116 : Int32)), (.int (112 : Int32)), (.int (58 : Int32)), (.int (47 : Int32)), (.int (47 : Int32)), (.int (0 : Int32)), (.int (0 : Int32)), (.int (0 : Int32)), (.int (0 : Int32)), (.int (0 : Int32)), (.int (0 : Int32)), (.int (0 : Int32)), (.int (0 : Int32)), (.int (0 : Int32))] := P_V_x6
  have A37 : own_R p l e _ _ m _ below meth c S0 n0 hA36 8 64 (mkF m 78 #[.val (.ref o0), .val (.int (0 : Int32)), .val (.ref x1), .val (.ref o1)] [(.ref x5)]) := A36
  have A38 := A37.go (f' := mkF m 79 #[.val (.ref o0), .val (.int (0 : Int32)), .val (.ref x1), .val (.ref o1)] [(.ref o1), (.ref x5)]) fun _ _ X _ k => XS.aloadN X.here hx rfl (hb hby dm11_78) rfl rfl k
  obtain ⟨vA39, hA39, ⟨rfl, KA39, P_F_x5_value, P_F_x5_coder, P_F_x5_count, P_V_x6⟩, A39⟩ := A38.callV (b := x5) (own_c77 l Z a0 hw x5 o1 x6 o3 cs hA36 n0 Z0 E_x5 F_x5_value F_x5_coder F_x5_count E_o1 F_o1_coder F_o1_value V_x6 V_o3 S_cs hcs ne_x5_x6 ne_o1_x5 ne_o1_x6 ne_x6_x5 ne_o3_x5 ne_o3_x6 g_x5 g_x6) E_x5 hx hZ hown (hb hby dm11_79) (hw _ (List.mem_of_getElem? (i := 134) rfl)) (hw _ (List.mem_of_getElem? (i := 135) rfl)) (hw _ (List.mem_of_getElem? (i := 137) rfl)) (hw _ (List.mem_of_getElem? (i := 136) rfl)) (hw _ (List.mem_of_getElem? (i := 138) rfl)) (hw _ (List.mem_of_getElem? (i := 118) rfl)) (own_nf (y' := (⟨"java/lang/StringBuilder", "append", "(Ljava/lang/String;)Ljava/lang/StringBuilder;"⟩ : MethodName)) (hw _ (List.mem_of_getElem? (i := 137) rfl)) rfl) ⟨by decide, by decide⟩ (lenOf pd__28Ljava_2flang_2fString_3b_29Ljava_2flang_2fStringBuilder_3b rfl) (argsL := [(.ref o1)]) (rest := []) rfl rfl (by rw [hml]; rfl) (W := 0) (Nat.le_of_eq rfl) (by decide) (by decide) (by decide) (by decide)
  have SX_x5 : Safe Z own_EL _ hA36 x5 := Safe.exa hZ.alike E_x5 (by decide) (by decide)
  have hsA : ∀ x ∈ ([x5, x6] : List Addr), Safe Z own_EL vmA34 hA36 x := (allS SX_x5 (allS SX_x6 all0))
  have SX_x6 := Safe.keep KA39 hsA HC.1 SX_x6
  have HC := HC.trans (CHr.keep KA39 hsA HC.1)
  have hk := Nat.le_trans hk KA39.1
  have S_cs : Sta Z hA39 "java/lang/String" "COMPACT_STRINGS" "Z" (.int cs) := own_staK S_cs KA39 (allS (P := fun x => ∀ cell : Cell, hA36[x]? = some cell → cell.vm.isStatics = false) E_x5.nostat (allS (P := fun x => ∀ cell : Cell, hA36[x]? = some cell → cell.vm.isStatics = false) V_x6.nostat all0))
  have S_dig : Sta Z hA39 "java/lang/Integer" "DigitOnes" "[B" (.ref dig) := own_staK S_dig KA39 (allS (P := fun x => ∀ cell : Cell, hA36[x]? = some cell → cell.vm.isStatics = false) E_x5.nostat (allS (P := fun x => ∀ cell : Cell, hA36[x]? = some cell → cell.vm.isStatics = false) V_x6.nostat all0))
  have F_o0_host : Fld Z hA39 o0 "com/example/periwinkle/periwinkle/server/ServerSettings" "host" "Ljava/lang/String;" (.ref o1) := F_o0_host.keep KA39 (ninS ne_o0_x5 (ninS ne_o0_x6 nin0))
  have F_o0_tlsCertificate : Fld Z hA39 o0 "com/example/periwinkle/periwinkle/server/ServerSettings" "tlsCertificate" "Ljava/nio/file/Path;" .null := F_o0_tlsCertificate.keep KA39 (ninS ne_o0_x5 (ninS ne_o0_x6 nin0))
  have V_dig : own_Ar Z hA39 dig .byte ds := V_dig.keep KA39 (ninS ne_dig_x5 (ninS ne_dig_x6 nin0))
  have E_o1 : Exa Z hA39 o1 "java/lang/String" := E_o1.keep KA39
  have F_o1_coder : Fld Z hA39 o1 "java/lang/String" "coder" "B" (.int (0 : Int32)) := F_o1_coder.keep KA39 (ninS ne_o1_x5 (ninS ne_o1_x6 nin0))
  have F_o1_value : Fld Z hA39 o1 "java/lang/String" "value" "[B" (.ref o3) := F_o1_value.keep KA39 (ninS ne_o1_x5 (ninS ne_o1_x6 nin0))
  have V_o3 : own_Ar Z hA39 o3 .byte [(.int (49 : Int32)), (.int (50 : Int32)), (.int (55 : Int32)), (.int (46 : Int32)), (.int (48 : Int32)), (.int (46 : Int32)), (.int (48 : Int32)), (.int (46 : Int32)), (.int (49 : Int32))] := V_o3.keep KA39 (ninS ne_o3_x5 (ninS ne_o3_x6 nin0))
  have E_x1 : Exa Z hA39 x1 "java/lang/String" := E_x1.keep KA39
  have F_x1_coder : Fld Z hA39 x1 "java/lang/String" "coder" "B" (.int (0 : Int32)) := F_x1_coder.keep KA39 (ninS ne_x1_x5 (ninS ne_x1_x6 nin0))
  have F_x1_value : Fld Z hA39 x1 "java/lang/String" "value" "[B" (.ref x2) := F_x1_value.keep KA39 (ninS ne_x1_x5 (ninS ne_x1_x6 nin0))
  have V_x2 : own_Ar Z hA39 x2 .byte [(.int (104 : Int32)), (.int (116 : Int32)), (.int (116 : Int32)), (.int (112 : Int32))] := V_x2.keep KA39 (ninS ne_x2_x5 (ninS ne_x2_x6 nin0))
  have E_x3 : Exa Z hA39 x3 "java/lang/String" := E_x3.keep KA39
  have F_x3_coder : Fld Z hA39 x3 "java/lang/String" "coder" "B" (.int (0 : Int32)) := F_x3_coder.keep KA39 (ninS ne_x3_x5 (ninS ne_x3_x6 nin0))
  have F_x3_value : Fld Z hA39 x3 "java/lang/String" "value" "[B" (.ref x4) := F_x3_value.keep KA39 (ninS ne_x3_x5 (ninS ne_x3_x6 nin0))
  have V_x4 : own_Ar Z hA39 x4 .byte [(.int (58 : Int32))] := V_x4.keep KA39 (ninS ne_x4_x5 (ninS ne_x4_x6 nin0))
  have E_x5 : Exa Z hA39 x5 "java/lang/StringBuilder" := E_x5.keep KA39
  have E_x7 : Exa Z hA39 x7 "java/lang/String" := E_x7.keep KA39
  have F_x7_coder : Fld Z hA39 x7 "java/lang/String" "coder" "B" (.int (0 : Int32)) := F_x7_coder.keep KA39 (ninS ne_x7_x5 (ninS ne_x7_x6 nin0))
  have F_x7_value : Fld Z hA39 x7 "java/lang/String" "value" "[B" (.ref x8) := F_x7_value.keep KA39 (ninS ne_x7_x5 (ninS ne_x7_x6 nin0))
  have V_x8 : own_Ar Z hA39 x8 .byte [(.int (58 : Int32)), (.int (47 : Int32)), (.int (47 : Int32))] := V_x8.keep KA39 (ninS ne_x8_x5 (ninS ne_x8_x6 nin0))
  have Z0 : n0 ≤ hA39.size := Nat.le_trans Z0 KA39.1
  have KK : Keep h0 hA39 [] := KK.trans KA39 (allS (P := fun x => x ∈ ([] : List Addr) ∨ h0.size ≤ x) (Or.inr sz_x5) (allS (P := fun x => x ∈ ([] : List Addr) ∨ h0.size ≤ x) (Or.inr sz_x6) all0))
  have F_x5_value : Fld Z hA39 x5 "java/lang/AbstractStringBuilder" "value" "[B" (.ref x6) := P_F_x5_value
  have F_x5_coder : Fld Z hA39 x5 "java/lang/AbstractStringBuilder" "coder" "B" (.int (0 : Int32)) := P_F_x5_coder
  have F_x5_count : Fld Z hA39 x5 "java/lang/AbstractStringBuilder" "count" "I" (.int (16 : Int32)) := P_F_x5_count
  have V_x6 : own_Ar Z hA39 x6 .byte [(.int (104 : Int32)), (.int (116 : Int32)), (.int (116 : Int32)), (.int (112 : Int32)), (.int (58 : Int32)), (.int (47 : Int32)), (.int (47 : Int32)), (.int (49 : Int32)), (.int (50 : Int32)), (.int (55 : Int32)), (.int (46 : Int32)), (.int (48 : Int32)), (.int (46 : Int32)), (.int (48 : Int32)), (.int (46 : Int32)), (.int (49 : Int32))] := P_V_x6
  have A40 : own_R p l e _ _ m _ below meth c S0 n0 hA39 8 64 (mkF m 82 #[.val (.ref o0), .val (.int (0 : Int32)), .val (.ref x1), .val (.ref o1)] [(.ref x5)]) := A39
  obtain ⟨x9, x10, vmA43, kA43, h41, E42, E_x9, F_x9_coder, F_x9_value, V_x10, ns_x9, hS, hk, hZ, hown, HCs, hLA43, A43⟩ := A40.ldcS hx hZ hown (hb hby dm11_82) (hw _ (List.mem_of_getElem? (i := 76) rfl)) own_wS hS hk hEL (by simp +decide [own_EL]) (CHr.refl HC.1) (vs := [(.int (58 : Int32))]) (z := (1 : Int32)) ⟨by decide, by decide⟩ (by decide) (by decide) (n := 4) (by decide) (by decide) (by decide) (by decide)
  have SX_x6 := HCs.safe V_x6.lt SX_x6
  have HC := HC.trans HCs
  have F_o0_host : Fld Z h41 o0 "com/example/periwinkle/periwinkle/server/ServerSettings" "host" "Ljava/lang/String;" (.ref o1) := F_o0_host.ext E42
  have F_o0_tlsCertificate : Fld Z h41 o0 "com/example/periwinkle/periwinkle/server/ServerSettings" "tlsCertificate" "Ljava/nio/file/Path;" .null := F_o0_tlsCertificate.ext E42
  have V_dig : own_Ar Z h41 dig .byte ds := V_dig.ext E42
  have E_o1 : Exa Z h41 o1 "java/lang/String" := E_o1.ext E42
  have F_o1_coder : Fld Z h41 o1 "java/lang/String" "coder" "B" (.int (0 : Int32)) := F_o1_coder.ext E42
  have F_o1_value : Fld Z h41 o1 "java/lang/String" "value" "[B" (.ref o3) := F_o1_value.ext E42
  have V_o3 : own_Ar Z h41 o3 .byte [(.int (49 : Int32)), (.int (50 : Int32)), (.int (55 : Int32)), (.int (46 : Int32)), (.int (48 : Int32)), (.int (46 : Int32)), (.int (48 : Int32)), (.int (46 : Int32)), (.int (49 : Int32))] := V_o3.ext E42
  have S_cs : Sta Z h41 "java/lang/String" "COMPACT_STRINGS" "Z" (.int cs) := S_cs.ext E42
  have S_dig : Sta Z h41 "java/lang/Integer" "DigitOnes" "[B" (.ref dig) := S_dig.ext E42
  have E_x1 : Exa Z h41 x1 "java/lang/String" := E_x1.ext E42
  have F_x1_coder : Fld Z h41 x1 "java/lang/String" "coder" "B" (.int (0 : Int32)) := F_x1_coder.ext E42
  have F_x1_value : Fld Z h41 x1 "java/lang/String" "value" "[B" (.ref x2) := F_x1_value.ext E42
  have V_x2 : own_Ar Z h41 x2 .byte [(.int (104 : Int32)), (.int (116 : Int32)), (.int (116 : Int32)), (.int (112 : Int32))] := V_x2.ext E42
  have E_x3 : Exa Z h41 x3 "java/lang/String" := E_x3.ext E42
  have F_x3_coder : Fld Z h41 x3 "java/lang/String" "coder" "B" (.int (0 : Int32)) := F_x3_coder.ext E42
  have F_x3_value : Fld Z h41 x3 "java/lang/String" "value" "[B" (.ref x4) := F_x3_value.ext E42
  have V_x4 : own_Ar Z h41 x4 .byte [(.int (58 : Int32))] := V_x4.ext E42
  have E_x5 : Exa Z h41 x5 "java/lang/StringBuilder" := E_x5.ext E42
  have E_x7 : Exa Z h41 x7 "java/lang/String" := E_x7.ext E42
  have F_x7_coder : Fld Z h41 x7 "java/lang/String" "coder" "B" (.int (0 : Int32)) := F_x7_coder.ext E42
  have F_x7_value : Fld Z h41 x7 "java/lang/String" "value" "[B" (.ref x8) := F_x7_value.ext E42
  have V_x8 : own_Ar Z h41 x8 .byte [(.int (58 : Int32)), (.int (47 : Int32)), (.int (47 : Int32))] := V_x8.ext E42
  have F_x5_value : Fld Z h41 x5 "java/lang/AbstractStringBuilder" "value" "[B" (.ref x6) := F_x5_value.ext E42
  have F_x5_coder : Fld Z h41 x5 "java/lang/AbstractStringBuilder" "coder" "B" (.int (0 : Int32)) := F_x5_coder.ext E42
  have F_x5_count : Fld Z h41 x5 "java/lang/AbstractStringBuilder" "count" "I" (.int (16 : Int32)) := F_x5_count.ext E42
  have V_x6 : own_Ar Z h41 x6 .byte [(.int (104 : Int32)), (.int (116 : Int32)), (.int (116 : Int32)), (.int (112 : Int32)), (.int (58 : Int32)), (.int (47 : Int32)), (.int (47 : Int32)), (.int (49 : Int32)), (.int (50 : Int32)), (.int (55 : Int32)), (.int (46 : Int32)), (.int (48 : Int32)), (.int (46 : Int32)), (.int (48 : Int32)), (.int (46 : Int32)), (.int (49 : Int32))] := V_x6.ext E42
  have Z0 : n0 ≤ h41.size := Nat.le_trans Z0 E42.1
  have KK : Keep h0 h41 [] := KK.ext E42
  have SX_x5 : Safe Z own_EL _ h41 x5 := Safe.exa hZ.alike E_x5 (by decide) (by decide)
  have ne_x5_x9 : x5 ≠ x9 := (ns_x9 _ SX_x5).1
  have ne_x9_x5 := Ne.symm ne_x5_x9
  have ne_x5_x10 : x5 ≠ x10 := (ns_x9 _ SX_x5).2
  have ne_x10_x5 := Ne.symm ne_x5_x10
  have ne_x6_x9 : x6 ≠ x9 := (ns_x9 _ SX_x6).1
  have ne_x9_x6 := Ne.symm ne_x6_x9
  have ne_x6_x10 : x6 ≠ x10 := (ns_x9 _ SX_x6).2
  have ne_x10_x6 := Ne.symm ne_x6_x10
  have A44 : own_R p l e _ _ m _ below meth c S0 n0 h41 10 72 (mkF m 84 #[.val (.ref o0), .val (.int (0 : Int32)), .val (.ref x1), .val (.ref o1)] [(.ref x9), (.ref x5)]) := A43
  obtain ⟨vA45, hA45, ⟨x11, rfl, KA45, zz_x11, P_F_x5_value, P_F_x5_coder, P_F_x5_count, P_V_x11⟩, A45⟩ := A44.callV (b := x5) (own_c99 l Z a0 hw x5 x9 x6 x10 cs h41 n0 Z0 E_x5 F_x5_value F_x5_coder F_x5_count E_x9 F_x9_coder F_x9_value V_x6 V_x10 S_cs hcs ne_x9_x5 ne_x6_x5 ne_x10_x5 g_x5) E_x5 hx hZ hown (hb hby dm11_84) (hw _ (List.mem_of_getElem? (i := 134) rfl)) (hw _ (List.mem_of_getElem? (i := 135) rfl)) (hw _ (List.mem_of_getElem? (i := 137) rfl)) (hw _ (List.mem_of_getElem? (i := 136) rfl)) (hw _ (List.mem_of_getElem? (i := 138) rfl)) (hw _ (List.mem_of_getElem? (i := 118) rfl)) (own_nf (y' := (⟨"java/lang/StringBuilder", "append", "(Ljava/lang/String;)Ljava/lang/StringBuilder;"⟩ : MethodName)) (hw _ (List.mem_of_getElem? (i := 137) rfl)) rfl) ⟨by decide, by decide⟩ (lenOf pd__28Ljava_2flang_2fString_3b_29Ljava_2flang_2fStringBuilder_3b rfl) (argsL := [(.ref x9)]) (rest := []) rfl rfl (by rw [hml]; rfl) (W := 0) (Nat.le_of_eq rfl) (by decide) (by decide) (by decide) (by decide)
  have ne_o0_x11 : o0 ≠ x11 := Nat.ne_of_lt (Nat.lt_of_lt_of_le F_o0_host.lt zz_x11)
  have ne_x11_o0 := Ne.symm ne_o0_x11
  have ne_dig_x11 : dig ≠ x11 := Nat.ne_of_lt (Nat.lt_of_lt_of_le V_dig.lt zz_x11)
  have ne_x11_dig := Ne.symm ne_dig_x11
  have ne_o1_x11 : o1 ≠ x11 := Nat.ne_of_lt (Nat.lt_of_lt_of_le E_o1.lt zz_x11)
  have ne_x11_o1 := Ne.symm ne_o1_x11
  have ne_o3_x11 : o3 ≠ x11 := Nat.ne_of_lt (Nat.lt_of_lt_of_le V_o3.lt zz_x11)
  have ne_x11_o3 := Ne.symm ne_o3_x11
  have ne_x1_x11 : x1 ≠ x11 := Nat.ne_of_lt (Nat.lt_of_lt_of_le E_x1.lt zz_x11)
  have ne_x11_x1 := Ne.symm ne_x1_x11
  have ne_x2_x11 : x2 ≠ x11 := Nat.ne_of_lt (Nat.lt_of_lt_of_le V_x2.lt zz_x11)
  have ne_x11_x2 := Ne.symm ne_x2_x11
  have ne_x3_x11 : x3 ≠ x11 := Nat.ne_of_lt (Nat.lt_of_lt_of_le E_x3.lt zz_x11)
  have ne_x11_x3 := Ne.symm ne_x3_x11
  have ne_x4_x11 : x4 ≠ x11 := Nat.ne_of_lt (Nat.lt_of_lt_of_le V_x4.lt zz_x11)
  have ne_x11_x4 := Ne.symm ne_x4_x11
  have ne_x5_x11 : x5 ≠ x11 := Nat.ne_of_lt (Nat.lt_of_lt_of_le E_x5.lt zz_x11)
  have ne_x11_x5 := Ne.symm ne_x5_x11
  have ne_x7_x11 : x7 ≠ x11 := Nat.ne_of_lt (Nat.lt_of_lt_of_le E_x7.lt zz_x11)
  have ne_x11_x7 := Ne.symm ne_x7_x11
  have ne_x8_x11 : x8 ≠ x11 := Nat.ne_of_lt (Nat.lt_of_lt_of_le V_x8.lt zz_x11)
  have ne_x11_x8 := Ne.symm ne_x8_x11
  have ne_x6_x11 : x6 ≠ x11 := Nat.ne_of_lt (Nat.lt_of_lt_of_le V_x6.lt zz_x11)
  have ne_x11_x6 := Ne.symm ne_x6_x11
  have ne_x9_x11 : x9 ≠ x11 := Nat.ne_of_lt (Nat.lt_of_lt_of_le E_x9.lt zz_x11)
  have ne_x11_x9 := Ne.symm ne_x9_x11
  have ne_x10_x11 : x10 ≠ x11 := Nat.ne_of_lt (Nat.lt_of_lt_of_le V_x10.lt zz_x11)
  have ne_x11_x10 := Ne.symm ne_x10_x11
  have g_x11 : n0 ≤ x11 := Nat.le_trans Z0 zz_x11
  have sz_x11 : h0.size ≤ x11 := Nat.le_trans KK.1 zz_x11
  have SX_x5 : Safe Z own_EL _ h41 x5 := Safe.exa hZ.alike E_x5 (by decide) (by decide)
  have hsA : ∀ x ∈ ([x5] : List Addr), Safe Z own_EL vmA43 h41 x := (allS SX_x5 all0)
  have SX_x6 := Safe.keep KA45 hsA HC.1 SX_x6
  have SX_x11 := Safe.keep KA45 hsA HC.1 (Safe.new zz_x11)
  have HC := HC.trans (CHr.keep KA45 hsA HC.1)
  have hk := Nat.le_trans hk KA45.1
  have S_cs : Sta Z hA45 "java/lang/String" "COMPACT_STRINGS" "Z" (.int cs) := own_staK S_cs KA45 (allS (P := fun x => ∀ cell : Cell, h41[x]? = some cell → cell.vm.isStatics = false) E_x5.nostat all0)
  have S_dig : Sta Z hA45 "java/lang/Integer" "DigitOnes" "[B" (.ref dig) := own_staK S_dig KA45 (allS (P := fun x => ∀ cell : Cell, h41[x]? = some cell → cell.vm.isStatics = false) E_x5.nostat all0)
  have F_o0_host : Fld Z hA45 o0 "com/example/periwinkle/periwinkle/server/ServerSettings" "host" "Ljava/lang/String;" (.ref o1) := F_o0_host.keep KA45 (ninS ne_o0_x5 nin0)
  have F_o0_tlsCertificate : Fld Z hA45 o0 "com/example/periwinkle/periwinkle/server/ServerSettings" "tlsCertificate" "Ljava/nio/file/Path;" .null := F_o0_tlsCertificate.keep KA45 (ninS ne_o0_x5 nin0)
  have V_dig : own_Ar Z hA45 dig .byte ds := V_dig.keep KA45 (ninS ne_dig_x5 nin0)
  have E_o1 : Exa Z hA45 o1 "java/lang/String" := E_o1.keep KA45
  have F_o1_coder : Fld Z hA45 o1 "java/lang/String" "coder" "B" (.int (0 : Int32)) := F_o1_coder.keep KA45 (ninS ne_o1_x5 nin0)
  have F_o1_value : Fld Z hA45 o1 "java/lang/String" "value" "[B" (.ref o3) := F_o1_value.keep KA45 (ninS ne_o1_x5 nin0)
  have V_o3 : own_Ar Z hA45 o3 .byte [(.int (49 : Int32)), (.int (50 : Int32)), (.int (55 : Int32)), (.int (46 : Int32)), (.int (48 : Int32)), (.int (46 : Int32)), (.int (48 : Int32)), (.int (46 : Int32)), (.int (49 : Int32))] := V_o3.keep KA45 (ninS ne_o3_x5 nin0)
  have E_x1 : Exa Z hA45 x1 "java/lang/String" := E_x1.keep KA45
  have F_x1_coder : Fld Z hA45 x1 "java/lang/String" "coder" "B" (.int (0 : Int32)) := F_x1_coder.keep KA45 (ninS ne_x1_x5 nin0)
  have F_x1_value : Fld Z hA45 x1 "java/lang/String" "value" "[B" (.ref x2) := F_x1_value.keep KA45 (ninS ne_x1_x5 nin0)
  have V_x2 : own_Ar Z hA45 x2 .byte [(.int (104 : Int32)), (.int (116 : Int32)), (.int (116 : Int32)), (.int (112 : Int32))] := V_x2.keep KA45 (ninS ne_x2_x5 nin0)
  have E_x3 : Exa Z hA45 x3 "java/lang/String" := E_x3.keep KA45
  have F_x3_coder : Fld Z hA45 x3 "java/lang/String" "coder" "B" (.int (0 : Int32)) := F_x3_coder.keep KA45 (ninS ne_x3_x5 nin0)
  have F_x3_value : Fld Z hA45 x3 "java/lang/String" "value" "[B" (.ref x4) := F_x3_value.keep KA45 (ninS ne_x3_x5 nin0)
  have V_x4 : own_Ar Z hA45 x4 .byte [(.int (58 : Int32))] := V_x4.keep KA45 (ninS ne_x4_x5 nin0)
  have E_x5 : Exa Z hA45 x5 "java/lang/StringBuilder" := E_x5.keep KA45
  have E_x7 : Exa Z hA45 x7 "java/lang/String" := E_x7.keep KA45
  have F_x7_coder : Fld Z hA45 x7 "java/lang/String" "coder" "B" (.int (0 : Int32)) := F_x7_coder.keep KA45 (ninS ne_x7_x5 nin0)
  have F_x7_value : Fld Z hA45 x7 "java/lang/String" "value" "[B" (.ref x8) := F_x7_value.keep KA45 (ninS ne_x7_x5 nin0)
  have V_x8 : own_Ar Z hA45 x8 .byte [(.int (58 : Int32)), (.int (47 : Int32)), (.int (47 : Int32))] := V_x8.keep KA45 (ninS ne_x8_x5 nin0)
  have V_x6 : own_Ar Z hA45 x6 .byte [(.int (104 : Int32)), (.int (116 : Int32)), (.int (116 : Int32)), (.int (112 : Int32)), (.int (58 : Int32)), (.int (47 : Int32)), (.int (47 : Int32)), (.int (49 : Int32)), (.int (50 : Int32)), (.int (55 : Int32)), (.int (46 : Int32)), (.int (48 : Int32)), (.int (46 : Int32)), (.int (48 : Int32)), (.int (46 : Int32)), (.int (49 : Int32))] := V_x6.keep KA45 (ninS ne_x6_x5 nin0)
  have E_x9 : Exa Z hA45 x9 "java/lang/String" := E_x9.keep KA45
  have F_x9_coder : Fld Z hA45 x9 "java/lang/String" "coder" "B" (.int (0 : Int32)) := F_x9_coder.keep KA45 (ninS ne_x9_x5 nin0)
  have F_x9_value : Fld Z hA45 x9 "java/lang/String" "value" "[B" (.ref x10) := F_x9_value.keep KA45 (ninS ne_x9_x5 nin0)
  have V_x10 : own_Ar Z hA45 x10 .byte [(.int (58 : Int32))] := V_x10.keep KA45 (ninS ne_x10_x5 nin0)
  have Z0 : n0 ≤ hA45.size := Nat.le_trans Z0 KA45.1
  have KK : Keep h0 hA45 [] := KK.trans KA45 (allS (P := fun x => x ∈ ([] : List Addr) ∨ h0.size ≤ x) (Or.inr sz_x5) all0)
  have F_x5_value : Fld Z hA45 x5 "java/lang/AbstractStringBuilder" "value" "[B" (.ref x11) := P_F_x5_value
  have F_x5_coder : Fld Z hA45 x5 "java/lang/AbstractStringBuilder" "coder" "B" (.int (0 : Int32)) := P_F_x5_coder
  have F_x5_count : Fld Z hA45 x5 "java/lang/AbstractStringBuilder" "count" "I" (.int (17 : Int32)) := P_F_x5_count
  have V_x11 : own_Ar Z hA45 x11 .byte [(.int (104 : Int32)), (.int (116 : Int32)), (.int (116 : Int32)), (.int (112 : Int32)), (.int (58 : Int32)), (.int (47 : Int32)), (.int (47 : Int32)), (.int (49 : Int32)), (.int (50 : Int32)), (.int (55 : Int32)), (.int (46 : Int32)), (.int (48 : Int32)), (.int (46 : Int32)), (.int (48 : Int32)), (.int (46 : Int32)), (.int (49 : Int32)), (.int (58 : Int32)), (.int (0 : Int32)), (.int (0 : Int32)), (.int (0 : Int32)), (.int (0 : Int32)), (.int (0 : Int32)), (.int (0 : Int32)), (.int (0 : Int32)), (.int (0 : Int32)), (.int (0 : Int32)), (.int (0 : Int32)), (.int (0 : Int32)), (.int (0 : Int32)), (.int (0 : Int32)), (.int (0 : Int32)), (.int (0 : Int32)), (.int (0 : Int32)), (.int (0 : Int32))] := P_V_x11
  have A46 : own_R p l e _ _ m _ below meth c S0 n0 hA45 11 106 (mkF m 87 #[.val (.ref o0), .val (.int (0 : Int32)), .val (.ref x1), .val (.ref o1)] [(.ref x5)]) := A45
  have A47 := A46.go (f' := mkF m 88 #[.val (.ref o0), .val (.int (0 : Int32)), .val (.ref x1), .val (.ref o1)] [(.int (0 : Int32)), (.ref x5)]) fun _ _ X _ k => XS.iloadN X.here hx rfl (hb hby dm11_87) rfl k
  obtain ⟨vA48, hA48, ⟨rfl, KA48, P_F_x5_value, P_F_x5_coder, P_F_x5_count, P_V_x11⟩, A48⟩ := A47.callV (b := x5) (own_c111 l Z a0 hw x5 x11 cs dig ds hA45 n0 Z0 E_x5 F_x5_value F_x5_coder F_x5_count V_dig V_x11 S_cs S_dig hcs hds ne_dig_x5 ne_dig_x11 ne_x5_x11 ne_x11_x5 g_x5 g_x11) E_x5 hx hZ hown (hb hby dm11_88) (hw _ (List.mem_of_getElem? (i := 200) rfl)) (hw _ (List.mem_of_getElem? (i := 201) rfl)) (hw _ (List.mem_of_getElem? (i := 203) rfl)) (hw _ (List.mem_of_getElem? (i := 202) rfl)) (hw _ (List.mem_of_getElem? (i := 204) rfl)) (hw _ (List.mem_of_getElem? (i := 118) rfl)) (own_nf (y' := (⟨"java/lang/StringBuilder", "append", "(Ljava/lang/String;)Ljava/lang/StringBuilder;"⟩ : MethodName)) (hw _ (List.mem_of_getElem? (i := 137) rfl)) rfl) ⟨by decide, by decide⟩ (lenOf pd__28I_29Ljava_2flang_2fStringBuilder_3b rfl) (argsL := [(.int (0 : Int32))]) (rest := []) rfl rfl (by rw [hml]; rfl) (W := 0) (Nat.le_of_eq rfl) (by decide) (by decide) (by decide) (by decide)
  have SX_x5 : Safe Z own_EL _ hA45 x5 := Safe.exa hZ.alike E_x5 (by decide) (by decide)
  have hsA : ∀ x ∈ ([x5, x11] : List Addr), Safe Z own_EL vmA43 hA45 x := (allS SX_x5 (allS SX_x11 all0))
  have SX_x6 := Safe.keep KA48 hsA HC.1 SX_x6
  have SX_x11 := Safe.keep KA48 hsA HC.1 SX_x11
  have HC := HC.trans (CHr.keep KA48 hsA HC.1)
  have hk := Nat.le_trans hk KA48.1
  have S_cs : Sta Z hA48 "java/lang/String" "COMPACT_STRINGS" "Z" (.int cs) := own_staK S_cs KA48 (allS (P := fun x => ∀ cell : Cell, hA45[x]? = some cell → cell.vm.isStatics = false) E_x5.nostat (allS (P := fun x => ∀ cell : Cell, hA45[x]? = some cell → cell.vm.isStatics = false) V_x11.nostat all0))
  have S_dig : Sta Z hA48 "java/lang/Integer" "DigitOnes" "[B" (.ref dig) := own_staK S_dig KA48 (allS (P := fun x => ∀ cell : Cell, hA45[x]? = some cell → cell.vm.isStatics = false) E_x5.nostat (allS (P := fun x => ∀ cell : Cell, hA45[x]? = some cell → cell.vm.isStatics = false) V_x11.nostat all0))
  have F_o0_host : Fld Z hA48 o0 "com/example/periwinkle/periwinkle/server/ServerSettings" "host" "Ljava/lang/String;" (.ref o1) := F_o0_host.keep KA48 (ninS ne_o0_x5 (ninS ne_o0_x11 nin0))
  have F_o0_tlsCertificate : Fld Z hA48 o0 "com/example/periwinkle/periwinkle/server/ServerSettings" "tlsCertificate" "Ljava/nio/file/Path;" .null := F_o0_tlsCertificate.keep KA48 (ninS ne_o0_x5 (ninS ne_o0_x11 nin0))
  have V_dig : own_Ar Z hA48 dig .byte ds := V_dig.keep KA48 (ninS ne_dig_x5 (ninS ne_dig_x11 nin0))
  have E_o1 : Exa Z hA48 o1 "java/lang/String" := E_o1.keep KA48
  have F_o1_coder : Fld Z hA48 o1 "java/lang/String" "coder" "B" (.int (0 : Int32)) := F_o1_coder.keep KA48 (ninS ne_o1_x5 (ninS ne_o1_x11 nin0))
  have F_o1_value : Fld Z hA48 o1 "java/lang/String" "value" "[B" (.ref o3) := F_o1_value.keep KA48 (ninS ne_o1_x5 (ninS ne_o1_x11 nin0))
  have V_o3 : own_Ar Z hA48 o3 .byte [(.int (49 : Int32)), (.int (50 : Int32)), (.int (55 : Int32)), (.int (46 : Int32)), (.int (48 : Int32)), (.int (46 : Int32)), (.int (48 : Int32)), (.int (46 : Int32)), (.int (49 : Int32))] := V_o3.keep KA48 (ninS ne_o3_x5 (ninS ne_o3_x11 nin0))
  have E_x1 : Exa Z hA48 x1 "java/lang/String" := E_x1.keep KA48
  have F_x1_coder : Fld Z hA48 x1 "java/lang/String" "coder" "B" (.int (0 : Int32)) := F_x1_coder.keep KA48 (ninS ne_x1_x5 (ninS ne_x1_x11 nin0))
  have F_x1_value : Fld Z hA48 x1 "java/lang/String" "value" "[B" (.ref x2) := F_x1_value.keep KA48 (ninS ne_x1_x5 (ninS ne_x1_x11 nin0))
  have V_x2 : own_Ar Z hA48 x2 .byte [(.int (104 : Int32)), (.int (116 : Int32)), (.int (116 : Int32)), (.int (112 : Int32))] := V_x2.keep KA48 (ninS ne_x2_x5 (ninS ne_x2_x11 nin0))
  have E_x3 : Exa Z hA48 x3 "java/lang/String" := E_x3.keep KA48
  have F_x3_coder : Fld Z hA48 x3 "java/lang/String" "coder" "B" (.int (0 : Int32)) := F_x3_coder.keep KA48 (ninS ne_x3_x5 (ninS ne_x3_x11 nin0))
  have F_x3_value : Fld Z hA48 x3 "java/lang/String" "value" "[B" (.ref x4) := F_x3_value.keep KA48 (ninS ne_x3_x5 (ninS ne_x3_x11 nin0))
  have V_x4 : own_Ar Z hA48 x4 .byte [(.int (58 : Int32))] := V_x4.keep KA48 (ninS ne_x4_x5 (ninS ne_x4_x11 nin0))
  have E_x5 : Exa Z hA48 x5 "java/lang/StringBuilder" := E_x5.keep KA48
  have E_x7 : Exa Z hA48 x7 "java/lang/String" := E_x7.keep KA48
  have F_x7_coder : Fld Z hA48 x7 "java/lang/String" "coder" "B" (.int (0 : Int32)) := F_x7_coder.keep KA48 (ninS ne_x7_x5 (ninS ne_x7_x11 nin0))
  have F_x7_value : Fld Z hA48 x7 "java/lang/String" "value" "[B" (.ref x8) := F_x7_value.keep KA48 (ninS ne_x7_x5 (ninS ne_x7_x11 nin0))
  have V_x8 : own_Ar Z hA48 x8 .byte [(.int (58 : Int32)), (.int (47 : Int32)), (.int (47 : Int32))] := V_x8.keep KA48 (ninS ne_x8_x5 (ninS ne_x8_x11 nin0))
  have V_x6 : own_Ar Z hA48 x6 .byte [(.int (104 : Int32)), (.int (116 : Int32)), (.int (116 : Int32)), (.int (112 : Int32)), (.int (58 : Int32)), (.int (47 : Int32)), (.int (47 : Int32)), (.int (49 : Int32)), (.int (50 : Int32)), (.int (55 : Int32)), (.int (46 : Int32)), (.int (48 : Int32)), (.int (46 : Int32)), (.int (48 : Int32)), (.int (46 : Int32)), (.int (49 : Int32))] := V_x6.keep KA48 (ninS ne_x6_x5 (ninS ne_x6_x11 nin0))
  have E_x9 : Exa Z hA48 x9 "java/lang/String" := E_x9.keep KA48
  have F_x9_coder : Fld Z hA48 x9 "java/lang/String" "coder" "B" (.int (0 : Int32)) := F_x9_coder.keep KA48 (ninS ne_x9_x5 (ninS ne_x9_x11 nin0))
  have F_x9_value : Fld Z hA48 x9 "java/lang/String" "value" "[B" (.ref x10) := F_x9_value.keep KA48 (ninS ne_x9_x5 (ninS ne_x9_x11 nin0))
  have V_x10 : own_Ar Z hA48 x10 .byte [(.int (58 : Int32))] := V_x10.keep KA48 (ninS ne_x10_x5 (ninS ne_x10_x11 nin0))
  have Z0 : n0 ≤ hA48.size := Nat.le_trans Z0 KA48.1
  have KK : Keep h0 hA48 [] := KK.trans KA48 (allS (P := fun x => x ∈ ([] : List Addr) ∨ h0.size ≤ x) (Or.inr sz_x5) (allS (P := fun x => x ∈ ([] : List Addr) ∨ h0.size ≤ x) (Or.inr sz_x11) all0))
  have F_x5_value : Fld Z hA48 x5 "java/lang/AbstractStringBuilder" "value" "[B" (.ref x11) := P_F_x5_value
  have F_x5_coder : Fld Z hA48 x5 "java/lang/AbstractStringBuilder" "coder" "B" (.int (0 : Int32)) := P_F_x5_coder
  have F_x5_count : Fld Z hA48 x5 "java/lang/AbstractStringBuilder" "count" "I" (.int (18 : Int32)) := P_F_x5_count
  have V_x11 : own_Ar Z hA48 x11 .byte [(.int (104 : Int32)), (.int (116 : Int32)), (.int (116 : Int32)), (.int (112 : Int32)), (.int (58 : Int32)), (.int (47 : Int32)), (.int (47 : Int32)), (.int (49 : Int32)), (.int (50 : Int32)), (.int (55 : Int32)), (.int (46 : Int32)), (.int (48 : Int32)), (.int (46 : Int32)), (.int (48 : Int32)), (.int (46 : Int32)), (.int (49 : Int32)), (.int (58 : Int32)), (.int (48 : Int32)), (.int (0 : Int32)), (.int (0 : Int32)), (.int (0 : Int32)), (.int (0 : Int32)), (.int (0 : Int32)), (.int (0 : Int32)), (.int (0 : Int32)), (.int (0 : Int32)), (.int (0 : Int32)), (.int (0 : Int32)), (.int (0 : Int32)), (.int (0 : Int32)), (.int (0 : Int32)), (.int (0 : Int32)), (.int (0 : Int32)), (.int (0 : Int32))] := P_V_x11
  have A49 : own_R p l e _ _ m _ below meth c S0 n0 hA48 11 106 (mkF m 91 #[.val (.ref o0), .val (.int (0 : Int32)), .val (.ref x1), .val (.ref o1)] [(.ref x5)]) := A48
  obtain ⟨vA50, hA50, ⟨x12, x13, rfl, KA50, zz_x12, zz_x13, ne_x13_x12, P_E_x12, P_F_x12_value, P_F_x12_coder, P_V_x13⟩, A50⟩ := A49.callV (b := x5) (own_c131 l Z a0 hw x5 x11 cs hA48 n0 Z0 E_x5 F_x5_value F_x5_coder F_x5_count V_x11 S_cs hcs) E_x5 hx hZ hown (hb hby dm11_91) (hw _ (List.mem_of_getElem? (i := 222) rfl)) (hw _ (List.mem_of_getElem? (i := 223) rfl)) (hw _ (List.mem_of_getElem? (i := 225) rfl)) (hw _ (List.mem_of_getElem? (i := 224) rfl)) (hw _ (List.mem_of_getElem? (i := 226) rfl)) (hw _ (List.mem_of_getElem? (i := 118) rfl)) (own_nf (y' := (⟨"java/lang/StringBuilder", "append", "(Ljava/lang/String;)Ljava/lang/StringBuilder;"⟩ : MethodName)) (hw _ (List.mem_of_getElem? (i := 137) rfl)) rfl) ⟨by decide, by decide⟩ (lenOf pd__28_29Ljava_2flang_2fString_3b rfl) (argsL := []) (rest := []) rfl rfl (by rw [hml]; rfl) (W := 0) (Nat.le_of_eq rfl) (by decide) (by decide) (by decide) (by decide)
  have ne_x12_x13 := Ne.symm ne_x13_x12
  have ne_o0_x12 : o0 ≠ x12 := Nat.ne_of_lt (Nat.lt_of_lt_of_le F_o0_host.lt zz_x12)
  have ne_x12_o0 := Ne.symm ne_o0_x12
  have ne_dig_x12 : dig ≠ x12 := Nat.ne_of_lt (Nat.lt_of_lt_of_le V_dig.lt zz_x12)
  have ne_x12_dig := Ne.symm ne_dig_x12
  have ne_o1_x12 : o1 ≠ x12 := Nat.ne_of_lt (Nat.lt_of_lt_of_le E_o1.lt zz_x12)
  have ne_x12_o1 := Ne.symm ne_o1_x12
  have ne_o3_x12 : o3 ≠ x12 := Nat.ne_of_lt (Nat.lt_of_lt_of_le V_o3.lt zz_x12)
  have ne_x12_o3 := Ne.symm ne_o3_x12
  have ne_x1_x12 : x1 ≠ x12 := Nat.ne_of_lt (Nat.lt_of_lt_of_le E_x1.lt zz_x12)
  have ne_x12_x1 := Ne.symm ne_x1_x12
  have ne_x2_x12 : x2 ≠ x12 := Nat.ne_of_lt (Nat.lt_of_lt_of_le V_x2.lt zz_x12)
  have ne_x12_x2 := Ne.symm ne_x2_x12
  have ne_x3_x12 : x3 ≠ x12 := Nat.ne_of_lt (Nat.lt_of_lt_of_le E_x3.lt zz_x12)
  have ne_x12_x3 := Ne.symm ne_x3_x12
  have ne_x4_x12 : x4 ≠ x12 := Nat.ne_of_lt (Nat.lt_of_lt_of_le V_x4.lt zz_x12)
  have ne_x12_x4 := Ne.symm ne_x4_x12
  have ne_x5_x12 : x5 ≠ x12 := Nat.ne_of_lt (Nat.lt_of_lt_of_le E_x5.lt zz_x12)
  have ne_x12_x5 := Ne.symm ne_x5_x12
  have ne_x7_x12 : x7 ≠ x12 := Nat.ne_of_lt (Nat.lt_of_lt_of_le E_x7.lt zz_x12)
  have ne_x12_x7 := Ne.symm ne_x7_x12
  have ne_x8_x12 : x8 ≠ x12 := Nat.ne_of_lt (Nat.lt_of_lt_of_le V_x8.lt zz_x12)
  have ne_x12_x8 := Ne.symm ne_x8_x12
  have ne_x6_x12 : x6 ≠ x12 := Nat.ne_of_lt (Nat.lt_of_lt_of_le V_x6.lt zz_x12)
  have ne_x12_x6 := Ne.symm ne_x6_x12
  have ne_x9_x12 : x9 ≠ x12 := Nat.ne_of_lt (Nat.lt_of_lt_of_le E_x9.lt zz_x12)
  have ne_x12_x9 := Ne.symm ne_x9_x12
  have ne_x10_x12 : x10 ≠ x12 := Nat.ne_of_lt (Nat.lt_of_lt_of_le V_x10.lt zz_x12)
  have ne_x12_x10 := Ne.symm ne_x10_x12
  have ne_x11_x12 : x11 ≠ x12 := Nat.ne_of_lt (Nat.lt_of_lt_of_le V_x11.lt zz_x12)
  have ne_x12_x11 := Ne.symm ne_x11_x12
  have g_x12 : n0 ≤ x12 := Nat.le_trans Z0 zz_x12
  have sz_x12 : h0.size ≤ x12 := Nat.le_trans KK.1 zz_x12
  have ne_o0_x13 : o0 ≠ x13 := Nat.ne_of_lt (Nat.lt_of_lt_of_le F_o0_host.lt zz_x13)
  have ne_x13_o0 := Ne.symm ne_o0_x13
  have ne_dig_x13 : dig ≠ x13 := Nat.ne_of_lt (Nat.lt_of_lt_of_le V_dig.lt zz_x13)
  have ne_x13_dig := Ne.symm ne_dig_x13
  have ne_o1_x13 : o1 ≠ x13 := Nat.ne_of_lt (Nat.lt_of_lt_of_le E_o1.lt zz_x13)
  have ne_x13_o1 := Ne.symm ne_o1_x13
  have ne_o3_x13 : o3 ≠ x13 := Nat.ne_of_lt (Nat.lt_of_lt_of_le V_o3.lt zz_x13)
  have ne_x13_o3 := Ne.symm ne_o3_x13
  have ne_x1_x13 : x1 ≠ x13 := Nat.ne_of_lt (Nat.lt_of_lt_of_le E_x1.lt zz_x13)
  have ne_x13_x1 := Ne.symm ne_x1_x13
  have ne_x2_x13 : x2 ≠ x13 := Nat.ne_of_lt (Nat.lt_of_lt_of_le V_x2.lt zz_x13)
  have ne_x13_x2 := Ne.symm ne_x2_x13
  have ne_x3_x13 : x3 ≠ x13 := Nat.ne_of_lt (Nat.lt_of_lt_of_le E_x3.lt zz_x13)
  have ne_x13_x3 := Ne.symm ne_x3_x13
  have ne_x4_x13 : x4 ≠ x13 := Nat.ne_of_lt (Nat.lt_of_lt_of_le V_x4.lt zz_x13)
  have ne_x13_x4 := Ne.symm ne_x4_x13
  have ne_x5_x13 : x5 ≠ x13 := Nat.ne_of_lt (Nat.lt_of_lt_of_le E_x5.lt zz_x13)
  have ne_x13_x5 := Ne.symm ne_x5_x13
  have ne_x7_x13 : x7 ≠ x13 := Nat.ne_of_lt (Nat.lt_of_lt_of_le E_x7.lt zz_x13)
  have ne_x13_x7 := Ne.symm ne_x7_x13
  have ne_x8_x13 : x8 ≠ x13 := Nat.ne_of_lt (Nat.lt_of_lt_of_le V_x8.lt zz_x13)
  have ne_x13_x8 := Ne.symm ne_x8_x13
  have ne_x6_x13 : x6 ≠ x13 := Nat.ne_of_lt (Nat.lt_of_lt_of_le V_x6.lt zz_x13)
  have ne_x13_x6 := Ne.symm ne_x6_x13
  have ne_x9_x13 : x9 ≠ x13 := Nat.ne_of_lt (Nat.lt_of_lt_of_le E_x9.lt zz_x13)
  have ne_x13_x9 := Ne.symm ne_x9_x13
  have ne_x10_x13 : x10 ≠ x13 := Nat.ne_of_lt (Nat.lt_of_lt_of_le V_x10.lt zz_x13)
  have ne_x13_x10 := Ne.symm ne_x10_x13
  have ne_x11_x13 : x11 ≠ x13 := Nat.ne_of_lt (Nat.lt_of_lt_of_le V_x11.lt zz_x13)
  have ne_x13_x11 := Ne.symm ne_x11_x13
  have g_x13 : n0 ≤ x13 := Nat.le_trans Z0 zz_x13
  have sz_x13 : h0.size ≤ x13 := Nat.le_trans KK.1 zz_x13
  have hsA : ∀ x ∈ ([] : List Addr), Safe Z own_EL vmA43 hA48 x := all0
  have SX_x6 := Safe.keep KA50 hsA HC.1 SX_x6
  have SX_x11 := Safe.keep KA50 hsA HC.1 SX_x11
  have SX_x13 := Safe.keep KA50 hsA HC.1 (Safe.new zz_x13)
  have HC := HC.trans (CHr.keep KA50 hsA HC.1)
  have hk := Nat.le_trans hk KA50.1
  have S_cs : Sta Z hA50 "java/lang/String" "COMPACT_STRINGS" "Z" (.int cs) := own_staK S_cs KA50 all0
  have S_dig : Sta Z hA50 "java/lang/Integer" "DigitOnes" "[B" (.ref dig) := own_staK S_dig KA50 all0
  have F_o0_host : Fld Z hA50 o0 "com/example/periwinkle/periwinkle/server/ServerSettings" "host" "Ljava/lang/String;" (.ref o1) := F_o0_host.keep KA50 nin0
  have F_o0_tlsCertificate : Fld Z hA50 o0 "com/example/periwinkle/periwinkle/server/ServerSettings" "tlsCertificate" "Ljava/nio/file/Path;" .null := F_o0_tlsCertificate.keep KA50 nin0
  have V_dig : own_Ar Z hA50 dig .byte ds := V_dig.keep KA50 nin0
  have E_o1 : Exa Z hA50 o1 "java/lang/String" := E_o1.keep KA50
  have F_o1_coder : Fld Z hA50 o1 "java/lang/String" "coder" "B" (.int (0 : Int32)) := F_o1_coder.keep KA50 nin0
  have F_o1_value : Fld Z hA50 o1 "java/lang/String" "value" "[B" (.ref o3) := F_o1_value.keep KA50 nin0
  have V_o3 : own_Ar Z hA50 o3 .byte [(.int (49 : Int32)), (.int (50 : Int32)), (.int (55 : Int32)), (.int (46 : Int32)), (.int (48 : Int32)), (.int (46 : Int32)), (.int (48 : Int32)), (.int (46 : Int32)), (.int (49 : Int32))] := V_o3.keep KA50 nin0
  have E_x1 : Exa Z hA50 x1 "java/lang/String" := E_x1.keep KA50
  have F_x1_coder : Fld Z hA50 x1 "java/lang/String" "coder" "B" (.int (0 : Int32)) := F_x1_coder.keep KA50 nin0
  have F_x1_value : Fld Z hA50 x1 "java/lang/String" "value" "[B" (.ref x2) := F_x1_value.keep KA50 nin0
  have V_x2 : own_Ar Z hA50 x2 .byte [(.int (104 : Int32)), (.int (116 : Int32)), (.int (116 : Int32)), (.int (112 : Int32))] := V_x2.keep KA50 nin0
  have E_x3 : Exa Z hA50 x3 "java/lang/String" := E_x3.keep KA50
  have F_x3_coder : Fld Z hA50 x3 "java/lang/String" "coder" "B" (.int (0 : Int32)) := F_x3_coder.keep KA50 nin0
  have F_x3_value : Fld Z hA50 x3 "java/lang/String" "value" "[B" (.ref x4) := F_x3_value.keep KA50 nin0
  have V_x4 : own_Ar Z hA50 x4 .byte [(.int (58 : Int32))] := V_x4.keep KA50 nin0
  have E_x5 : Exa Z hA50 x5 "java/lang/StringBuilder" := E_x5.keep KA50
  have E_x7 : Exa Z hA50 x7 "java/lang/String" := E_x7.keep KA50
  have F_x7_coder : Fld Z hA50 x7 "java/lang/String" "coder" "B" (.int (0 : Int32)) := F_x7_coder.keep KA50 nin0
  have F_x7_value : Fld Z hA50 x7 "java/lang/String" "value" "[B" (.ref x8) := F_x7_value.keep KA50 nin0
  have V_x8 : own_Ar Z hA50 x8 .byte [(.int (58 : Int32)), (.int (47 : Int32)), (.int (47 : Int32))] := V_x8.keep KA50 nin0
  have V_x6 : own_Ar Z hA50 x6 .byte [(.int (104 : Int32)), (.int (116 : Int32)), (.int (116 : Int32)), (.int (112 : Int32)), (.int (58 : Int32)), (.int (47 : Int32)), (.int (47 : Int32)), (.int (49 : Int32)), (.int (50 : Int32)), (.int (55 : Int32)), (.int (46 : Int32)), (.int (48 : Int32)), (.int (46 : Int32)), (.int (48 : Int32)), (.int (46 : Int32)), (.int (49 : Int32))] := V_x6.keep KA50 nin0
  have E_x9 : Exa Z hA50 x9 "java/lang/String" := E_x9.keep KA50
  have F_x9_coder : Fld Z hA50 x9 "java/lang/String" "coder" "B" (.int (0 : Int32)) := F_x9_coder.keep KA50 nin0
  have F_x9_value : Fld Z hA50 x9 "java/lang/String" "value" "[B" (.ref x10) := F_x9_value.keep KA50 nin0
  have V_x10 : own_Ar Z hA50 x10 .byte [(.int (58 : Int32))] := V_x10.keep KA50 nin0
  have F_x5_value : Fld Z hA50 x5 "java/lang/AbstractStringBuilder" "value" "[B" (.ref x11) := F_x5_value.keep KA50 nin0
  have F_x5_coder : Fld Z hA50 x5 "java/lang/AbstractStringBuilder" "coder" "B" (.int (0 : Int32)) := F_x5_coder.keep KA50 nin0
  have F_x5_count : Fld Z hA50 x5 "java/lang/AbstractStringBuilder" "count" "I" (.int (18 : Int32)) := F_x5_count.keep KA50 nin0
  have V_x11 : own_Ar Z hA50 x11 .byte [(.int (104 : Int32)), (.int (116 : Int32)), (.int (116 : Int32)), (.int (112 : Int32)), (.int (58 : Int32)), (.int (47 : Int32)), (.int (47 : Int32)), (.int (49 : Int32)), (.int (50 : Int32)), (.int (55 : Int32)), (.int (46 : Int32)), (.int (48 : Int32)), (.int (46 : Int32)), (.int (48 : Int32)), (.int (46 : Int32)), (.int (49 : Int32)), (.int (58 : Int32)), (.int (48 : Int32)), (.int (0 : Int32)), (.int (0 : Int32)), (.int (0 : Int32)), (.int (0 : Int32)), (.int (0 : Int32)), (.int (0 : Int32)), (.int (0 : Int32)), (.int (0 : Int32)), (.int (0 : Int32)), (.int (0 : Int32)), (.int (0 : Int32)), (.int (0 : Int32)), (.int (0 : Int32)), (.int (0 : Int32)), (.int (0 : Int32)), (.int (0 : Int32))] := V_x11.keep KA50 nin0
  have Z0 : n0 ≤ hA50.size := Nat.le_trans Z0 KA50.1
  have KK : Keep h0 hA50 [] := KK.trans KA50 all0
  have E_x12 : Exa Z hA50 x12 "java/lang/String" := P_E_x12
  have F_x12_value : Fld Z hA50 x12 "java/lang/String" "value" "[B" (.ref x13) := P_F_x12_value
  have F_x12_coder : Fld Z hA50 x12 "java/lang/String" "coder" "B" (.int (0 : Int32)) := P_F_x12_coder
  have V_x13 : own_Ar Z hA50 x13 .byte [(.int (104 : Int32)), (.int (116 : Int32)), (.int (116 : Int32)), (.int (112 : Int32)), (.int (58 : Int32)), (.int (47 : Int32)), (.int (47 : Int32)), (.int (49 : Int32)), (.int (50 : Int32)), (.int (55 : Int32)), (.int (46 : Int32)), (.int (48 : Int32)), (.int (46 : Int32)), (.int (48 : Int32)), (.int (46 : Int32)), (.int (49 : Int32)), (.int (58 : Int32)), (.int (48 : Int32))] := P_V_x13
  have A51 : own_R p l e _ _ m _ below meth c S0 n0 hA50 13 128 (mkF m 94 #[.val (.ref o0), .val (.int (0 : Int32)), .val (.ref x1), .val (.ref o1)] [(.ref x12)]) := A50
  exact A51.retSS hx hlk hZ hS hk hEL HC hret (hb hby dm11_94) rfl (Or.inr (Or.inr (Or.inr (Or.inr ⟨rfl, rfl, rfl⟩)))) (by decide) (by decide) ⟨x12, x13, rfl, KK, sz_x12, sz_x13, ne_x13_x12, E_x12, F_x12_value, F_x12_coder, V_x13⟩
theorem ef_own_c135 (m : MethodId) (o0 : Addr) (o1 : Addr) : entryFrame m #[(.ref o0), (.ref o1)] 3 = mkF m 0 #[.val (.ref o0), .val (.ref o1), .unset] [] := by first | (simp [entryFrame, mkF, argsToLocals, Value.category, maxLocals]; done) | rfl
set_option maxRecDepth 65536 in
set_option maxHeartbeats 40000000 in
theorem own_c135 (l : Launch) (Z : State) (a0 : Array Value) (hw : ∀ d ∈ tables_1, d.before a0 Z = true) (o0 o1 : Addr) (h0 : Heap) (n0 : Nat) (Z0 : n0 ≤ h0.size) (V_o0 : own_Ar Z h0 o0 .byte [(.int (104 : Int32)), (.int (116 : Int32)), (.int (116 : Int32)), (.int (112 : Int32)), (.int (58 : Int32)), (.int (47 : Int32)), (.int (47 : Int32)), (.int (49 : Int32)), (.int (50 : Int32)), (.int (55 : Int32)), (.int (46 : Int32)), (.int (48 : Int32)), (.int (46 : Int32)), (.int (48 : Int32)), (.int (46 : Int32)), (.int (49 : Int32)), (.int (58 : Int32)), (.int (48 : Int32))]) (V_o1 : own_Ar Z h0 o1 .byte [(.int (104 : Int32)), (.int (116 : Int32)), (.int (116 : Int32)), (.int (112 : Int32)), (.int (58 : Int32)), (.int (47 : Int32)), (.int (47 : Int32)), (.int (49 : Int32)), (.int (50 : Int32)), (.int (55 : Int32)), (.int (46 : Int32)), (.int (48 : Int32)), (.int (46 : Int32)), (.int (48 : Int32)), (.int (46 : Int32)), (.int (49 : Int32)), (.int (58 : Int32)), (.int (48 : Int32))]) :
    own_M l Z (⟨"java/lang/StringLatin1", "equals", "([B[B)Z"⟩ : MethodName) jdk_43_method_13_code 3 (some .boolean) [] ({ frames := 0, cells := 0, slots := 0, locals := 0 } : Room) #[(.ref o0), (.ref o1)] h0 n0 (fun v h => v = some (.int (1 : Int32)) ∧ h0 = h) := by
  refine own_M.of (plainFor_of_name (by first | (simp [plainName, overriddenIn]; done) | decide +kernel)) ?_
  intro p e s m below meth c S0 hx hby hml hown hnm hret hlk hZ A00
  have A0 := A00.cast (ef_own_c135 m o0 o1)
  have KK : Keep h0 h0 ([] : List Addr) := Keep.refl _ _
  have A1 := A0.go (f' := mkF m 1 #[.val (.ref o0), .val (.ref o1), .unset] [(.ref o0)]) fun _ _ X _ k => XS.aloadN X.here hx rfl (hb hby dm48_0) rfl rfl k
  have A2 : own_R p l e _ _ m _ below meth c S0 n0 h0 0 0 (mkF m 2 #[.val (.ref o0), .val (.ref o1), .unset] [(.int (18 : Int32))]) := A1.len hx hZ (hb hby dm48_1) V_o0
  have A3 := A2.go (f' := mkF m 3 #[.val (.ref o0), .val (.ref o1), .unset] [(.ref o1), (.int (18 : Int32))]) fun _ _ X _ k => XS.aloadN X.here hx rfl (hb hby dm48_2) rfl rfl k
  have A4 : own_R p l e _ _ m _ below meth c S0 n0 h0 0 0 (mkF m 4 #[.val (.ref o0), .val (.ref o1), .unset] [(.int (18 : Int32)), (.int (18 : Int32))]) := A3.len hx hZ (hb hby dm48_3) V_o1
  have q5 : ((18 : Int32) = (18 : Int32)) := rfl
  have A6 := A4.go (f' := mkF m 7 #[.val (.ref o0), .val (.ref o1), .unset] []) fun _ _ X _ k => XS.icmpNo X.here hx rfl (hb hby dm48_4) rfl ((teq q5).2) k
  have A7 := A6.go (f' := mkF m 8 #[.val (.ref o0), .val (.ref o1), .unset] [(.int (0 : Int32))]) fun _ _ X _ k => XS.iconst X.here hx rfl (hb hby dm48_7) k
  have A8 := A7.go (f' := mkF m 9 #[.val (.ref o0), .val (.ref o1), .val (.int (0 : Int32))] []) fun _ _ X _ k => XS.istoreN X.here hx rfl (hb hby dm48_8) rfl (l' := #[.val (.ref o0), .val (.ref o1), .val (.int (0 : Int32))]) rfl k
  have A9 := A8.go (f' := mkF m 10 #[.val (.ref o0), .val (.ref o1), .val (.int (0 : Int32))] [(.int (0 : Int32))]) fun _ _ X _ k => XS.iloadN X.here hx rfl (hb hby dm48_9) rfl k
  have A10 := A9.go (f' := mkF m 11 #[.val (.ref o0), .val (.ref o1), .val (.int (0 : Int32))] [(.ref o0), (.int (0 : Int32))]) fun _ _ X _ k => XS.aloadN X.here hx rfl (hb hby dm48_10) rfl rfl k
  have A11 : own_R p l e _ _ m _ below meth c S0 n0 h0 0 0 (mkF m 12 #[.val (.ref o0), .val (.ref o1), .val (.int (0 : Int32))] [(.int (18 : Int32)), (.int (0 : Int32))]) := A10.len hx hZ (hb hby dm48_11) V_o0
  have q12 : ((0 : Int32) < (18 : Int32)) := by decide
  have A13 := A11.go (f' := mkF m 15 #[.val (.ref o0), .val (.ref o1), .val (.int (0 : Int32))] []) fun _ _ X _ k => XS.icmpNo X.here hx rfl (hb hby dm48_12) rfl ((tlt q12).2.1) k
  have A14 := A13.go (f' := mkF m 16 #[.val (.ref o0), .val (.ref o1), .val (.int (0 : Int32))] [(.ref o0)]) fun _ _ X _ k => XS.aloadN X.here hx rfl (hb hby dm48_15) rfl rfl k
  have A15 := A14.go (f' := mkF m 17 #[.val (.ref o0), .val (.ref o1), .val (.int (0 : Int32))] [(.int (0 : Int32)), (.ref o0)]) fun _ _ X _ k => XS.iloadN X.here hx rfl (hb hby dm48_16) rfl k
  have A16 : own_R p l e _ _ m _ below meth c S0 n0 h0 0 0 (mkF m 18 #[.val (.ref o0), .val (.ref o1), .val (.int (0 : Int32))] [(.int (104 : Int32))]) := A15.ldB hx hZ (hb hby dm48_17) V_o0 (by decide) rfl
  have A17 := A16.go (f' := mkF m 19 #[.val (.ref o0), .val (.ref o1), .val (.int (0 : Int32))] [(.ref o1), (.int (104 : Int32))]) fun _ _ X _ k => XS.aloadN X.here hx rfl (hb hby dm48_18) rfl rfl k
  have A18 := A17.go (f' := mkF m 20 #[.val (.ref o0), .val (.ref o1), .val (.int (0 : Int32))] [(.int (0 : Int32)), (.ref o1), (.int (104 : Int32))]) fun _ _ X _ k => XS.iloadN X.here hx rfl (hb hby dm48_19) rfl k
  have A19 : own_R p l e _ _ m _ below meth c S0 n0 h0 0 0 (mkF m 21 #[.val (.ref o0), .val (.ref o1), .val (.int (0 : Int32))] [(.int (104 : Int32)), (.int (104 : Int32))]) := A18.ldB hx hZ (hb hby dm48_20) V_o1 (by decide) rfl
  have q20 : ((104 : Int32) = (104 : Int32)) := rfl
  have A21 := A19.go (f' := mkF m 26 #[.val (.ref o0), .val (.ref o1), .val (.int (0 : Int32))] []) fun _ _ X _ k => XS.icmpYes X.here hx rfl (pc0 := 21) (pc' := 26) rfl (hb hby dm48_21) rfl ((teq q20).1) (by decide) (by decide) k
  have A22 := A21.go (f' := mkF m 29 #[.val (.ref o0), .val (.ref o1), .val (.int (1 : Int32))] []) fun _ _ X _ k => XS.iinc X.here hx rfl (hb hby dm48_26) rfl (l' := #[.val (.ref o0), .val (.ref o1), .val (.int (1 : Int32))]) rfl k
  have A23 := A22.go (f' := mkF m 9 #[.val (.ref o0), .val (.ref o1), .val (.int (1 : Int32))] []) fun _ _ X _ k => XS.goto X.here hx rfl (pc0 := 29) (pc' := 9) rfl (hb hby dm48_29) (by decide) (by decide) k
  have A24 := A23.go (f' := mkF m 10 #[.val (.ref o0), .val (.ref o1), .val (.int (1 : Int32))] [(.int (1 : Int32))]) fun _ _ X _ k => XS.iloadN X.here hx rfl (hb hby dm48_9) rfl k
  have A25 := A24.go (f' := mkF m 11 #[.val (.ref o0), .val (.ref o1), .val (.int (1 : Int32))] [(.ref o0), (.int (1 : Int32))]) fun _ _ X _ k => XS.aloadN X.here hx rfl (hb hby dm48_10) rfl rfl k
  have A26 : own_R p l e _ _ m _ below meth c S0 n0 h0 0 0 (mkF m 12 #[.val (.ref o0), .val (.ref o1), .val (.int (1 : Int32))] [(.int (18 : Int32)), (.int (1 : Int32))]) := A25.len hx hZ (hb hby dm48_11) V_o0
  have q27 : ((1 : Int32) < (18 : Int32)) := by decide
  have A28 := A26.go (f' := mkF m 15 #[.val (.ref o0), .val (.ref o1), .val (.int (1 : Int32))] []) fun _ _ X _ k => XS.icmpNo X.here hx rfl (hb hby dm48_12) rfl ((tlt q27).2.1) k
  have A29 := A28.go (f' := mkF m 16 #[.val (.ref o0), .val (.ref o1), .val (.int (1 : Int32))] [(.ref o0)]) fun _ _ X _ k => XS.aloadN X.here hx rfl (hb hby dm48_15) rfl rfl k
  have A30 := A29.go (f' := mkF m 17 #[.val (.ref o0), .val (.ref o1), .val (.int (1 : Int32))] [(.int (1 : Int32)), (.ref o0)]) fun _ _ X _ k => XS.iloadN X.here hx rfl (hb hby dm48_16) rfl k
  have A31 : own_R p l e _ _ m _ below meth c S0 n0 h0 0 0 (mkF m 18 #[.val (.ref o0), .val (.ref o1), .val (.int (1 : Int32))] [(.int (116 : Int32))]) := A30.ldB hx hZ (hb hby dm48_17) V_o0 (by decide) rfl
  have A32 := A31.go (f' := mkF m 19 #[.val (.ref o0), .val (.ref o1), .val (.int (1 : Int32))] [(.ref o1), (.int (116 : Int32))]) fun _ _ X _ k => XS.aloadN X.here hx rfl (hb hby dm48_18) rfl rfl k
  have A33 := A32.go (f' := mkF m 20 #[.val (.ref o0), .val (.ref o1), .val (.int (1 : Int32))] [(.int (1 : Int32)), (.ref o1), (.int (116 : Int32))]) fun _ _ X _ k => XS.iloadN X.here hx rfl (hb hby dm48_19) rfl k
  have A34 : own_R p l e _ _ m _ below meth c S0 n0 h0 0 0 (mkF m 21 #[.val (.ref o0), .val (.ref o1), .val (.int (1 : Int32))] [(.int (116 : Int32)), (.int (116 : Int32))]) := A33.ldB hx hZ (hb hby dm48_20) V_o1 (by decide) rfl
  have q35 : ((116 : Int32) = (116 : Int32)) := rfl
  have A36 := A34.go (f' := mkF m 26 #[.val (.ref o0), .val (.ref o1), .val (.int (1 : Int32))] []) fun _ _ X _ k => XS.icmpYes X.here hx rfl (pc0 := 21) (pc' := 26) rfl (hb hby dm48_21) rfl ((teq q35).1) (by decide) (by decide) k
  have A37 := A36.go (f' := mkF m 29 #[.val (.ref o0), .val (.ref o1), .val (.int (2 : Int32))] []) fun _ _ X _ k => XS.iinc X.here hx rfl (hb hby dm48_26) rfl (l' := #[.val (.ref o0), .val (.ref o1), .val (.int (2 : Int32))]) rfl k
  have A38 := A37.go (f' := mkF m 9 #[.val (.ref o0), .val (.ref o1), .val (.int (2 : Int32))] []) fun _ _ X _ k => XS.goto X.here hx rfl (pc0 := 29) (pc' := 9) rfl (hb hby dm48_29) (by decide) (by decide) k
  have A39 := A38.go (f' := mkF m 10 #[.val (.ref o0), .val (.ref o1), .val (.int (2 : Int32))] [(.int (2 : Int32))]) fun _ _ X _ k => XS.iloadN X.here hx rfl (hb hby dm48_9) rfl k
  have A40 := A39.go (f' := mkF m 11 #[.val (.ref o0), .val (.ref o1), .val (.int (2 : Int32))] [(.ref o0), (.int (2 : Int32))]) fun _ _ X _ k => XS.aloadN X.here hx rfl (hb hby dm48_10) rfl rfl k
  have A41 : own_R p l e _ _ m _ below meth c S0 n0 h0 0 0 (mkF m 12 #[.val (.ref o0), .val (.ref o1), .val (.int (2 : Int32))] [(.int (18 : Int32)), (.int (2 : Int32))]) := A40.len hx hZ (hb hby dm48_11) V_o0
  have q42 : ((2 : Int32) < (18 : Int32)) := by decide
  have A43 := A41.go (f' := mkF m 15 #[.val (.ref o0), .val (.ref o1), .val (.int (2 : Int32))] []) fun _ _ X _ k => XS.icmpNo X.here hx rfl (hb hby dm48_12) rfl ((tlt q42).2.1) k
  have A44 := A43.go (f' := mkF m 16 #[.val (.ref o0), .val (.ref o1), .val (.int (2 : Int32))] [(.ref o0)]) fun _ _ X _ k => XS.aloadN X.here hx rfl (hb hby dm48_15) rfl rfl k
  have A45 := A44.go (f' := mkF m 17 #[.val (.ref o0), .val (.ref o1), .val (.int (2 : Int32))] [(.int (2 : Int32)), (.ref o0)]) fun _ _ X _ k => XS.iloadN X.here hx rfl (hb hby dm48_16) rfl k
  have A46 : own_R p l e _ _ m _ below meth c S0 n0 h0 0 0 (mkF m 18 #[.val (.ref o0), .val (.ref o1), .val (.int (2 : Int32))] [(.int (116 : Int32))]) := A45.ldB hx hZ (hb hby dm48_17) V_o0 (by decide) rfl
  have A47 := A46.go (f' := mkF m 19 #[.val (.ref o0), .val (.ref o1), .val (.int (2 : Int32))] [(.ref o1), (.int (116 : Int32))]) fun _ _ X _ k => XS.aloadN X.here hx rfl (hb hby dm48_18) rfl rfl k
  have A48 := A47.go (f' := mkF m 20 #[.val (.ref o0), .val (.ref o1), .val (.int (2 : Int32))] [(.int (2 : Int32)), (.ref o1), (.int (116 : Int32))]) fun _ _ X _ k => XS.iloadN X.here hx rfl (hb hby dm48_19) rfl k
  have A49 : own_R p l e _ _ m _ below meth c S0 n0 h0 0 0 (mkF m 21 #[.val (.ref o0), .val (.ref o1), .val (.int (2 : Int32))] [(.int (116 : Int32)), (.int (116 : Int32))]) := A48.ldB hx hZ (hb hby dm48_20) V_o1 (by decide) rfl
  have A50 := A49.go (f' := mkF m 26 #[.val (.ref o0), .val (.ref o1), .val (.int (2 : Int32))] []) fun _ _ X _ k => XS.icmpYes X.here hx rfl (pc0 := 21) (pc' := 26) rfl (hb hby dm48_21) rfl ((teq q35).1) (by decide) (by decide) k
  have A51 := A50.go (f' := mkF m 29 #[.val (.ref o0), .val (.ref o1), .val (.int (3 : Int32))] []) fun _ _ X _ k => XS.iinc X.here hx rfl (hb hby dm48_26) rfl (l' := #[.val (.ref o0), .val (.ref o1), .val (.int (3 : Int32))]) rfl k
  have A52 := A51.go (f' := mkF m 9 #[.val (.ref o0), .val (.ref o1), .val (.int (3 : Int32))] []) fun _ _ X _ k => XS.goto X.here hx rfl (pc0 := 29) (pc' := 9) rfl (hb hby dm48_29) (by decide) (by decide) k
  have A53 := A52.go (f' := mkF m 10 #[.val (.ref o0), .val (.ref o1), .val (.int (3 : Int32))] [(.int (3 : Int32))]) fun _ _ X _ k => XS.iloadN X.here hx rfl (hb hby dm48_9) rfl k
  have A54 := A53.go (f' := mkF m 11 #[.val (.ref o0), .val (.ref o1), .val (.int (3 : Int32))] [(.ref o0), (.int (3 : Int32))]) fun _ _ X _ k => XS.aloadN X.here hx rfl (hb hby dm48_10) rfl rfl k
  have A55 : own_R p l e _ _ m _ below meth c S0 n0 h0 0 0 (mkF m 12 #[.val (.ref o0), .val (.ref o1), .val (.int (3 : Int32))] [(.int (18 : Int32)), (.int (3 : Int32))]) := A54.len hx hZ (hb hby dm48_11) V_o0
  have q56 : ((3 : Int32) < (18 : Int32)) := by decide
  have A57 := A55.go (f' := mkF m 15 #[.val (.ref o0), .val (.ref o1), .val (.int (3 : Int32))] []) fun _ _ X _ k => XS.icmpNo X.here hx rfl (hb hby dm48_12) rfl ((tlt q56).2.1) k
  have A58 := A57.go (f' := mkF m 16 #[.val (.ref o0), .val (.ref o1), .val (.int (3 : Int32))] [(.ref o0)]) fun _ _ X _ k => XS.aloadN X.here hx rfl (hb hby dm48_15) rfl rfl k
  have A59 := A58.go (f' := mkF m 17 #[.val (.ref o0), .val (.ref o1), .val (.int (3 : Int32))] [(.int (3 : Int32)), (.ref o0)]) fun _ _ X _ k => XS.iloadN X.here hx rfl (hb hby dm48_16) rfl k
  have A60 : own_R p l e _ _ m _ below meth c S0 n0 h0 0 0 (mkF m 18 #[.val (.ref o0), .val (.ref o1), .val (.int (3 : Int32))] [(.int (112 : Int32))]) := A59.ldB hx hZ (hb hby dm48_17) V_o0 (by decide) rfl
  have A61 := A60.go (f' := mkF m 19 #[.val (.ref o0), .val (.ref o1), .val (.int (3 : Int32))] [(.ref o1), (.int (112 : Int32))]) fun _ _ X _ k => XS.aloadN X.here hx rfl (hb hby dm48_18) rfl rfl k
  have A62 := A61.go (f' := mkF m 20 #[.val (.ref o0), .val (.ref o1), .val (.int (3 : Int32))] [(.int (3 : Int32)), (.ref o1), (.int (112 : Int32))]) fun _ _ X _ k => XS.iloadN X.here hx rfl (hb hby dm48_19) rfl k
  have A63 : own_R p l e _ _ m _ below meth c S0 n0 h0 0 0 (mkF m 21 #[.val (.ref o0), .val (.ref o1), .val (.int (3 : Int32))] [(.int (112 : Int32)), (.int (112 : Int32))]) := A62.ldB hx hZ (hb hby dm48_20) V_o1 (by decide) rfl
  have q64 : ((112 : Int32) = (112 : Int32)) := rfl
  have A65 := A63.go (f' := mkF m 26 #[.val (.ref o0), .val (.ref o1), .val (.int (3 : Int32))] []) fun _ _ X _ k => XS.icmpYes X.here hx rfl (pc0 := 21) (pc' := 26) rfl (hb hby dm48_21) rfl ((teq q64).1) (by decide) (by decide) k
  have A66 := A65.go (f' := mkF m 29 #[.val (.ref o0), .val (.ref o1), .val (.int (4 : Int32))] []) fun _ _ X _ k => XS.iinc X.here hx rfl (hb hby dm48_26) rfl (l' := #[.val (.ref o0), .val (.ref o1), .val (.int (4 : Int32))]) rfl k
  have A67 := A66.go (f' := mkF m 9 #[.val (.ref o0), .val (.ref o1), .val (.int (4 : Int32))] []) fun _ _ X _ k => XS.goto X.here hx rfl (pc0 := 29) (pc' := 9) rfl (hb hby dm48_29) (by decide) (by decide) k
  have A68 := A67.go (f' := mkF m 10 #[.val (.ref o0), .val (.ref o1), .val (.int (4 : Int32))] [(.int (4 : Int32))]) fun _ _ X _ k => XS.iloadN X.here hx rfl (hb hby dm48_9) rfl k
  have A69 := A68.go (f' := mkF m 11 #[.val (.ref o0), .val (.ref o1), .val (.int (4 : Int32))] [(.ref o0), (.int (4 : Int32))]) fun _ _ X _ k => XS.aloadN X.here hx rfl (hb hby dm48_10) rfl rfl k
  have A70 : own_R p l e _ _ m _ below meth c S0 n0 h0 0 0 (mkF m 12 #[.val (.ref o0), .val (.ref o1), .val (.int (4 : Int32))] [(.int (18 : Int32)), (.int (4 : Int32))]) := A69.len hx hZ (hb hby dm48_11) V_o0
  have q71 : ((4 : Int32) < (18 : Int32)) := by decide
  have A72 := A70.go (f' := mkF m 15 #[.val (.ref o0), .val (.ref o1), .val (.int (4 : Int32))] []) fun _ _ X _ k => XS.icmpNo X.here hx rfl (hb hby dm48_12) rfl ((tlt q71).2.1) k
  have A73 := A72.go (f' := mkF m 16 #[.val (.ref o0), .val (.ref o1), .val (.int (4 : Int32))] [(.ref o0)]) fun _ _ X _ k => XS.aloadN X.here hx rfl (hb hby dm48_15) rfl rfl k
  have A74 := A73.go (f' := mkF m 17 #[.val (.ref o0), .val (.ref o1), .val (.int (4 : Int32))] [(.int (4 : Int32)), (.ref o0)]) fun _ _ X _ k => XS.iloadN X.here hx rfl (hb hby dm48_16) rfl k
  have A75 : own_R p l e _ _ m _ below meth c S0 n0 h0 0 0 (mkF m 18 #[.val (.ref o0), .val (.ref o1), .val (.int (4 : Int32))] [(.int (58 : Int32))]) := A74.ldB hx hZ (hb hby dm48_17) V_o0 (by decide) rfl
  have A76 := A75.go (f' := mkF m 19 #[.val (.ref o0), .val (.ref o1), .val (.int (4 : Int32))] [(.ref o1), (.int (58 : Int32))]) fun _ _ X _ k => XS.aloadN X.here hx rfl (hb hby dm48_18) rfl rfl k
  have A77 := A76.go (f' := mkF m 20 #[.val (.ref o0), .val (.ref o1), .val (.int (4 : Int32))] [(.int (4 : Int32)), (.ref o1), (.int (58 : Int32))]) fun _ _ X _ k => XS.iloadN X.here hx rfl (hb hby dm48_19) rfl k
  have A78 : own_R p l e _ _ m _ below meth c S0 n0 h0 0 0 (mkF m 21 #[.val (.ref o0), .val (.ref o1), .val (.int (4 : Int32))] [(.int (58 : Int32)), (.int (58 : Int32))]) := A77.ldB hx hZ (hb hby dm48_20) V_o1 (by decide) rfl
  have q79 : ((58 : Int32) = (58 : Int32)) := rfl
  have A80 := A78.go (f' := mkF m 26 #[.val (.ref o0), .val (.ref o1), .val (.int (4 : Int32))] []) fun _ _ X _ k => XS.icmpYes X.here hx rfl (pc0 := 21) (pc' := 26) rfl (hb hby dm48_21) rfl ((teq q79).1) (by decide) (by decide) k
  have A81 := A80.go (f' := mkF m 29 #[.val (.ref o0), .val (.ref o1), .val (.int (5 : Int32))] []) fun _ _ X _ k => XS.iinc X.here hx rfl (hb hby dm48_26) rfl (l' := #[.val (.ref o0), .val (.ref o1), .val (.int (5 : Int32))]) rfl k
  have A82 := A81.go (f' := mkF m 9 #[.val (.ref o0), .val (.ref o1), .val (.int (5 : Int32))] []) fun _ _ X _ k => XS.goto X.here hx rfl (pc0 := 29) (pc' := 9) rfl (hb hby dm48_29) (by decide) (by decide) k
  have A83 := A82.go (f' := mkF m 10 #[.val (.ref o0), .val (.ref o1), .val (.int (5 : Int32))] [(.int (5 : Int32))]) fun _ _ X _ k => XS.iloadN X.here hx rfl (hb hby dm48_9) rfl k
  have A84 := A83.go (f' := mkF m 11 #[.val (.ref o0), .val (.ref o1), .val (.int (5 : Int32))] [(.ref o0), (.int (5 : Int32))]) fun _ _ X _ k => XS.aloadN X.here hx rfl (hb hby dm48_10) rfl rfl k
  have A85 : own_R p l e _ _ m _ below meth c S0 n0 h0 0 0 (mkF m 12 #[.val (.ref o0), .val (.ref o1), .val (.int (5 : Int32))] [(.int (18 : Int32)), (.int (5 : Int32))]) := A84.len hx hZ (hb hby dm48_11) V_o0
  have q86 : ((5 : Int32) < (18 : Int32)) := by decide
  have A87 := A85.go (f' := mkF m 15 #[.val (.ref o0), .val (.ref o1), .val (.int (5 : Int32))] []) fun _ _ X _ k => XS.icmpNo X.here hx rfl (hb hby dm48_12) rfl ((tlt q86).2.1) k
  have A88 := A87.go (f' := mkF m 16 #[.val (.ref o0), .val (.ref o1), .val (.int (5 : Int32))] [(.ref o0)]) fun _ _ X _ k => XS.aloadN X.here hx rfl (hb hby dm48_15) rfl rfl k
  have A89 := A88.go (f' := mkF m 17 #[.val (.ref o0), .val (.ref o1), .val (.int (5 : Int32))] [(.int (5 : Int32)), (.ref o0)]) fun _ _ X _ k => XS.iloadN X.here hx rfl (hb hby dm48_16) rfl k
  have A90 : own_R p l e _ _ m _ below meth c S0 n0 h0 0 0 (mkF m 18 #[.val (.ref o0), .val (.ref o1), .val (.int (5 : Int32))] [(.int (47 : Int32))]) := A89.ldB hx hZ (hb hby dm48_17) V_o0 (by decide) rfl
  have A91 := A90.go (f' := mkF m 19 #[.val (.ref o0), .val (.ref o1), .val (.int (5 : Int32))] [(.ref o1), (.int (47 : Int32))]) fun _ _ X _ k => XS.aloadN X.here hx rfl (hb hby dm48_18) rfl rfl k
  have A92 := A91.go (f' := mkF m 20 #[.val (.ref o0), .val (.ref o1), .val (.int (5 : Int32))] [(.int (5 : Int32)), (.ref o1), (.int (47 : Int32))]) fun _ _ X _ k => XS.iloadN X.here hx rfl (hb hby dm48_19) rfl k
  have A93 : own_R p l e _ _ m _ below meth c S0 n0 h0 0 0 (mkF m 21 #[.val (.ref o0), .val (.ref o1), .val (.int (5 : Int32))] [(.int (47 : Int32)), (.int (47 : Int32))]) := A92.ldB hx hZ (hb hby dm48_20) V_o1 (by decide) rfl
  have q94 : ((47 : Int32) = (47 : Int32)) := rfl
  have A95 := A93.go (f' := mkF m 26 #[.val (.ref o0), .val (.ref o1), .val (.int (5 : Int32))] []) fun _ _ X _ k => XS.icmpYes X.here hx rfl (pc0 := 21) (pc' := 26) rfl (hb hby dm48_21) rfl ((teq q94).1) (by decide) (by decide) k
  have A96 := A95.go (f' := mkF m 29 #[.val (.ref o0), .val (.ref o1), .val (.int (6 : Int32))] []) fun _ _ X _ k => XS.iinc X.here hx rfl (hb hby dm48_26) rfl (l' := #[.val (.ref o0), .val (.ref o1), .val (.int (6 : Int32))]) rfl k
  have A97 := A96.go (f' := mkF m 9 #[.val (.ref o0), .val (.ref o1), .val (.int (6 : Int32))] []) fun _ _ X _ k => XS.goto X.here hx rfl (pc0 := 29) (pc' := 9) rfl (hb hby dm48_29) (by decide) (by decide) k
  have A98 := A97.go (f' := mkF m 10 #[.val (.ref o0), .val (.ref o1), .val (.int (6 : Int32))] [(.int (6 : Int32))]) fun _ _ X _ k => XS.iloadN X.here hx rfl (hb hby dm48_9) rfl k
  have A99 := A98.go (f' := mkF m 11 #[.val (.ref o0), .val (.ref o1), .val (.int (6 : Int32))] [(.ref o0), (.int (6 : Int32))]) fun _ _ X _ k => XS.aloadN X.here hx rfl (hb hby dm48_10) rfl rfl k
  have A100 : own_R p l e _ _ m _ below meth c S0 n0 h0 0 0 (mkF m 12 #[.val (.ref o0), .val (.ref o1), .val (.int (6 : Int32))] [(.int (18 : Int32)), (.int (6 : Int32))]) := A99.len hx hZ (hb hby dm48_11) V_o0
  have q101 : ((6 : Int32) < (18 : Int32)) := by decide
  have A102 := A100.go (f' := mkF m 15 #[.val (.ref o0), .val (.ref o1), .val (.int (6 : Int32))] []) fun _ _ X _ k => XS.icmpNo X.here hx rfl (hb hby dm48_12) rfl ((tlt q101).2.1) k
  have A103 := A102.go (f' := mkF m 16 #[.val (.ref o0), .val (.ref o1), .val (.int (6 : Int32))] [(.ref o0)]) fun _ _ X _ k => XS.aloadN X.here hx rfl (hb hby dm48_15) rfl rfl k
  have A104 := A103.go (f' := mkF m 17 #[.val (.ref o0), .val (.ref o1), .val (.int (6 : Int32))] [(.int (6 : Int32)), (.ref o0)]) fun _ _ X _ k => XS.iloadN X.here hx rfl (hb hby dm48_16) rfl k
  have A105 : own_R p l e _ _ m _ below meth c S0 n0 h0 0 0 (mkF m 18 #[.val (.ref o0), .val (.ref o1), .val (.int (6 : Int32))] [(.int (47 : Int32))]) := A104.ldB hx hZ (hb hby dm48_17) V_o0 (by decide) rfl
  have A106 := A105.go (f' := mkF m 19 #[.val (.ref o0), .val (.ref o1), .val (.int (6 : Int32))] [(.ref o1), (.int (47 : Int32))]) fun _ _ X _ k => XS.aloadN X.here hx rfl (hb hby dm48_18) rfl rfl k
  have A107 := A106.go (f' := mkF m 20 #[.val (.ref o0), .val (.ref o1), .val (.int (6 : Int32))] [(.int (6 : Int32)), (.ref o1), (.int (47 : Int32))]) fun _ _ X _ k => XS.iloadN X.here hx rfl (hb hby dm48_19) rfl k
  have A108 : own_R p l e _ _ m _ below meth c S0 n0 h0 0 0 (mkF m 21 #[.val (.ref o0), .val (.ref o1), .val (.int (6 : Int32))] [(.int (47 : Int32)), (.int (47 : Int32))]) := A107.ldB hx hZ (hb hby dm48_20) V_o1 (by decide) rfl
  have A109 := A108.go (f' := mkF m 26 #[.val (.ref o0), .val (.ref o1), .val (.int (6 : Int32))] []) fun _ _ X _ k => XS.icmpYes X.here hx rfl (pc0 := 21) (pc' := 26) rfl (hb hby dm48_21) rfl ((teq q94).1) (by decide) (by decide) k
  have A110 := A109.go (f' := mkF m 29 #[.val (.ref o0), .val (.ref o1), .val (.int (7 : Int32))] []) fun _ _ X _ k => XS.iinc X.here hx rfl (hb hby dm48_26) rfl (l' := #[.val (.ref o0), .val (.ref o1), .val (.int (7 : Int32))]) rfl k
  have A111 := A110.go (f' := mkF m 9 #[.val (.ref o0), .val (.ref o1), .val (.int (7 : Int32))] []) fun _ _ X _ k => XS.goto X.here hx rfl (pc0 := 29) (pc' := 9) rfl (hb hby dm48_29) (by decide) (by decide) k
  have A112 := A111.go (f' := mkF m 10 #[.val (.ref o0), .val (.ref o1), .val (.int (7 : Int32))] [(.int (7 : Int32))]) fun _ _ X _ k => XS.iloadN X.here hx rfl (hb hby dm48_9) rfl k
  have A113 := A112.go (f' := mkF m 11 #[.val (.ref o0), .val (.ref o1), .val (.int (7 : Int32))] [(.ref o0), (.int (7 : Int32))]) fun _ _ X _ k => XS.aloadN X.here hx rfl (hb hby dm48_10) rfl rfl k
  have A114 : own_R p l e _ _ m _ below meth c S0 n0 h0 0 0 (mkF m 12 #[.val (.ref o0), .val (.ref o1), .val (.int (7 : Int32))] [(.int (18 : Int32)), (.int (7 : Int32))]) := A113.len hx hZ (hb hby dm48_11) V_o0
  have q115 : ((7 : Int32) < (18 : Int32)) := by decide
  have A116 := A114.go (f' := mkF m 15 #[.val (.ref o0), .val (.ref o1), .val (.int (7 : Int32))] []) fun _ _ X _ k => XS.icmpNo X.here hx rfl (hb hby dm48_12) rfl ((tlt q115).2.1) k
  have A117 := A116.go (f' := mkF m 16 #[.val (.ref o0), .val (.ref o1), .val (.int (7 : Int32))] [(.ref o0)]) fun _ _ X _ k => XS.aloadN X.here hx rfl (hb hby dm48_15) rfl rfl k
  have A118 := A117.go (f' := mkF m 17 #[.val (.ref o0), .val (.ref o1), .val (.int (7 : Int32))] [(.int (7 : Int32)), (.ref o0)]) fun _ _ X _ k => XS.iloadN X.here hx rfl (hb hby dm48_16) rfl k
  have A119 : own_R p l e _ _ m _ below meth c S0 n0 h0 0 0 (mkF m 18 #[.val (.ref o0), .val (.ref o1), .val (.int (7 : Int32))] [(.int (49 : Int32))]) := A118.ldB hx hZ (hb hby dm48_17) V_o0 (by decide) rfl
  have A120 := A119.go (f' := mkF m 19 #[.val (.ref o0), .val (.ref o1), .val (.int (7 : Int32))] [(.ref o1), (.int (49 : Int32))]) fun _ _ X _ k => XS.aloadN X.here hx rfl (hb hby dm48_18) rfl rfl k
  have A121 := A120.go (f' := mkF m 20 #[.val (.ref o0), .val (.ref o1), .val (.int (7 : Int32))] [(.int (7 : Int32)), (.ref o1), (.int (49 : Int32))]) fun _ _ X _ k => XS.iloadN X.here hx rfl (hb hby dm48_19) rfl k
  have A122 : own_R p l e _ _ m _ below meth c S0 n0 h0 0 0 (mkF m 21 #[.val (.ref o0), .val (.ref o1), .val (.int (7 : Int32))] [(.int (49 : Int32)), (.int (49 : Int32))]) := A121.ldB hx hZ (hb hby dm48_20) V_o1 (by decide) rfl
  have q123 : ((49 : Int32) = (49 : Int32)) := rfl
  have A124 := A122.go (f' := mkF m 26 #[.val (.ref o0), .val (.ref o1), .val (.int (7 : Int32))] []) fun _ _ X _ k => XS.icmpYes X.here hx rfl (pc0 := 21) (pc' := 26) rfl (hb hby dm48_21) rfl ((teq q123).1) (by decide) (by decide) k
  have A125 := A124.go (f' := mkF m 29 #[.val (.ref o0), .val (.ref o1), .val (.int (8 : Int32))] []) fun _ _ X _ k => XS.iinc X.here hx rfl (hb hby dm48_26) rfl (l' := #[.val (.ref o0), .val (.ref o1), .val (.int (8 : Int32))]) rfl k
  have A126 := A125.go (f' := mkF m 9 #[.val (.ref o0), .val (.ref o1), .val (.int (8 : Int32))] []) fun _ _ X _ k => XS.goto X.here hx rfl (pc0 := 29) (pc' := 9) rfl (hb hby dm48_29) (by decide) (by decide) k
  have A127 := A126.go (f' := mkF m 10 #[.val (.ref o0), .val (.ref o1), .val (.int (8 : Int32))] [(.int (8 : Int32))]) fun _ _ X _ k => XS.iloadN X.here hx rfl (hb hby dm48_9) rfl k
  have A128 := A127.go (f' := mkF m 11 #[.val (.ref o0), .val (.ref o1), .val (.int (8 : Int32))] [(.ref o0), (.int (8 : Int32))]) fun _ _ X _ k => XS.aloadN X.here hx rfl (hb hby dm48_10) rfl rfl k
  have A129 : own_R p l e _ _ m _ below meth c S0 n0 h0 0 0 (mkF m 12 #[.val (.ref o0), .val (.ref o1), .val (.int (8 : Int32))] [(.int (18 : Int32)), (.int (8 : Int32))]) := A128.len hx hZ (hb hby dm48_11) V_o0
  have q130 : ((8 : Int32) < (18 : Int32)) := by decide
  have A131 := A129.go (f' := mkF m 15 #[.val (.ref o0), .val (.ref o1), .val (.int (8 : Int32))] []) fun _ _ X _ k => XS.icmpNo X.here hx rfl (hb hby dm48_12) rfl ((tlt q130).2.1) k
  have A132 := A131.go (f' := mkF m 16 #[.val (.ref o0), .val (.ref o1), .val (.int (8 : Int32))] [(.ref o0)]) fun _ _ X _ k => XS.aloadN X.here hx rfl (hb hby dm48_15) rfl rfl k
  have A133 := A132.go (f' := mkF m 17 #[.val (.ref o0), .val (.ref o1), .val (.int (8 : Int32))] [(.int (8 : Int32)), (.ref o0)]) fun _ _ X _ k => XS.iloadN X.here hx rfl (hb hby dm48_16) rfl k
  have A134 : own_R p l e _ _ m _ below meth c S0 n0 h0 0 0 (mkF m 18 #[.val (.ref o0), .val (.ref o1), .val (.int (8 : Int32))] [(.int (50 : Int32))]) := A133.ldB hx hZ (hb hby dm48_17) V_o0 (by decide) rfl
  have A135 := A134.go (f' := mkF m 19 #[.val (.ref o0), .val (.ref o1), .val (.int (8 : Int32))] [(.ref o1), (.int (50 : Int32))]) fun _ _ X _ k => XS.aloadN X.here hx rfl (hb hby dm48_18) rfl rfl k
  have A136 := A135.go (f' := mkF m 20 #[.val (.ref o0), .val (.ref o1), .val (.int (8 : Int32))] [(.int (8 : Int32)), (.ref o1), (.int (50 : Int32))]) fun _ _ X _ k => XS.iloadN X.here hx rfl (hb hby dm48_19) rfl k
  have A137 : own_R p l e _ _ m _ below meth c S0 n0 h0 0 0 (mkF m 21 #[.val (.ref o0), .val (.ref o1), .val (.int (8 : Int32))] [(.int (50 : Int32)), (.int (50 : Int32))]) := A136.ldB hx hZ (hb hby dm48_20) V_o1 (by decide) rfl
  have q138 : ((50 : Int32) = (50 : Int32)) := rfl
  have A139 := A137.go (f' := mkF m 26 #[.val (.ref o0), .val (.ref o1), .val (.int (8 : Int32))] []) fun _ _ X _ k => XS.icmpYes X.here hx rfl (pc0 := 21) (pc' := 26) rfl (hb hby dm48_21) rfl ((teq q138).1) (by decide) (by decide) k
  have A140 := A139.go (f' := mkF m 29 #[.val (.ref o0), .val (.ref o1), .val (.int (9 : Int32))] []) fun _ _ X _ k => XS.iinc X.here hx rfl (hb hby dm48_26) rfl (l' := #[.val (.ref o0), .val (.ref o1), .val (.int (9 : Int32))]) rfl k
  have A141 := A140.go (f' := mkF m 9 #[.val (.ref o0), .val (.ref o1), .val (.int (9 : Int32))] []) fun _ _ X _ k => XS.goto X.here hx rfl (pc0 := 29) (pc' := 9) rfl (hb hby dm48_29) (by decide) (by decide) k
  have A142 := A141.go (f' := mkF m 10 #[.val (.ref o0), .val (.ref o1), .val (.int (9 : Int32))] [(.int (9 : Int32))]) fun _ _ X _ k => XS.iloadN X.here hx rfl (hb hby dm48_9) rfl k
  have A143 := A142.go (f' := mkF m 11 #[.val (.ref o0), .val (.ref o1), .val (.int (9 : Int32))] [(.ref o0), (.int (9 : Int32))]) fun _ _ X _ k => XS.aloadN X.here hx rfl (hb hby dm48_10) rfl rfl k
  have A144 : own_R p l e _ _ m _ below meth c S0 n0 h0 0 0 (mkF m 12 #[.val (.ref o0), .val (.ref o1), .val (.int (9 : Int32))] [(.int (18 : Int32)), (.int (9 : Int32))]) := A143.len hx hZ (hb hby dm48_11) V_o0
  have q145 : ((9 : Int32) < (18 : Int32)) := by decide
  have A146 := A144.go (f' := mkF m 15 #[.val (.ref o0), .val (.ref o1), .val (.int (9 : Int32))] []) fun _ _ X _ k => XS.icmpNo X.here hx rfl (hb hby dm48_12) rfl ((tlt q145).2.1) k
  have A147 := A146.go (f' := mkF m 16 #[.val (.ref o0), .val (.ref o1), .val (.int (9 : Int32))] [(.ref o0)]) fun _ _ X _ k => XS.aloadN X.here hx rfl (hb hby dm48_15) rfl rfl k
  have A148 := A147.go (f' := mkF m 17 #[.val (.ref o0), .val (.ref o1), .val (.int (9 : Int32))] [(.int (9 : Int32)), (.ref o0)]) fun _ _ X _ k => XS.iloadN X.here hx rfl (hb hby dm48_16) rfl k
  have A149 : own_R p l e _ _ m _ below meth c S0 n0 h0 0 0 (mkF m 18 #[.val (.ref o0), .val (.ref o1), .val (.int (9 : Int32))] [(.int (55 : Int32))]) := A148.ldB hx hZ (hb hby dm48_17) V_o0 (by decide) rfl
  have A150 := A149.go (f' := mkF m 19 #[.val (.ref o0), .val (.ref o1), .val (.int (9 : Int32))] [(.ref o1), (.int (55 : Int32))]) fun _ _ X _ k => XS.aloadN X.here hx rfl (hb hby dm48_18) rfl rfl k
  have A151 := A150.go (f' := mkF m 20 #[.val (.ref o0), .val (.ref o1), .val (.int (9 : Int32))] [(.int (9 : Int32)), (.ref o1), (.int (55 : Int32))]) fun _ _ X _ k => XS.iloadN X.here hx rfl (hb hby dm48_19) rfl k
  have A152 : own_R p l e _ _ m _ below meth c S0 n0 h0 0 0 (mkF m 21 #[.val (.ref o0), .val (.ref o1), .val (.int (9 : Int32))] [(.int (55 : Int32)), (.int (55 : Int32))]) := A151.ldB hx hZ (hb hby dm48_20) V_o1 (by decide) rfl
  have q153 : ((55 : Int32) = (55 : Int32)) := rfl
  have A154 := A152.go (f' := mkF m 26 #[.val (.ref o0), .val (.ref o1), .val (.int (9 : Int32))] []) fun _ _ X _ k => XS.icmpYes X.here hx rfl (pc0 := 21) (pc' := 26) rfl (hb hby dm48_21) rfl ((teq q153).1) (by decide) (by decide) k
  have A155 := A154.go (f' := mkF m 29 #[.val (.ref o0), .val (.ref o1), .val (.int (10 : Int32))] []) fun _ _ X _ k => XS.iinc X.here hx rfl (hb hby dm48_26) rfl (l' := #[.val (.ref o0), .val (.ref o1), .val (.int (10 : Int32))]) rfl k
  have A156 := A155.go (f' := mkF m 9 #[.val (.ref o0), .val (.ref o1), .val (.int (10 : Int32))] []) fun _ _ X _ k => XS.goto X.here hx rfl (pc0 := 29) (pc' := 9) rfl (hb hby dm48_29) (by decide) (by decide) k
  have A157 := A156.go (f' := mkF m 10 #[.val (.ref o0), .val (.ref o1), .val (.int (10 : Int32))] [(.int (10 : Int32))]) fun _ _ X _ k => XS.iloadN X.here hx rfl (hb hby dm48_9) rfl k
  have A158 := A157.go (f' := mkF m 11 #[.val (.ref o0), .val (.ref o1), .val (.int (10 : Int32))] [(.ref o0), (.int (10 : Int32))]) fun _ _ X _ k => XS.aloadN X.here hx rfl (hb hby dm48_10) rfl rfl k
  have A159 : own_R p l e _ _ m _ below meth c S0 n0 h0 0 0 (mkF m 12 #[.val (.ref o0), .val (.ref o1), .val (.int (10 : Int32))] [(.int (18 : Int32)), (.int (10 : Int32))]) := A158.len hx hZ (hb hby dm48_11) V_o0
  have q160 : ((10 : Int32) < (18 : Int32)) := by decide
  have A161 := A159.go (f' := mkF m 15 #[.val (.ref o0), .val (.ref o1), .val (.int (10 : Int32))] []) fun _ _ X _ k => XS.icmpNo X.here hx rfl (hb hby dm48_12) rfl ((tlt q160).2.1) k
  have A162 := A161.go (f' := mkF m 16 #[.val (.ref o0), .val (.ref o1), .val (.int (10 : Int32))] [(.ref o0)]) fun _ _ X _ k => XS.aloadN X.here hx rfl (hb hby dm48_15) rfl rfl k
  have A163 := A162.go (f' := mkF m 17 #[.val (.ref o0), .val (.ref o1), .val (.int (10 : Int32))] [(.int (10 : Int32)), (.ref o0)]) fun _ _ X _ k => XS.iloadN X.here hx rfl (hb hby dm48_16) rfl k
  have A164 : own_R p l e _ _ m _ below meth c S0 n0 h0 0 0 (mkF m 18 #[.val (.ref o0), .val (.ref o1), .val (.int (10 : Int32))] [(.int (46 : Int32))]) := A163.ldB hx hZ (hb hby dm48_17) V_o0 (by decide) rfl
  have A165 := A164.go (f' := mkF m 19 #[.val (.ref o0), .val (.ref o1), .val (.int (10 : Int32))] [(.ref o1), (.int (46 : Int32))]) fun _ _ X _ k => XS.aloadN X.here hx rfl (hb hby dm48_18) rfl rfl k
  have A166 := A165.go (f' := mkF m 20 #[.val (.ref o0), .val (.ref o1), .val (.int (10 : Int32))] [(.int (10 : Int32)), (.ref o1), (.int (46 : Int32))]) fun _ _ X _ k => XS.iloadN X.here hx rfl (hb hby dm48_19) rfl k
  have A167 : own_R p l e _ _ m _ below meth c S0 n0 h0 0 0 (mkF m 21 #[.val (.ref o0), .val (.ref o1), .val (.int (10 : Int32))] [(.int (46 : Int32)), (.int (46 : Int32))]) := A166.ldB hx hZ (hb hby dm48_20) V_o1 (by decide) rfl
  have q168 : ((46 : Int32) = (46 : Int32)) := rfl
  have A169 := A167.go (f' := mkF m 26 #[.val (.ref o0), .val (.ref o1), .val (.int (10 : Int32))] []) fun _ _ X _ k => XS.icmpYes X.here hx rfl (pc0 := 21) (pc' := 26) rfl (hb hby dm48_21) rfl ((teq q168).1) (by decide) (by decide) k
  have A170 := A169.go (f' := mkF m 29 #[.val (.ref o0), .val (.ref o1), .val (.int (11 : Int32))] []) fun _ _ X _ k => XS.iinc X.here hx rfl (hb hby dm48_26) rfl (l' := #[.val (.ref o0), .val (.ref o1), .val (.int (11 : Int32))]) rfl k
  have A171 := A170.go (f' := mkF m 9 #[.val (.ref o0), .val (.ref o1), .val (.int (11 : Int32))] []) fun _ _ X _ k => XS.goto X.here hx rfl (pc0 := 29) (pc' := 9) rfl (hb hby dm48_29) (by decide) (by decide) k
  have A172 := A171.go (f' := mkF m 10 #[.val (.ref o0), .val (.ref o1), .val (.int (11 : Int32))] [(.int (11 : Int32))]) fun _ _ X _ k => XS.iloadN X.here hx rfl (hb hby dm48_9) rfl k
  have A173 := A172.go (f' := mkF m 11 #[.val (.ref o0), .val (.ref o1), .val (.int (11 : Int32))] [(.ref o0), (.int (11 : Int32))]) fun _ _ X _ k => XS.aloadN X.here hx rfl (hb hby dm48_10) rfl rfl k
  have A174 : own_R p l e _ _ m _ below meth c S0 n0 h0 0 0 (mkF m 12 #[.val (.ref o0), .val (.ref o1), .val (.int (11 : Int32))] [(.int (18 : Int32)), (.int (11 : Int32))]) := A173.len hx hZ (hb hby dm48_11) V_o0
  have q175 : ((11 : Int32) < (18 : Int32)) := by decide
  have A176 := A174.go (f' := mkF m 15 #[.val (.ref o0), .val (.ref o1), .val (.int (11 : Int32))] []) fun _ _ X _ k => XS.icmpNo X.here hx rfl (hb hby dm48_12) rfl ((tlt q175).2.1) k
  have A177 := A176.go (f' := mkF m 16 #[.val (.ref o0), .val (.ref o1), .val (.int (11 : Int32))] [(.ref o0)]) fun _ _ X _ k => XS.aloadN X.here hx rfl (hb hby dm48_15) rfl rfl k
  have A178 := A177.go (f' := mkF m 17 #[.val (.ref o0), .val (.ref o1), .val (.int (11 : Int32))] [(.int (11 : Int32)), (.ref o0)]) fun _ _ X _ k => XS.iloadN X.here hx rfl (hb hby dm48_16) rfl k
  have A179 : own_R p l e _ _ m _ below meth c S0 n0 h0 0 0 (mkF m 18 #[.val (.ref o0), .val (.ref o1), .val (.int (11 : Int32))] [(.int (48 : Int32))]) := A178.ldB hx hZ (hb hby dm48_17) V_o0 (by decide) rfl
  have A180 := A179.go (f' := mkF m 19 #[.val (.ref o0), .val (.ref o1), .val (.int (11 : Int32))] [(.ref o1), (.int (48 : Int32))]) fun _ _ X _ k => XS.aloadN X.here hx rfl (hb hby dm48_18) rfl rfl k
  have A181 := A180.go (f' := mkF m 20 #[.val (.ref o0), .val (.ref o1), .val (.int (11 : Int32))] [(.int (11 : Int32)), (.ref o1), (.int (48 : Int32))]) fun _ _ X _ k => XS.iloadN X.here hx rfl (hb hby dm48_19) rfl k
  have A182 : own_R p l e _ _ m _ below meth c S0 n0 h0 0 0 (mkF m 21 #[.val (.ref o0), .val (.ref o1), .val (.int (11 : Int32))] [(.int (48 : Int32)), (.int (48 : Int32))]) := A181.ldB hx hZ (hb hby dm48_20) V_o1 (by decide) rfl
  have q183 : ((48 : Int32) = (48 : Int32)) := rfl
  have A184 := A182.go (f' := mkF m 26 #[.val (.ref o0), .val (.ref o1), .val (.int (11 : Int32))] []) fun _ _ X _ k => XS.icmpYes X.here hx rfl (pc0 := 21) (pc' := 26) rfl (hb hby dm48_21) rfl ((teq q183).1) (by decide) (by decide) k
  have A185 := A184.go (f' := mkF m 29 #[.val (.ref o0), .val (.ref o1), .val (.int (12 : Int32))] []) fun _ _ X _ k => XS.iinc X.here hx rfl (hb hby dm48_26) rfl (l' := #[.val (.ref o0), .val (.ref o1), .val (.int (12 : Int32))]) rfl k
  have A186 := A185.go (f' := mkF m 9 #[.val (.ref o0), .val (.ref o1), .val (.int (12 : Int32))] []) fun _ _ X _ k => XS.goto X.here hx rfl (pc0 := 29) (pc' := 9) rfl (hb hby dm48_29) (by decide) (by decide) k
  have A187 := A186.go (f' := mkF m 10 #[.val (.ref o0), .val (.ref o1), .val (.int (12 : Int32))] [(.int (12 : Int32))]) fun _ _ X _ k => XS.iloadN X.here hx rfl (hb hby dm48_9) rfl k
  have A188 := A187.go (f' := mkF m 11 #[.val (.ref o0), .val (.ref o1), .val (.int (12 : Int32))] [(.ref o0), (.int (12 : Int32))]) fun _ _ X _ k => XS.aloadN X.here hx rfl (hb hby dm48_10) rfl rfl k
  have A189 : own_R p l e _ _ m _ below meth c S0 n0 h0 0 0 (mkF m 12 #[.val (.ref o0), .val (.ref o1), .val (.int (12 : Int32))] [(.int (18 : Int32)), (.int (12 : Int32))]) := A188.len hx hZ (hb hby dm48_11) V_o0
  have q190 : ((12 : Int32) < (18 : Int32)) := by decide
  have A191 := A189.go (f' := mkF m 15 #[.val (.ref o0), .val (.ref o1), .val (.int (12 : Int32))] []) fun _ _ X _ k => XS.icmpNo X.here hx rfl (hb hby dm48_12) rfl ((tlt q190).2.1) k
  have A192 := A191.go (f' := mkF m 16 #[.val (.ref o0), .val (.ref o1), .val (.int (12 : Int32))] [(.ref o0)]) fun _ _ X _ k => XS.aloadN X.here hx rfl (hb hby dm48_15) rfl rfl k
  have A193 := A192.go (f' := mkF m 17 #[.val (.ref o0), .val (.ref o1), .val (.int (12 : Int32))] [(.int (12 : Int32)), (.ref o0)]) fun _ _ X _ k => XS.iloadN X.here hx rfl (hb hby dm48_16) rfl k
  have A194 : own_R p l e _ _ m _ below meth c S0 n0 h0 0 0 (mkF m 18 #[.val (.ref o0), .val (.ref o1), .val (.int (12 : Int32))] [(.int (46 : Int32))]) := A193.ldB hx hZ (hb hby dm48_17) V_o0 (by decide) rfl
  have A195 := A194.go (f' := mkF m 19 #[.val (.ref o0), .val (.ref o1), .val (.int (12 : Int32))] [(.ref o1), (.int (46 : Int32))]) fun _ _ X _ k => XS.aloadN X.here hx rfl (hb hby dm48_18) rfl rfl k
  have A196 := A195.go (f' := mkF m 20 #[.val (.ref o0), .val (.ref o1), .val (.int (12 : Int32))] [(.int (12 : Int32)), (.ref o1), (.int (46 : Int32))]) fun _ _ X _ k => XS.iloadN X.here hx rfl (hb hby dm48_19) rfl k
  have A197 : own_R p l e _ _ m _ below meth c S0 n0 h0 0 0 (mkF m 21 #[.val (.ref o0), .val (.ref o1), .val (.int (12 : Int32))] [(.int (46 : Int32)), (.int (46 : Int32))]) := A196.ldB hx hZ (hb hby dm48_20) V_o1 (by decide) rfl
  have A198 := A197.go (f' := mkF m 26 #[.val (.ref o0), .val (.ref o1), .val (.int (12 : Int32))] []) fun _ _ X _ k => XS.icmpYes X.here hx rfl (pc0 := 21) (pc' := 26) rfl (hb hby dm48_21) rfl ((teq q168).1) (by decide) (by decide) k
  have A199 := A198.go (f' := mkF m 29 #[.val (.ref o0), .val (.ref o1), .val (.int (13 : Int32))] []) fun _ _ X _ k => XS.iinc X.here hx rfl (hb hby dm48_26) rfl (l' := #[.val (.ref o0), .val (.ref o1), .val (.int (13 : Int32))]) rfl k
  have A200 := A199.go (f' := mkF m 9 #[.val (.ref o0), .val (.ref o1), .val (.int (13 : Int32))] []) fun _ _ X _ k => XS.goto X.here hx rfl (pc0 := 29) (pc' := 9) rfl (hb hby dm48_29) (by decide) (by decide) k
  have A201 := A200.go (f' := mkF m 10 #[.val (.ref o0), .val (.ref o1), .val (.int (13 : Int32))] [(.int (13 : Int32))]) fun _ _ X _ k => XS.iloadN X.here hx rfl (hb hby dm48_9) rfl k
  have A202 := A201.go (f' := mkF m 11 #[.val (.ref o0), .val (.ref o1), .val (.int (13 : Int32))] [(.ref o0), (.int (13 : Int32))]) fun _ _ X _ k => XS.aloadN X.here hx rfl (hb hby dm48_10) rfl rfl k
  have A203 : own_R p l e _ _ m _ below meth c S0 n0 h0 0 0 (mkF m 12 #[.val (.ref o0), .val (.ref o1), .val (.int (13 : Int32))] [(.int (18 : Int32)), (.int (13 : Int32))]) := A202.len hx hZ (hb hby dm48_11) V_o0
  have q204 : ((13 : Int32) < (18 : Int32)) := by decide
  have A205 := A203.go (f' := mkF m 15 #[.val (.ref o0), .val (.ref o1), .val (.int (13 : Int32))] []) fun _ _ X _ k => XS.icmpNo X.here hx rfl (hb hby dm48_12) rfl ((tlt q204).2.1) k
  have A206 := A205.go (f' := mkF m 16 #[.val (.ref o0), .val (.ref o1), .val (.int (13 : Int32))] [(.ref o0)]) fun _ _ X _ k => XS.aloadN X.here hx rfl (hb hby dm48_15) rfl rfl k
  have A207 := A206.go (f' := mkF m 17 #[.val (.ref o0), .val (.ref o1), .val (.int (13 : Int32))] [(.int (13 : Int32)), (.ref o0)]) fun _ _ X _ k => XS.iloadN X.here hx rfl (hb hby dm48_16) rfl k
  have A208 : own_R p l e _ _ m _ below meth c S0 n0 h0 0 0 (mkF m 18 #[.val (.ref o0), .val (.ref o1), .val (.int (13 : Int32))] [(.int (48 : Int32))]) := A207.ldB hx hZ (hb hby dm48_17) V_o0 (by decide) rfl
  have A209 := A208.go (f' := mkF m 19 #[.val (.ref o0), .val (.ref o1), .val (.int (13 : Int32))] [(.ref o1), (.int (48 : Int32))]) fun _ _ X _ k => XS.aloadN X.here hx rfl (hb hby dm48_18) rfl rfl k
  have A210 := A209.go (f' := mkF m 20 #[.val (.ref o0), .val (.ref o1), .val (.int (13 : Int32))] [(.int (13 : Int32)), (.ref o1), (.int (48 : Int32))]) fun _ _ X _ k => XS.iloadN X.here hx rfl (hb hby dm48_19) rfl k
  have A211 : own_R p l e _ _ m _ below meth c S0 n0 h0 0 0 (mkF m 21 #[.val (.ref o0), .val (.ref o1), .val (.int (13 : Int32))] [(.int (48 : Int32)), (.int (48 : Int32))]) := A210.ldB hx hZ (hb hby dm48_20) V_o1 (by decide) rfl
  have A212 := A211.go (f' := mkF m 26 #[.val (.ref o0), .val (.ref o1), .val (.int (13 : Int32))] []) fun _ _ X _ k => XS.icmpYes X.here hx rfl (pc0 := 21) (pc' := 26) rfl (hb hby dm48_21) rfl ((teq q183).1) (by decide) (by decide) k
  have A213 := A212.go (f' := mkF m 29 #[.val (.ref o0), .val (.ref o1), .val (.int (14 : Int32))] []) fun _ _ X _ k => XS.iinc X.here hx rfl (hb hby dm48_26) rfl (l' := #[.val (.ref o0), .val (.ref o1), .val (.int (14 : Int32))]) rfl k
  have A214 := A213.go (f' := mkF m 9 #[.val (.ref o0), .val (.ref o1), .val (.int (14 : Int32))] []) fun _ _ X _ k => XS.goto X.here hx rfl (pc0 := 29) (pc' := 9) rfl (hb hby dm48_29) (by decide) (by decide) k
  have A215 := A214.go (f' := mkF m 10 #[.val (.ref o0), .val (.ref o1), .val (.int (14 : Int32))] [(.int (14 : Int32))]) fun _ _ X _ k => XS.iloadN X.here hx rfl (hb hby dm48_9) rfl k
  have A216 := A215.go (f' := mkF m 11 #[.val (.ref o0), .val (.ref o1), .val (.int (14 : Int32))] [(.ref o0), (.int (14 : Int32))]) fun _ _ X _ k => XS.aloadN X.here hx rfl (hb hby dm48_10) rfl rfl k
  have A217 : own_R p l e _ _ m _ below meth c S0 n0 h0 0 0 (mkF m 12 #[.val (.ref o0), .val (.ref o1), .val (.int (14 : Int32))] [(.int (18 : Int32)), (.int (14 : Int32))]) := A216.len hx hZ (hb hby dm48_11) V_o0
  have q218 : ((14 : Int32) < (18 : Int32)) := by decide
  have A219 := A217.go (f' := mkF m 15 #[.val (.ref o0), .val (.ref o1), .val (.int (14 : Int32))] []) fun _ _ X _ k => XS.icmpNo X.here hx rfl (hb hby dm48_12) rfl ((tlt q218).2.1) k
  have A220 := A219.go (f' := mkF m 16 #[.val (.ref o0), .val (.ref o1), .val (.int (14 : Int32))] [(.ref o0)]) fun _ _ X _ k => XS.aloadN X.here hx rfl (hb hby dm48_15) rfl rfl k
  have A221 := A220.go (f' := mkF m 17 #[.val (.ref o0), .val (.ref o1), .val (.int (14 : Int32))] [(.int (14 : Int32)), (.ref o0)]) fun _ _ X _ k => XS.iloadN X.here hx rfl (hb hby dm48_16) rfl k
  have A222 : own_R p l e _ _ m _ below meth c S0 n0 h0 0 0 (mkF m 18 #[.val (.ref o0), .val (.ref o1), .val (.int (14 : Int32))] [(.int (46 : Int32))]) := A221.ldB hx hZ (hb hby dm48_17) V_o0 (by decide) rfl
  have A223 := A222.go (f' := mkF m 19 #[.val (.ref o0), .val (.ref o1), .val (.int (14 : Int32))] [(.ref o1), (.int (46 : Int32))]) fun _ _ X _ k => XS.aloadN X.here hx rfl (hb hby dm48_18) rfl rfl k
  have A224 := A223.go (f' := mkF m 20 #[.val (.ref o0), .val (.ref o1), .val (.int (14 : Int32))] [(.int (14 : Int32)), (.ref o1), (.int (46 : Int32))]) fun _ _ X _ k => XS.iloadN X.here hx rfl (hb hby dm48_19) rfl k
  have A225 : own_R p l e _ _ m _ below meth c S0 n0 h0 0 0 (mkF m 21 #[.val (.ref o0), .val (.ref o1), .val (.int (14 : Int32))] [(.int (46 : Int32)), (.int (46 : Int32))]) := A224.ldB hx hZ (hb hby dm48_20) V_o1 (by decide) rfl
  have A226 := A225.go (f' := mkF m 26 #[.val (.ref o0), .val (.ref o1), .val (.int (14 : Int32))] []) fun _ _ X _ k => XS.icmpYes X.here hx rfl (pc0 := 21) (pc' := 26) rfl (hb hby dm48_21) rfl ((teq q168).1) (by decide) (by decide) k
  have A227 := A226.go (f' := mkF m 29 #[.val (.ref o0), .val (.ref o1), .val (.int (15 : Int32))] []) fun _ _ X _ k => XS.iinc X.here hx rfl (hb hby dm48_26) rfl (l' := #[.val (.ref o0), .val (.ref o1), .val (.int (15 : Int32))]) rfl k
  have A228 := A227.go (f' := mkF m 9 #[.val (.ref o0), .val (.ref o1), .val (.int (15 : Int32))] []) fun _ _ X _ k => XS.goto X.here hx rfl (pc0 := 29) (pc' := 9) rfl (hb hby dm48_29) (by decide) (by decide) k
  have A229 := A228.go (f' := mkF m 10 #[.val (.ref o0), .val (.ref o1), .val (.int (15 : Int32))] [(.int (15 : Int32))]) fun _ _ X _ k => XS.iloadN X.here hx rfl (hb hby dm48_9) rfl k
  have A230 := A229.go (f' := mkF m 11 #[.val (.ref o0), .val (.ref o1), .val (.int (15 : Int32))] [(.ref o0), (.int (15 : Int32))]) fun _ _ X _ k => XS.aloadN X.here hx rfl (hb hby dm48_10) rfl rfl k
  have A231 : own_R p l e _ _ m _ below meth c S0 n0 h0 0 0 (mkF m 12 #[.val (.ref o0), .val (.ref o1), .val (.int (15 : Int32))] [(.int (18 : Int32)), (.int (15 : Int32))]) := A230.len hx hZ (hb hby dm48_11) V_o0
  have q232 : ((15 : Int32) < (18 : Int32)) := by decide
  have A233 := A231.go (f' := mkF m 15 #[.val (.ref o0), .val (.ref o1), .val (.int (15 : Int32))] []) fun _ _ X _ k => XS.icmpNo X.here hx rfl (hb hby dm48_12) rfl ((tlt q232).2.1) k
  have A234 := A233.go (f' := mkF m 16 #[.val (.ref o0), .val (.ref o1), .val (.int (15 : Int32))] [(.ref o0)]) fun _ _ X _ k => XS.aloadN X.here hx rfl (hb hby dm48_15) rfl rfl k
  have A235 := A234.go (f' := mkF m 17 #[.val (.ref o0), .val (.ref o1), .val (.int (15 : Int32))] [(.int (15 : Int32)), (.ref o0)]) fun _ _ X _ k => XS.iloadN X.here hx rfl (hb hby dm48_16) rfl k
  have A236 : own_R p l e _ _ m _ below meth c S0 n0 h0 0 0 (mkF m 18 #[.val (.ref o0), .val (.ref o1), .val (.int (15 : Int32))] [(.int (49 : Int32))]) := A235.ldB hx hZ (hb hby dm48_17) V_o0 (by decide) rfl
  have A237 := A236.go (f' := mkF m 19 #[.val (.ref o0), .val (.ref o1), .val (.int (15 : Int32))] [(.ref o1), (.int (49 : Int32))]) fun _ _ X _ k => XS.aloadN X.here hx rfl (hb hby dm48_18) rfl rfl k
  have A238 := A237.go (f' := mkF m 20 #[.val (.ref o0), .val (.ref o1), .val (.int (15 : Int32))] [(.int (15 : Int32)), (.ref o1), (.int (49 : Int32))]) fun _ _ X _ k => XS.iloadN X.here hx rfl (hb hby dm48_19) rfl k
  have A239 : own_R p l e _ _ m _ below meth c S0 n0 h0 0 0 (mkF m 21 #[.val (.ref o0), .val (.ref o1), .val (.int (15 : Int32))] [(.int (49 : Int32)), (.int (49 : Int32))]) := A238.ldB hx hZ (hb hby dm48_20) V_o1 (by decide) rfl
  have A240 := A239.go (f' := mkF m 26 #[.val (.ref o0), .val (.ref o1), .val (.int (15 : Int32))] []) fun _ _ X _ k => XS.icmpYes X.here hx rfl (pc0 := 21) (pc' := 26) rfl (hb hby dm48_21) rfl ((teq q123).1) (by decide) (by decide) k
  have A241 := A240.go (f' := mkF m 29 #[.val (.ref o0), .val (.ref o1), .val (.int (16 : Int32))] []) fun _ _ X _ k => XS.iinc X.here hx rfl (hb hby dm48_26) rfl (l' := #[.val (.ref o0), .val (.ref o1), .val (.int (16 : Int32))]) rfl k
  have A242 := A241.go (f' := mkF m 9 #[.val (.ref o0), .val (.ref o1), .val (.int (16 : Int32))] []) fun _ _ X _ k => XS.goto X.here hx rfl (pc0 := 29) (pc' := 9) rfl (hb hby dm48_29) (by decide) (by decide) k
  have A243 := A242.go (f' := mkF m 10 #[.val (.ref o0), .val (.ref o1), .val (.int (16 : Int32))] [(.int (16 : Int32))]) fun _ _ X _ k => XS.iloadN X.here hx rfl (hb hby dm48_9) rfl k
  have A244 := A243.go (f' := mkF m 11 #[.val (.ref o0), .val (.ref o1), .val (.int (16 : Int32))] [(.ref o0), (.int (16 : Int32))]) fun _ _ X _ k => XS.aloadN X.here hx rfl (hb hby dm48_10) rfl rfl k
  have A245 : own_R p l e _ _ m _ below meth c S0 n0 h0 0 0 (mkF m 12 #[.val (.ref o0), .val (.ref o1), .val (.int (16 : Int32))] [(.int (18 : Int32)), (.int (16 : Int32))]) := A244.len hx hZ (hb hby dm48_11) V_o0
  have q246 : ((16 : Int32) < (18 : Int32)) := by decide
  have A247 := A245.go (f' := mkF m 15 #[.val (.ref o0), .val (.ref o1), .val (.int (16 : Int32))] []) fun _ _ X _ k => XS.icmpNo X.here hx rfl (hb hby dm48_12) rfl ((tlt q246).2.1) k
  have A248 := A247.go (f' := mkF m 16 #[.val (.ref o0), .val (.ref o1), .val (.int (16 : Int32))] [(.ref o0)]) fun _ _ X _ k => XS.aloadN X.here hx rfl (hb hby dm48_15) rfl rfl k
  have A249 := A248.go (f' := mkF m 17 #[.val (.ref o0), .val (.ref o1), .val (.int (16 : Int32))] [(.int (16 : Int32)), (.ref o0)]) fun _ _ X _ k => XS.iloadN X.here hx rfl (hb hby dm48_16) rfl k
  have A250 : own_R p l e _ _ m _ below meth c S0 n0 h0 0 0 (mkF m 18 #[.val (.ref o0), .val (.ref o1), .val (.int (16 : Int32))] [(.int (58 : Int32))]) := A249.ldB hx hZ (hb hby dm48_17) V_o0 (by decide) rfl
  have A251 := A250.go (f' := mkF m 19 #[.val (.ref o0), .val (.ref o1), .val (.int (16 : Int32))] [(.ref o1), (.int (58 : Int32))]) fun _ _ X _ k => XS.aloadN X.here hx rfl (hb hby dm48_18) rfl rfl k
  have A252 := A251.go (f' := mkF m 20 #[.val (.ref o0), .val (.ref o1), .val (.int (16 : Int32))] [(.int (16 : Int32)), (.ref o1), (.int (58 : Int32))]) fun _ _ X _ k => XS.iloadN X.here hx rfl (hb hby dm48_19) rfl k
  have A253 : own_R p l e _ _ m _ below meth c S0 n0 h0 0 0 (mkF m 21 #[.val (.ref o0), .val (.ref o1), .val (.int (16 : Int32))] [(.int (58 : Int32)), (.int (58 : Int32))]) := A252.ldB hx hZ (hb hby dm48_20) V_o1 (by decide) rfl
  have A254 := A253.go (f' := mkF m 26 #[.val (.ref o0), .val (.ref o1), .val (.int (16 : Int32))] []) fun _ _ X _ k => XS.icmpYes X.here hx rfl (pc0 := 21) (pc' := 26) rfl (hb hby dm48_21) rfl ((teq q79).1) (by decide) (by decide) k
  have A255 := A254.go (f' := mkF m 29 #[.val (.ref o0), .val (.ref o1), .val (.int (17 : Int32))] []) fun _ _ X _ k => XS.iinc X.here hx rfl (hb hby dm48_26) rfl (l' := #[.val (.ref o0), .val (.ref o1), .val (.int (17 : Int32))]) rfl k
  have A256 := A255.go (f' := mkF m 9 #[.val (.ref o0), .val (.ref o1), .val (.int (17 : Int32))] []) fun _ _ X _ k => XS.goto X.here hx rfl (pc0 := 29) (pc' := 9) rfl (hb hby dm48_29) (by decide) (by decide) k
  have A257 := A256.go (f' := mkF m 10 #[.val (.ref o0), .val (.ref o1), .val (.int (17 : Int32))] [(.int (17 : Int32))]) fun _ _ X _ k => XS.iloadN X.here hx rfl (hb hby dm48_9) rfl k
  have A258 := A257.go (f' := mkF m 11 #[.val (.ref o0), .val (.ref o1), .val (.int (17 : Int32))] [(.ref o0), (.int (17 : Int32))]) fun _ _ X _ k => XS.aloadN X.here hx rfl (hb hby dm48_10) rfl rfl k
  have A259 : own_R p l e _ _ m _ below meth c S0 n0 h0 0 0 (mkF m 12 #[.val (.ref o0), .val (.ref o1), .val (.int (17 : Int32))] [(.int (18 : Int32)), (.int (17 : Int32))]) := A258.len hx hZ (hb hby dm48_11) V_o0
  have q260 : ((17 : Int32) < (18 : Int32)) := by decide
  have A261 := A259.go (f' := mkF m 15 #[.val (.ref o0), .val (.ref o1), .val (.int (17 : Int32))] []) fun _ _ X _ k => XS.icmpNo X.here hx rfl (hb hby dm48_12) rfl ((tlt q260).2.1) k
  have A262 := A261.go (f' := mkF m 16 #[.val (.ref o0), .val (.ref o1), .val (.int (17 : Int32))] [(.ref o0)]) fun _ _ X _ k => XS.aloadN X.here hx rfl (hb hby dm48_15) rfl rfl k
  have A263 := A262.go (f' := mkF m 17 #[.val (.ref o0), .val (.ref o1), .val (.int (17 : Int32))] [(.int (17 : Int32)), (.ref o0)]) fun _ _ X _ k => XS.iloadN X.here hx rfl (hb hby dm48_16) rfl k
  have A264 : own_R p l e _ _ m _ below meth c S0 n0 h0 0 0 (mkF m 18 #[.val (.ref o0), .val (.ref o1), .val (.int (17 : Int32))] [(.int (48 : Int32))]) := A263.ldB hx hZ (hb hby dm48_17) V_o0 (by decide) rfl
  have A265 := A264.go (f' := mkF m 19 #[.val (.ref o0), .val (.ref o1), .val (.int (17 : Int32))] [(.ref o1), (.int (48 : Int32))]) fun _ _ X _ k => XS.aloadN X.here hx rfl (hb hby dm48_18) rfl rfl k
  have A266 := A265.go (f' := mkF m 20 #[.val (.ref o0), .val (.ref o1), .val (.int (17 : Int32))] [(.int (17 : Int32)), (.ref o1), (.int (48 : Int32))]) fun _ _ X _ k => XS.iloadN X.here hx rfl (hb hby dm48_19) rfl k
  have A267 : own_R p l e _ _ m _ below meth c S0 n0 h0 0 0 (mkF m 21 #[.val (.ref o0), .val (.ref o1), .val (.int (17 : Int32))] [(.int (48 : Int32)), (.int (48 : Int32))]) := A266.ldB hx hZ (hb hby dm48_20) V_o1 (by decide) rfl
  have A268 := A267.go (f' := mkF m 26 #[.val (.ref o0), .val (.ref o1), .val (.int (17 : Int32))] []) fun _ _ X _ k => XS.icmpYes X.here hx rfl (pc0 := 21) (pc' := 26) rfl (hb hby dm48_21) rfl ((teq q183).1) (by decide) (by decide) k
  have A269 := A268.go (f' := mkF m 29 #[.val (.ref o0), .val (.ref o1), .val (.int (18 : Int32))] []) fun _ _ X _ k => XS.iinc X.here hx rfl (hb hby dm48_26) rfl (l' := #[.val (.ref o0), .val (.ref o1), .val (.int (18 : Int32))]) rfl k
  have A270 := A269.go (f' := mkF m 9 #[.val (.ref o0), .val (.ref o1), .val (.int (18 : Int32))] []) fun _ _ X _ k => XS.goto X.here hx rfl (pc0 := 29) (pc' := 9) rfl (hb hby dm48_29) (by decide) (by decide) k
  have A271 := A270.go (f' := mkF m 10 #[.val (.ref o0), .val (.ref o1), .val (.int (18 : Int32))] [(.int (18 : Int32))]) fun _ _ X _ k => XS.iloadN X.here hx rfl (hb hby dm48_9) rfl k
  have A272 := A271.go (f' := mkF m 11 #[.val (.ref o0), .val (.ref o1), .val (.int (18 : Int32))] [(.ref o0), (.int (18 : Int32))]) fun _ _ X _ k => XS.aloadN X.here hx rfl (hb hby dm48_10) rfl rfl k
  have A273 : own_R p l e _ _ m _ below meth c S0 n0 h0 0 0 (mkF m 12 #[.val (.ref o0), .val (.ref o1), .val (.int (18 : Int32))] [(.int (18 : Int32)), (.int (18 : Int32))]) := A272.len hx hZ (hb hby dm48_11) V_o0
  have q274 : ¬ ((18 : Int32) < (18 : Int32)) := by decide
  have A275 := A273.go (f' := mkF m 32 #[.val (.ref o0), .val (.ref o1), .val (.int (18 : Int32))] []) fun _ _ X _ k => XS.icmpYes X.here hx rfl (pc0 := 12) (pc' := 32) rfl (hb hby dm48_12) rfl ((flt q274).2.1) (by decide) (by decide) k
  have A276 := A275.go (f' := mkF m 33 #[.val (.ref o0), .val (.ref o1), .val (.int (18 : Int32))] [(.int (1 : Int32))]) fun _ _ X _ k => XS.iconst X.here hx rfl (hb hby dm48_32) k
  exact A276.ret hx hlk hret (hb hby dm48_33) rfl (Or.inl ⟨rfl, by simp, _, rfl⟩) (by decide) (by decide) ⟨rfl, rfl⟩
theorem ef_own_c136 (m : MethodId) (o0 : Addr) (o1 : Addr) : entryFrame m #[(.ref o0), (.ref o1)] 3 = mkF m 0 #[.val (.ref o0), .val (.ref o1), .unset] [] := by first | (simp [entryFrame, mkF, argsToLocals, Value.category, maxLocals]; done) | rfl
set_option maxRecDepth 65536 in
set_option maxHeartbeats 40000000 in
theorem own_c136 (l : Launch) (Z : State) (a0 : Array Value) (hw : ∀ d ∈ tables_1, d.before a0 Z = true) (o0 o1 o2 o3 : Addr) (cs : Int32) (h0 : Heap) (n0 : Nat) (Z0 : n0 ≤ h0.size) (F_o0_value : Fld Z h0 o0 "java/lang/String" "value" "[B" (.ref o2)) (F_o0_coder : Fld Z h0 o0 "java/lang/String" "coder" "B" (.int (0 : Int32))) (E_o1 : Exa Z h0 o1 "java/lang/String") (F_o1_value : Fld Z h0 o1 "java/lang/String" "value" "[B" (.ref o3)) (F_o1_coder : Fld Z h0 o1 "java/lang/String" "coder" "B" (.int (0 : Int32))) (V_o2 : own_Ar Z h0 o2 .byte [(.int (104 : Int32)), (.int (116 : Int32)), (.int (116 : Int32)), (.int (112 : Int32)), (.int (58 : Int32)), (.int (47 : Int32)), (.int (47 : Int32)), (.int (49 : Int32)), (.int (50 : Int32)), (.int (55 : Int32)), (.int (46 : Int32)), (.int (48 : Int32)), (.int (46 : Int32)), (.int (48 : Int32)), (.int (46 : Int32)), (.int (49 : Int32)), (.int (58 : Int32)), (.int (48 : Int32))]) (V_o3 : own_Ar Z h0 o3 .byte [(.int (104 : Int32)), (.int (116 : Int32)), (.int (116 : Int32)), (.int (112 : Int32)), (.int (58 : Int32)), (.int (47 : Int32)), (.int (47 : Int32)), (.int (49 : Int32)), (.int (50 : Int32)), (.int (55 : Int32)), (.int (46 : Int32)), (.int (48 : Int32)), (.int (46 : Int32)), (.int (48 : Int32)), (.int (46 : Int32)), (.int (49 : Int32)), (.int (58 : Int32)), (.int (48 : Int32))]) (S_cs : Sta Z h0 "java/lang/String" "COMPACT_STRINGS" "Z" (.int cs)) (hcs : ¬ (cs = (0 : Int32))) (ne_o0_o1 : o0 ≠ o1) :
    own_M l Z (⟨"java/lang/String", "equals", "(Ljava/lang/Object;)Z"⟩ : MethodName) jdk_42_method_66_code 3 (some .boolean) [] ({ frames := 1, cells := 0, slots := 0, locals := 14 } : Room) #[(.ref o0), (.ref o1)] h0 n0 (fun v h => v = some (.int (1 : Int32)) ∧ h0 = h) := by
  refine own_M.of (plainFor_of_name (by first | (simp [plainName, overriddenIn]; done) | decide +kernel)) ?_
  intro p e s m below meth c S0 hx hby hml hown hnm hret hlk hZ A00
  have A0 := A00.cast (ef_own_c136 m o0 o1)
  have KK : Keep h0 h0 ([] : List Addr) := Keep.refl _ _
  have A1 := A0.go (f' := mkF m 1 #[.val (.ref o0), .val (.ref o1), .unset] [(.ref o0)]) fun _ _ X _ k => XS.aloadN X.here hx rfl (hb hby dm47_0) rfl rfl k
  have A2 := A1.go (f' := mkF m 2 #[.val (.ref o0), .val (.ref o1), .unset] [(.ref o1), (.ref o0)]) fun _ _ X _ k => XS.aloadN X.here hx rfl (hb hby dm47_1) rfl rfl k
  have q3 : ¬ (o0 = o1) := ne_o0_o1
  have A4 := A2.go (f' := mkF m 7 #[.val (.ref o0), .val (.ref o1), .unset] []) fun _ _ X _ k => acmp X hx rfl rfl rfl (same := false) (pc0 := 2) (pc' := 7) rfl (hb hby dm47_2) rfl (decide_eq_false fun q => q3 (Value.ref.inj q)) (by decide) rfl k
  have A5 := A4.go (f' := mkF m 8 #[.val (.ref o0), .val (.ref o1), .unset] [(.ref o1)]) fun _ _ X _ k => XS.aloadN X.here hx rfl (hb hby dm47_7) rfl rfl k
  have A6 : own_R p l e _ _ m _ below meth c S0 n0 h0 0 0 (mkF m 11 #[.val (.ref o0), .val (.ref o1), .unset] [(.int (1 : Int32))]) := A5.instY hx hZ hown (hb hby dm47_8) (hw _ (List.mem_of_getElem? (i := 264) rfl)) (Ins.self E_o1)
  have q7 : ¬ ((1 : Int32) = (0 : Int32)) := by decide
  have A8 := A6.go (f' := mkF m 14 #[.val (.ref o0), .val (.ref o1), .unset] []) fun _ _ X _ k => XS.ifNo X.here hx rfl (hb hby dm47_11) rfl ((if0 _ _).trans (feq q7).1) k
  have A9 := A8.go (f' := mkF m 15 #[.val (.ref o0), .val (.ref o1), .unset] [(.ref o1)]) fun _ _ X _ k => XS.aloadN X.here hx rfl (hb hby dm47_14) rfl rfl k
  have A10 : own_R p l e _ _ m _ below meth c S0 n0 h0 0 0 (mkF m 18 #[.val (.ref o0), .val (.ref o1), .unset] [(.ref o1)]) := A9.castY hx hZ hown (hb hby dm47_15) (hw _ (List.mem_of_getElem? (i := 264) rfl)) (Ins.self E_o1)
  have A11 := A10.go (f' := mkF m 19 #[.val (.ref o0), .val (.ref o1), .val (.ref o1)] []) fun _ _ X _ k => XS.astoreN X.here hx rfl (hb hby dm47_18) rfl rfl (l' := #[.val (.ref o0), .val (.ref o1), .val (.ref o1)]) rfl k
  have A12 : own_R p l e _ _ m _ below meth c S0 n0 h0 0 0 (mkF m 22 #[.val (.ref o0), .val (.ref o1), .val (.ref o1)] [(.int cs)]) := A11.getS hx hZ hown (hb hby dm47_19) (hw _ (List.mem_of_getElem? (i := 101) rfl)) Via.refl S_cs
  have A13 := A12.go (f' := mkF m 25 #[.val (.ref o0), .val (.ref o1), .val (.ref o1)] []) fun _ _ X _ k => XS.ifNo X.here hx rfl (hb hby dm47_22) rfl ((if0 _ _).trans (feq hcs).1) k
  have A14 := A13.go (f' := mkF m 26 #[.val (.ref o0), .val (.ref o1), .val (.ref o1)] [(.ref o0)]) fun _ _ X _ k => XS.aloadN X.here hx rfl (hb hby dm47_25) rfl rfl k
  have A15 : own_R p l e _ _ m _ below meth c S0 n0 h0 0 0 (mkF m 29 #[.val (.ref o0), .val (.ref o1), .val (.ref o1)] [(.int (0 : Int32))]) := A14.getF hx hZ hown (hb hby dm47_26) (hw _ (List.mem_of_getElem? (i := 102) rfl)) Via.refl F_o0_coder
  have A16 := A15.go (f' := mkF m 30 #[.val (.ref o0), .val (.ref o1), .val (.ref o1)] [(.ref o1), (.int (0 : Int32))]) fun _ _ X _ k => XS.aloadN X.here hx rfl (hb hby dm47_29) rfl rfl k
  have A17 : own_R p l e _ _ m _ below meth c S0 n0 h0 0 0 (mkF m 33 #[.val (.ref o0), .val (.ref o1), .val (.ref o1)] [(.int (0 : Int32)), (.int (0 : Int32))]) := A16.getF hx hZ hown (hb hby dm47_30) (hw _ (List.mem_of_getElem? (i := 102) rfl)) Via.refl F_o1_coder
  have q18 : ((0 : Int32) = (0 : Int32)) := rfl
  have A19 := A17.go (f' := mkF m 36 #[.val (.ref o0), .val (.ref o1), .val (.ref o1)] []) fun _ _ X _ k => XS.icmpNo X.here hx rfl (hb hby dm47_33) rfl ((teq q18).2) k
  have A20 := A19.go (f' := mkF m 37 #[.val (.ref o0), .val (.ref o1), .val (.ref o1)] [(.ref o0)]) fun _ _ X _ k => XS.aloadN X.here hx rfl (hb hby dm47_36) rfl rfl k
  have A21 : own_R p l e _ _ m _ below meth c S0 n0 h0 0 0 (mkF m 40 #[.val (.ref o0), .val (.ref o1), .val (.ref o1)] [(.ref o2)]) := A20.getF hx hZ hown (hb hby dm47_37) (hw _ (List.mem_of_getElem? (i := 108) rfl)) Via.refl F_o0_value
  have A22 := A21.go (f' := mkF m 41 #[.val (.ref o0), .val (.ref o1), .val (.ref o1)] [(.ref o1), (.ref o2)]) fun _ _ X _ k => XS.aloadN X.here hx rfl (hb hby dm47_40) rfl rfl k
  have A23 : own_R p l e _ _ m _ below meth c S0 n0 h0 0 0 (mkF m 44 #[.val (.ref o0), .val (.ref o1), .val (.ref o1)] [(.ref o3), (.ref o2)]) := A22.getF hx hZ hown (hb hby dm47_41) (hw _ (List.mem_of_getElem? (i := 108) rfl)) Via.refl F_o1_value
  obtain ⟨vA24, hA24, ⟨rfl, rfl⟩, A24⟩ := A23.callS (own_c135 l Z a0 hw o2 o3 h0 n0 Z0 V_o2 V_o3) hx hZ hown (hb hby dm47_44) (hw _ (List.mem_of_getElem? (i := 265) rfl)) (hw _ (List.mem_of_getElem? (i := 266) rfl)) (hw _ (List.mem_of_getElem? (i := 111) rfl)) (hw _ (List.mem_of_getElem? (i := 267) rfl)) ⟨by decide, by decide⟩ (lenOf pd__28_5bB_5bB_29Z rfl) (argsL := [(.ref o2), (.ref o3)]) (rest := []) rfl rfl (by rw [hml]; rfl) (W := 0) (Nat.le_of_eq rfl) (by decide) (by decide) (by decide) (by decide)
  have A25 : own_R p l e _ _ m _ below meth c S0 n0 h0 0 0 (mkF m 47 #[.val (.ref o0), .val (.ref o1), .val (.ref o1)] [(.int (1 : Int32))]) := A24
  have A26 := A25.go (f' := mkF m 50 #[.val (.ref o0), .val (.ref o1), .val (.ref o1)] []) fun _ _ X _ k => XS.ifNo X.here hx rfl (hb hby dm47_47) rfl ((if0 _ _).trans (feq q7).1) k
  have A27 := A26.go (f' := mkF m 51 #[.val (.ref o0), .val (.ref o1), .val (.ref o1)] [(.int (1 : Int32))]) fun _ _ X _ k => XS.iconst X.here hx rfl (hb hby dm47_50) k
  have A28 := A27.go (f' := mkF m 55 #[.val (.ref o0), .val (.ref o1), .val (.ref o1)] [(.int (1 : Int32))]) fun _ _ X _ k => XS.goto X.here hx rfl (pc0 := 51) (pc' := 55) rfl (hb hby dm47_51) (by decide) (by decide) k
  exact A28.ret hx hlk hret (hb hby dm47_55) rfl (Or.inl ⟨rfl, by simp, _, rfl⟩) (by decide) (by decide) ⟨rfl, rfl⟩
theorem ef_own_law (m : MethodId) (i0 : Int32) (i1 : Int32) : entryFrame m #[(.int i0), (.int i1)] maxLocals = mkF m 0 #[.val (.int i0), .val (.int i1), .unset, .unset, .unset, .unset, .unset, .unset, .unset, .unset, .unset] [] := by first | (simp [entryFrame, mkF, argsToLocals, Value.category, maxLocals]; done) | rfl
set_option maxRecDepth 65536 in
set_option maxHeartbeats 40000000 in
theorem own_law (l : Launch) (Z : State) (a0 : Array Value) (hw : ∀ d ∈ tables_1, d.before a0 Z = true) (i0 i1 : Int32) (cs : Int32) (dig : Addr) (ds : List Value) (h0 : Heap) (n0 : Nat) (Z0 : n0 ≤ h0.size) (hEL : EW Z a0 own_EL) (own_wS : ∀ a ∈ Bundle.stringAtoms, a.before a0 Z = true) (S_cs : Sta Z h0 "java/lang/String" "COMPACT_STRINGS" "Z" (.int cs)) (S_dig : Sta Z h0 "java/lang/Integer" "DigitOnes" "[B" (.ref dig)) (V_dig : own_Ar Z h0 dig .byte ds) (hcs : ¬ (cs = (0 : Int32))) (hds : ds[0]? = some (.int (48 : Int32))) :
    own_MS l Z own_EL x code maxLocals ret tables_1 room_1 #[(.int i0), (.int i1)] h0 n0 (fun v h => v = some (.int (1 : Int32)) ∧ True) := by
  refine own_MS.of (plainFor_of_name (by first | (simp [plainName, overriddenIn]; done) | decide +kernel)) ?_
  intro p e s m below meth c S0 vm0 k0 hx hby hml hown hnm hret hlk hZ hS hk HC A00
  have A0 := A00.cast (ef_own_law m i0 i1)
  have A1 := A0.go (f' := mkF m 1 #[.val (.int i0), .val (.int i1), .unset, .unset, .unset, .unset, .unset, .unset, .unset, .unset, .unset] [(.int i0)]) fun _ _ X _ k => XS.iloadN X.here hx rfl (hb hby dm0_0) rfl k
  have A2 : own_R p l e _ _ m _ below meth c S0 n0 h0 0 0 (mkF m 3 #[.val (.int i0), .val (.int i1), .unset, .unset, .unset, .unset, .unset, .unset, .unset, .unset, .unset] [(.int (65535 : Int32)), (.int i0)]) := A1.ldcI hx hZ hown (hb hby dm0_1) (hw _ (List.mem_of_getElem? (i := 0) rfl))
  have A3 := A2.go (f' := mkF m 4 #[.val (.int i0), .val (.int i1), .unset, .unset, .unset, .unset, .unset, .unset, .unset, .unset, .unset] [(.int (i0 &&& (65535 : Int32)))]) fun _ _ X _ k => XS.iand X.here hx rfl (hb hby dm0_3) rfl k
  have A4 := A3.go (f' := mkF m 5 #[.val (.int i0), .val (.int i1), .val (.int (i0 &&& (65535 : Int32))), .unset, .unset, .unset, .unset, .unset, .unset, .unset, .unset] []) fun _ _ X _ k => XS.istoreN X.here hx rfl (hb hby dm0_4) rfl (l' := #[.val (.int i0), .val (.int i1), .val (.int (i0 &&& (65535 : Int32))), .unset, .unset, .unset, .unset, .unset, .unset, .unset, .unset]) rfl k
  obtain ⟨pa, hpa⟩ : ∃ zq_, zq_ = (i0 &&& (65535 : Int32)) := ⟨_, rfl⟩
  rw [← hpa] at A4
  have hpa0 : ¬ (pa < (0 : Int32)) := hpa ▸ (own_and16 i0).1
  have hpa1 : ¬ ((65535 : Int32) < pa) := hpa ▸ (own_and16 i0).2
  have A5 := A4.go (f' := mkF m 6 #[.val (.int i0), .val (.int i1), .val (.int pa), .unset, .unset, .unset, .unset, .unset, .unset, .unset, .unset] [(.int i1)]) fun _ _ X _ k => XS.iloadN X.here hx rfl (hb hby dm0_5) rfl k
  have A6 : own_R p l e _ _ m _ below meth c S0 n0 h0 0 0 (mkF m 8 #[.val (.int i0), .val (.int i1), .val (.int pa), .unset, .unset, .unset, .unset, .unset, .unset, .unset, .unset] [(.int (65535 : Int32)), (.int i1)]) := A5.ldcI hx hZ hown (hb hby dm0_6) (hw _ (List.mem_of_getElem? (i := 0) rfl))
  have A7 := A6.go (f' := mkF m 9 #[.val (.int i0), .val (.int i1), .val (.int pa), .unset, .unset, .unset, .unset, .unset, .unset, .unset, .unset] [(.int (i1 &&& (65535 : Int32)))]) fun _ _ X _ k => XS.iand X.here hx rfl (hb hby dm0_8) rfl k
  have A8 := A7.go (f' := mkF m 10 #[.val (.int i0), .val (.int i1), .val (.int pa), .val (.int (i1 &&& (65535 : Int32))), .unset, .unset, .unset, .unset, .unset, .unset, .unset] []) fun _ _ X _ k => XS.istoreN X.here hx rfl (hb hby dm0_9) rfl (l' := #[.val (.int i0), .val (.int i1), .val (.int pa), .val (.int (i1 &&& (65535 : Int32))), .unset, .unset, .unset, .unset, .unset, .unset, .unset]) rfl k
  obtain ⟨pb, hpb⟩ : ∃ zq_, zq_ = (i1 &&& (65535 : Int32)) := ⟨_, rfl⟩
  rw [← hpb] at A8
  have hpb0 : ¬ (pb < (0 : Int32)) := hpb ▸ (own_and16 i1).1
  have hpb1 : ¬ ((65535 : Int32) < pb) := hpb ▸ (own_and16 i1).2
  obtain ⟨h9, E10, E_x1, D_x1, A11⟩ := A8.newO hx hZ hown (hb hby dm0_10) (hw _ (List.mem_of_getElem? (i := 1) rfl)) (hw _ (List.mem_of_getElem? (i := 2) rfl)) (hw _ (List.mem_of_getElem? (i := 3) rfl)) (by decide) (by decide)
  obtain ⟨x1, gx1⟩ : ∃ z, z = h0.size := ⟨_, rfl⟩
  rw [← gx1] at E_x1 D_x1 A11
  have ne_dig_x1 : dig ≠ x1 := by rw [gx1]; exact Nat.ne_of_lt V_dig.lt
  have ne_x1_dig := Ne.symm ne_dig_x1
  have g_x1 : n0 ≤ x1 := by rw [gx1]; exact Z0
  have S_cs : Sta Z h9 "java/lang/String" "COMPACT_STRINGS" "Z" (.int cs) := S_cs.ext E10
  have S_dig : Sta Z h9 "java/lang/Integer" "DigitOnes" "[B" (.ref dig) := S_dig.ext E10
  have V_dig : own_Ar Z h9 dig .byte ds := V_dig.ext E10
  have Z0 : n0 ≤ h9.size := Nat.le_trans Z0 E10.1
  have HC := HC.trans (CHr.ext E10 HC.1)
  have hk := Nat.le_trans hk E10.1
  have F_x1_host : Fld Z h9 x1 "com/example/periwinkle/periwinkle/server/ServerSettings" "host" "Ljava/lang/String;" .null := D_x1 (Or.inr (hw _ (List.mem_of_getElem? (i := 41) rfl))) (ty := (.object "java/lang/String")) (by decide)
  have F_x1_port : Fld Z h9 x1 "com/example/periwinkle/periwinkle/server/ServerSettings" "port" "I" (.int (0 : Int32)) := D_x1 (Or.inr (hw _ (List.mem_of_getElem? (i := 43) rfl))) (ty := .int) (by decide)
  have F_x1_tlsCertificate : Fld Z h9 x1 "com/example/periwinkle/periwinkle/server/ServerSettings" "tlsCertificate" "Ljava/nio/file/Path;" .null := D_x1 (Or.inr (hw _ (List.mem_of_getElem? (i := 45) rfl))) (ty := (.object "java/nio/file/Path")) (by decide)
  have F_x1_tlsKey : Fld Z h9 x1 "com/example/periwinkle/periwinkle/server/ServerSettings" "tlsKey" "Ljava/nio/file/Path;" .null := D_x1 (Or.inr (hw _ (List.mem_of_getElem? (i := 47) rfl))) (ty := (.object "java/nio/file/Path")) (by decide)
  have F_x1_tokenLifetime : Fld Z h9 x1 "com/example/periwinkle/periwinkle/server/ServerSettings" "tokenLifetime" "Ljava/time/Duration;" .null := D_x1 (Or.inr (hw _ (List.mem_of_getElem? (i := 49) rfl))) (ty := (.object "java/time/Duration")) (by decide)
  have A12 : own_R p l e _ _ m _ below meth c S0 n0 h9 1 5 (mkF m 13 #[.val (.int i0), .val (.int i1), .val (.int pa), .val (.int pb), .unset, .unset, .unset, .unset, .unset, .unset, .unset] [(.ref x1)]) := A11
  have A13 := A12.go (f' := mkF m 14 #[.val (.int i0), .val (.int i1), .val (.int pa), .val (.int pb), .unset, .unset, .unset, .unset, .unset, .unset, .unset] [(.ref x1), (.ref x1)]) fun _ _ X _ k => XS.dup X.here hx rfl (hb hby dm0_13) rfl rfl k
  obtain ⟨vA14, vmA14, kA14, hA14, ⟨x2, x3, x4, rfl, KA14, zz_x3, ne_x3_x2, ne_x4_x3, ne_x2_x1, ne_x4_x1, P_F_x1_host, P_F_x1_port, P_F_x1_tlsCertificate, P_F_x1_tlsKey, P_F_x1_tokenLifetime, P_E_x2, P_F_x2_coder, P_F_x2_value, P_E_x3, P_F_x3_seconds, P_F_x3_nanos, P_V_x4⟩, hS, hk, hZ, hown, HCs, hgA14, hwA14, A14⟩ := A13.callIS (b := x1) (own_c10 l Z a0 hw x1 h9 n0 Z0 hEL own_wS E_x1 F_x1_host F_x1_port F_x1_tlsCertificate F_x1_tlsKey F_x1_tokenLifetime g_x1) hx hZ hown (hb hby dm0_14) rfl (hw _ (List.mem_of_getElem? (i := 4) rfl)) (hw _ (List.mem_of_getElem? (i := 5) rfl)) (hw _ (List.mem_of_getElem? (i := 6) rfl)) (hw _ (List.mem_of_getElem? (i := 3) rfl)) hS hk hEL (CHr.refl HC.1) ⟨by decide, by decide⟩ (lenOf pd__28_29V rfl) (argsL := []) (rest := [(.ref x1)]) rfl rfl (by rw [hml]; rfl) (W := 1) (Nat.le_of_eq rfl) (by decide) (by decide) (by decide) (by decide)
  have ne_x2_x3 := Ne.symm ne_x3_x2
  have ne_x3_x4 := Ne.symm ne_x4_x3
  have ne_x1_x2 := Ne.symm ne_x2_x1
  have ne_x1_x4 := Ne.symm ne_x4_x1
  have ne_dig_x3 : dig ≠ x3 := Nat.ne_of_lt (Nat.lt_of_lt_of_le V_dig.lt zz_x3)
  have ne_x3_dig := Ne.symm ne_dig_x3
  have ne_x1_x3 : x1 ≠ x3 := Nat.ne_of_lt (Nat.lt_of_lt_of_le E_x1.lt zz_x3)
  have ne_x3_x1 := Ne.symm ne_x1_x3
  have g_x3 : n0 ≤ x3 := Nat.le_trans Z0 zz_x3
  have HC := HC.trans HCs
  have S_cs : Sta Z hA14 "java/lang/String" "COMPACT_STRINGS" "Z" (.int cs) := own_staK S_cs KA14 (allS (P := fun x => ∀ cell : Cell, h9[x]? = some cell → cell.vm.isStatics = false) E_x1.nostat all0)
  have S_dig : Sta Z hA14 "java/lang/Integer" "DigitOnes" "[B" (.ref dig) := own_staK S_dig KA14 (allS (P := fun x => ∀ cell : Cell, h9[x]? = some cell → cell.vm.isStatics = false) E_x1.nostat all0)
  have V_dig : own_Ar Z hA14 dig .byte ds := V_dig.keep KA14 (ninS ne_dig_x1 nin0)
  have E_x1 : Exa Z hA14 x1 "com/example/periwinkle/periwinkle/server/ServerSettings" := E_x1.keep KA14
  have Z0 : n0 ≤ hA14.size := Nat.le_trans Z0 KA14.1
  have F_x1_host : Fld Z hA14 x1 "com/example/periwinkle/periwinkle/server/ServerSettings" "host" "Ljava/lang/String;" (.ref x2) := P_F_x1_host
  have F_x1_port : Fld Z hA14 x1 "com/example/periwinkle/periwinkle/server/ServerSettings" "port" "I" (.int (9911 : Int32)) := P_F_x1_port
  have F_x1_tlsCertificate : Fld Z hA14 x1 "com/example/periwinkle/periwinkle/server/ServerSettings" "tlsCertificate" "Ljava/nio/file/Path;" .null := P_F_x1_tlsCertificate
  have F_x1_tlsKey : Fld Z hA14 x1 "com/example/periwinkle/periwinkle/server/ServerSettings" "tlsKey" "Ljava/nio/file/Path;" .null := P_F_x1_tlsKey
  have F_x1_tokenLifetime : Fld Z hA14 x1 "com/example/periwinkle/periwinkle/server/ServerSettings" "tokenLifetime" "Ljava/time/Duration;" (.ref x3) := P_F_x1_tokenLifetime
  have E_x2 : Exa Z hA14 x2 "java/lang/String" := P_E_x2
  have F_x2_coder : Fld Z hA14 x2 "java/lang/String" "coder" "B" (.int (0 : Int32)) := P_F_x2_coder
  have F_x2_value : Fld Z hA14 x2 "java/lang/String" "value" "[B" (.ref x4) := P_F_x2_value
  have E_x3 : Exa Z hA14 x3 "java/time/Duration" := P_E_x3
  have F_x3_seconds : Fld Z hA14 x3 "java/time/Duration" "seconds" "J" (.long (3600 : Int64)) := P_F_x3_seconds
  have F_x3_nanos : Fld Z hA14 x3 "java/time/Duration" "nanos" "I" (.int (0 : Int32)) := P_F_x3_nanos
  have V_x4 : own_Ar Z hA14 x4 .byte [(.int (49 : Int32)), (.int (50 : Int32)), (.int (55 : Int32)), (.int (46 : Int32)), (.int (48 : Int32)), (.int (46 : Int32)), (.int (48 : Int32)), (.int (46 : Int32)), (.int (49 : Int32))] := P_V_x4
  have A15 : own_R p l e _ _ m _ below meth c S0 n0 hA14 4 47 (mkF m 17 #[.val (.int i0), .val (.int i1), .val (.int pa), .val (.int pb), .unset, .unset, .unset, .unset, .unset, .unset, .unset] [(.ref x1)]) := A14
  have A16 := A15.go (f' := mkF m 19 #[.val (.int i0), .val (.int i1), .val (.int pa), .val (.int pb), .val (.ref x1), .unset, .unset, .unset, .unset, .unset, .unset] []) fun _ _ X _ k => XS.astore X.here hx rfl (hb hby dm0_17) rfl rfl (l' := #[.val (.int i0), .val (.int i1), .val (.int pa), .val (.int pb), .val (.ref x1), .unset, .unset, .unset, .unset, .unset, .unset]) rfl k
  have A17 := A16.go (f' := mkF m 21 #[.val (.int i0), .val (.int i1), .val (.int pa), .val (.int pb), .val (.ref x1), .unset, .unset, .unset, .unset, .unset, .unset] [(.ref x1)]) fun _ _ X _ k => XS.aload X.here hx rfl (hb hby dm0_19) rfl rfl k
  have A18 := A17.go (f' := mkF m 22 #[.val (.int i0), .val (.int i1), .val (.int pa), .val (.int pb), .val (.ref x1), .unset, .unset, .unset, .unset, .unset, .unset] [(.int pa), (.ref x1)]) fun _ _ X _ k => XS.iloadN X.here hx rfl (hb hby dm0_21) rfl k
  obtain ⟨vA19, hA19, ⟨x5, rfl, KA19, zz_x5, P_E_x5, P_F_x5_host, P_F_x5_port, P_F_x5_tlsCertificate, P_F_x5_tlsKey, P_F_x5_tokenLifetime⟩, A19⟩ := A18.callV (b := x1) (own_c16 l Z a0 hw x1 x2 x3 pa hA14 n0 Z0 F_x1_host F_x1_tlsCertificate F_x1_tlsKey F_x1_tokenLifetime hpa0 hpa1) E_x1 hx hZ hown (hb hby dm0_22) (hw _ (List.mem_of_getElem? (i := 50) rfl)) (hw _ (List.mem_of_getElem? (i := 51) rfl)) (hw _ (List.mem_of_getElem? (i := 53) rfl)) (hw _ (List.mem_of_getElem? (i := 52) rfl)) (hw _ (List.mem_of_getElem? (i := 54) rfl)) (hw _ (List.mem_of_getElem? (i := 3) rfl)) (own_nf (y' := (⟨"com/example/periwinkle/periwinkle/server/ServerSettings", "withPort", "(I)Lcom/example/periwinkle/periwinkle/server/ServerSettings;"⟩ : MethodName)) (hw _ (List.mem_of_getElem? (i := 53) rfl)) rfl) ⟨by decide, by decide⟩ (lenOf pd__28I_29Lcom_2fexample_2fperiwinkle_2fperiwinkle_2fserver_2fServerSettings_3b rfl) (argsL := [(.int pa)]) (rest := []) rfl rfl (by rw [hml]; rfl) (W := 0) (Nat.le_of_eq rfl) (by decide) (by decide) (by decide) (by decide)
  have ne_dig_x5 : dig ≠ x5 := Nat.ne_of_lt (Nat.lt_of_lt_of_le V_dig.lt zz_x5)
  have ne_x5_dig := Ne.symm ne_dig_x5
  have ne_x1_x5 : x1 ≠ x5 := Nat.ne_of_lt (Nat.lt_of_lt_of_le E_x1.lt zz_x5)
  have ne_x5_x1 := Ne.symm ne_x1_x5
  have ne_x2_x5 : x2 ≠ x5 := Nat.ne_of_lt (Nat.lt_of_lt_of_le E_x2.lt zz_x5)
  have ne_x5_x2 := Ne.symm ne_x2_x5
  have ne_x3_x5 : x3 ≠ x5 := Nat.ne_of_lt (Nat.lt_of_lt_of_le E_x3.lt zz_x5)
  have ne_x5_x3 := Ne.symm ne_x3_x5
  have ne_x4_x5 : x4 ≠ x5 := Nat.ne_of_lt (Nat.lt_of_lt_of_le V_x4.lt zz_x5)
  have ne_x5_x4 := Ne.symm ne_x4_x5
  have g_x5 : n0 ≤ x5 := Nat.le_trans Z0 zz_x5
  have hsA : ∀ x ∈ ([] : List Addr), Safe Z own_EL vmA14 hA14 x := all0
  have HC := HC.trans (CHr.keep KA19 hsA HC.1)
  have hk := Nat.le_trans hk KA19.1
  have S_cs : Sta Z hA19 "java/lang/String" "COMPACT_STRINGS" "Z" (.int cs) := own_staK S_cs KA19 all0
  have S_dig : Sta Z hA19 "java/lang/Integer" "DigitOnes" "[B" (.ref dig) := own_staK S_dig KA19 all0
  have V_dig : own_Ar Z hA19 dig .byte ds := V_dig.keep KA19 nin0
  have E_x1 : Exa Z hA19 x1 "com/example/periwinkle/periwinkle/server/ServerSettings" := E_x1.keep KA19
  have F_x1_host : Fld Z hA19 x1 "com/example/periwinkle/periwinkle/server/ServerSettings" "host" "Ljava/lang/String;" (.ref x2) := F_x1_host.keep KA19 nin0
  have F_x1_port : Fld Z hA19 x1 "com/example/periwinkle/periwinkle/server/ServerSettings" "port" "I" (.int (9911 : Int32)) := F_x1_port.keep KA19 nin0
  have F_x1_tlsCertificate : Fld Z hA19 x1 "com/example/periwinkle/periwinkle/server/ServerSettings" "tlsCertificate" "Ljava/nio/file/Path;" .null := F_x1_tlsCertificate.keep KA19 nin0
  have F_x1_tlsKey : Fld Z hA19 x1 "com/example/periwinkle/periwinkle/server/ServerSettings" "tlsKey" "Ljava/nio/file/Path;" .null := F_x1_tlsKey.keep KA19 nin0
  have F_x1_tokenLifetime : Fld Z hA19 x1 "com/example/periwinkle/periwinkle/server/ServerSettings" "tokenLifetime" "Ljava/time/Duration;" (.ref x3) := F_x1_tokenLifetime.keep KA19 nin0
  have E_x2 : Exa Z hA19 x2 "java/lang/String" := E_x2.keep KA19
  have F_x2_coder : Fld Z hA19 x2 "java/lang/String" "coder" "B" (.int (0 : Int32)) := F_x2_coder.keep KA19 nin0
  have F_x2_value : Fld Z hA19 x2 "java/lang/String" "value" "[B" (.ref x4) := F_x2_value.keep KA19 nin0
  have E_x3 : Exa Z hA19 x3 "java/time/Duration" := E_x3.keep KA19
  have F_x3_seconds : Fld Z hA19 x3 "java/time/Duration" "seconds" "J" (.long (3600 : Int64)) := F_x3_seconds.keep KA19 nin0
  have F_x3_nanos : Fld Z hA19 x3 "java/time/Duration" "nanos" "I" (.int (0 : Int32)) := F_x3_nanos.keep KA19 nin0
  have V_x4 : own_Ar Z hA19 x4 .byte [(.int (49 : Int32)), (.int (50 : Int32)), (.int (55 : Int32)), (.int (46 : Int32)), (.int (48 : Int32)), (.int (46 : Int32)), (.int (48 : Int32)), (.int (46 : Int32)), (.int (49 : Int32))] := V_x4.keep KA19 nin0
  have Z0 : n0 ≤ hA19.size := Nat.le_trans Z0 KA19.1
  have E_x5 : Exa Z hA19 x5 "com/example/periwinkle/periwinkle/server/ServerSettings" := P_E_x5
  have F_x5_host : Fld Z hA19 x5 "com/example/periwinkle/periwinkle/server/ServerSettings" "host" "Ljava/lang/String;" (.ref x2) := P_F_x5_host
  have F_x5_port : Fld Z hA19 x5 "com/example/periwinkle/periwinkle/server/ServerSettings" "port" "I" (.int pa) := P_F_x5_port
  have F_x5_tlsCertificate : Fld Z hA19 x5 "com/example/periwinkle/periwinkle/server/ServerSettings" "tlsCertificate" "Ljava/nio/file/Path;" .null := P_F_x5_tlsCertificate
  have F_x5_tlsKey : Fld Z hA19 x5 "com/example/periwinkle/periwinkle/server/ServerSettings" "tlsKey" "Ljava/nio/file/Path;" .null := P_F_x5_tlsKey
  have F_x5_tokenLifetime : Fld Z hA19 x5 "com/example/periwinkle/periwinkle/server/ServerSettings" "tokenLifetime" "Ljava/time/Duration;" (.ref x3) := P_F_x5_tokenLifetime
  have A20 : own_R p l e _ _ m _ below meth c S0 n0 hA19 5 52 (mkF m 25 #[.val (.int i0), .val (.int i1), .val (.int pa), .val (.int pb), .val (.ref x1), .unset, .unset, .unset, .unset, .unset, .unset] [(.ref x5)]) := A19
  have A21 := A20.go (f' := mkF m 27 #[.val (.int i0), .val (.int i1), .val (.int pa), .val (.int pb), .val (.ref x1), .val (.ref x5), .unset, .unset, .unset, .unset, .unset] []) fun _ _ X _ k => XS.astore X.here hx rfl (hb hby dm0_25) rfl rfl (l' := #[.val (.int i0), .val (.int i1), .val (.int pa), .val (.int pb), .val (.ref x1), .val (.ref x5), .unset, .unset, .unset, .unset, .unset]) rfl k
  have A22 := A21.go (f' := mkF m 29 #[.val (.int i0), .val (.int i1), .val (.int pa), .val (.int pb), .val (.ref x1), .val (.ref x5), .unset, .unset, .unset, .unset, .unset] [(.ref x5)]) fun _ _ X _ k => XS.aload X.here hx rfl (hb hby dm0_27) rfl rfl k
  have A23 := A22.go (f' := mkF m 30 #[.val (.int i0), .val (.int i1), .val (.int pa), .val (.int pb), .val (.ref x1), .val (.ref x5), .unset, .unset, .unset, .unset, .unset] [(.int pb), (.ref x5)]) fun _ _ X _ k => XS.iloadN X.here hx rfl (hb hby dm0_29) rfl k
  obtain ⟨vA24, hA24, ⟨x6, rfl, KA24, zz_x6, P_E_x6, P_F_x6_host, P_F_x6_port, P_F_x6_tlsCertificate, P_F_x6_tlsKey, P_F_x6_tokenLifetime⟩, A24⟩ := A23.callV (b := x5) (own_c16 l Z a0 hw x5 x2 x3 pb hA19 n0 Z0 F_x5_host F_x5_tlsCertificate F_x5_tlsKey F_x5_tokenLifetime hpb0 hpb1) E_x5 hx hZ hown (hb hby dm0_30) (hw _ (List.mem_of_getElem? (i := 50) rfl)) (hw _ (List.mem_of_getElem? (i := 51) rfl)) (hw _ (List.mem_of_getElem? (i := 53) rfl)) (hw _ (List.mem_of_getElem? (i := 52) rfl)) (hw _ (List.mem_of_getElem? (i := 54) rfl)) (hw _ (List.mem_of_getElem? (i := 3) rfl)) (own_nf (y' := (⟨"com/example/periwinkle/periwinkle/server/ServerSettings", "withPort", "(I)Lcom/example/periwinkle/periwinkle/server/ServerSettings;"⟩ : MethodName)) (hw _ (List.mem_of_getElem? (i := 53) rfl)) rfl) ⟨by decide, by decide⟩ (lenOf pd__28I_29Lcom_2fexample_2fperiwinkle_2fperiwinkle_2fserver_2fServerSettings_3b rfl) (argsL := [(.int pb)]) (rest := []) rfl rfl (by rw [hml]; rfl) (W := 0) (Nat.le_of_eq rfl) (by decide) (by decide) (by decide) (by decide)
  have ne_dig_x6 : dig ≠ x6 := Nat.ne_of_lt (Nat.lt_of_lt_of_le V_dig.lt zz_x6)
  have ne_x6_dig := Ne.symm ne_dig_x6
  have ne_x1_x6 : x1 ≠ x6 := Nat.ne_of_lt (Nat.lt_of_lt_of_le E_x1.lt zz_x6)
  have ne_x6_x1 := Ne.symm ne_x1_x6
  have ne_x2_x6 : x2 ≠ x6 := Nat.ne_of_lt (Nat.lt_of_lt_of_le E_x2.lt zz_x6)
  have ne_x6_x2 := Ne.symm ne_x2_x6
  have ne_x3_x6 : x3 ≠ x6 := Nat.ne_of_lt (Nat.lt_of_lt_of_le E_x3.lt zz_x6)
  have ne_x6_x3 := Ne.symm ne_x3_x6
  have ne_x4_x6 : x4 ≠ x6 := Nat.ne_of_lt (Nat.lt_of_lt_of_le V_x4.lt zz_x6)
  have ne_x6_x4 := Ne.symm ne_x4_x6
  have ne_x5_x6 : x5 ≠ x6 := Nat.ne_of_lt (Nat.lt_of_lt_of_le E_x5.lt zz_x6)
  have ne_x6_x5 := Ne.symm ne_x5_x6
  have g_x6 : n0 ≤ x6 := Nat.le_trans Z0 zz_x6
  have hsA : ∀ x ∈ ([] : List Addr), Safe Z own_EL vmA14 hA19 x := all0
  have HC := HC.trans (CHr.keep KA24 hsA HC.1)
  have hk := Nat.le_trans hk KA24.1
  have S_cs : Sta Z hA24 "java/lang/String" "COMPACT_STRINGS" "Z" (.int cs) := own_staK S_cs KA24 all0
  have S_dig : Sta Z hA24 "java/lang/Integer" "DigitOnes" "[B" (.ref dig) := own_staK S_dig KA24 all0
  have V_dig : own_Ar Z hA24 dig .byte ds := V_dig.keep KA24 nin0
  have E_x1 : Exa Z hA24 x1 "com/example/periwinkle/periwinkle/server/ServerSettings" := E_x1.keep KA24
  have F_x1_host : Fld Z hA24 x1 "com/example/periwinkle/periwinkle/server/ServerSettings" "host" "Ljava/lang/String;" (.ref x2) := F_x1_host.keep KA24 nin0
  have F_x1_port : Fld Z hA24 x1 "com/example/periwinkle/periwinkle/server/ServerSettings" "port" "I" (.int (9911 : Int32)) := F_x1_port.keep KA24 nin0
  have F_x1_tlsCertificate : Fld Z hA24 x1 "com/example/periwinkle/periwinkle/server/ServerSettings" "tlsCertificate" "Ljava/nio/file/Path;" .null := F_x1_tlsCertificate.keep KA24 nin0
  have F_x1_tlsKey : Fld Z hA24 x1 "com/example/periwinkle/periwinkle/server/ServerSettings" "tlsKey" "Ljava/nio/file/Path;" .null := F_x1_tlsKey.keep KA24 nin0
  have F_x1_tokenLifetime : Fld Z hA24 x1 "com/example/periwinkle/periwinkle/server/ServerSettings" "tokenLifetime" "Ljava/time/Duration;" (.ref x3) := F_x1_tokenLifetime.keep KA24 nin0
  have E_x2 : Exa Z hA24 x2 "java/lang/String" := E_x2.keep KA24
  have F_x2_coder : Fld Z hA24 x2 "java/lang/String" "coder" "B" (.int (0 : Int32)) := F_x2_coder.keep KA24 nin0
  have F_x2_value : Fld Z hA24 x2 "java/lang/String" "value" "[B" (.ref x4) := F_x2_value.keep KA24 nin0
  have E_x3 : Exa Z hA24 x3 "java/time/Duration" := E_x3.keep KA24
  have F_x3_seconds : Fld Z hA24 x3 "java/time/Duration" "seconds" "J" (.long (3600 : Int64)) := F_x3_seconds.keep KA24 nin0
  have F_x3_nanos : Fld Z hA24 x3 "java/time/Duration" "nanos" "I" (.int (0 : Int32)) := F_x3_nanos.keep KA24 nin0
  have V_x4 : own_Ar Z hA24 x4 .byte [(.int (49 : Int32)), (.int (50 : Int32)), (.int (55 : Int32)), (.int (46 : Int32)), (.int (48 : Int32)), (.int (46 : Int32)), (.int (48 : Int32)), (.int (46 : Int32)), (.int (49 : Int32))] := V_x4.keep KA24 nin0
  have E_x5 : Exa Z hA24 x5 "com/example/periwinkle/periwinkle/server/ServerSettings" := E_x5.keep KA24
  have F_x5_host : Fld Z hA24 x5 "com/example/periwinkle/periwinkle/server/ServerSettings" "host" "Ljava/lang/String;" (.ref x2) := F_x5_host.keep KA24 nin0
  have F_x5_port : Fld Z hA24 x5 "com/example/periwinkle/periwinkle/server/ServerSettings" "port" "I" (.int pa) := F_x5_port.keep KA24 nin0
  have F_x5_tlsCertificate : Fld Z hA24 x5 "com/example/periwinkle/periwinkle/server/ServerSettings" "tlsCertificate" "Ljava/nio/file/Path;" .null := F_x5_tlsCertificate.keep KA24 nin0
  have F_x5_tlsKey : Fld Z hA24 x5 "com/example/periwinkle/periwinkle/server/ServerSettings" "tlsKey" "Ljava/nio/file/Path;" .null := F_x5_tlsKey.keep KA24 nin0
  have F_x5_tokenLifetime : Fld Z hA24 x5 "com/example/periwinkle/periwinkle/server/ServerSettings" "tokenLifetime" "Ljava/time/Duration;" (.ref x3) := F_x5_tokenLifetime.keep KA24 nin0
  have Z0 : n0 ≤ hA24.size := Nat.le_trans Z0 KA24.1
  have E_x6 : Exa Z hA24 x6 "com/example/periwinkle/periwinkle/server/ServerSettings" := P_E_x6
  have F_x6_host : Fld Z hA24 x6 "com/example/periwinkle/periwinkle/server/ServerSettings" "host" "Ljava/lang/String;" (.ref x2) := P_F_x6_host
  have F_x6_port : Fld Z hA24 x6 "com/example/periwinkle/periwinkle/server/ServerSettings" "port" "I" (.int pb) := P_F_x6_port
  have F_x6_tlsCertificate : Fld Z hA24 x6 "com/example/periwinkle/periwinkle/server/ServerSettings" "tlsCertificate" "Ljava/nio/file/Path;" .null := P_F_x6_tlsCertificate
  have F_x6_tlsKey : Fld Z hA24 x6 "com/example/periwinkle/periwinkle/server/ServerSettings" "tlsKey" "Ljava/nio/file/Path;" .null := P_F_x6_tlsKey
  have F_x6_tokenLifetime : Fld Z hA24 x6 "com/example/periwinkle/periwinkle/server/ServerSettings" "tokenLifetime" "Ljava/time/Duration;" (.ref x3) := P_F_x6_tokenLifetime
  have A25 : own_R p l e _ _ m _ below meth c S0 n0 hA24 6 57 (mkF m 33 #[.val (.int i0), .val (.int i1), .val (.int pa), .val (.int pb), .val (.ref x1), .val (.ref x5), .unset, .unset, .unset, .unset, .unset] [(.ref x6)]) := A24
  have A26 := A25.go (f' := mkF m 35 #[.val (.int i0), .val (.int i1), .val (.int pa), .val (.int pb), .val (.ref x1), .val (.ref x5), .val (.ref x6), .unset, .unset, .unset, .unset] []) fun _ _ X _ k => XS.astore X.here hx rfl (hb hby dm0_33) rfl rfl (l' := #[.val (.int i0), .val (.int i1), .val (.int pa), .val (.int pb), .val (.ref x1), .val (.ref x5), .val (.ref x6), .unset, .unset, .unset, .unset]) rfl k
  have A27 := A26.go (f' := mkF m 37 #[.val (.int i0), .val (.int i1), .val (.int pa), .val (.int pb), .val (.ref x1), .val (.ref x5), .val (.ref x6), .unset, .unset, .unset, .unset] [(.ref x5)]) fun _ _ X _ k => XS.aload X.here hx rfl (hb hby dm0_35) rfl rfl k
  obtain ⟨vA28, hA28, ⟨rfl, rfl⟩, A28⟩ := A27.callV (b := x5) (own_c18 l Z a0 hw x5 pa hA24 n0 Z0 F_x5_port) E_x5 hx hZ hown (hb hby dm0_37) (hw _ (List.mem_of_getElem? (i := 60) rfl)) (hw _ (List.mem_of_getElem? (i := 61) rfl)) (hw _ (List.mem_of_getElem? (i := 63) rfl)) (hw _ (List.mem_of_getElem? (i := 62) rfl)) (hw _ (List.mem_of_getElem? (i := 64) rfl)) (hw _ (List.mem_of_getElem? (i := 3) rfl)) (own_nf (y' := (⟨"com/example/periwinkle/periwinkle/server/ServerSettings", "withPort", "(I)Lcom/example/periwinkle/periwinkle/server/ServerSettings;"⟩ : MethodName)) (hw _ (List.mem_of_getElem? (i := 53) rfl)) rfl) ⟨by decide, by decide⟩ (lenOf pd__28_29I rfl) (argsL := []) (rest := []) rfl rfl (by rw [hml]; rfl) (W := 0) (Nat.le_of_eq rfl) (by decide) (by decide) (by decide) (by decide)
  have A29 : own_R p l e _ _ m _ below meth c S0 n0 hA24 6 57 (mkF m 40 #[.val (.int i0), .val (.int i1), .val (.int pa), .val (.int pb), .val (.ref x1), .val (.ref x5), .val (.ref x6), .unset, .unset, .unset, .unset] [(.int pa)]) := A28
  have A30 := A29.go (f' := mkF m 41 #[.val (.int i0), .val (.int i1), .val (.int pa), .val (.int pb), .val (.ref x1), .val (.ref x5), .val (.ref x6), .unset, .unset, .unset, .unset] [(.int pa), (.int pa)]) fun _ _ X _ k => XS.iloadN X.here hx rfl (hb hby dm0_40) rfl k
  have q31 : (pa = pa) := rfl
  have A32 := A30.go (f' := mkF m 44 #[.val (.int i0), .val (.int i1), .val (.int pa), .val (.int pb), .val (.ref x1), .val (.ref x5), .val (.ref x6), .unset, .unset, .unset, .unset] []) fun _ _ X _ k => XS.icmpNo X.here hx rfl (hb hby dm0_41) rfl ((teq q31).2) k
  have A33 := A32.go (f' := mkF m 46 #[.val (.int i0), .val (.int i1), .val (.int pa), .val (.int pb), .val (.ref x1), .val (.ref x5), .val (.ref x6), .unset, .unset, .unset, .unset] [(.ref x6)]) fun _ _ X _ k => XS.aload X.here hx rfl (hb hby dm0_44) rfl rfl k
  obtain ⟨vA34, hA34, ⟨rfl, rfl⟩, A34⟩ := A33.callV (b := x6) (own_c18 l Z a0 hw x6 pb hA24 n0 Z0 F_x6_port) E_x6 hx hZ hown (hb hby dm0_46) (hw _ (List.mem_of_getElem? (i := 60) rfl)) (hw _ (List.mem_of_getElem? (i := 61) rfl)) (hw _ (List.mem_of_getElem? (i := 63) rfl)) (hw _ (List.mem_of_getElem? (i := 62) rfl)) (hw _ (List.mem_of_getElem? (i := 64) rfl)) (hw _ (List.mem_of_getElem? (i := 3) rfl)) (own_nf (y' := (⟨"com/example/periwinkle/periwinkle/server/ServerSettings", "withPort", "(I)Lcom/example/periwinkle/periwinkle/server/ServerSettings;"⟩ : MethodName)) (hw _ (List.mem_of_getElem? (i := 53) rfl)) rfl) ⟨by decide, by decide⟩ (lenOf pd__28_29I rfl) (argsL := []) (rest := []) rfl rfl (by rw [hml]; rfl) (W := 0) (Nat.le_of_eq rfl) (by decide) (by decide) (by decide) (by decide)
  have A35 : own_R p l e _ _ m _ below meth c S0 n0 hA24 6 57 (mkF m 49 #[.val (.int i0), .val (.int i1), .val (.int pa), .val (.int pb), .val (.ref x1), .val (.ref x5), .val (.ref x6), .unset, .unset, .unset, .unset] [(.int pb)]) := A34
  have A36 := A35.go (f' := mkF m 50 #[.val (.int i0), .val (.int i1), .val (.int pa), .val (.int pb), .val (.ref x1), .val (.ref x5), .val (.ref x6), .unset, .unset, .unset, .unset] [(.int pb), (.int pb)]) fun _ _ X _ k => XS.iloadN X.here hx rfl (hb hby dm0_49) rfl k
  have q37 : (pb = pb) := rfl
  have A38 := A36.go (f' := mkF m 53 #[.val (.int i0), .val (.int i1), .val (.int pa), .val (.int pb), .val (.ref x1), .val (.ref x5), .val (.ref x6), .unset, .unset, .unset, .unset] []) fun _ _ X _ k => XS.icmpNo X.here hx rfl (hb hby dm0_50) rfl ((teq q37).2) k
  have A39 := A38.go (f' := mkF m 54 #[.val (.int i0), .val (.int i1), .val (.int pa), .val (.int pb), .val (.ref x1), .val (.ref x5), .val (.ref x6), .unset, .unset, .unset, .unset] [(.int (1 : Int32))]) fun _ _ X _ k => XS.iconst X.here hx rfl (hb hby dm0_53) k
  have A40 := A39.go (f' := mkF m 58 #[.val (.int i0), .val (.int i1), .val (.int pa), .val (.int pb), .val (.ref x1), .val (.ref x5), .val (.ref x6), .unset, .unset, .unset, .unset] [(.int (1 : Int32))]) fun _ _ X _ k => XS.goto X.here hx rfl (pc0 := 54) (pc' := 58) rfl (hb hby dm0_54) (by decide) (by decide) k
  have A41 := A40.go (f' := mkF m 60 #[.val (.int i0), .val (.int i1), .val (.int pa), .val (.int pb), .val (.ref x1), .val (.ref x5), .val (.ref x6), .val (.int (1 : Int32)), .unset, .unset, .unset] []) fun _ _ X _ k => XS.istore X.here hx rfl (hb hby dm0_58) rfl (l' := #[.val (.int i0), .val (.int i1), .val (.int pa), .val (.int pb), .val (.ref x1), .val (.ref x5), .val (.ref x6), .val (.int (1 : Int32)), .unset, .unset, .unset]) rfl k
  have A42 := A41.go (f' := mkF m 62 #[.val (.int i0), .val (.int i1), .val (.int pa), .val (.int pb), .val (.ref x1), .val (.ref x5), .val (.ref x6), .val (.int (1 : Int32)), .unset, .unset, .unset] [(.ref x1)]) fun _ _ X _ k => XS.aload X.here hx rfl (hb hby dm0_60) rfl rfl k
  obtain ⟨vA43, hA43, ⟨rfl, rfl⟩, A43⟩ := A42.callV (b := x1) (own_c18 l Z a0 hw x1 (9911 : Int32) hA24 n0 Z0 F_x1_port) E_x1 hx hZ hown (hb hby dm0_62) (hw _ (List.mem_of_getElem? (i := 60) rfl)) (hw _ (List.mem_of_getElem? (i := 61) rfl)) (hw _ (List.mem_of_getElem? (i := 63) rfl)) (hw _ (List.mem_of_getElem? (i := 62) rfl)) (hw _ (List.mem_of_getElem? (i := 64) rfl)) (hw _ (List.mem_of_getElem? (i := 3) rfl)) (own_nf (y' := (⟨"com/example/periwinkle/periwinkle/server/ServerSettings", "withPort", "(I)Lcom/example/periwinkle/periwinkle/server/ServerSettings;"⟩ : MethodName)) (hw _ (List.mem_of_getElem? (i := 53) rfl)) rfl) ⟨by decide, by decide⟩ (lenOf pd__28_29I rfl) (argsL := []) (rest := []) rfl rfl (by rw [hml]; rfl) (W := 0) (Nat.le_of_eq rfl) (by decide) (by decide) (by decide) (by decide)
  have A44 : own_R p l e _ _ m _ below meth c S0 n0 hA24 6 57 (mkF m 65 #[.val (.int i0), .val (.int i1), .val (.int pa), .val (.int pb), .val (.ref x1), .val (.ref x5), .val (.ref x6), .val (.int (1 : Int32)), .unset, .unset, .unset] [(.int (9911 : Int32))]) := A43
  have A45 := A44.go (f' := mkF m 68 #[.val (.int i0), .val (.int i1), .val (.int pa), .val (.int pb), .val (.ref x1), .val (.ref x5), .val (.ref x6), .val (.int (1 : Int32)), .unset, .unset, .unset] [(.int (9911 : Int32)), (.int (9911 : Int32))]) fun _ _ X _ k => XS.sipush X.here hx rfl (hb hby dm0_65) k
  have q46 : ((9911 : Int32) = (9911 : Int32)) := rfl
  have A47 := A45.go (f' := mkF m 71 #[.val (.int i0), .val (.int i1), .val (.int pa), .val (.int pb), .val (.ref x1), .val (.ref x5), .val (.ref x6), .val (.int (1 : Int32)), .unset, .unset, .unset] []) fun _ _ X _ k => XS.icmpNo X.here hx rfl (hb hby dm0_68) rfl ((teq q46).2) k
  have A48 := A47.go (f' := mkF m 72 #[.val (.int i0), .val (.int i1), .val (.int pa), .val (.int pb), .val (.ref x1), .val (.ref x5), .val (.ref x6), .val (.int (1 : Int32)), .unset, .unset, .unset] [(.int (1 : Int32))]) fun _ _ X _ k => XS.iconst X.here hx rfl (hb hby dm0_71) k
  have A49 := A48.go (f' := mkF m 76 #[.val (.int i0), .val (.int i1), .val (.int pa), .val (.int pb), .val (.ref x1), .val (.ref x5), .val (.ref x6), .val (.int (1 : Int32)), .unset, .unset, .unset] [(.int (1 : Int32))]) fun _ _ X _ k => XS.goto X.here hx rfl (pc0 := 72) (pc' := 76) rfl (hb hby dm0_72) (by decide) (by decide) k
  have A50 := A49.go (f' := mkF m 78 #[.val (.int i0), .val (.int i1), .val (.int pa), .val (.int pb), .val (.ref x1), .val (.ref x5), .val (.ref x6), .val (.int (1 : Int32)), .val (.int (1 : Int32)), .unset, .unset] []) fun _ _ X _ k => XS.istore X.here hx rfl (hb hby dm0_76) rfl (l' := #[.val (.int i0), .val (.int i1), .val (.int pa), .val (.int pb), .val (.ref x1), .val (.ref x5), .val (.ref x6), .val (.int (1 : Int32)), .val (.int (1 : Int32)), .unset, .unset]) rfl k
  have A51 := A50.go (f' := mkF m 80 #[.val (.int i0), .val (.int i1), .val (.int pa), .val (.int pb), .val (.ref x1), .val (.ref x5), .val (.ref x6), .val (.int (1 : Int32)), .val (.int (1 : Int32)), .unset, .unset] [(.ref x5)]) fun _ _ X _ k => XS.aload X.here hx rfl (hb hby dm0_78) rfl rfl k
  obtain ⟨vA52, hA52, ⟨rfl, rfl⟩, A52⟩ := A51.callV (b := x5) (own_c20 l Z a0 hw x5 x3 hA24 n0 Z0 F_x5_tokenLifetime) E_x5 hx hZ hown (hb hby dm0_80) (hw _ (List.mem_of_getElem? (i := 65) rfl)) (hw _ (List.mem_of_getElem? (i := 66) rfl)) (hw _ (List.mem_of_getElem? (i := 68) rfl)) (hw _ (List.mem_of_getElem? (i := 67) rfl)) (hw _ (List.mem_of_getElem? (i := 69) rfl)) (hw _ (List.mem_of_getElem? (i := 3) rfl)) (own_nf (y' := (⟨"com/example/periwinkle/periwinkle/server/ServerSettings", "withPort", "(I)Lcom/example/periwinkle/periwinkle/server/ServerSettings;"⟩ : MethodName)) (hw _ (List.mem_of_getElem? (i := 53) rfl)) rfl) ⟨by decide, by decide⟩ (lenOf pd__28_29Ljava_2ftime_2fDuration_3b rfl) (argsL := []) (rest := []) rfl rfl (by rw [hml]; rfl) (W := 0) (Nat.le_of_eq rfl) (by decide) (by decide) (by decide) (by decide)
  have A53 : own_R p l e _ _ m _ below meth c S0 n0 hA24 6 57 (mkF m 83 #[.val (.int i0), .val (.int i1), .val (.int pa), .val (.int pb), .val (.ref x1), .val (.ref x5), .val (.ref x6), .val (.int (1 : Int32)), .val (.int (1 : Int32)), .unset, .unset] [(.ref x3)]) := A52
  have A54 := A53.go (f' := mkF m 85 #[.val (.int i0), .val (.int i1), .val (.int pa), .val (.int pb), .val (.ref x1), .val (.ref x5), .val (.ref x6), .val (.int (1 : Int32)), .val (.int (1 : Int32)), .unset, .unset] [(.ref x1), (.ref x3)]) fun _ _ X _ k => XS.aload X.here hx rfl (hb hby dm0_83) rfl rfl k
  obtain ⟨vA55, hA55, ⟨rfl, rfl⟩, A55⟩ := A54.callV (b := x1) (own_c20 l Z a0 hw x1 x3 hA24 n0 Z0 F_x1_tokenLifetime) E_x1 hx hZ hown (hb hby dm0_85) (hw _ (List.mem_of_getElem? (i := 65) rfl)) (hw _ (List.mem_of_getElem? (i := 66) rfl)) (hw _ (List.mem_of_getElem? (i := 68) rfl)) (hw _ (List.mem_of_getElem? (i := 67) rfl)) (hw _ (List.mem_of_getElem? (i := 69) rfl)) (hw _ (List.mem_of_getElem? (i := 3) rfl)) (own_nf (y' := (⟨"com/example/periwinkle/periwinkle/server/ServerSettings", "withPort", "(I)Lcom/example/periwinkle/periwinkle/server/ServerSettings;"⟩ : MethodName)) (hw _ (List.mem_of_getElem? (i := 53) rfl)) rfl) ⟨by decide, by decide⟩ (lenOf pd__28_29Ljava_2ftime_2fDuration_3b rfl) (argsL := []) (rest := [(.ref x3)]) rfl rfl (by rw [hml]; rfl) (W := 1) (Nat.le_of_eq rfl) (by decide) (by decide) (by decide) (by decide)
  have A56 : own_R p l e _ _ m _ below meth c S0 n0 hA24 6 57 (mkF m 88 #[.val (.int i0), .val (.int i1), .val (.int pa), .val (.int pb), .val (.ref x1), .val (.ref x5), .val (.ref x6), .val (.int (1 : Int32)), .val (.int (1 : Int32)), .unset, .unset] [(.ref x3), (.ref x3)]) := A55
  have q57 : (x3 = x3) := rfl
  have A58 := A56.go (f' := mkF m 91 #[.val (.int i0), .val (.int i1), .val (.int pa), .val (.int pb), .val (.ref x1), .val (.ref x5), .val (.ref x6), .val (.int (1 : Int32)), .val (.int (1 : Int32)), .unset, .unset] []) fun _ _ X _ k => acmp X hx rfl rfl rfl (same := true) (pc0 := 88) (pc' := 91) rfl (hb hby dm0_88) rfl (decide_eq_true (congrArg Value.ref q57)) (by decide) rfl k
  have A59 := A58.go (f' := mkF m 92 #[.val (.int i0), .val (.int i1), .val (.int pa), .val (.int pb), .val (.ref x1), .val (.ref x5), .val (.ref x6), .val (.int (1 : Int32)), .val (.int (1 : Int32)), .unset, .unset] [(.int (1 : Int32))]) fun _ _ X _ k => XS.iconst X.here hx rfl (hb hby dm0_91) k
  have A60 := A59.go (f' := mkF m 96 #[.val (.int i0), .val (.int i1), .val (.int pa), .val (.int pb), .val (.ref x1), .val (.ref x5), .val (.ref x6), .val (.int (1 : Int32)), .val (.int (1 : Int32)), .unset, .unset] [(.int (1 : Int32))]) fun _ _ X _ k => XS.goto X.here hx rfl (pc0 := 92) (pc' := 96) rfl (hb hby dm0_92) (by decide) (by decide) k
  have A61 := A60.go (f' := mkF m 98 #[.val (.int i0), .val (.int i1), .val (.int pa), .val (.int pb), .val (.ref x1), .val (.ref x5), .val (.ref x6), .val (.int (1 : Int32)), .val (.int (1 : Int32)), .val (.int (1 : Int32)), .unset] []) fun _ _ X _ k => XS.istore X.here hx rfl (hb hby dm0_96) rfl (l' := #[.val (.int i0), .val (.int i1), .val (.int pa), .val (.int pb), .val (.ref x1), .val (.ref x5), .val (.ref x6), .val (.int (1 : Int32)), .val (.int (1 : Int32)), .val (.int (1 : Int32)), .unset]) rfl k
  have A62 := A61.go (f' := mkF m 100 #[.val (.int i0), .val (.int i1), .val (.int pa), .val (.int pb), .val (.ref x1), .val (.ref x5), .val (.ref x6), .val (.int (1 : Int32)), .val (.int (1 : Int32)), .val (.int (1 : Int32)), .unset] [(.ref x6)]) fun _ _ X _ k => XS.aload X.here hx rfl (hb hby dm0_98) rfl rfl k
  have A63 := A62.go (f' := mkF m 101 #[.val (.int i0), .val (.int i1), .val (.int pa), .val (.int pb), .val (.ref x1), .val (.ref x5), .val (.ref x6), .val (.int (1 : Int32)), .val (.int (1 : Int32)), .val (.int (1 : Int32)), .unset] [(.int (0 : Int32)), (.ref x6)]) fun _ _ X _ k => XS.iconst X.here hx rfl (hb hby dm0_100) k
  obtain ⟨vA64, vmA64, kA64, hA64, ⟨x7, x8, rfl, KA64, zz_x7, zz_x8, ne_x8_x7, P_E_x7, P_F_x7_value, P_F_x7_coder, P_V_x8⟩, hS, hk, hZ, hown, HCs, hgA64, hwA64, A64⟩ := A63.callVS (b := x6) (own_c132 l Z a0 hw x6 x2 x4 cs dig ds hA24 n0 Z0 hEL own_wS F_x6_host F_x6_tlsCertificate V_dig E_x2 F_x2_coder F_x2_value V_x4 S_cs S_dig hcs hds) E_x6 hx hZ hown (hb hby dm0_101) (hw _ (List.mem_of_getElem? (i := 70) rfl)) (hw _ (List.mem_of_getElem? (i := 71) rfl)) (hw _ (List.mem_of_getElem? (i := 73) rfl)) (hw _ (List.mem_of_getElem? (i := 72) rfl)) (hw _ (List.mem_of_getElem? (i := 74) rfl)) (hw _ (List.mem_of_getElem? (i := 3) rfl)) (own_nf (y' := (⟨"com/example/periwinkle/periwinkle/server/ServerSettings", "withPort", "(I)Lcom/example/periwinkle/periwinkle/server/ServerSettings;"⟩ : MethodName)) (hw _ (List.mem_of_getElem? (i := 53) rfl)) rfl) hS hk hEL (CHr.refl HC.1) ⟨by decide, by decide⟩ (lenOf pd__28I_29Ljava_2flang_2fString_3b rfl) (argsL := [(.int (0 : Int32))]) (rest := []) rfl rfl (by rw [hml]; rfl) (W := 0) (Nat.le_of_eq rfl) (by decide) (by decide) (by decide) (by decide)
  have ne_x7_x8 := Ne.symm ne_x8_x7
  have ne_dig_x7 : dig ≠ x7 := Nat.ne_of_lt (Nat.lt_of_lt_of_le V_dig.lt zz_x7)
  have ne_x7_dig := Ne.symm ne_dig_x7
  have ne_x1_x7 : x1 ≠ x7 := Nat.ne_of_lt (Nat.lt_of_lt_of_le E_x1.lt zz_x7)
  have ne_x7_x1 := Ne.symm ne_x1_x7
  have ne_x2_x7 : x2 ≠ x7 := Nat.ne_of_lt (Nat.lt_of_lt_of_le E_x2.lt zz_x7)
  have ne_x7_x2 := Ne.symm ne_x2_x7
  have ne_x3_x7 : x3 ≠ x7 := Nat.ne_of_lt (Nat.lt_of_lt_of_le E_x3.lt zz_x7)
  have ne_x7_x3 := Ne.symm ne_x3_x7
  have ne_x4_x7 : x4 ≠ x7 := Nat.ne_of_lt (Nat.lt_of_lt_of_le V_x4.lt zz_x7)
  have ne_x7_x4 := Ne.symm ne_x4_x7
  have ne_x5_x7 : x5 ≠ x7 := Nat.ne_of_lt (Nat.lt_of_lt_of_le E_x5.lt zz_x7)
  have ne_x7_x5 := Ne.symm ne_x5_x7
  have ne_x6_x7 : x6 ≠ x7 := Nat.ne_of_lt (Nat.lt_of_lt_of_le E_x6.lt zz_x7)
  have ne_x7_x6 := Ne.symm ne_x6_x7
  have g_x7 : n0 ≤ x7 := Nat.le_trans Z0 zz_x7
  have ne_dig_x8 : dig ≠ x8 := Nat.ne_of_lt (Nat.lt_of_lt_of_le V_dig.lt zz_x8)
  have ne_x8_dig := Ne.symm ne_dig_x8
  have ne_x1_x8 : x1 ≠ x8 := Nat.ne_of_lt (Nat.lt_of_lt_of_le E_x1.lt zz_x8)
  have ne_x8_x1 := Ne.symm ne_x1_x8
  have ne_x2_x8 : x2 ≠ x8 := Nat.ne_of_lt (Nat.lt_of_lt_of_le E_x2.lt zz_x8)
  have ne_x8_x2 := Ne.symm ne_x2_x8
  have ne_x3_x8 : x3 ≠ x8 := Nat.ne_of_lt (Nat.lt_of_lt_of_le E_x3.lt zz_x8)
  have ne_x8_x3 := Ne.symm ne_x3_x8
  have ne_x4_x8 : x4 ≠ x8 := Nat.ne_of_lt (Nat.lt_of_lt_of_le V_x4.lt zz_x8)
  have ne_x8_x4 := Ne.symm ne_x4_x8
  have ne_x5_x8 : x5 ≠ x8 := Nat.ne_of_lt (Nat.lt_of_lt_of_le E_x5.lt zz_x8)
  have ne_x8_x5 := Ne.symm ne_x5_x8
  have ne_x6_x8 : x6 ≠ x8 := Nat.ne_of_lt (Nat.lt_of_lt_of_le E_x6.lt zz_x8)
  have ne_x8_x6 := Ne.symm ne_x6_x8
  have g_x8 : n0 ≤ x8 := Nat.le_trans Z0 zz_x8
  have HC := HC.trans HCs
  have S_cs : Sta Z hA64 "java/lang/String" "COMPACT_STRINGS" "Z" (.int cs) := own_staK S_cs KA64 all0
  have S_dig : Sta Z hA64 "java/lang/Integer" "DigitOnes" "[B" (.ref dig) := own_staK S_dig KA64 all0
  have V_dig : own_Ar Z hA64 dig .byte ds := V_dig.keep KA64 nin0
  have E_x1 : Exa Z hA64 x1 "com/example/periwinkle/periwinkle/server/ServerSettings" := E_x1.keep KA64
  have F_x1_host : Fld Z hA64 x1 "com/example/periwinkle/periwinkle/server/ServerSettings" "host" "Ljava/lang/String;" (.ref x2) := F_x1_host.keep KA64 nin0
  have F_x1_port : Fld Z hA64 x1 "com/example/periwinkle/periwinkle/server/ServerSettings" "port" "I" (.int (9911 : Int32)) := F_x1_port.keep KA64 nin0
  have F_x1_tlsCertificate : Fld Z hA64 x1 "com/example/periwinkle/periwinkle/server/ServerSettings" "tlsCertificate" "Ljava/nio/file/Path;" .null := F_x1_tlsCertificate.keep KA64 nin0
  have F_x1_tlsKey : Fld Z hA64 x1 "com/example/periwinkle/periwinkle/server/ServerSettings" "tlsKey" "Ljava/nio/file/Path;" .null := F_x1_tlsKey.keep KA64 nin0
  have F_x1_tokenLifetime : Fld Z hA64 x1 "com/example/periwinkle/periwinkle/server/ServerSettings" "tokenLifetime" "Ljava/time/Duration;" (.ref x3) := F_x1_tokenLifetime.keep KA64 nin0
  have E_x2 : Exa Z hA64 x2 "java/lang/String" := E_x2.keep KA64
  have F_x2_coder : Fld Z hA64 x2 "java/lang/String" "coder" "B" (.int (0 : Int32)) := F_x2_coder.keep KA64 nin0
  have F_x2_value : Fld Z hA64 x2 "java/lang/String" "value" "[B" (.ref x4) := F_x2_value.keep KA64 nin0
  have E_x3 : Exa Z hA64 x3 "java/time/Duration" := E_x3.keep KA64
  have F_x3_seconds : Fld Z hA64 x3 "java/time/Duration" "seconds" "J" (.long (3600 : Int64)) := F_x3_seconds.keep KA64 nin0
  have F_x3_nanos : Fld Z hA64 x3 "java/time/Duration" "nanos" "I" (.int (0 : Int32)) := F_x3_nanos.keep KA64 nin0
  have V_x4 : own_Ar Z hA64 x4 .byte [(.int (49 : Int32)), (.int (50 : Int32)), (.int (55 : Int32)), (.int (46 : Int32)), (.int (48 : Int32)), (.int (46 : Int32)), (.int (48 : Int32)), (.int (46 : Int32)), (.int (49 : Int32))] := V_x4.keep KA64 nin0
  have E_x5 : Exa Z hA64 x5 "com/example/periwinkle/periwinkle/server/ServerSettings" := E_x5.keep KA64
  have F_x5_host : Fld Z hA64 x5 "com/example/periwinkle/periwinkle/server/ServerSettings" "host" "Ljava/lang/String;" (.ref x2) := F_x5_host.keep KA64 nin0
  have F_x5_port : Fld Z hA64 x5 "com/example/periwinkle/periwinkle/server/ServerSettings" "port" "I" (.int pa) := F_x5_port.keep KA64 nin0
  have F_x5_tlsCertificate : Fld Z hA64 x5 "com/example/periwinkle/periwinkle/server/ServerSettings" "tlsCertificate" "Ljava/nio/file/Path;" .null := F_x5_tlsCertificate.keep KA64 nin0
  have F_x5_tlsKey : Fld Z hA64 x5 "com/example/periwinkle/periwinkle/server/ServerSettings" "tlsKey" "Ljava/nio/file/Path;" .null := F_x5_tlsKey.keep KA64 nin0
  have F_x5_tokenLifetime : Fld Z hA64 x5 "com/example/periwinkle/periwinkle/server/ServerSettings" "tokenLifetime" "Ljava/time/Duration;" (.ref x3) := F_x5_tokenLifetime.keep KA64 nin0
  have E_x6 : Exa Z hA64 x6 "com/example/periwinkle/periwinkle/server/ServerSettings" := E_x6.keep KA64
  have F_x6_host : Fld Z hA64 x6 "com/example/periwinkle/periwinkle/server/ServerSettings" "host" "Ljava/lang/String;" (.ref x2) := F_x6_host.keep KA64 nin0
  have F_x6_port : Fld Z hA64 x6 "com/example/periwinkle/periwinkle/server/ServerSettings" "port" "I" (.int pb) := F_x6_port.keep KA64 nin0
  have F_x6_tlsCertificate : Fld Z hA64 x6 "com/example/periwinkle/periwinkle/server/ServerSettings" "tlsCertificate" "Ljava/nio/file/Path;" .null := F_x6_tlsCertificate.keep KA64 nin0
  have F_x6_tlsKey : Fld Z hA64 x6 "com/example/periwinkle/periwinkle/server/ServerSettings" "tlsKey" "Ljava/nio/file/Path;" .null := F_x6_tlsKey.keep KA64 nin0
  have F_x6_tokenLifetime : Fld Z hA64 x6 "com/example/periwinkle/periwinkle/server/ServerSettings" "tokenLifetime" "Ljava/time/Duration;" (.ref x3) := F_x6_tokenLifetime.keep KA64 nin0
  have Z0 : n0 ≤ hA64.size := Nat.le_trans Z0 KA64.1
  have E_x7 : Exa Z hA64 x7 "java/lang/String" := P_E_x7
  have F_x7_value : Fld Z hA64 x7 "java/lang/String" "value" "[B" (.ref x8) := P_F_x7_value
  have F_x7_coder : Fld Z hA64 x7 "java/lang/String" "coder" "B" (.int (0 : Int32)) := P_F_x7_coder
  have V_x8 : own_Ar Z hA64 x8 .byte [(.int (104 : Int32)), (.int (116 : Int32)), (.int (116 : Int32)), (.int (112 : Int32)), (.int (58 : Int32)), (.int (47 : Int32)), (.int (47 : Int32)), (.int (49 : Int32)), (.int (50 : Int32)), (.int (55 : Int32)), (.int (46 : Int32)), (.int (48 : Int32)), (.int (46 : Int32)), (.int (48 : Int32)), (.int (46 : Int32)), (.int (49 : Int32)), (.int (58 : Int32)), (.int (48 : Int32))] := P_V_x8
  have A65 : own_R p l e _ _ m _ below meth c S0 n0 hA64 19 185 (mkF m 104 #[.val (.int i0), .val (.int i1), .val (.int pa), .val (.int pb), .val (.ref x1), .val (.ref x5), .val (.ref x6), .val (.int (1 : Int32)), .val (.int (1 : Int32)), .val (.int (1 : Int32)), .unset] [(.ref x7)]) := A64
  have A66 := A65.go (f' := mkF m 106 #[.val (.int i0), .val (.int i1), .val (.int pa), .val (.int pb), .val (.ref x1), .val (.ref x5), .val (.ref x6), .val (.int (1 : Int32)), .val (.int (1 : Int32)), .val (.int (1 : Int32)), .unset] [(.ref x1), (.ref x7)]) fun _ _ X _ k => XS.aload X.here hx rfl (hb hby dm0_104) rfl rfl k
  have A67 := A66.go (f' := mkF m 107 #[.val (.int i0), .val (.int i1), .val (.int pa), .val (.int pb), .val (.ref x1), .val (.ref x5), .val (.ref x6), .val (.int (1 : Int32)), .val (.int (1 : Int32)), .val (.int (1 : Int32)), .unset] [(.int (0 : Int32)), (.ref x1), (.ref x7)]) fun _ _ X _ k => XS.iconst X.here hx rfl (hb hby dm0_106) k
  obtain ⟨vA68, vmA68, kA68, hA68, ⟨x9, x10, rfl, KA68, zz_x9, zz_x10, ne_x10_x9, P_E_x9, P_F_x9_value, P_F_x9_coder, P_V_x10⟩, hS, hk, hZ, hown, HCs, hgA68, hwA68, A68⟩ := A67.callVS (b := x1) (own_c132 l Z a0 hw x1 x2 x4 cs dig ds hA64 n0 Z0 hEL own_wS F_x1_host F_x1_tlsCertificate V_dig E_x2 F_x2_coder F_x2_value V_x4 S_cs S_dig hcs hds) E_x1 hx hZ hown (hb hby dm0_107) (hw _ (List.mem_of_getElem? (i := 70) rfl)) (hw _ (List.mem_of_getElem? (i := 71) rfl)) (hw _ (List.mem_of_getElem? (i := 73) rfl)) (hw _ (List.mem_of_getElem? (i := 72) rfl)) (hw _ (List.mem_of_getElem? (i := 74) rfl)) (hw _ (List.mem_of_getElem? (i := 3) rfl)) (own_nf (y' := (⟨"com/example/periwinkle/periwinkle/server/ServerSettings", "withPort", "(I)Lcom/example/periwinkle/periwinkle/server/ServerSettings;"⟩ : MethodName)) (hw _ (List.mem_of_getElem? (i := 53) rfl)) rfl) hS hk hEL (CHr.refl HC.1) ⟨by decide, by decide⟩ (lenOf pd__28I_29Ljava_2flang_2fString_3b rfl) (argsL := [(.int (0 : Int32))]) (rest := [(.ref x7)]) rfl rfl (by rw [hml]; rfl) (W := 1) (Nat.le_of_eq rfl) (by decide) (by decide) (by decide) (by decide)
  have ne_x9_x10 := Ne.symm ne_x10_x9
  have ne_dig_x9 : dig ≠ x9 := Nat.ne_of_lt (Nat.lt_of_lt_of_le V_dig.lt zz_x9)
  have ne_x9_dig := Ne.symm ne_dig_x9
  have ne_x1_x9 : x1 ≠ x9 := Nat.ne_of_lt (Nat.lt_of_lt_of_le E_x1.lt zz_x9)
  have ne_x9_x1 := Ne.symm ne_x1_x9
  have ne_x2_x9 : x2 ≠ x9 := Nat.ne_of_lt (Nat.lt_of_lt_of_le E_x2.lt zz_x9)
  have ne_x9_x2 := Ne.symm ne_x2_x9
  have ne_x3_x9 : x3 ≠ x9 := Nat.ne_of_lt (Nat.lt_of_lt_of_le E_x3.lt zz_x9)
  have ne_x9_x3 := Ne.symm ne_x3_x9
  have ne_x4_x9 : x4 ≠ x9 := Nat.ne_of_lt (Nat.lt_of_lt_of_le V_x4.lt zz_x9)
  have ne_x9_x4 := Ne.symm ne_x4_x9
  have ne_x5_x9 : x5 ≠ x9 := Nat.ne_of_lt (Nat.lt_of_lt_of_le E_x5.lt zz_x9)
  have ne_x9_x5 := Ne.symm ne_x5_x9
  have ne_x6_x9 : x6 ≠ x9 := Nat.ne_of_lt (Nat.lt_of_lt_of_le E_x6.lt zz_x9)
  have ne_x9_x6 := Ne.symm ne_x6_x9
  have ne_x7_x9 : x7 ≠ x9 := Nat.ne_of_lt (Nat.lt_of_lt_of_le E_x7.lt zz_x9)
  have ne_x9_x7 := Ne.symm ne_x7_x9
  have ne_x8_x9 : x8 ≠ x9 := Nat.ne_of_lt (Nat.lt_of_lt_of_le V_x8.lt zz_x9)
  have ne_x9_x8 := Ne.symm ne_x8_x9
  have g_x9 : n0 ≤ x9 := Nat.le_trans Z0 zz_x9
  have ne_dig_x10 : dig ≠ x10 := Nat.ne_of_lt (Nat.lt_of_lt_of_le V_dig.lt zz_x10)
  have ne_x10_dig := Ne.symm ne_dig_x10
  have ne_x1_x10 : x1 ≠ x10 := Nat.ne_of_lt (Nat.lt_of_lt_of_le E_x1.lt zz_x10)
  have ne_x10_x1 := Ne.symm ne_x1_x10
  have ne_x2_x10 : x2 ≠ x10 := Nat.ne_of_lt (Nat.lt_of_lt_of_le E_x2.lt zz_x10)
  have ne_x10_x2 := Ne.symm ne_x2_x10
  have ne_x3_x10 : x3 ≠ x10 := Nat.ne_of_lt (Nat.lt_of_lt_of_le E_x3.lt zz_x10)
  have ne_x10_x3 := Ne.symm ne_x3_x10
  have ne_x4_x10 : x4 ≠ x10 := Nat.ne_of_lt (Nat.lt_of_lt_of_le V_x4.lt zz_x10)
  have ne_x10_x4 := Ne.symm ne_x4_x10
  have ne_x5_x10 : x5 ≠ x10 := Nat.ne_of_lt (Nat.lt_of_lt_of_le E_x5.lt zz_x10)
  have ne_x10_x5 := Ne.symm ne_x5_x10
  have ne_x6_x10 : x6 ≠ x10 := Nat.ne_of_lt (Nat.lt_of_lt_of_le E_x6.lt zz_x10)
  have ne_x10_x6 := Ne.symm ne_x6_x10
  have ne_x7_x10 : x7 ≠ x10 := Nat.ne_of_lt (Nat.lt_of_lt_of_le E_x7.lt zz_x10)
  have ne_x10_x7 := Ne.symm ne_x7_x10
  have ne_x8_x10 : x8 ≠ x10 := Nat.ne_of_lt (Nat.lt_of_lt_of_le V_x8.lt zz_x10)
  have ne_x10_x8 := Ne.symm ne_x8_x10
  have g_x10 : n0 ≤ x10 := Nat.le_trans Z0 zz_x10
  have HC := HC.trans HCs
  have S_cs : Sta Z hA68 "java/lang/String" "COMPACT_STRINGS" "Z" (.int cs) := own_staK S_cs KA68 all0
  have S_dig : Sta Z hA68 "java/lang/Integer" "DigitOnes" "[B" (.ref dig) := own_staK S_dig KA68 all0
  have V_dig : own_Ar Z hA68 dig .byte ds := V_dig.keep KA68 nin0
  have E_x1 : Exa Z hA68 x1 "com/example/periwinkle/periwinkle/server/ServerSettings" := E_x1.keep KA68
  have F_x1_host : Fld Z hA68 x1 "com/example/periwinkle/periwinkle/server/ServerSettings" "host" "Ljava/lang/String;" (.ref x2) := F_x1_host.keep KA68 nin0
  have F_x1_port : Fld Z hA68 x1 "com/example/periwinkle/periwinkle/server/ServerSettings" "port" "I" (.int (9911 : Int32)) := F_x1_port.keep KA68 nin0
  have F_x1_tlsCertificate : Fld Z hA68 x1 "com/example/periwinkle/periwinkle/server/ServerSettings" "tlsCertificate" "Ljava/nio/file/Path;" .null := F_x1_tlsCertificate.keep KA68 nin0
  have F_x1_tlsKey : Fld Z hA68 x1 "com/example/periwinkle/periwinkle/server/ServerSettings" "tlsKey" "Ljava/nio/file/Path;" .null := F_x1_tlsKey.keep KA68 nin0
  have F_x1_tokenLifetime : Fld Z hA68 x1 "com/example/periwinkle/periwinkle/server/ServerSettings" "tokenLifetime" "Ljava/time/Duration;" (.ref x3) := F_x1_tokenLifetime.keep KA68 nin0
  have E_x2 : Exa Z hA68 x2 "java/lang/String" := E_x2.keep KA68
  have F_x2_coder : Fld Z hA68 x2 "java/lang/String" "coder" "B" (.int (0 : Int32)) := F_x2_coder.keep KA68 nin0
  have F_x2_value : Fld Z hA68 x2 "java/lang/String" "value" "[B" (.ref x4) := F_x2_value.keep KA68 nin0
  have E_x3 : Exa Z hA68 x3 "java/time/Duration" := E_x3.keep KA68
  have F_x3_seconds : Fld Z hA68 x3 "java/time/Duration" "seconds" "J" (.long (3600 : Int64)) := F_x3_seconds.keep KA68 nin0
  have F_x3_nanos : Fld Z hA68 x3 "java/time/Duration" "nanos" "I" (.int (0 : Int32)) := F_x3_nanos.keep KA68 nin0
  have V_x4 : own_Ar Z hA68 x4 .byte [(.int (49 : Int32)), (.int (50 : Int32)), (.int (55 : Int32)), (.int (46 : Int32)), (.int (48 : Int32)), (.int (46 : Int32)), (.int (48 : Int32)), (.int (46 : Int32)), (.int (49 : Int32))] := V_x4.keep KA68 nin0
  have E_x5 : Exa Z hA68 x5 "com/example/periwinkle/periwinkle/server/ServerSettings" := E_x5.keep KA68
  have F_x5_host : Fld Z hA68 x5 "com/example/periwinkle/periwinkle/server/ServerSettings" "host" "Ljava/lang/String;" (.ref x2) := F_x5_host.keep KA68 nin0
  have F_x5_port : Fld Z hA68 x5 "com/example/periwinkle/periwinkle/server/ServerSettings" "port" "I" (.int pa) := F_x5_port.keep KA68 nin0
  have F_x5_tlsCertificate : Fld Z hA68 x5 "com/example/periwinkle/periwinkle/server/ServerSettings" "tlsCertificate" "Ljava/nio/file/Path;" .null := F_x5_tlsCertificate.keep KA68 nin0
  have F_x5_tlsKey : Fld Z hA68 x5 "com/example/periwinkle/periwinkle/server/ServerSettings" "tlsKey" "Ljava/nio/file/Path;" .null := F_x5_tlsKey.keep KA68 nin0
  have F_x5_tokenLifetime : Fld Z hA68 x5 "com/example/periwinkle/periwinkle/server/ServerSettings" "tokenLifetime" "Ljava/time/Duration;" (.ref x3) := F_x5_tokenLifetime.keep KA68 nin0
  have E_x6 : Exa Z hA68 x6 "com/example/periwinkle/periwinkle/server/ServerSettings" := E_x6.keep KA68
  have F_x6_host : Fld Z hA68 x6 "com/example/periwinkle/periwinkle/server/ServerSettings" "host" "Ljava/lang/String;" (.ref x2) := F_x6_host.keep KA68 nin0
  have F_x6_port : Fld Z hA68 x6 "com/example/periwinkle/periwinkle/server/ServerSettings" "port" "I" (.int pb) := F_x6_port.keep KA68 nin0
  have F_x6_tlsCertificate : Fld Z hA68 x6 "com/example/periwinkle/periwinkle/server/ServerSettings" "tlsCertificate" "Ljava/nio/file/Path;" .null := F_x6_tlsCertificate.keep KA68 nin0
  have F_x6_tlsKey : Fld Z hA68 x6 "com/example/periwinkle/periwinkle/server/ServerSettings" "tlsKey" "Ljava/nio/file/Path;" .null := F_x6_tlsKey.keep KA68 nin0
  have F_x6_tokenLifetime : Fld Z hA68 x6 "com/example/periwinkle/periwinkle/server/ServerSettings" "tokenLifetime" "Ljava/time/Duration;" (.ref x3) := F_x6_tokenLifetime.keep KA68 nin0
  have E_x7 : Exa Z hA68 x7 "java/lang/String" := E_x7.keep KA68
  have F_x7_value : Fld Z hA68 x7 "java/lang/String" "value" "[B" (.ref x8) := F_x7_value.keep KA68 nin0
  have F_x7_coder : Fld Z hA68 x7 "java/lang/String" "coder" "B" (.int (0 : Int32)) := F_x7_coder.keep KA68 nin0
  have V_x8 : own_Ar Z hA68 x8 .byte [(.int (104 : Int32)), (.int (116 : Int32)), (.int (116 : Int32)), (.int (112 : Int32)), (.int (58 : Int32)), (.int (47 : Int32)), (.int (47 : Int32)), (.int (49 : Int32)), (.int (50 : Int32)), (.int (55 : Int32)), (.int (46 : Int32)), (.int (48 : Int32)), (.int (46 : Int32)), (.int (48 : Int32)), (.int (46 : Int32)), (.int (49 : Int32)), (.int (58 : Int32)), (.int (48 : Int32))] := V_x8.keep KA68 nin0
  have Z0 : n0 ≤ hA68.size := Nat.le_trans Z0 KA68.1
  have E_x9 : Exa Z hA68 x9 "java/lang/String" := P_E_x9
  have F_x9_value : Fld Z hA68 x9 "java/lang/String" "value" "[B" (.ref x10) := P_F_x9_value
  have F_x9_coder : Fld Z hA68 x9 "java/lang/String" "coder" "B" (.int (0 : Int32)) := P_F_x9_coder
  have V_x10 : own_Ar Z hA68 x10 .byte [(.int (104 : Int32)), (.int (116 : Int32)), (.int (116 : Int32)), (.int (112 : Int32)), (.int (58 : Int32)), (.int (47 : Int32)), (.int (47 : Int32)), (.int (49 : Int32)), (.int (50 : Int32)), (.int (55 : Int32)), (.int (46 : Int32)), (.int (48 : Int32)), (.int (46 : Int32)), (.int (48 : Int32)), (.int (46 : Int32)), (.int (49 : Int32)), (.int (58 : Int32)), (.int (48 : Int32))] := P_V_x10
  have A69 : own_R p l e _ _ m _ below meth c S0 n0 hA68 32 313 (mkF m 110 #[.val (.int i0), .val (.int i1), .val (.int pa), .val (.int pb), .val (.ref x1), .val (.ref x5), .val (.ref x6), .val (.int (1 : Int32)), .val (.int (1 : Int32)), .val (.int (1 : Int32)), .unset] [(.ref x9), (.ref x7)]) := A68
  obtain ⟨vA70, hA70, ⟨rfl, rfl⟩, A70⟩ := A69.callV (b := x7) (own_c136 l Z a0 hw x7 x9 x8 x10 cs hA68 n0 Z0 F_x7_value F_x7_coder E_x9 F_x9_value F_x9_coder V_x8 V_x10 S_cs hcs ne_x7_x9) E_x7 hx hZ hown (hb hby dm0_110) (hw _ (List.mem_of_getElem? (i := 259) rfl)) (hw _ (List.mem_of_getElem? (i := 260) rfl)) (hw _ (List.mem_of_getElem? (i := 262) rfl)) (hw _ (List.mem_of_getElem? (i := 261) rfl)) (hw _ (List.mem_of_getElem? (i := 263) rfl)) (hw _ (List.mem_of_getElem? (i := 8) rfl)) (own_nf (y' := (⟨"java/lang/String", "contains", "(Ljava/lang/CharSequence;)Z"⟩ : MethodName)) (hw _ (List.mem_of_getElem? (i := 80) rfl)) rfl) ⟨by decide, by decide⟩ (lenOf pd__28Ljava_2flang_2fObject_3b_29Z rfl) (argsL := [(.ref x9)]) (rest := []) rfl rfl (by rw [hml]; rfl) (W := 0) (Nat.le_of_eq rfl) (by decide) (by decide) (by decide) (by decide)
  have A71 : own_R p l e _ _ m _ below meth c S0 n0 hA68 32 313 (mkF m 113 #[.val (.int i0), .val (.int i1), .val (.int pa), .val (.int pb), .val (.ref x1), .val (.ref x5), .val (.ref x6), .val (.int (1 : Int32)), .val (.int (1 : Int32)), .val (.int (1 : Int32)), .unset] [(.int (1 : Int32))]) := A70
  have A72 := A71.go (f' := mkF m 115 #[.val (.int i0), .val (.int i1), .val (.int pa), .val (.int pb), .val (.ref x1), .val (.ref x5), .val (.ref x6), .val (.int (1 : Int32)), .val (.int (1 : Int32)), .val (.int (1 : Int32)), .val (.int (1 : Int32))] []) fun _ _ X _ k => XS.istore X.here hx rfl (hb hby dm0_113) rfl (l' := #[.val (.int i0), .val (.int i1), .val (.int pa), .val (.int pb), .val (.ref x1), .val (.ref x5), .val (.ref x6), .val (.int (1 : Int32)), .val (.int (1 : Int32)), .val (.int (1 : Int32)), .val (.int (1 : Int32))]) rfl k
  have A73 := A72.go (f' := mkF m 117 #[.val (.int i0), .val (.int i1), .val (.int pa), .val (.int pb), .val (.ref x1), .val (.ref x5), .val (.ref x6), .val (.int (1 : Int32)), .val (.int (1 : Int32)), .val (.int (1 : Int32)), .val (.int (1 : Int32))] [(.int (1 : Int32))]) fun _ _ X _ k => XS.iload X.here hx rfl (hb hby dm0_115) rfl k
  have q74 : ¬ ((1 : Int32) = (0 : Int32)) := by decide
  have A75 := A73.go (f' := mkF m 120 #[.val (.int i0), .val (.int i1), .val (.int pa), .val (.int pb), .val (.ref x1), .val (.ref x5), .val (.ref x6), .val (.int (1 : Int32)), .val (.int (1 : Int32)), .val (.int (1 : Int32)), .val (.int (1 : Int32))] []) fun _ _ X _ k => XS.ifNo X.here hx rfl (hb hby dm0_117) rfl ((if0 _ _).trans (feq q74).1) k
  have A76 := A75.go (f' := mkF m 122 #[.val (.int i0), .val (.int i1), .val (.int pa), .val (.int pb), .val (.ref x1), .val (.ref x5), .val (.ref x6), .val (.int (1 : Int32)), .val (.int (1 : Int32)), .val (.int (1 : Int32)), .val (.int (1 : Int32))] [(.int (1 : Int32))]) fun _ _ X _ k => XS.iload X.here hx rfl (hb hby dm0_120) rfl k
  have A77 := A76.go (f' := mkF m 125 #[.val (.int i0), .val (.int i1), .val (.int pa), .val (.int pb), .val (.ref x1), .val (.ref x5), .val (.ref x6), .val (.int (1 : Int32)), .val (.int (1 : Int32)), .val (.int (1 : Int32)), .val (.int (1 : Int32))] []) fun _ _ X _ k => XS.ifNo X.here hx rfl (hb hby dm0_122) rfl ((if0 _ _).trans (feq q74).1) k
  have A78 := A77.go (f' := mkF m 127 #[.val (.int i0), .val (.int i1), .val (.int pa), .val (.int pb), .val (.ref x1), .val (.ref x5), .val (.ref x6), .val (.int (1 : Int32)), .val (.int (1 : Int32)), .val (.int (1 : Int32)), .val (.int (1 : Int32))] [(.int (1 : Int32))]) fun _ _ X _ k => XS.iload X.here hx rfl (hb hby dm0_125) rfl k
  have A79 := A78.go (f' := mkF m 130 #[.val (.int i0), .val (.int i1), .val (.int pa), .val (.int pb), .val (.ref x1), .val (.ref x5), .val (.ref x6), .val (.int (1 : Int32)), .val (.int (1 : Int32)), .val (.int (1 : Int32)), .val (.int (1 : Int32))] []) fun _ _ X _ k => XS.ifNo X.here hx rfl (hb hby dm0_127) rfl ((if0 _ _).trans (feq q74).1) k
  have A80 := A79.go (f' := mkF m 132 #[.val (.int i0), .val (.int i1), .val (.int pa), .val (.int pb), .val (.ref x1), .val (.ref x5), .val (.ref x6), .val (.int (1 : Int32)), .val (.int (1 : Int32)), .val (.int (1 : Int32)), .val (.int (1 : Int32))] [(.int (1 : Int32))]) fun _ _ X _ k => XS.iload X.here hx rfl (hb hby dm0_130) rfl k
  have A81 := A80.go (f' := mkF m 135 #[.val (.int i0), .val (.int i1), .val (.int pa), .val (.int pb), .val (.ref x1), .val (.ref x5), .val (.ref x6), .val (.int (1 : Int32)), .val (.int (1 : Int32)), .val (.int (1 : Int32)), .val (.int (1 : Int32))] []) fun _ _ X _ k => XS.ifNo X.here hx rfl (hb hby dm0_132) rfl ((if0 _ _).trans (feq q74).1) k
  have A82 := A81.go (f' := mkF m 136 #[.val (.int i0), .val (.int i1), .val (.int pa), .val (.int pb), .val (.ref x1), .val (.ref x5), .val (.ref x6), .val (.int (1 : Int32)), .val (.int (1 : Int32)), .val (.int (1 : Int32)), .val (.int (1 : Int32))] [(.int (1 : Int32))]) fun _ _ X _ k => XS.iconst X.here hx rfl (hb hby dm0_135) k
  have A83 := A82.go (f' := mkF m 140 #[.val (.int i0), .val (.int i1), .val (.int pa), .val (.int pb), .val (.ref x1), .val (.ref x5), .val (.ref x6), .val (.int (1 : Int32)), .val (.int (1 : Int32)), .val (.int (1 : Int32)), .val (.int (1 : Int32))] [(.int (1 : Int32))]) fun _ _ X _ k => XS.goto X.here hx rfl (pc0 := 136) (pc' := 140) rfl (hb hby dm0_136) (by decide) (by decide) k
  exact A83.retSS hx hlk hZ hS hk hEL HC hret (hb hby dm0_140) rfl (Or.inl ⟨rfl, by simp, _, rfl⟩) (by decide) (by decide) ⟨rfl, trivial⟩
set_option maxRecDepth 65536 in
set_option maxHeartbeats 40000000 in
theorem comes_1 {Post : Tables → Env → Array Value → State → Outcome → State → Prop} (hpost : ∀ tb e args s v u, (limb_1_1.after args s (.returned v) u = true ∧ limb_1_2.after args s (.returned v) u = true ∧ True) → ReturnedEndW s (.returned v) u (Jvm.fieldLocs frame_1_writes args s ++ Jvm.arrayLocs frame_1_arrays args s ++ Jvm.staticLocs frame_1_statics s) 48 4544 → Post tb e args s (.returned v) u) :
    ArmFor flags0 classFile x code maxLocals ret World_1 tables_1 room_1 Calls_1 rest_1 Pre_1 Post := by
  intro l hfl _ _ p e ha hc hk s m args below hf hA hF happ hP
  obtain ⟨hcalls, hrest, hpre⟩ := hP
  obtain ⟨-, -, -, hnamed, -, -, -, hat⟩ := (Spec.applies_iff hf).mp happ
  obtain ⟨hg, hn⟩ := and_e (Cond.before_iff.mp (show (Jvm.Cond.and given_1 narrow_1).before args s = true from hpre))
  obtain ⟨h1, g0⟩ := and_e hg
  obtain ⟨w0, w1, rfl⟩ : ∃ w0 w1 : Value, args = #[w0, w1] := by
    have hs : args.size = 2 := by simpa [Cond.value, given_1] using h1
    obtain ⟨L⟩ := args
    match L, hs with
    | [w0, w1], _ => exact ⟨w0, w1, rfl⟩
  have hw := fun d (hd : d ∈ tables_1) => atoms_spec (ws := Jvm.Cond.code x code maxLocals ret :: tables_1) hat d (List.mem_cons_of_mem _ hd)
  have hfit : Fit s := fun {y c} hc i hi => by
    obtain ⟨ha, rfl⟩ := Array.getElem?_eq_some_iff.mp hc
    have q := List.all_eq_true.mp ((Array.all_eq_true_iff_forall_mem.mp hF) _ (Array.getElem_mem ha)) i (List.mem_range.mpr hi)
    simpa [Array.getElem?_eq_getElem hi] using q
  obtain ⟨k0, g1⟩ := and_e g0
  obtain ⟨i0, e0⟩ := is_v k0
  obtain rfl : w0 = (.int i0) := Option.some.inj e0
  obtain ⟨i1, e1⟩ := is_v g1
  obtain rfl : w1 = (.int i1) := Option.some.inj e1
  have own_wS : ∀ d ∈ Bundle.stringAtoms, d.before #[(.int i0), (.int i1)] s = true := by
    intro d hd
    simp only [Bundle.stringAtoms, List.mem_cons, List.not_mem_nil, or_false] at hd
    rcases hd with rfl | rfl | rfl | rfl | rfl | rfl | rfl
    · exact (hw _ (List.mem_of_getElem? (i := 8) rfl))
    · exact (hw _ (List.mem_of_getElem? (i := 9) rfl))
    · exact (hw _ (List.mem_of_getElem? (i := 10) rfl))
    · exact (hw _ (List.mem_of_getElem? (i := 11) rfl))
    · exact (hw _ (List.mem_of_getElem? (i := 12) rfl))
    · exact (hw _ (List.mem_of_getElem? (i := 13) rfl))
    · exact (hw _ (List.mem_of_getElem? (i := 14) rfl))
  obtain ⟨hsets, hown0⟩ := atoms_of _ (rest_1_c_eq ▸ (show rest_1_c.before _ s = true from hrest))
  have n3 := not_v (Cond.before_iff.mp (hsets _ (List.mem_of_getElem? (i := 2) rfl)))
  obtain ⟨cs, ecs⟩ := is_v (Cond.before_iff.mp (hsets _ (List.mem_of_getElem? (i := 1) rfl)))
  have S_cs : Sta s s.heap "java/lang/String" "COMPACT_STRINGS" "Z" (.int cs) := Sta.start ecs (Or.inl (hsets _ (List.mem_of_getElem? (i := 0) rfl)))
  have hcs : ¬ (cs = 0) := by
    intro q
    subst q
    simp [Cond.value, ecs, Term.int_eval] at n3
  obtain ⟨dig, edig⟩ := exa_v (Cond.before_iff.mp (hsets _ (List.mem_of_getElem? (i := 12) rfl)))
  obtain ⟨ds, V_dig, hds⟩ := own_digS edig (Cond.before_iff.mp (hsets _ (List.mem_of_getElem? (i := 12) rfl))) (hw _ (List.mem_of_getElem? (i := 10) rfl)) (Cond.before_iff.mp (hsets _ (List.mem_of_getElem? (i := 13) rfl))) (Cond.before_iff.mp (hsets _ (List.mem_of_getElem? (i := 14) rfl)))
  have S_dig : Sta s s.heap "java/lang/Integer" "DigitOnes" "[B" (.ref dig) := Sta.start edig (Or.inl (hsets _ (List.mem_of_getElem? (i := 11) rfl)))
  have hEL : EW s _ own_EL := EW.cons (hw _ (List.mem_of_getElem? (i := 7) rfl)) (by decide) (EW.cons (hw _ (List.mem_of_getElem? (i := 75) rfl)) (by decide) (EW.cons (hw _ (List.mem_of_getElem? (i := 76) rfl)) (by decide) (EW.cons (hw _ (List.mem_of_getElem? (i := 176) rfl)) (by decide) (EW.nil))))
  have hCH : CHv s own_EL s.vm s.heap := CHv.start hEL (fun q hq => hcalls.1 q hq) (hsets _ (List.mem_of_getElem? (i := 2) rfl)) (hw _ (List.mem_of_getElem? (i := 10) rfl)) (hw _ (List.mem_of_getElem? (i := 9) rfl))
  obtain ⟨n, o, h1, h2, h3, _, L, rfl, ⟨⟨rfl, -⟩, N⟩, -, hq⟩ := (own_law l s _ hw i0 i1 cs dig ds s.heap s.heap.size (Nat.le_refl _) hEL own_wS S_cs S_dig V_dig hcs hds) p e ha hc hk s m _ below hf ((Spec.applies_iff_loose hf).mp happ).1 ⟨rfl, State.Warmed39.refl s, rfl, hCH⟩ trivial
  refine ⟨n, _, h1, h2, h3, hpost _ _ _ _ _ _ ⟨Cond.after_iff.mpr rfl, Cond.after_iff.mpr (eq_i res_at (Term.int_eval (1)) rfl), trivial⟩ ⟨hq.1, hq.2.1, hq.2.2.1, (hq.2.2.2.sift fun y hy => Or.inr (N y hy)).mono (by decide) (by decide)⟩⟩
theorem main_1_1 : Claimed_1_1 := comes_1 fun _ _ _ _ _ _ h hF => ⟨h.1, hF⟩
theorem main_1_2 : Claimed_1_2 := comes_1 fun _ _ _ _ _ _ h hF => ⟨h.2.1, hF⟩
end Jvm.Pilot.@@N@@
namespace Jvm.Pilot.@@N@@
open Jvm Jvm.ClassFile Sem Op Lib Jvm.Free Jvm.Stand Jvm.Pilot.@@N@@.Jvm.D
/-! MADE BY PROGRAM (witnessworld.py) out of the Statement's table words and the real class files: 27 classes; the members and pool entries that the words name. The judged class is class 1, her method 1. -/
namespace start1
open Jvm.ClassFile
def u (s : String) : CpInfo := .utf8 (stringToUtf16 s)
/-- a pool by its gaps: so many unusable entries, then the entry; so many at the end -/
def gap : Nat → List CpInfo → List CpInfo
  | 0, r => r
  | n + 1, r => .unusable :: gap n r
def poolList (es : List (Nat × CpInfo)) (last : Nat) : List CpInfo := es.foldr (fun e r => gap e.1 (e.2 :: r)) (gap last [])
def pool (es : List (Nat × CpInfo)) (last : Nat) : Array CpInfo := ⟨poolList es last⟩
def fileOf (pool : Array CpInfo) (this : Nat) (attrs : Array Attribute := #[]) (ms : Array MethodInfo := #[]) (fl : Nat := 33) (sup : Nat := 0) (ifs : Array Nat := #[]) (fds : Array FieldInfo := #[]) : ClassFile where
  minorVersion := 0
  majorVersion := 65
  constantPool := pool
  accessFlags := fl
  thisClass := this
  superClass := sup
  interfaces := ifs
  fields := fds
  methods := ms
  attributes := attrs
def plain (name : String) (sup : Option ClassId) : Class where
  name := name
  kind := .ordinary
  loader := none
  accessFlags := 33
  super := sup
  interfaces := #[]
  cf := none
  fields := #[]
  methods := #[]
  instanceTypes := #[]
  staticTypes := #[]
  resolved := #[]
  callSites := []
  init := .initialized
  statics := none
  mirror := none

def pool0 : Array CpInfo := pool [(5, u "<init>"), (0, u "()V"), (1, .class_ 10), (1, u "java/lang/Object")] 113

def k0c0 : Code := { maxStack := 0, maxLocals := 1, code := object_method_1_code, exceptionTable := #[], attributes := #[] }
def k0m0 : Method := { name := "<init>", desc := "()V", sig := { parameters := [], returnType := none }, accessFlags := 1, code := some k0c0 }
/-- java/lang/Object -/
def k0 : Class := { plain "java/lang/Object" none with
  accessFlags := 33
  interfaces := #[]
  cf := some (fileOf pool0 8 #[] #[{ accessFlags := 1, nameIndex := 5, descriptorIndex := 6, attributes := #[] }] 33 0 #[] #[])
  fields := #[]
  methods := #[k0m0]
  instanceTypes := #[]
  staticTypes := #[]
  resolved := Array.replicate 124 none
  statics := none }

def pool1 : Array CpInfo := pool [(2, .class_ 4), (0, .nameAndType 5 6), (0, u "java/lang/Object"), (0, u "<init>"), (0, u "()V"), (0, .integer 65535), (0, .class_ 9), (0, u "com/example/periwinkle/periwinkle/server/ServerSettings"), (0, .methodref 8 3), (0, .methodref 8 12), (0, .nameAndType 13 14), (0, u "withPort"), (0, u "(I)Lcom/example/periwinkle/periwinkle/server/ServerSettings;"), (0, .methodref 8 16), (0, .nameAndType 17 18), (0, u "port"), (0, u "()I"), (0, .methodref 8 20), (0, .nameAndType 21 22), (0, u "tokenLifetime"), (0, u "()Ljava/time/Duration;"), (0, .methodref 8 24), (0, .nameAndType 25 26), (0, u "url"), (0, u "(I)Ljava/lang/String;"), (0, .methodref 28 29), (0, .class_ 30), (0, .nameAndType 31 32), (0, u "java/lang/String"), (0, u "equals"), (0, u "(Ljava/lang/Object;)Z"), (0, .class_ 34), (0, u "com/example/periwinkle/periwinkle/server/ServerSettingsWithPortPinLaw"), (2, u "law"), (0, u "(II)Z")] 3

def k1m0 : Method := { name := "<init>", desc := "()V", sig := { parameters := [], returnType := none }, accessFlags := 1, code := none }
def k1c1 : Code := { maxStack := 3, maxLocals := 11, code := code, exceptionTable := #[], attributes := #[] }
def k1m1 : Method := { name := "law", desc := "(II)Z", sig := { parameters := [.int, .int], returnType := some .boolean }, accessFlags := 9, code := some k1c1 }
/-- com/example/periwinkle/periwinkle/server/ServerSettingsWithPortPinLaw -/
def k1 : Class := { plain "com/example/periwinkle/periwinkle/server/ServerSettingsWithPortPinLaw" (some 0) with
  accessFlags := 49
  interfaces := #[]
  cf := some (fileOf pool1 33 #[] #[{ accessFlags := 1, nameIndex := 5, descriptorIndex := 6, attributes := #[] }, { accessFlags := 9, nameIndex := 37, descriptorIndex := 38, attributes := #[] }] 49 2 #[] #[])
  fields := #[]
  methods := #[k1m0, k1m1]
  instanceTypes := #[]
  staticTypes := #[]
  resolved := Array.replicate 42 none
  statics := none }

def pool2 : Array CpInfo := pool [(1, .class_ 2), (0, u "com/example/periwinkle/periwinkle/server/ServerSettings"), (0, .string 4), (0, u "127.0.0.1"), (0, .long 3600), (1, .methodref 8 9), (0, .class_ 10), (0, .nameAndType 11 12), (0, u "java/time/Duration"), (0, u "ofSeconds"), (0, u "(J)Ljava/time/Duration;"), (0, .methodref 1 14), (0, .nameAndType 15 16), (0, u "<init>"), (0, u "(Ljava/lang/String;ILjava/nio/file/Path;Ljava/nio/file/Path;Ljava/time/Duration;)V"), (0, .methodref 18 19), (0, .class_ 20), (0, .nameAndType 15 21), (0, u "java/lang/Object"), (0, u "()V"), (0, .fieldref 1 23), (0, .nameAndType 24 25), (0, u "host"), (0, u "Ljava/lang/String;"), (0, .fieldref 1 27), (0, .nameAndType 28 29), (0, u "port"), (0, u "I"), (0, .fieldref 1 31), (0, .nameAndType 32 33), (0, u "tlsCertificate"), (0, u "Ljava/nio/file/Path;"), (0, .fieldref 1 35), (0, .nameAndType 36 33), (0, u "tlsKey"), (0, .fieldref 1 38), (0, .nameAndType 39 40), (0, u "tokenLifetime"), (0, u "Ljava/time/Duration;"), (4, .methodref 1 46), (0, .nameAndType 47 48), (0, u "checkPort"), (0, u "(I)V"), (16, u "HOST_NAME"), (0, u "Ljava/util/regex/Pattern;"), (14, u "NUMBERS"), (11, .class_ 94), (0, u "java/lang/StringBuilder"), (0, .methodref 93 19), (2, .methodref 93 99), (0, .nameAndType 100 101), (0, u "append"), (0, u "(Ljava/lang/String;)Ljava/lang/StringBuilder;"), (6, .methodref 93 109), (0, .nameAndType 110 111), (0, u "toString"), (0, u "()Ljava/lang/String;"), (2, .integer 65535), (2, .methodref 93 118), (0, .nameAndType 100 119), (0, u "(I)Ljava/lang/StringBuilder;"), (3, u "()I"), (64, .string 189), (0, u "http"), (0, .string 191), (0, u ":"), (0, .methodref 193 194), (0, .class_ 195), (0, .nameAndType 196 197), (0, u "java/lang/String"), (0, u "contains"), (0, u "(Ljava/lang/CharSequence;)Z"), (4, .string 203), (0, u "://"), (6, u "IPV4"), (9, u "IPV6"), (20, u "DEFAULT_HOST"), (1, u "DEFAULT_PORT"), (1, u "DEFAULT_TOKEN_LIFETIME_SECONDS"), (1, u "SHORTEST_TOKEN_LIFETIME_SECONDS"), (1, u "LONGEST_TOKEN_LIFETIME_SECONDS"), (1, u "SCHEME"), (0, u "TLS_SCHEME"), (0, u "DEFAULT_URL"), (2, u "OCTET"), (2, u "LABEL"), (6, u "withPort"), (0, u "(I)Lcom/example/periwinkle/periwinkle/server/ServerSettings;"), (14, u "()Ljava/time/Duration;"), (2, u "url"), (0, u "(I)Ljava/lang/String;")] 30

def k2c0 : Code := { maxStack := 7, maxLocals := 1, code := prog_37_method_1_code, exceptionTable := #[], attributes := #[] }
def k2m0 : Method := { name := "<init>", desc := "()V", sig := { parameters := [], returnType := none }, accessFlags := 1, code := some k2c0 }
def k2c1 : Code := { maxStack := 2, maxLocals := 6, code := prog_37_method_2_code, exceptionTable := #[], attributes := #[] }
def k2m1 : Method := { name := "<init>", desc := "(Ljava/lang/String;ILjava/nio/file/Path;Ljava/nio/file/Path;Ljava/time/Duration;)V", sig := { parameters := [(.object "java/lang/String"), .int, (.object "java/nio/file/Path"), (.object "java/nio/file/Path"), (.object "java/time/Duration")], returnType := none }, accessFlags := 2, code := some k2c1 }
def k2c2 : Code := { maxStack := 7, maxLocals := 2, code := prog_37_method_4_code, exceptionTable := #[], attributes := #[] }
def k2m2 : Method := { name := "withPort", desc := "(I)Lcom/example/periwinkle/periwinkle/server/ServerSettings;", sig := { parameters := [.int], returnType := some (.object "com/example/periwinkle/periwinkle/server/ServerSettings") }, accessFlags := 1, code := some k2c2 }
def k2c3 : Code := { maxStack := 4, maxLocals := 1, code := prog_37_method_8_code, exceptionTable := #[], attributes := #[] }
def k2m3 : Method := { name := "checkPort", desc := "(I)V", sig := { parameters := [.int], returnType := none }, accessFlags := 9, code := some k2c3 }
def k2c4 : Code := { maxStack := 1, maxLocals := 1, code := prog_37_method_13_code, exceptionTable := #[], attributes := #[] }
def k2m4 : Method := { name := "port", desc := "()I", sig := { parameters := [], returnType := some .int }, accessFlags := 1, code := some k2c4 }
def k2c5 : Code := { maxStack := 1, maxLocals := 1, code := prog_37_method_14_code, exceptionTable := #[], attributes := #[] }
def k2m5 : Method := { name := "tokenLifetime", desc := "()Ljava/time/Duration;", sig := { parameters := [], returnType := some (.object "java/time/Duration") }, accessFlags := 1, code := some k2c5 }
def k2c6 : Code := { maxStack := 2, maxLocals := 4, code := prog_37_method_17_code, exceptionTable := #[], attributes := #[] }
def k2m6 : Method := { name := "url", desc := "(I)Ljava/lang/String;", sig := { parameters := [.int], returnType := some (.object "java/lang/String") }, accessFlags := 1, code := some k2c6 }
/-- com/example/periwinkle/periwinkle/server/ServerSettings -/
def k2 : Class := { plain "com/example/periwinkle/periwinkle/server/ServerSettings" (some 0) with
  accessFlags := 49
  interfaces := #[]
  cf := some (fileOf pool2 1 #[] #[{ accessFlags := 1, nameIndex := 15, descriptorIndex := 21, attributes := #[] }, { accessFlags := 2, nameIndex := 15, descriptorIndex := 16, attributes := #[] }, { accessFlags := 1, nameIndex := 266, descriptorIndex := 267, attributes := #[] }, { accessFlags := 9, nameIndex := 47, descriptorIndex := 48, attributes := #[] }, { accessFlags := 1, nameIndex := 28, descriptorIndex := 123, attributes := #[] }, { accessFlags := 1, nameIndex := 39, descriptorIndex := 282, attributes := #[] }, { accessFlags := 1, nameIndex := 285, descriptorIndex := 286, attributes := #[] }] 49 18 #[] #[{ accessFlags := 25, nameIndex := 241, descriptorIndex := 25, attributes := #[] }, { accessFlags := 25, nameIndex := 243, descriptorIndex := 29, attributes := #[] }, { accessFlags := 25, nameIndex := 245, descriptorIndex := 29, attributes := #[] }, { accessFlags := 25, nameIndex := 247, descriptorIndex := 29, attributes := #[] }, { accessFlags := 25, nameIndex := 249, descriptorIndex := 29, attributes := #[] }, { accessFlags := 26, nameIndex := 251, descriptorIndex := 25, attributes := #[] }, { accessFlags := 26, nameIndex := 252, descriptorIndex := 25, attributes := #[] }, { accessFlags := 25, nameIndex := 253, descriptorIndex := 25, attributes := #[] }, { accessFlags := 26, nameIndex := 256, descriptorIndex := 25, attributes := #[] }, { accessFlags := 26, nameIndex := 210, descriptorIndex := 66, attributes := #[] }, { accessFlags := 26, nameIndex := 220, descriptorIndex := 66, attributes := #[] }, { accessFlags := 26, nameIndex := 259, descriptorIndex := 25, attributes := #[] }, { accessFlags := 26, nameIndex := 65, descriptorIndex := 66, attributes := #[] }, { accessFlags := 26, nameIndex := 81, descriptorIndex := 66, attributes := #[] }, { accessFlags := 18, nameIndex := 24, descriptorIndex := 25, attributes := #[] }, { accessFlags := 18, nameIndex := 28, descriptorIndex := 29, attributes := #[] }, { accessFlags := 18, nameIndex := 32, descriptorIndex := 33, attributes := #[] }, { accessFlags := 18, nameIndex := 36, descriptorIndex := 33, attributes := #[] }, { accessFlags := 18, nameIndex := 39, descriptorIndex := 40, attributes := #[] }])
  fields := #[{ name := "DEFAULT_HOST", type := (.object "java/lang/String"), accessFlags := 25, slot := 0, constantValue := 0 }, { name := "DEFAULT_PORT", type := .int, accessFlags := 25, slot := 1, constantValue := 0 }, { name := "DEFAULT_TOKEN_LIFETIME_SECONDS", type := .int, accessFlags := 25, slot := 2, constantValue := 0 }, { name := "SHORTEST_TOKEN_LIFETIME_SECONDS", type := .int, accessFlags := 25, slot := 3, constantValue := 0 }, { name := "LONGEST_TOKEN_LIFETIME_SECONDS", type := .int, accessFlags := 25, slot := 4, constantValue := 0 }, { name := "SCHEME", type := (.object "java/lang/String"), accessFlags := 26, slot := 5, constantValue := 0 }, { name := "TLS_SCHEME", type := (.object "java/lang/String"), accessFlags := 26, slot := 6, constantValue := 0 }, { name := "DEFAULT_URL", type := (.object "java/lang/String"), accessFlags := 25, slot := 7, constantValue := 0 }, { name := "OCTET", type := (.object "java/lang/String"), accessFlags := 26, slot := 8, constantValue := 0 }, { name := "IPV4", type := (.object "java/util/regex/Pattern"), accessFlags := 26, slot := 9, constantValue := 0 }, { name := "IPV6", type := (.object "java/util/regex/Pattern"), accessFlags := 26, slot := 10, constantValue := 0 }, { name := "LABEL", type := (.object "java/lang/String"), accessFlags := 26, slot := 11, constantValue := 0 }, { name := "HOST_NAME", type := (.object "java/util/regex/Pattern"), accessFlags := 26, slot := 12, constantValue := 0 }, { name := "NUMBERS", type := (.object "java/util/regex/Pattern"), accessFlags := 26, slot := 13, constantValue := 0 }, { name := "host", type := (.object "java/lang/String"), accessFlags := 18, slot := 0, constantValue := 0 }, { name := "port", type := .int, accessFlags := 18, slot := 1, constantValue := 0 }, { name := "tlsCertificate", type := (.object "java/nio/file/Path"), accessFlags := 18, slot := 2, constantValue := 0 }, { name := "tlsKey", type := (.object "java/nio/file/Path"), accessFlags := 18, slot := 3, constantValue := 0 }, { name := "tokenLifetime", type := (.object "java/time/Duration"), accessFlags := 18, slot := 4, constantValue := 0 }]
  methods := #[k2m0, k2m1, k2m2, k2m3, k2m4, k2m5, k2m6]
  instanceTypes := #[(.object "java/lang/String"), .int, (.object "java/nio/file/Path"), (.object "java/nio/file/Path"), (.object "java/time/Duration")]
  staticTypes := #[(.object "java/lang/String"), .int, .int, .int, .int, (.object "java/lang/String"), (.object "java/lang/String"), (.object "java/lang/String"), (.object "java/lang/String"), (.object "java/util/regex/Pattern"), (.object "java/util/regex/Pattern"), (.object "java/lang/String"), (.object "java/util/regex/Pattern"), (.object "java/util/regex/Pattern")]
  resolved := Array.replicate 317 none
  statics := none }

def pool3 : Array CpInfo := pool [(1, .class_ 2), (0, u "java/io/Serializable"), (0, .class_ 4), (0, u "java/lang/Object")] 2

/-- java/io/Serializable -/
def k3 : Class := { plain "java/io/Serializable" (some 0) with
  accessFlags := 1537
  interfaces := #[]
  cf := some (fileOf pool3 1 #[] #[] 1537 3 #[] #[])
  fields := #[]
  methods := #[]
  instanceTypes := #[]
  staticTypes := #[]
  resolved := Array.replicate 7 none
  statics := none }

def pool4 : Array CpInfo := pool [(1, .class_ 2), (0, u "java/lang/Comparable"), (0, .class_ 4), (0, u "java/lang/Object")] 7

/-- java/lang/Comparable -/
def k4 : Class := { plain "java/lang/Comparable" (some 0) with
  accessFlags := 1537
  interfaces := #[]
  cf := some (fileOf pool4 1 #[] #[] 1537 3 #[] #[])
  fields := #[]
  methods := #[]
  instanceTypes := #[]
  staticTypes := #[]
  resolved := Array.replicate 12 none
  statics := none }

def pool5 : Array CpInfo := pool [(2, .class_ 4), (1, u "java/lang/CharSequence"), (42, .class_ 48), (0, u "java/lang/CharSequence$1CodePointIterator"), (10, .class_ 60), (0, u "java/lang/CharSequence$1CharIterator"), (5, .class_ 67), (0, u "java/lang/Object"), (10, u "toString"), (0, u "()Ljava/lang/String;")] 51

def k5m0 : Method := { name := "toString", desc := "()Ljava/lang/String;", sig := { parameters := [], returnType := some (.object "java/lang/String") }, accessFlags := 1025, code := none }
/-- java/lang/CharSequence -/
def k5 : Class := { plain "java/lang/CharSequence" (some 0) with
  accessFlags := 1537
  interfaces := #[]
  cf := some (fileOf pool5 2 #[.nestMembers #[47, 59]] #[{ accessFlags := 1025, nameIndex := 78, descriptorIndex := 79, attributes := #[] }] 1537 66 #[] #[])
  fields := #[]
  methods := #[k5m0]
  instanceTypes := #[]
  staticTypes := #[]
  resolved := Array.replicate 131 none
  statics := none }

def pool6 : Array CpInfo := pool [(1, .class_ 2), (0, u "java/lang/constant/Constable"), (0, .class_ 4), (0, u "java/lang/Object")] 6

/-- java/lang/constant/Constable -/
def k6 : Class := { plain "java/lang/constant/Constable" (some 0) with
  accessFlags := 1537
  interfaces := #[]
  cf := some (fileOf pool6 1 #[] #[] 1537 3 #[] #[])
  fields := #[]
  methods := #[]
  instanceTypes := #[]
  staticTypes := #[]
  resolved := Array.replicate 11 none
  statics := none }

def pool7 : Array CpInfo := pool [(1, .class_ 2), (0, u "java/lang/constant/ConstantDesc"), (0, .class_ 4), (0, u "java/lang/Object")] 32

/-- java/lang/constant/ConstantDesc -/
def k7 : Class := { plain "java/lang/constant/ConstantDesc" (some 0) with
  accessFlags := 1537
  interfaces := #[]
  cf := some (fileOf pool7 1 #[] #[] 1537 3 #[] #[])
  fields := #[]
  methods := #[]
  instanceTypes := #[]
  staticTypes := #[]
  resolved := Array.replicate 37 none
  statics := none }

def pool8 : Array CpInfo := pool [(1, .methodref 2 3), (0, .class_ 4), (0, .nameAndType 5 6), (0, u "java/lang/Object"), (0, u "<init>"), (0, u "()V"), (2, .fieldref 10 11), (0, .class_ 12), (0, .nameAndType 13 14), (0, u "java/lang/String"), (0, u "value"), (0, u "[B"), (0, .fieldref 10 16), (0, .nameAndType 17 18), (0, u "coder"), (0, u "B"), (2, u "hash"), (0, u "I"), (2, u "hashIsZero"), (0, u "Z"), (11, .fieldref 10 39), (0, .nameAndType 40 26), (0, u "COMPACT_STRINGS"), (13, .methodref 55 56), (0, .class_ 57), (0, .nameAndType 58 59), (0, u "java/util/Arrays"), (0, u "copyOfRange"), (0, u "([BII)[B"), (47, .class_ 109), (1, u "java/lang/StringLatin1"), (32, u "()Z"), (50, .class_ 195), (1, u "java/lang/System"), (16, .methodref 193 213), (0, .nameAndType 214 215), (0, u "arraycopy"), (0, u "(Ljava/lang/Object;ILjava/lang/Object;II)V"), (118, u "()I"), (0, .methodref 10 336), (0, .nameAndType 17 337), (0, u "()B"), (2, u "()[B"), (121, .nameAndType 463 464), (0, u "toString"), (0, u "()Ljava/lang/String;"), (24, .methodref 10 490), (0, .nameAndType 5 491), (0, u "(Ljava/lang/AbstractStringBuilder;Ljava/lang/Void;)V"), (0, .methodref 10 493), (0, .nameAndType 494 142), (0, u "isLatin1"), (11, .nameAndType 507 334), (0, u "length"), (24, u "getBytes"), (8, .methodref 107 542), (0, .nameAndType 543 544), (0, u "equals"), (0, u "([B[B)Z"), (3, u "(Ljava/lang/CharSequence;)Z"), (0, .methodref 550 506), (0, .class_ 551), (0, u "java/lang/AbstractStringBuilder"), (0, .methodref 550 553), (0, .nameAndType 554 340), (0, u "getValue"), (18, u "(Ljava/lang/Object;)Z"), (1, .class_ 576), (0, u "java/lang/CharSequence"), (12, u "([B[B)I"), (9, u "CASE_INSENSITIVE_ORDER"), (0, u "Ljava/util/Comparator;"), (34, u "indexOf"), (11, .methodref 107 648), (0, .nameAndType 635 589), (61, .interfaceMethodref 575 462), (0, .methodref 10 712), (0, .nameAndType 635 713), (0, u "(Ljava/lang/String;)I"), (107, u "([BIB)V"), (225, .methodref 550 493), (53, u "serialPersistentFields"), (0, u "[Ljava/io/ObjectStreamField;"), (0, .class_ 1104), (0, u "java/lang/String$CaseInsensitiveComparator"), (1, .class_ 1107), (0, u "java/io/Serializable"), (0, .class_ 1109), (0, u "java/lang/Comparable"), (0, .class_ 1111), (0, u "java/lang/constant/Constable"), (0, .class_ 1113), (0, u "java/lang/constant/ConstantDesc"), (2, u "serialVersionUID"), (0, u "J"), (3, u "REPL"), (0, u "C"), (2, u "LATIN1"), (1, u "UTF16"), (105, u "(Ljava/lang/StringBuilder;)V"), (57, u "contains")] 159

def k8m0 : Method := { name := "<init>", desc := "()V", sig := { parameters := [], returnType := none }, accessFlags := 1, code := none }
def k8c1 : Code := { maxStack := 3, maxLocals := 2, code := jdk_42_method_53_code, exceptionTable := #[], attributes := #[] }
def k8m1 : Method := { name := "<init>", desc := "(Ljava/lang/StringBuilder;)V", sig := { parameters := [(.object "java/lang/StringBuilder")], returnType := none }, accessFlags := 1, code := some k8c1 }
def k8c2 : Code := { maxStack := 2, maxLocals := 1, code := jdk_42_method_54_code, exceptionTable := #[], attributes := #[] }
def k8m2 : Method := { name := "length", desc := "()I", sig := { parameters := [], returnType := some .int }, accessFlags := 1, code := some k8c2 }
def k8c3 : Code := { maxStack := 2, maxLocals := 3, code := jdk_42_method_66_code, exceptionTable := #[], attributes := #[] }
def k8m3 : Method := { name := "equals", desc := "(Ljava/lang/Object;)Z", sig := { parameters := [(.object "java/lang/Object")], returnType := some .boolean }, accessFlags := 1, code := some k8c3 }
def k8c4 : Code := { maxStack := 2, maxLocals := 3, code := jdk_42_method_84_code, exceptionTable := #[], attributes := #[] }
def k8m4 : Method := { name := "indexOf", desc := "(Ljava/lang/String;)I", sig := { parameters := [(.object "java/lang/String")], returnType := some .int }, accessFlags := 1, code := some k8c4 }
def k8c5 : Code := { maxStack := 2, maxLocals := 2, code := jdk_42_method_97_code, exceptionTable := #[], attributes := #[] }
def k8m5 : Method := { name := "contains", desc := "(Ljava/lang/CharSequence;)Z", sig := { parameters := [(.object "java/lang/CharSequence")], returnType := some .boolean }, accessFlags := 1, code := some k8c5 }
def k8c6 : Code := { maxStack := 1, maxLocals := 1, code := jdk_42_method_126_code, exceptionTable := #[], attributes := #[] }
def k8m6 : Method := { name := "toString", desc := "()Ljava/lang/String;", sig := { parameters := [], returnType := some (.object "java/lang/String") }, accessFlags := 1, code := some k8c6 }
def k8c7 : Code := { maxStack := 5, maxLocals := 4, code := jdk_42_method_147_code, exceptionTable := #[], attributes := #[] }
def k8m7 : Method := { name := "getBytes", desc := "([BIB)V", sig := { parameters := [(.array .byte), .int, .byte], returnType := none }, accessFlags := 0, code := some k8c7 }
def k8c8 : Code := { maxStack := 5, maxLocals := 5, code := jdk_42_method_150_code, exceptionTable := #[], attributes := #[] }
def k8m8 : Method := { name := "<init>", desc := "(Ljava/lang/AbstractStringBuilder;Ljava/lang/Void;)V", sig := { parameters := [(.object "java/lang/AbstractStringBuilder"), (.object "java/lang/Void")], returnType := none }, accessFlags := 0, code := some k8c8 }
def k8c9 : Code := { maxStack := 1, maxLocals := 1, code := jdk_42_method_152_code, exceptionTable := #[], attributes := #[] }
def k8m9 : Method := { name := "coder", desc := "()B", sig := { parameters := [], returnType := some .byte }, accessFlags := 0, code := some k8c9 }
def k8c10 : Code := { maxStack := 1, maxLocals := 1, code := jdk_42_method_154_code, exceptionTable := #[], attributes := #[] }
def k8m10 : Method := { name := "isLatin1", desc := "()Z", sig := { parameters := [], returnType := some .boolean }, accessFlags := 0, code := some k8c10 }
/-- java/lang/String -/
def k8 : Class := { plain "java/lang/String" (some 0) with
  accessFlags := 49
  interfaces := #[3, 4, 5, 6, 7]
  cf := some (fileOf pool8 10 #[.nestMembers #[1103]] #[{ accessFlags := 1, nameIndex := 5, descriptorIndex := 6, attributes := #[] }, { accessFlags := 1, nameIndex := 5, descriptorIndex := 1233, attributes := #[] }, { accessFlags := 1, nameIndex := 507, descriptorIndex := 334, attributes := #[] }, { accessFlags := 1, nameIndex := 543, descriptorIndex := 573, attributes := #[] }, { accessFlags := 1, nameIndex := 635, descriptorIndex := 713, attributes := #[] }, { accessFlags := 1, nameIndex := 1291, descriptorIndex := 548, attributes := #[] }, { accessFlags := 1, nameIndex := 463, descriptorIndex := 464, attributes := #[] }, { accessFlags := 0, nameIndex := 532, descriptorIndex := 821, attributes := #[] }, { accessFlags := 0, nameIndex := 5, descriptorIndex := 491, attributes := #[] }, { accessFlags := 0, nameIndex := 17, descriptorIndex := 337, attributes := #[] }, { accessFlags := 0, nameIndex := 494, descriptorIndex := 142, attributes := #[] }] 49 2 #[1106, 1108, 575, 1110, 1112] #[{ accessFlags := 18, nameIndex := 13, descriptorIndex := 14, attributes := #[] }, { accessFlags := 18, nameIndex := 17, descriptorIndex := 18, attributes := #[] }, { accessFlags := 2, nameIndex := 21, descriptorIndex := 22, attributes := #[] }, { accessFlags := 2, nameIndex := 25, descriptorIndex := 26, attributes := #[] }, { accessFlags := 26, nameIndex := 1116, descriptorIndex := 1117, attributes := #[] }, { accessFlags := 24, nameIndex := 40, descriptorIndex := 26, attributes := #[] }, { accessFlags := 26, nameIndex := 1101, descriptorIndex := 1102, attributes := #[] }, { accessFlags := 26, nameIndex := 1121, descriptorIndex := 1122, attributes := #[] }, { accessFlags := 25, nameIndex := 599, descriptorIndex := 600, attributes := #[] }, { accessFlags := 24, nameIndex := 1125, descriptorIndex := 18, attributes := #[] }, { accessFlags := 24, nameIndex := 1127, descriptorIndex := 18, attributes := #[] }])
  fields := #[{ name := "value", type := (.array .byte), accessFlags := 18, slot := 0, constantValue := 0 }, { name := "coder", type := .byte, accessFlags := 18, slot := 1, constantValue := 0 }, { name := "hash", type := .int, accessFlags := 2, slot := 2, constantValue := 0 }, { name := "hashIsZero", type := .boolean, accessFlags := 2, slot := 3, constantValue := 0 }, { name := "serialVersionUID", type := .long, accessFlags := 26, slot := 0, constantValue := 0 }, { name := "COMPACT_STRINGS", type := .boolean, accessFlags := 24, slot := 1, constantValue := 0 }, { name := "serialPersistentFields", type := (.array (.object "java/io/ObjectStreamField")), accessFlags := 26, slot := 2, constantValue := 0 }, { name := "REPL", type := .char, accessFlags := 26, slot := 3, constantValue := 0 }, { name := "CASE_INSENSITIVE_ORDER", type := (.object "java/util/Comparator"), accessFlags := 25, slot := 4, constantValue := 0 }, { name := "LATIN1", type := .byte, accessFlags := 24, slot := 5, constantValue := 0 }, { name := "UTF16", type := .byte, accessFlags := 24, slot := 6, constantValue := 0 }]
  methods := #[k8m0, k8m1, k8m2, k8m3, k8m4, k8m5, k8m6, k8m7, k8m8, k8m9, k8m10]
  instanceTypes := #[(.array .byte), .byte, .int, .boolean]
  staticTypes := #[.long, .boolean, (.array (.object "java/io/ObjectStreamField")), .char, (.object "java/util/Comparator"), .byte, .byte]
  resolved := Array.replicate 1451 none
  statics := some 0 }

def pool9 : Array CpInfo := pool [(1, .class_ 2), (0, u "java/time/temporal/TemporalAmount"), (0, .class_ 4), (0, u "java/lang/Object")] 11

/-- java/time/temporal/TemporalAmount -/
def k9 : Class := { plain "java/time/temporal/TemporalAmount" (some 0) with
  accessFlags := 1537
  interfaces := #[]
  cf := some (fileOf pool9 1 #[] #[] 1537 3 #[] #[])
  fields := #[]
  methods := #[]
  instanceTypes := #[]
  staticTypes := #[]
  resolved := Array.replicate 16 none
  statics := none }

def pool10 : Array CpInfo := pool [(10, .methodref 11 12), (0, .class_ 13), (0, .nameAndType 14 15), (0, u "java/time/Duration"), (0, u "create"), (0, u "(JI)Ljava/time/Duration;"), (18, u "ZERO"), (0, u "Ljava/time/Duration;"), (13, .class_ 51), (1, u "java/time/temporal/TemporalAmount"), (27, .class_ 81), (1, u "java/time/Duration$Lazy"), (35, u "seconds"), (21, u "<init>"), (17, .nameAndType 139 158), (0, u "()V"), (19, u "ofSeconds"), (20, u "(J)Ljava/time/Duration;"), (15, .methodref 11 216), (0, .nameAndType 139 217), (0, u "(JI)V"), (0, .methodref 219 157), (0, .class_ 220), (0, u "java/lang/Object"), (0, .fieldref 11 222), (0, .nameAndType 117 223), (0, u "J"), (0, .fieldref 11 225), (0, .nameAndType 226 227), (0, u "nanos"), (0, u "I"), (11, .class_ 241), (1, u "java/time/Duration$DurationUnits"), (27, .class_ 271), (1, u "java/time/Duration$1"), (91, u "BI_NANOS_PER_SECOND"), (0, u "Ljava/math/BigInteger;"), (120, .class_ 486), (0, u "java/lang/Comparable"), (0, .class_ 488), (0, u "java/io/Serializable"), (0, u "serialVersionUID")] 166

def k10c0 : Code := { maxStack := 3, maxLocals := 2, code := jdk_2316_method_4_code, exceptionTable := #[], attributes := #[] }
def k10m0 : Method := { name := "ofSeconds", desc := "(J)Ljava/time/Duration;", sig := { parameters := [.long], returnType := some (.object "java/time/Duration") }, accessFlags := 9, code := some k10c0 }
def k10c1 : Code := { maxStack := 5, maxLocals := 3, code := jdk_2316_method_16_code, exceptionTable := #[], attributes := #[] }
def k10m1 : Method := { name := "create", desc := "(JI)Ljava/time/Duration;", sig := { parameters := [.long, .int], returnType := some (.object "java/time/Duration") }, accessFlags := 10, code := some k10c1 }
def k10c2 : Code := { maxStack := 3, maxLocals := 4, code := jdk_2316_method_17_code, exceptionTable := #[], attributes := #[] }
def k10m2 : Method := { name := "<init>", desc := "(JI)V", sig := { parameters := [.long, .int], returnType := none }, accessFlags := 2, code := some k10c2 }
/-- java/time/Duration -/
def k10 : Class := { plain "java/time/Duration" (some 0) with
  accessFlags := 49
  interfaces := #[9, 4, 3]
  cf := some (fileOf pool10 11 #[.nestMembers #[269, 239, 79]] #[{ accessFlags := 9, nameIndex := 178, descriptorIndex := 199, attributes := #[] }, { accessFlags := 10, nameIndex := 14, descriptorIndex := 15, attributes := #[] }, { accessFlags := 2, nameIndex := 139, descriptorIndex := 217, attributes := #[] }] 49 219 #[49, 485, 487] #[{ accessFlags := 25, nameIndex := 34, descriptorIndex := 35, attributes := #[] }, { accessFlags := 26, nameIndex := 489, descriptorIndex := 223, attributes := #[] }, { accessFlags := 26, nameIndex := 363, descriptorIndex := 364, attributes := #[] }, { accessFlags := 18, nameIndex := 117, descriptorIndex := 223, attributes := #[] }, { accessFlags := 18, nameIndex := 226, descriptorIndex := 227, attributes := #[] }])
  fields := #[{ name := "ZERO", type := (.object "java/time/Duration"), accessFlags := 25, slot := 0, constantValue := 0 }, { name := "serialVersionUID", type := .long, accessFlags := 26, slot := 1, constantValue := 0 }, { name := "BI_NANOS_PER_SECOND", type := (.object "java/math/BigInteger"), accessFlags := 26, slot := 2, constantValue := 0 }, { name := "seconds", type := .long, accessFlags := 18, slot := 0, constantValue := 0 }, { name := "nanos", type := .int, accessFlags := 18, slot := 1, constantValue := 0 }]
  methods := #[k10m0, k10m1, k10m2]
  instanceTypes := #[.long, .int]
  staticTypes := #[(.object "java/time/Duration"), .long, (.object "java/math/BigInteger")]
  resolved := Array.replicate 656 none
  statics := none }

def pool11 : Array CpInfo := pool [(4, .class_ 6), (1, u "java/lang/Object"), (0, u "<init>"), (0, u "()V"), (5, .class_ 16), (1, u "java/lang/StringLatin1"), (82, .methodref 14 100), (0, .nameAndType 101 102), (0, u "indexOf"), (0, u "([BI[BII)I"), (18, u "$assertionsDisabled"), (0, u "Z"), (98, .class_ 223), (1, u "java/lang/StringLatin1$LinesSpliterator"), (57, u "equals"), (0, u "([B[B)Z"), (4, u "([B[B)I"), (102, .class_ 391), (0, u "java/lang/StringLatin1$CharsSpliterator")] 3

def k11m0 : Method := { name := "<init>", desc := "()V", sig := { parameters := [], returnType := none }, accessFlags := 0, code := none }
def k11c1 : Code := { maxStack := 3, maxLocals := 3, code := jdk_43_method_13_code, exceptionTable := #[], attributes := #[] }
def k11m1 : Method := { name := "equals", desc := "([B[B)Z", sig := { parameters := [(.array .byte), (.array .byte)], returnType := some .boolean }, accessFlags := 9, code := some k11c1 }
def k11c2 : Code := { maxStack := 5, maxLocals := 2, code := jdk_43_method_24_code, exceptionTable := #[], attributes := #[] }
def k11m2 : Method := { name := "indexOf", desc := "([B[B)I", sig := { parameters := [(.array .byte), (.array .byte)], returnType := some .int }, accessFlags := 9, code := some k11c2 }
def k11c3 : Code := { maxStack := 3, maxLocals := 11, code := jdk_43_method_25_code, exceptionTable := #[], attributes := #[] }
def k11m3 : Method := { name := "indexOf", desc := "([BI[BII)I", sig := { parameters := [(.array .byte), .int, (.array .byte), .int, .int], returnType := some .int }, accessFlags := 9, code := some k11c3 }
/-- java/lang/StringLatin1 -/
def k11 : Class := { plain "java/lang/StringLatin1" (some 0) with
  accessFlags := 48
  interfaces := #[]
  cf := some (fileOf pool11 14 #[.nestMembers #[390, 221]] #[{ accessFlags := 0, nameIndex := 7, descriptorIndex := 8, attributes := #[] }, { accessFlags := 9, nameIndex := 281, descriptorIndex := 282, attributes := #[] }, { accessFlags := 9, nameIndex := 101, descriptorIndex := 287, attributes := #[] }, { accessFlags := 9, nameIndex := 101, descriptorIndex := 102, attributes := #[] }] 48 4 #[] #[{ accessFlags := 4120, nameIndex := 121, descriptorIndex := 122, attributes := #[] }])
  fields := #[{ name := "$assertionsDisabled", type := .boolean, accessFlags := 4120, slot := 0, constantValue := 0 }]
  methods := #[k11m0, k11m1, k11m2, k11m3]
  instanceTypes := #[]
  staticTypes := #[.boolean]
  resolved := Array.replicate 395 none
  statics := none }

def pool12 : Array CpInfo := pool [(1, .class_ 2), (0, u "java/lang/Appendable"), (0, .class_ 4), (0, u "java/lang/Object")] 9

/-- java/lang/Appendable -/
def k12 : Class := { plain "java/lang/Appendable" (some 0) with
  accessFlags := 1537
  interfaces := #[]
  cf := some (fileOf pool12 1 #[] #[] 1537 3 #[] #[])
  fields := #[]
  methods := #[]
  instanceTypes := #[]
  staticTypes := #[]
  resolved := Array.replicate 14 none
  statics := none }

def pool13 : Array CpInfo := pool [(1, .class_ 2), (0, u "java/lang/String"), (0, .methodref 4 5), (0, .class_ 6), (0, .nameAndType 7 8), (0, u "java/lang/Object"), (0, u "<init>"), (0, u "()V"), (1, .class_ 12), (1, u "java/lang/AbstractStringBuilder"), (0, u "EMPTYVALUE"), (0, u "[B"), (0, .fieldref 10 16), (0, .nameAndType 17 14), (0, u "value"), (0, .fieldref 1 19), (0, .nameAndType 20 21), (0, u "COMPACT_STRINGS"), (0, u "Z"), (0, .fieldref 10 23), (0, .nameAndType 24 25), (0, u "coder"), (0, u "B"), (6, .methodref 1 33), (0, .nameAndType 34 35), (0, u "length"), (0, u "()I"), (0, .class_ 37), (0, u "java/lang/Integer"), (1, .integer 2147483647), (0, .methodref 1 41), (0, .nameAndType 24 42), (0, u "()B"), (2, u "append"), (0, u "(Ljava/lang/String;)Ljava/lang/AbstractStringBuilder;"), (1, .class_ 49), (0, u "java/lang/CharSequence"), (19, u "(Ljava/lang/String;)V"), (5, u "maybeLatin1"), (3, .fieldref 10 80), (0, .nameAndType 81 82), (0, u "count"), (0, u "I"), (0, .methodref 10 84), (0, .nameAndType 85 86), (0, u "isLatin1"), (0, u "()Z"), (13, .methodref 10 101), (0, .nameAndType 102 103), (0, u "ensureCapacityInternal"), (0, u "(I)V"), (0, .methodref 10 105), (0, .nameAndType 106 107), (0, u "newCapacity"), (0, u "(I)I"), (0, .methodref 109 110), (0, .class_ 111), (0, .nameAndType 112 113), (0, u "java/util/Arrays"), (0, u "copyOf"), (0, u "([BI)[B"), (0, .methodref 115 116), (0, .class_ 117), (0, .nameAndType 118 119), (0, u "jdk/internal/util/ArraysSupport"), (0, u "newLength"), (0, u "(III)I"), (68, u "getChars"), (19, .methodref 10 209), (0, .nameAndType 210 211), (0, u "putStringAt"), (0, u "(ILjava/lang/String;)V"), (5, u "inflateIfNeededFor"), (2, .nameAndType 221 222), (0, u "getBytes"), (0, u "([BIB)V"), (22, .methodref 36 246), (0, .nameAndType 247 107), (0, u "stringSize"), (0, .methodref 36 249), (0, .nameAndType 188 250), (0, u "(II[B)I"), (146, .methodref 10 398), (0, .nameAndType 217 69), (0, .methodref 1 220), (3, u "()[B"), (40, .class_ 445), (0, u "java/lang/Appendable"), (65, u "(I)Ljava/lang/AbstractStringBuilder;"), (40, u "getValue")] 56

def k13m0 : Method := { name := "<init>", desc := "()V", sig := { parameters := [], returnType := none }, accessFlags := 0, code := none }
def k13c1 : Code := { maxStack := 2, maxLocals := 2, code := jdk_68_method_2_code, exceptionTable := #[], attributes := #[] }
def k13m1 : Method := { name := "<init>", desc := "(I)V", sig := { parameters := [.int], returnType := none }, accessFlags := 0, code := some k13c1 }
def k13c2 : Code := { maxStack := 1, maxLocals := 1, code := jdk_68_method_6_code, exceptionTable := #[], attributes := #[] }
def k13m2 : Method := { name := "length", desc := "()I", sig := { parameters := [], returnType := some .int }, accessFlags := 1, code := some k13c2 }
def k13c3 : Code := { maxStack := 4, maxLocals := 3, code := jdk_68_method_9_code, exceptionTable := #[], attributes := #[] }
def k13m3 : Method := { name := "ensureCapacityInternal", desc := "(I)V", sig := { parameters := [.int], returnType := none }, accessFlags := 2, code := some k13c3 }
def k13c4 : Code := { maxStack := 5, maxLocals := 6, code := jdk_68_method_10_code, exceptionTable := #[], attributes := #[] }
def k13m4 : Method := { name := "newCapacity", desc := "(I)I", sig := { parameters := [.int], returnType := some .int }, accessFlags := 2, code := some k13c4 }
def k13c5 : Code := { maxStack := 3, maxLocals := 3, code := jdk_68_method_22_code, exceptionTable := #[], attributes := #[] }
def k13m5 : Method := { name := "append", desc := "(Ljava/lang/String;)Ljava/lang/AbstractStringBuilder;", sig := { parameters := [(.object "java/lang/String")], returnType := some (.object "java/lang/AbstractStringBuilder") }, accessFlags := 1, code := some k13c5 }
def k13c6 : Code := { maxStack := 4, maxLocals := 4, code := jdk_68_method_32_code, exceptionTable := #[], attributes := #[] }
def k13m6 : Method := { name := "append", desc := "(I)Ljava/lang/AbstractStringBuilder;", sig := { parameters := [.int], returnType := some (.object "java/lang/AbstractStringBuilder") }, accessFlags := 1, code := some k13c6 }
def k13c7 : Code := { maxStack := 1, maxLocals := 1, code := jdk_68_method_64_code, exceptionTable := #[], attributes := #[] }
def k13m7 : Method := { name := "getValue", desc := "()[B", sig := { parameters := [], returnType := some (.array .byte) }, accessFlags := 16, code := some k13c7 }
def k13c8 : Code := { maxStack := 1, maxLocals := 1, code := jdk_68_method_68_code, exceptionTable := #[], attributes := #[] }
def k13m8 : Method := { name := "isLatin1", desc := "()Z", sig := { parameters := [], returnType := some .boolean }, accessFlags := 16, code := some k13c8 }
def k13c9 : Code := { maxStack := 2, maxLocals := 2, code := jdk_68_method_71_code, exceptionTable := #[], attributes := #[] }
def k13m9 : Method := { name := "inflateIfNeededFor", desc := "(Ljava/lang/String;)V", sig := { parameters := [(.object "java/lang/String")], returnType := none }, accessFlags := 2, code := some k13c9 }
def k13c10 : Code := { maxStack := 4, maxLocals := 3, code := jdk_68_method_73_code, exceptionTable := #[], attributes := #[] }
def k13m10 : Method := { name := "putStringAt", desc := "(ILjava/lang/String;)V", sig := { parameters := [.int, (.object "java/lang/String")], returnType := none }, accessFlags := 2, code := some k13c10 }
/-- java/lang/AbstractStringBuilder -/
def k13 : Class := { plain "java/lang/AbstractStringBuilder" (some 0) with
  accessFlags := 1056
  interfaces := #[12, 5]
  cf := some (fileOf pool13 10 #[] #[{ accessFlags := 0, nameIndex := 7, descriptorIndex := 8, attributes := #[] }, { accessFlags := 0, nameIndex := 7, descriptorIndex := 103, attributes := #[] }, { accessFlags := 1, nameIndex := 34, descriptorIndex := 35, attributes := #[] }, { accessFlags := 2, nameIndex := 102, descriptorIndex := 103, attributes := #[] }, { accessFlags := 2, nameIndex := 106, descriptorIndex := 107, attributes := #[] }, { accessFlags := 1, nameIndex := 45, descriptorIndex := 46, attributes := #[] }, { accessFlags := 1, nameIndex := 45, descriptorIndex := 511, attributes := #[] }, { accessFlags := 16, nameIndex := 552, descriptorIndex := 403, attributes := #[] }, { accessFlags := 16, nameIndex := 85, descriptorIndex := 86, attributes := #[] }, { accessFlags := 2, nameIndex := 217, descriptorIndex := 69, attributes := #[] }, { accessFlags := 2, nameIndex := 210, descriptorIndex := 211, attributes := #[] }] 1056 4 #[444, 48] #[{ accessFlags := 0, nameIndex := 17, descriptorIndex := 14, attributes := #[] }, { accessFlags := 0, nameIndex := 24, descriptorIndex := 25, attributes := #[] }, { accessFlags := 0, nameIndex := 75, descriptorIndex := 21, attributes := #[] }, { accessFlags := 0, nameIndex := 81, descriptorIndex := 82, attributes := #[] }, { accessFlags := 26, nameIndex := 13, descriptorIndex := 14, attributes := #[] }])
  fields := #[{ name := "value", type := (.array .byte), accessFlags := 0, slot := 0, constantValue := 0 }, { name := "coder", type := .byte, accessFlags := 0, slot := 1, constantValue := 0 }, { name := "maybeLatin1", type := .boolean, accessFlags := 0, slot := 2, constantValue := 0 }, { name := "count", type := .int, accessFlags := 0, slot := 3, constantValue := 0 }, { name := "EMPTYVALUE", type := (.array .byte), accessFlags := 26, slot := 0, constantValue := 0 }]
  methods := #[k13m0, k13m1, k13m2, k13m3, k13m4, k13m5, k13m6, k13m7, k13m8, k13m9, k13m10]
  instanceTypes := #[(.array .byte), .byte, .boolean, .int]
  staticTypes := #[(.array .byte)]
  resolved := Array.replicate 609 none
  statics := none }

def pool14 : Array CpInfo := pool [(1, .methodref 2 3), (0, .class_ 4), (0, .nameAndType 5 6), (0, u "java/lang/AbstractStringBuilder"), (0, u "<init>"), (0, u "(I)V"), (11, .class_ 20), (1, u "java/lang/String"), (3, .class_ 26), (1, u "java/lang/StringBuilder"), (0, u "append"), (0, u "(Ljava/lang/String;)Ljava/lang/StringBuilder;"), (0, .methodref 2 30), (0, .nameAndType 27 31), (0, u "(Ljava/lang/String;)Ljava/lang/AbstractStringBuilder;"), (21, .methodref 2 54), (0, .nameAndType 27 55), (0, u "(I)Ljava/lang/AbstractStringBuilder;"), (81, .methodref 18 138), (0, .nameAndType 5 139), (0, u "(Ljava/lang/StringBuilder;)V"), (5, u "()V"), (10, u "()I"), (111, u "(I)Ljava/lang/StringBuilder;"), (74, .methodref 2 344), (0, .nameAndType 345 156), (0, u "length"), (3, .class_ 350), (0, u "java/lang/Appendable"), (0, .class_ 352), (0, u "java/io/Serializable"), (0, .class_ 354), (0, u "java/lang/Comparable"), (0, .class_ 356), (0, u "java/lang/CharSequence"), (0, u "serialVersionUID"), (0, u "J"), (40, u "toString"), (0, u "()Ljava/lang/String;")] 21

def k14c0 : Code := { maxStack := 2, maxLocals := 1, code := jdk_67_method_1_code, exceptionTable := #[], attributes := #[] }
def k14m0 : Method := { name := "<init>", desc := "()V", sig := { parameters := [], returnType := none }, accessFlags := 1, code := some k14c0 }
def k14c1 : Code := { maxStack := 2, maxLocals := 2, code := jdk_67_method_7_code, exceptionTable := #[], attributes := #[] }
def k14m1 : Method := { name := "append", desc := "(Ljava/lang/String;)Ljava/lang/StringBuilder;", sig := { parameters := [(.object "java/lang/String")], returnType := some (.object "java/lang/StringBuilder") }, accessFlags := 1, code := some k14c1 }
def k14c2 : Code := { maxStack := 2, maxLocals := 2, code := jdk_67_method_15_code, exceptionTable := #[], attributes := #[] }
def k14m2 : Method := { name := "append", desc := "(I)Ljava/lang/StringBuilder;", sig := { parameters := [.int], returnType := some (.object "java/lang/StringBuilder") }, accessFlags := 1, code := some k14c2 }
def k14c3 : Code := { maxStack := 3, maxLocals := 1, code := jdk_67_method_42_code, exceptionTable := #[], attributes := #[] }
def k14m3 : Method := { name := "toString", desc := "()Ljava/lang/String;", sig := { parameters := [], returnType := some (.object "java/lang/String") }, accessFlags := 1, code := some k14c3 }
def k14c4 : Code := { maxStack := 1, maxLocals := 1, code := jdk_67_method_93_code, exceptionTable := #[], attributes := #[] }
def k14m4 : Method := { name := "length", desc := "()I", sig := { parameters := [], returnType := some .int }, accessFlags := 4161, code := some k14c4 }
/-- java/lang/StringBuilder -/
def k14 : Class := { plain "java/lang/StringBuilder" (some 13) with
  accessFlags := 49
  interfaces := #[12, 3, 4, 5]
  cf := some (fileOf pool14 24 #[] #[{ accessFlags := 1, nameIndex := 5, descriptorIndex := 145, attributes := #[] }, { accessFlags := 1, nameIndex := 27, descriptorIndex := 28, attributes := #[] }, { accessFlags := 1, nameIndex := 27, descriptorIndex := 268, attributes := #[] }, { accessFlags := 1, nameIndex := 399, descriptorIndex := 400, attributes := #[] }, { accessFlags := 4161, nameIndex := 345, descriptorIndex := 156, attributes := #[] }] 49 2 #[349, 351, 353, 355] #[{ accessFlags := 24, nameIndex := 357, descriptorIndex := 358, attributes := #[] }])
  fields := #[{ name := "serialVersionUID", type := .long, accessFlags := 24, slot := 0, constantValue := 0 }]
  methods := #[k14m0, k14m1, k14m2, k14m3, k14m4]
  instanceTypes := #[(.array .byte), .byte, .boolean, .int]
  staticTypes := #[.long]
  resolved := Array.replicate 422 none
  statics := none }

def pool15 : Array CpInfo := pool [(2, .class_ 4), (1, u "java/lang/Object"), (0, u "<init>"), (0, u "()V"), (1, .class_ 10), (1, u "java/lang/System"), (0, u "allowSecurityManager"), (0, u "I"), (16, u "cons"), (0, u "Ljava/io/Console;"), (77, .class_ 110), (1, u "java/lang/System$CallersHolder"), (43, u "initialErrStream"), (0, u "Ljava/io/PrintStream;"), (19, u "security"), (0, u "Ljava/lang/SecurityManager;"), (31, .class_ 209), (0, u "java/lang/System$1"), (7, u "props"), (0, u "Ljava/util/Properties;"), (2, u "lineSeparator"), (0, u "Ljava/lang/String;"), (96, .class_ 321), (1, u "java/lang/System$LoggerFinder"), (5, .class_ 328), (0, u "java/lang/System$Logger"), (67, u "err"), (2, u "out"), (91, u "notSupportedJnuEncoding"), (15, u "in"), (17, u "initialIn"), (0, u "Ljava/io/InputStream;"), (35, u "bootLayer"), (0, u "Ljava/lang/ModuleLayer;"), (99, .class_ 664), (0, u "java/lang/System$2"), (9, u "NEVER"), (2, u "MAYBE"), (49, u "arraycopy"), (0, u "(Ljava/lang/Object;ILjava/lang/Object;II)V"), (72, .class_ 802), (0, u "java/lang/System$Logger$Level")] 31

def k15m0 : Method := { name := "<init>", desc := "()V", sig := { parameters := [], returnType := none }, accessFlags := 2, code := none }
def k15m1 : Method := { name := "arraycopy", desc := "(Ljava/lang/Object;ILjava/lang/Object;II)V", sig := { parameters := [(.object "java/lang/Object"), .int, (.object "java/lang/Object"), .int, .int], returnType := none }, accessFlags := 265, code := none }
/-- java/lang/System -/
def k15 : Class := { plain "java/lang/System" (some 0) with
  accessFlags := 49
  interfaces := #[]
  cf := some (fileOf pool15 8 #[.nestMembers #[319, 327, 801, 108, 663, 208]] #[{ accessFlags := 2, nameIndex := 5, descriptorIndex := 6, attributes := #[] }, { accessFlags := 265, nameIndex := 727, descriptorIndex := 728, attributes := #[] }] 49 2 #[] #[{ accessFlags := 25, nameIndex := 507, descriptorIndex := 526, attributes := #[] }, { accessFlags := 25, nameIndex := 399, descriptorIndex := 155, attributes := #[] }, { accessFlags := 25, nameIndex := 396, descriptorIndex := 155, attributes := #[] }, { accessFlags := 10, nameIndex := 525, descriptorIndex := 526, attributes := #[] }, { accessFlags := 26, nameIndex := 674, descriptorIndex := 12, attributes := #[] }, { accessFlags := 26, nameIndex := 677, descriptorIndex := 12, attributes := #[] }, { accessFlags := 10, nameIndex := 11, descriptorIndex := 12, attributes := #[] }, { accessFlags := 74, nameIndex := 175, descriptorIndex := 176, attributes := #[] }, { accessFlags := 10, nameIndex := 491, descriptorIndex := 222, attributes := #[] }, { accessFlags := 74, nameIndex := 29, descriptorIndex := 30, attributes := #[] }, { accessFlags := 74, nameIndex := 154, descriptorIndex := 155, attributes := #[] }, { accessFlags := 10, nameIndex := 217, descriptorIndex := 218, attributes := #[] }, { accessFlags := 10, nameIndex := 221, descriptorIndex := 222, attributes := #[] }, { accessFlags := 8, nameIndex := 562, descriptorIndex := 563, attributes := #[] }])
  fields := #[{ name := "in", type := (.object "java/io/InputStream"), accessFlags := 25, slot := 0, constantValue := 0 }, { name := "out", type := (.object "java/io/PrintStream"), accessFlags := 25, slot := 1, constantValue := 0 }, { name := "err", type := (.object "java/io/PrintStream"), accessFlags := 25, slot := 2, constantValue := 0 }, { name := "initialIn", type := (.object "java/io/InputStream"), accessFlags := 10, slot := 3, constantValue := 0 }, { name := "NEVER", type := .int, accessFlags := 26, slot := 4, constantValue := 0 }, { name := "MAYBE", type := .int, accessFlags := 26, slot := 5, constantValue := 0 }, { name := "allowSecurityManager", type := .int, accessFlags := 10, slot := 6, constantValue := 0 }, { name := "security", type := (.object "java/lang/SecurityManager"), accessFlags := 74, slot := 7, constantValue := 0 }, { name := "notSupportedJnuEncoding", type := (.object "java/lang/String"), accessFlags := 10, slot := 8, constantValue := 0 }, { name := "cons", type := (.object "java/io/Console"), accessFlags := 74, slot := 9, constantValue := 0 }, { name := "initialErrStream", type := (.object "java/io/PrintStream"), accessFlags := 74, slot := 10, constantValue := 0 }, { name := "props", type := (.object "java/util/Properties"), accessFlags := 10, slot := 11, constantValue := 0 }, { name := "lineSeparator", type := (.object "java/lang/String"), accessFlags := 10, slot := 12, constantValue := 0 }, { name := "bootLayer", type := (.object "java/lang/ModuleLayer"), accessFlags := 8, slot := 13, constantValue := 0 }]
  methods := #[k15m0, k15m1]
  instanceTypes := #[]
  staticTypes := #[(.object "java/io/InputStream"), (.object "java/io/PrintStream"), (.object "java/io/PrintStream"), (.object "java/io/InputStream"), .int, .int, .int, (.object "java/lang/SecurityManager"), (.object "java/lang/String"), (.object "java/io/Console"), (.object "java/io/PrintStream"), (.object "java/util/Properties"), (.object "java/lang/String"), (.object "java/lang/ModuleLayer")]
  resolved := Array.replicate 834 none
  statics := none }

def pool16 : Array CpInfo := pool [(9, u "<init>"), (6, .class_ 18), (1, u "java/lang/Object"), (0, u "()V"), (1, .class_ 23), (1, u "jdk/internal/util/ArraysSupport"), (0, u "LOG2_ARRAY_LONG_INDEX_SCALE"), (0, u "I"), (2, u "U"), (0, u "Ljdk/internal/misc/Unsafe;"), (8, u "BIG_ENDIAN"), (0, u "Z"), (8, u "LOG2_BYTE_BIT_SIZE"), (4, u "LOG2_ARRAY_INT_INDEX_SCALE"), (54, u "JLA"), (0, u "Ljdk/internal/access/JavaLangAccess;"), (11, u "LOG2_ARRAY_BOOLEAN_INDEX_SCALE"), (9, u "LOG2_ARRAY_BYTE_INDEX_SCALE"), (5, u "LOG2_ARRAY_CHAR_INDEX_SCALE"), (5, u "LOG2_ARRAY_SHORT_INDEX_SCALE"), (18, u "LOG2_ARRAY_FLOAT_INDEX_SCALE"), (24, u "LOG2_ARRAY_DOUBLE_INDEX_SCALE"), (6, .methodref 195 196), (0, .class_ 197), (0, .nameAndType 198 199), (0, u "java/lang/Math"), (0, u "max"), (0, u "(II)I"), (0, .integer 2147483639), (76, u "T_BOOLEAN"), (2, u "T_CHAR"), (1, u "T_FLOAT"), (1, u "T_DOUBLE"), (1, u "T_BYTE"), (1, u "T_SHORT"), (1, u "T_INT"), (1, u "T_LONG"), (1, u "SOFT_MAX_ARRAY_LENGTH"), (56, u "newLength"), (0, u "(III)I")] 25

def k16m0 : Method := { name := "<init>", desc := "()V", sig := { parameters := [], returnType := none }, accessFlags := 2, code := none }
def k16c1 : Code := { maxStack := 3, maxLocals := 4, code := jdk_48_method_27_code, exceptionTable := #[], attributes := #[] }
def k16m1 : Method := { name := "newLength", desc := "(III)I", sig := { parameters := [.int, .int, .int], returnType := some .int }, accessFlags := 9, code := some k16c1 }
/-- jdk/internal/util/ArraysSupport -/
def k16 : Class := { plain "jdk/internal/util/ArraysSupport" (some 0) with
  accessFlags := 33
  interfaces := #[]
  cf := some (fileOf pool16 21 #[] #[{ accessFlags := 2, nameIndex := 9, descriptorIndex := 19, attributes := #[] }, { accessFlags := 9, nameIndex := 351, descriptorIndex := 352, attributes := #[] }] 33 16 #[] #[{ accessFlags := 24, nameIndex := 28, descriptorIndex := 29, attributes := #[] }, { accessFlags := 26, nameIndex := 38, descriptorIndex := 39, attributes := #[] }, { accessFlags := 25, nameIndex := 121, descriptorIndex := 25, attributes := #[] }, { accessFlags := 25, nameIndex := 131, descriptorIndex := 25, attributes := #[] }, { accessFlags := 25, nameIndex := 137, descriptorIndex := 25, attributes := #[] }, { accessFlags := 25, nameIndex := 143, descriptorIndex := 25, attributes := #[] }, { accessFlags := 25, nameIndex := 53, descriptorIndex := 25, attributes := #[] }, { accessFlags := 25, nameIndex := 24, descriptorIndex := 25, attributes := #[] }, { accessFlags := 25, nameIndex := 162, descriptorIndex := 25, attributes := #[] }, { accessFlags := 25, nameIndex := 187, descriptorIndex := 25, attributes := #[] }, { accessFlags := 26, nameIndex := 48, descriptorIndex := 25, attributes := #[] }, { accessFlags := 25, nameIndex := 277, descriptorIndex := 25, attributes := #[] }, { accessFlags := 25, nameIndex := 280, descriptorIndex := 25, attributes := #[] }, { accessFlags := 25, nameIndex := 282, descriptorIndex := 25, attributes := #[] }, { accessFlags := 25, nameIndex := 284, descriptorIndex := 25, attributes := #[] }, { accessFlags := 25, nameIndex := 286, descriptorIndex := 25, attributes := #[] }, { accessFlags := 25, nameIndex := 288, descriptorIndex := 25, attributes := #[] }, { accessFlags := 25, nameIndex := 290, descriptorIndex := 25, attributes := #[] }, { accessFlags := 25, nameIndex := 292, descriptorIndex := 25, attributes := #[] }, { accessFlags := 26, nameIndex := 108, descriptorIndex := 109, attributes := #[] }, { accessFlags := 25, nameIndex := 294, descriptorIndex := 25, attributes := #[] }])
  fields := #[{ name := "U", type := (.object "jdk/internal/misc/Unsafe"), accessFlags := 24, slot := 0, constantValue := 0 }, { name := "BIG_ENDIAN", type := .boolean, accessFlags := 26, slot := 1, constantValue := 0 }, { name := "LOG2_ARRAY_BOOLEAN_INDEX_SCALE", type := .int, accessFlags := 25, slot := 2, constantValue := 0 }, { name := "LOG2_ARRAY_BYTE_INDEX_SCALE", type := .int, accessFlags := 25, slot := 3, constantValue := 0 }, { name := "LOG2_ARRAY_CHAR_INDEX_SCALE", type := .int, accessFlags := 25, slot := 4, constantValue := 0 }, { name := "LOG2_ARRAY_SHORT_INDEX_SCALE", type := .int, accessFlags := 25, slot := 5, constantValue := 0 }, { name := "LOG2_ARRAY_INT_INDEX_SCALE", type := .int, accessFlags := 25, slot := 6, constantValue := 0 }, { name := "LOG2_ARRAY_LONG_INDEX_SCALE", type := .int, accessFlags := 25, slot := 7, constantValue := 0 }, { name := "LOG2_ARRAY_FLOAT_INDEX_SCALE", type := .int, accessFlags := 25, slot := 8, constantValue := 0 }, { name := "LOG2_ARRAY_DOUBLE_INDEX_SCALE", type := .int, accessFlags := 25, slot := 9, constantValue := 0 }, { name := "LOG2_BYTE_BIT_SIZE", type := .int, accessFlags := 26, slot := 10, constantValue := 0 }, { name := "T_BOOLEAN", type := .int, accessFlags := 25, slot := 11, constantValue := 0 }, { name := "T_CHAR", type := .int, accessFlags := 25, slot := 12, constantValue := 0 }, { name := "T_FLOAT", type := .int, accessFlags := 25, slot := 13, constantValue := 0 }, { name := "T_DOUBLE", type := .int, accessFlags := 25, slot := 14, constantValue := 0 }, { name := "T_BYTE", type := .int, accessFlags := 25, slot := 15, constantValue := 0 }, { name := "T_SHORT", type := .int, accessFlags := 25, slot := 16, constantValue := 0 }, { name := "T_INT", type := .int, accessFlags := 25, slot := 17, constantValue := 0 }, { name := "T_LONG", type := .int, accessFlags := 25, slot := 18, constantValue := 0 }, { name := "JLA", type := (.object "jdk/internal/access/JavaLangAccess"), accessFlags := 26, slot := 19, constantValue := 0 }, { name := "SOFT_MAX_ARRAY_LENGTH", type := .int, accessFlags := 25, slot := 20, constantValue := 0 }]
  methods := #[k16m0, k16m1]
  instanceTypes := #[]
  staticTypes := #[(.object "jdk/internal/misc/Unsafe"), .boolean, .int, .int, .int, .int, .int, .int, .int, .int, .int, .int, .int, .int, .int, .int, .int, .int, .int, (.object "jdk/internal/access/JavaLangAccess"), .int]
  resolved := Array.replicate 378 none
  statics := none }

def pool17 : Array CpInfo := pool [(1, .class_ 2), (0, u "java/lang/Math"), (1, .class_ 6), (1, u "java/lang/Object"), (0, u "<init>"), (0, u "()V"), (89, .class_ 100), (1, u "java/lang/Math$RandomNumberGeneratorHolder"), (71, u "negativeZeroFloatBits"), (0, u "J"), (2, u "negativeZeroDoubleBits"), (21, u "max"), (2, u "min"), (43, u "$assertionsDisabled"), (0, u "Z"), (88, u "(II)I"), (2, u "twoToTheDoubleScaleDown"), (0, u "D"), (4, u "twoToTheDoubleScaleUp"), (9, u "E"), (3, u "PI"), (2, u "TAU"), (2, u "DEGREES_TO_RADIANS"), (0, u "RADIANS_TO_DEGREES")] 94

def k17m0 : Method := { name := "<init>", desc := "()V", sig := { parameters := [], returnType := none }, accessFlags := 2, code := none }
def k17c1 : Code := { maxStack := 2, maxLocals := 2, code := jdk_29_method_65_code, exceptionTable := #[], attributes := #[] }
def k17m1 : Method := { name := "max", desc := "(II)I", sig := { parameters := [.int, .int], returnType := some .int }, accessFlags := 9, code := some k17c1 }
def k17c2 : Code := { maxStack := 2, maxLocals := 2, code := jdk_29_method_69_code, exceptionTable := #[], attributes := #[] }
def k17m2 : Method := { name := "min", desc := "(II)I", sig := { parameters := [.int, .int], returnType := some .int }, accessFlags := 9, code := some k17c2 }
/-- java/lang/Math -/
def k17 : Class := { plain "java/lang/Math" (some 0) with
  accessFlags := 49
  interfaces := #[]
  cf := some (fileOf pool17 1 #[.nestMembers #[98]] #[{ accessFlags := 2, nameIndex := 7, descriptorIndex := 8, attributes := #[] }, { accessFlags := 9, nameIndex := 198, descriptorIndex := 335, attributes := #[] }, { accessFlags := 9, nameIndex := 201, descriptorIndex := 335, attributes := #[] }] 49 4 #[] #[{ accessFlags := 25, nameIndex := 354, descriptorIndex := 339, attributes := #[] }, { accessFlags := 25, nameIndex := 358, descriptorIndex := 339, attributes := #[] }, { accessFlags := 25, nameIndex := 361, descriptorIndex := 339, attributes := #[] }, { accessFlags := 26, nameIndex := 364, descriptorIndex := 339, attributes := #[] }, { accessFlags := 26, nameIndex := 365, descriptorIndex := 339, attributes := #[] }, { accessFlags := 26, nameIndex := 172, descriptorIndex := 173, attributes := #[] }, { accessFlags := 26, nameIndex := 176, descriptorIndex := 173, attributes := #[] }, { accessFlags := 8, nameIndex := 344, descriptorIndex := 339, attributes := #[] }, { accessFlags := 8, nameIndex := 338, descriptorIndex := 339, attributes := #[] }, { accessFlags := 4120, nameIndex := 245, descriptorIndex := 246, attributes := #[] }])
  fields := #[{ name := "E", type := .double, accessFlags := 25, slot := 0, constantValue := 0 }, { name := "PI", type := .double, accessFlags := 25, slot := 1, constantValue := 0 }, { name := "TAU", type := .double, accessFlags := 25, slot := 2, constantValue := 0 }, { name := "DEGREES_TO_RADIANS", type := .double, accessFlags := 26, slot := 3, constantValue := 0 }, { name := "RADIANS_TO_DEGREES", type := .double, accessFlags := 26, slot := 4, constantValue := 0 }, { name := "negativeZeroFloatBits", type := .long, accessFlags := 26, slot := 5, constantValue := 0 }, { name := "negativeZeroDoubleBits", type := .long, accessFlags := 26, slot := 6, constantValue := 0 }, { name := "twoToTheDoubleScaleUp", type := .double, accessFlags := 8, slot := 7, constantValue := 0 }, { name := "twoToTheDoubleScaleDown", type := .double, accessFlags := 8, slot := 8, constantValue := 0 }, { name := "$assertionsDisabled", type := .boolean, accessFlags := 4120, slot := 9, constantValue := 0 }]
  methods := #[k17m0, k17m1, k17m2]
  instanceTypes := #[]
  staticTypes := #[.double, .double, .double, .double, .double, .long, .long, .double, .double, .boolean]
  resolved := Array.replicate 460 none
  statics := none }

def pool18 : Array CpInfo := pool [(2, .class_ 4), (1, u "java/lang/Object"), (0, u "<init>"), (0, u "()V"), (7, .class_ 16), (1, u "java/util/Arrays"), (57, .class_ 76), (1, u "java/util/Arrays$NaturalOrder"), (36, .class_ 115), (1, u "java/util/Arrays$LegacyMergeSort"), (1, u "Z"), (21, u "copyOfRange"), (10, .methodref 151 152), (0, .class_ 153), (0, .nameAndType 154 155), (0, u "java/lang/System"), (0, u "arraycopy"), (0, u "(Ljava/lang/Object;ILjava/lang/Object;II)V"), (146, u "copyOf"), (1, .methodref 305 306), (0, .class_ 307), (0, .nameAndType 308 309), (0, u "java/lang/Math"), (0, u "min"), (0, u "(II)I"), (29, .methodref 14 340), (0, .nameAndType 341 342), (0, u "copyOfRangeByte"), (0, u "([BII)[B"), (0, .methodref 14 344), (0, .nameAndType 345 346), (0, u "checkLength"), (0, u "(II)V"), (28, .class_ 376), (0, u "java/util/Arrays$ArrayList"), (68, u "$assertionsDisabled"), (269, u "MIN_ARRAY_SORT_GRAN"), (0, u "I"), (2, u "INSERTIONSORT_THRESHOLD"), (149, u "([BI)[B"), (105, .class_ 976), (0, u "java/util/Arrays$ArrayItr")] 52

def k18m0 : Method := { name := "<init>", desc := "()V", sig := { parameters := [], returnType := none }, accessFlags := 2, code := none }
def k18c1 : Code := { maxStack := 6, maxLocals := 3, code := jdk_65_method_121_code, exceptionTable := #[], attributes := #[] }
def k18m1 : Method := { name := "copyOf", desc := "([BI)[B", sig := { parameters := [(.array .byte), .int], returnType := some (.array .byte) }, accessFlags := 9, code := some k18c1 }
def k18c2 : Code := { maxStack := 4, maxLocals := 2, code := jdk_65_method_131_code, exceptionTable := #[], attributes := #[] }
def k18m2 : Method := { name := "checkLength", desc := "(II)V", sig := { parameters := [.int, .int], returnType := none }, accessFlags := 10, code := some k18c2 }
def k18c3 : Code := { maxStack := 3, maxLocals := 3, code := jdk_65_method_132_code, exceptionTable := #[], attributes := #[] }
def k18m3 : Method := { name := "copyOfRange", desc := "([BII)[B", sig := { parameters := [(.array .byte), .int, .int], returnType := some (.array .byte) }, accessFlags := 9, code := some k18c3 }
def k18c4 : Code := { maxStack := 6, maxLocals := 5, code := jdk_65_method_133_code, exceptionTable := #[], attributes := #[] }
def k18m4 : Method := { name := "copyOfRangeByte", desc := "([BII)[B", sig := { parameters := [(.array .byte), .int, .int], returnType := some (.array .byte) }, accessFlags := 10, code := some k18c4 }
/-- java/util/Arrays -/
def k18 : Class := { plain "java/util/Arrays" (some 0) with
  accessFlags := 49
  interfaces := #[]
  cf := some (fileOf pool18 14 #[.nestMembers #[975, 375, 113, 74]] #[{ accessFlags := 2, nameIndex := 5, descriptorIndex := 6, attributes := #[] }, { accessFlags := 9, nameIndex := 302, descriptorIndex := 869, attributes := #[] }, { accessFlags := 10, nameIndex := 345, descriptorIndex := 346, attributes := #[] }, { accessFlags := 9, nameIndex := 139, descriptorIndex := 342, attributes := #[] }, { accessFlags := 10, nameIndex := 341, descriptorIndex := 342, attributes := #[] }] 49 2 #[] #[{ accessFlags := 26, nameIndex := 715, descriptorIndex := 716, attributes := #[] }, { accessFlags := 26, nameIndex := 719, descriptorIndex := 716, attributes := #[] }, { accessFlags := 4120, nameIndex := 445, descriptorIndex := 117, attributes := #[] }])
  fields := #[{ name := "MIN_ARRAY_SORT_GRAN", type := .int, accessFlags := 26, slot := 0, constantValue := 0 }, { name := "INSERTIONSORT_THRESHOLD", type := .int, accessFlags := 26, slot := 1, constantValue := 0 }, { name := "$assertionsDisabled", type := .boolean, accessFlags := 4120, slot := 2, constantValue := 0 }]
  methods := #[k18m0, k18m1, k18m2, k18m3, k18m4]
  instanceTypes := #[]
  staticTypes := #[.int, .int, .boolean]
  resolved := Array.replicate 1029 none
  statics := none }

def pool19 : Array CpInfo := pool [(2, .class_ 4), (1, u "java/lang/Object"), (0, u "<init>"), (0, u "()V"), (1, .class_ 10), (1, u "java/lang/Number"), (2, .class_ 14), (0, u "java/io/Serializable"), (0, u "serialVersionUID"), (0, u "J")] 20

def k19m0 : Method := { name := "<init>", desc := "()V", sig := { parameters := [], returnType := none }, accessFlags := 1, code := none }
/-- java/lang/Number -/
def k19 : Class := { plain "java/lang/Number" (some 0) with
  accessFlags := 1057
  interfaces := #[3]
  cf := some (fileOf pool19 8 #[] #[{ accessFlags := 1, nameIndex := 5, descriptorIndex := 6, attributes := #[] }] 1057 2 #[13] #[{ accessFlags := 26, nameIndex := 15, descriptorIndex := 16, attributes := #[] }])
  fields := #[{ name := "serialVersionUID", type := .long, accessFlags := 26, slot := 0, constantValue := 0 }]
  methods := #[k19m0]
  instanceTypes := #[]
  staticTypes := #[.long]
  resolved := Array.replicate 37 none
  statics := none }

def pool20 : Array CpInfo := pool [(1, .class_ 2), (0, u "java/lang/Integer"), (16, u "digits"), (0, u "[C"), (33, u "(I)I"), (19, u "stringSize"), (2, u "getChars"), (0, u "(II[B)I"), (4, .fieldref 1 84), (0, .nameAndType 85 86), (0, u "DigitOnes"), (0, u "[B"), (2, u "DigitTens"), (99, .class_ 190), (0, u "java/lang/Integer$IntegerCache"), (3, u "I"), (8, .class_ 204), (0, u "java/lang/Number"), (2, u "value"), (94, u "TYPE"), (0, u "Ljava/lang/Class;"), (0, .class_ 305), (0, u "java/lang/Comparable"), (0, .class_ 307), (0, u "java/lang/constant/Constable"), (0, .class_ 309), (0, u "java/lang/constant/ConstantDesc"), (0, u "MIN_VALUE"), (1, u "MAX_VALUE"), (3, u "SIZE"), (1, u "BYTES"), (1, u "serialVersionUID"), (0, u "J")] 131

def k20c0 : Code := { maxStack := 4, maxLocals := 7, code := jdk_33_method_12_code, exceptionTable := #[], attributes := #[] }
def k20m0 : Method := { name := "getChars", desc := "(II[B)I", sig := { parameters := [.int, .int, (.array .byte)], returnType := some .int }, accessFlags := 8, code := some k20c0 }
def k20c1 : Code := { maxStack := 2, maxLocals := 4, code := jdk_33_method_13_code, exceptionTable := #[], attributes := #[] }
def k20m1 : Method := { name := "stringSize", desc := "(I)I", sig := { parameters := [.int], returnType := some .int }, accessFlags := 8, code := some k20c1 }
/-- java/lang/Integer -/
def k20 : Class := { plain "java/lang/Integer" (some 19) with
  accessFlags := 49
  interfaces := #[4, 6, 7]
  cf := some (fileOf pool20 1 #[.nestMembers #[189]] #[{ accessFlags := 8, nameIndex := 77, descriptorIndex := 78, attributes := #[] }, { accessFlags := 8, nameIndex := 74, descriptorIndex := 54, attributes := #[] }] 49 203 #[304, 306, 308] #[{ accessFlags := 25, nameIndex := 310, descriptorIndex := 194, attributes := #[] }, { accessFlags := 25, nameIndex := 312, descriptorIndex := 194, attributes := #[] }, { accessFlags := 25, nameIndex := 302, descriptorIndex := 303, attributes := #[] }, { accessFlags := 24, nameIndex := 19, descriptorIndex := 20, attributes := #[] }, { accessFlags := 24, nameIndex := 89, descriptorIndex := 86, attributes := #[] }, { accessFlags := 24, nameIndex := 85, descriptorIndex := 86, attributes := #[] }, { accessFlags := 18, nameIndex := 207, descriptorIndex := 194, attributes := #[] }, { accessFlags := 25, nameIndex := 316, descriptorIndex := 194, attributes := #[] }, { accessFlags := 25, nameIndex := 318, descriptorIndex := 194, attributes := #[] }, { accessFlags := 26, nameIndex := 320, descriptorIndex := 321, attributes := #[] }])
  fields := #[{ name := "MIN_VALUE", type := .int, accessFlags := 25, slot := 0, constantValue := 0 }, { name := "MAX_VALUE", type := .int, accessFlags := 25, slot := 1, constantValue := 0 }, { name := "TYPE", type := (.object "java/lang/Class"), accessFlags := 25, slot := 2, constantValue := 0 }, { name := "digits", type := (.array .char), accessFlags := 24, slot := 3, constantValue := 0 }, { name := "DigitTens", type := (.array .byte), accessFlags := 24, slot := 4, constantValue := 0 }, { name := "DigitOnes", type := (.array .byte), accessFlags := 24, slot := 5, constantValue := 0 }, { name := "value", type := .int, accessFlags := 18, slot := 0, constantValue := 0 }, { name := "SIZE", type := .int, accessFlags := 25, slot := 6, constantValue := 0 }, { name := "BYTES", type := .int, accessFlags := 25, slot := 7, constantValue := 0 }, { name := "serialVersionUID", type := .long, accessFlags := 26, slot := 8, constantValue := 0 }]
  methods := #[k20m0, k20m1]
  instanceTypes := #[.int]
  staticTypes := #[.int, .int, (.object "java/lang/Class"), (.array .char), (.array .byte), (.array .byte), .int, .int, .long]
  resolved := Array.replicate 453 none
  statics := some 1 }

def pool21 : Array CpInfo := pool [(2, .class_ 4), (1, u "java/lang/Object"), (0, u "<init>"), (0, u "()V"), (17, .class_ 26), (1, u "jdk/internal/util/Preconditions"), (28, .class_ 56), (0, u "jdk/internal/util/Preconditions$4"), (57, .class_ 115), (0, u "jdk/internal/util/Preconditions$1"), (7, u "SIOOBE_FORMATTER"), (0, u "Ljava/util/function/BiFunction;"), (0, .class_ 126), (0, u "jdk/internal/util/Preconditions$2"), (3, u "AIOOBE_FORMATTER"), (0, .class_ 132), (0, u "jdk/internal/util/Preconditions$3"), (3, u "IOOBE_FORMATTER")] 57

def k21m0 : Method := { name := "<init>", desc := "()V", sig := { parameters := [], returnType := none }, accessFlags := 1, code := none }
/-- jdk/internal/util/Preconditions -/
def k21 : Class := { plain "jdk/internal/util/Preconditions" (some 0) with
  accessFlags := 33
  interfaces := #[]
  cf := some (fileOf pool21 24 #[.nestMembers #[55, 131, 125, 114]] #[{ accessFlags := 1, nameIndex := 5, descriptorIndex := 6, attributes := #[] }] 33 2 #[] #[{ accessFlags := 25, nameIndex := 123, descriptorIndex := 124, attributes := #[] }, { accessFlags := 25, nameIndex := 130, descriptorIndex := 124, attributes := #[] }, { accessFlags := 25, nameIndex := 136, descriptorIndex := 124, attributes := #[] }])
  fields := #[{ name := "SIOOBE_FORMATTER", type := (.object "java/util/function/BiFunction"), accessFlags := 25, slot := 0, constantValue := 0 }, { name := "AIOOBE_FORMATTER", type := (.object "java/util/function/BiFunction"), accessFlags := 25, slot := 1, constantValue := 0 }, { name := "IOOBE_FORMATTER", type := (.object "java/util/function/BiFunction"), accessFlags := 25, slot := 2, constantValue := 0 }]
  methods := #[k21m0]
  instanceTypes := #[]
  staticTypes := #[(.object "java/util/function/BiFunction"), (.object "java/util/function/BiFunction"), (.object "java/util/function/BiFunction")]
  resolved := Array.replicate 194 none
  statics := some 2 }

def pool22 : Array CpInfo := pool [(1, u "java/lang/Cloneable"), (0, .class_ 1), (0, u "java/lang/Object"), (0, .class_ 3)] 3

/-- java/lang/Cloneable -/
def k22 : Class := { plain "java/lang/Cloneable" (some 0) with
  accessFlags := 1537
  interfaces := #[]
  cf := some (fileOf pool22 2 #[] #[] 1537 4 #[] #[])
  fields := #[]
  methods := #[]
  instanceTypes := #[]
  staticTypes := #[]
  resolved := Array.replicate 8 none
  statics := none }

/-- the primitive byte -/
def k23 : Class := { plain "byte" none with kind := .primitive 'B', accessFlags := 0x411 }
/-- [B -/
def k24 : Class := { plain "[B" (some 0) with kind := .array 23 .byte, interfaces := #[22, 3], accessFlags := 1041 }

/-- the primitive int -/
def k25 : Class := { plain "int" none with kind := .primitive 'I', accessFlags := 0x411 }
/-- [I -/
def k26 : Class := { plain "[I" (some 0) with kind := .array 25 .int, interfaces := #[22, 3], accessFlags := 1041 }

def heap : Heap := #[{ cls := 8, slots := #[.long 0, .int 1, .null, .int 0, .null, .int 0, .int 0], vm := .statics 8 },
  { cls := 20, slots := #[.int 0, .int 0, .null, .null, .ref 4, .ref 3, .int 0, .int 0, .long 0], vm := .statics 20 },
  { cls := 21, slots := #[.null, .null, .null], vm := .statics 21 },
  { cls := 24, slots := #[.int 48, .int 49, .int 50, .int 51, .int 52, .int 53, .int 54, .int 55, .int 56, .int 57, .int 48, .int 49, .int 50, .int 51, .int 52, .int 53, .int 54, .int 55, .int 56, .int 57, .int 48, .int 49, .int 50, .int 51, .int 52, .int 53, .int 54, .int 55, .int 56, .int 57, .int 48, .int 49, .int 50, .int 51, .int 52, .int 53, .int 54, .int 55, .int 56, .int 57, .int 48, .int 49, .int 50, .int 51, .int 52, .int 53, .int 54, .int 55, .int 56, .int 57, .int 48, .int 49, .int 50, .int 51, .int 52, .int 53, .int 54, .int 55, .int 56, .int 57, .int 48, .int 49, .int 50, .int 51, .int 52, .int 53, .int 54, .int 55, .int 56, .int 57, .int 48, .int 49, .int 50, .int 51, .int 52, .int 53, .int 54, .int 55, .int 56, .int 57, .int 48, .int 49, .int 50, .int 51, .int 52, .int 53, .int 54, .int 55, .int 56, .int 57, .int 48, .int 49, .int 50, .int 51, .int 52, .int 53, .int 54, .int 55, .int 56, .int 57], vm := .none },
  { cls := 24, slots := #[.int 48, .int 48, .int 48, .int 48, .int 48, .int 48, .int 48, .int 48, .int 48, .int 48, .int 49, .int 49, .int 49, .int 49, .int 49, .int 49, .int 49, .int 49, .int 49, .int 49, .int 50, .int 50, .int 50, .int 50, .int 50, .int 50, .int 50, .int 50, .int 50, .int 50, .int 51, .int 51, .int 51, .int 51, .int 51, .int 51, .int 51, .int 51, .int 51, .int 51, .int 52, .int 52, .int 52, .int 52, .int 52, .int 52, .int 52, .int 52, .int 52, .int 52, .int 53, .int 53, .int 53, .int 53, .int 53, .int 53, .int 53, .int 53, .int 53, .int 53, .int 54, .int 54, .int 54, .int 54, .int 54, .int 54, .int 54, .int 54, .int 54, .int 54, .int 55, .int 55, .int 55, .int 55, .int 55, .int 55, .int 55, .int 55, .int 55, .int 55, .int 56, .int 56, .int 56, .int 56, .int 56, .int 56, .int 56, .int 56, .int 56, .int 56, .int 57, .int 57, .int 57, .int 57, .int 57, .int 57, .int 57, .int 57, .int 57, .int 57], vm := .none }]
def classes : Array Class := #[k0, k1, k2, k3, k4, k5, k6, k7, k8, k9, k10, k11, k12, k13, k14, k15, k16, k17, k18, k19, k20, k21, k22, k23, k24, k25, k26]
def interned : List (Array UInt16 × Addr) := []
def slotsUsed : Nat := 219
def theMethod : MethodId := ⟨1, 1⟩
def args0 : Array Value := #[.int 5, .int 6]
def aboutOver (below : List Frame) : State where
  vm := { classes := classes, interned := interned.toArray }
  heap := heap
  slotsUsed := slotsUsed
  threads := #[{ frames := .invoking theMethod args0 :: below }]
def below0 : List Frame := [.native { method := ⟨0, 0⟩, args := #[] }]
def about1 : State := aboutOver below0
def p0 : Program := .bare "" "" ""
def e0 : Env := launch0.env 0 0 0
theorem w_frames : about1.frames = Frame.invoking theMethod args0 :: below0 := rfl
set_option maxRecDepth 65536 in
theorem w_args : argsFit about1.vm theMethod args0 = true := by decide +kernel
set_option maxRecDepth 65536 in
theorem w_heap : heapFits about1 = true := by decide +kernel
set_option maxRecDepth 65536 in
theorem w_runnable : about1.curStatus? = some .runnable := by decide +kernel
set_option maxRecDepth 65536 in
theorem w_alone : about1.alone = true := by decide +kernel
set_option maxRecDepth 65536 in
theorem w_named : about1.methodNamed? x = some theMethod := by decide +kernel
set_option maxRecDepth 65536 in
theorem w_hears : about1.hears theMethod below0 = true := by decide +kernel
set_option maxRecDepth 65536 in
theorem w_ripe : about1.ripe theMethod args0 below0 = true := by decide +kernel
theorem w_running : about1.status = .running := rfl
set_option maxRecDepth 65536 in
theorem w_room : about1.hasRoom e0.platform room_1 = true :=
  launch0.hasRoom_least _ room_1 (by decide +kernel) (by decide +kernel) (by decide +kernel) (by decide +kernel) (by decide +kernel) (by decide +kernel)
theorem allAtoms_all (ts : List Jvm.Cond) (a : Array Jvm.Value) (st : Jvm.State) : (allAtoms ts).before a st = ts.all (fun c => c.before a st) := by
  induction ts with
  | nil => rfl
  | cons c t ih =>
    show (Jvm.Cond.and c (allAtoms t)).before a st = _
    rw [Jvm.Cond.before_and, ih, List.all_cons]
def words1 : List Jvm.Cond := Jvm.Cond.code x code maxLocals ret :: tables_1
/-- a 'code' word, met by the world's own term for the bytes: nothing is compared byte by byte -/
theorem code_word {y : MethodName} {bytes : ByteArray} {mx : Nat} {rt : Option FieldType} {a : Array Value} {s : State} {m : MethodId} {meth : Method} {c : Code} (h1 : s.methodNamed? y = some m) (h2 : s.vm.method? m = some meth) (h3 : meth.code = some c) (h4 : c.code = bytes)
    (h5 : (c.maxLocals == mx && c.exceptionTable.isEmpty && decide (c.maxStack ≤ mostOperands) && decide (meth.sig.returnType = rt) && !meth.locks && decide (parseMethodDescriptor y.desc = some meth.sig)) = true) : (Jvm.Cond.code y bytes mx rt).before a s = true := by
  simp only [Bool.and_eq_true, beq_iff_eq, Bool.not_eq_true', decide_eq_true_eq] at h5
  obtain ⟨⟨⟨⟨⟨g1, g2⟩, g3⟩, g4⟩, g5⟩, g6⟩ := h5
  simp [Cond.before, Cond.holds, Cond.value, h1, h2, h3, h4, g1, g2, g3, g4, g5, g6]
def isCode : Jvm.Cond → Bool
  | .code _ _ _ _ => true
  | _ => false
theorem all_split {L : List Jvm.Cond} {P : Jvm.Cond → Bool} (h1 : L.all (fun c => isCode c || P c) = true) (h2 : ∀ c ∈ L.filter isCode, P c = true) : L.all P = true := by
  refine List.all_eq_true.mpr fun c hc => ?_
  have h := List.all_eq_true.mp h1 c hc
  rcases Bool.eq_false_or_eq_true (isCode c) with hi | hi
  · exact h2 c (List.mem_filter.mpr ⟨hc, hi⟩)
  · simpa [hi] using h
set_option maxRecDepth 65536 in
theorem w_c0 : (Jvm.Cond.code x code maxLocals ret).before args0 about1 = true := code_word (m := ⟨1, 1⟩) (meth := k1m1) (c := k1c1) (by decide +kernel) rfl rfl rfl (by decide +kernel)
set_option maxRecDepth 65536 in
theorem w_c1 : (Jvm.Cond.code ({ cls := "com/example/periwinkle/periwinkle/server/ServerSettings", name := "<init>", desc := "()V" } : Jvm.MethodName) prog_37_method_1_code (1 : Nat) (Option.none : Option Jvm.ClassFile.FieldType)).before args0 about1 = true := code_word (m := ⟨2, 0⟩) (meth := k2m0) (c := k2c0) (by decide +kernel) rfl rfl rfl (by decide +kernel)
set_option maxRecDepth 65536 in
theorem w_c2 : (Jvm.Cond.code ({ cls := "java/time/Duration", name := "ofSeconds", desc := "(J)Ljava/time/Duration;" } : Jvm.MethodName) jdk_2316_method_4_code (2 : Nat) (Option.some (Jvm.ClassFile.FieldType.object "java/time/Duration"))).before args0 about1 = true := code_word (m := ⟨10, 0⟩) (meth := k10m0) (c := k10c0) (by decide +kernel) rfl rfl rfl (by decide +kernel)
set_option maxRecDepth 65536 in
theorem w_c3 : (Jvm.Cond.code ({ cls := "java/time/Duration", name := "create", desc := "(JI)Ljava/time/Duration;" } : Jvm.MethodName) jdk_2316_method_16_code (3 : Nat) (Option.some (Jvm.ClassFile.FieldType.object "java/time/Duration"))).before args0 about1 = true := code_word (m := ⟨10, 1⟩) (meth := k10m1) (c := k10c1) (by decide +kernel) rfl rfl rfl (by decide +kernel)
set_option maxRecDepth 65536 in
theorem w_c4 : (Jvm.Cond.code ({ cls := "java/time/Duration", name := "<init>", desc := "(JI)V" } : Jvm.MethodName) jdk_2316_method_17_code (4 : Nat) (Option.none : Option Jvm.ClassFile.FieldType)).before args0 about1 = true := code_word (m := ⟨10, 2⟩) (meth := k10m2) (c := k10c2) (by decide +kernel) rfl rfl rfl (by decide +kernel)
set_option maxRecDepth 65536 in
theorem w_c5 : (Jvm.Cond.code ({ cls := "java/lang/Object", name := "<init>", desc := "()V" } : Jvm.MethodName) object_method_1_code (1 : Nat) (Option.none : Option Jvm.ClassFile.FieldType)).before args0 about1 = true := code_word (m := ⟨0, 0⟩) (meth := k0m0) (c := k0c0) (by decide +kernel) rfl rfl rfl (by decide +kernel)
set_option maxRecDepth 65536 in
theorem w_c6 : (Jvm.Cond.code ({ cls := "com/example/periwinkle/periwinkle/server/ServerSettings", name := "<init>", desc := "(Ljava/lang/String;ILjava/nio/file/Path;Ljava/nio/file/Path;Ljava/time/Duration;)V" } : Jvm.MethodName) prog_37_method_2_code (6 : Nat) (Option.none : Option Jvm.ClassFile.FieldType)).before args0 about1 = true := code_word (m := ⟨2, 1⟩) (meth := k2m1) (c := k2c1) (by decide +kernel) rfl rfl rfl (by decide +kernel)
set_option maxRecDepth 65536 in
theorem w_c7 : (Jvm.Cond.code ({ cls := "com/example/periwinkle/periwinkle/server/ServerSettings", name := "withPort", desc := "(I)Lcom/example/periwinkle/periwinkle/server/ServerSettings;" } : Jvm.MethodName) prog_37_method_4_code (2 : Nat) (Option.some (Jvm.ClassFile.FieldType.object "com/example/periwinkle/periwinkle/server/ServerSettings"))).before args0 about1 = true := code_word (m := ⟨2, 2⟩) (meth := k2m2) (c := k2c2) (by decide +kernel) rfl rfl rfl (by decide +kernel)
set_option maxRecDepth 65536 in
theorem w_c8 : (Jvm.Cond.code ({ cls := "com/example/periwinkle/periwinkle/server/ServerSettings", name := "checkPort", desc := "(I)V" } : Jvm.MethodName) prog_37_method_8_code (1 : Nat) (Option.none : Option Jvm.ClassFile.FieldType)).before args0 about1 = true := code_word (m := ⟨2, 3⟩) (meth := k2m3) (c := k2c3) (by decide +kernel) rfl rfl rfl (by decide +kernel)
set_option maxRecDepth 65536 in
theorem w_c9 : (Jvm.Cond.code ({ cls := "com/example/periwinkle/periwinkle/server/ServerSettings", name := "port", desc := "()I" } : Jvm.MethodName) prog_37_method_13_code (1 : Nat) (Option.some Jvm.ClassFile.FieldType.int)).before args0 about1 = true := code_word (m := ⟨2, 4⟩) (meth := k2m4) (c := k2c4) (by decide +kernel) rfl rfl rfl (by decide +kernel)
set_option maxRecDepth 65536 in
theorem w_c10 : (Jvm.Cond.code ({ cls := "com/example/periwinkle/periwinkle/server/ServerSettings", name := "tokenLifetime", desc := "()Ljava/time/Duration;" } : Jvm.MethodName) prog_37_method_14_code (1 : Nat) (Option.some (Jvm.ClassFile.FieldType.object "java/time/Duration"))).before args0 about1 = true := code_word (m := ⟨2, 5⟩) (meth := k2m5) (c := k2c5) (by decide +kernel) rfl rfl rfl (by decide +kernel)
set_option maxRecDepth 65536 in
theorem w_c11 : (Jvm.Cond.code ({ cls := "com/example/periwinkle/periwinkle/server/ServerSettings", name := "url", desc := "(I)Ljava/lang/String;" } : Jvm.MethodName) prog_37_method_17_code (4 : Nat) (Option.some (Jvm.ClassFile.FieldType.object "java/lang/String"))).before args0 about1 = true := code_word (m := ⟨2, 6⟩) (meth := k2m6) (c := k2c6) (by decide +kernel) rfl rfl rfl (by decide +kernel)
set_option maxRecDepth 65536 in
theorem w_c12 : (Jvm.Cond.code ({ cls := "java/lang/String", name := "contains", desc := "(Ljava/lang/CharSequence;)Z" } : Jvm.MethodName) jdk_42_method_97_code (2 : Nat) (Option.some Jvm.ClassFile.FieldType.boolean)).before args0 about1 = true := code_word (m := ⟨8, 5⟩) (meth := k8m5) (c := k8c5) (by decide +kernel) rfl rfl rfl (by decide +kernel)
set_option maxRecDepth 65536 in
theorem w_c13 : (Jvm.Cond.code ({ cls := "java/lang/String", name := "toString", desc := "()Ljava/lang/String;" } : Jvm.MethodName) jdk_42_method_126_code (1 : Nat) (Option.some (Jvm.ClassFile.FieldType.object "java/lang/String"))).before args0 about1 = true := code_word (m := ⟨8, 6⟩) (meth := k8m6) (c := k8c6) (by decide +kernel) rfl rfl rfl (by decide +kernel)
set_option maxRecDepth 65536 in
theorem w_c14 : (Jvm.Cond.code ({ cls := "java/lang/String", name := "indexOf", desc := "(Ljava/lang/String;)I" } : Jvm.MethodName) jdk_42_method_84_code (3 : Nat) (Option.some Jvm.ClassFile.FieldType.int)).before args0 about1 = true := code_word (m := ⟨8, 4⟩) (meth := k8m4) (c := k8c4) (by decide +kernel) rfl rfl rfl (by decide +kernel)
set_option maxRecDepth 65536 in
theorem w_c15 : (Jvm.Cond.code ({ cls := "java/lang/String", name := "coder", desc := "()B" } : Jvm.MethodName) jdk_42_method_152_code (1 : Nat) (Option.some Jvm.ClassFile.FieldType.byte)).before args0 about1 = true := code_word (m := ⟨8, 9⟩) (meth := k8m9) (c := k8c9) (by decide +kernel) rfl rfl rfl (by decide +kernel)
set_option maxRecDepth 65536 in
theorem w_c16 : (Jvm.Cond.code ({ cls := "java/lang/String", name := "isLatin1", desc := "()Z" } : Jvm.MethodName) jdk_42_method_154_code (1 : Nat) (Option.some Jvm.ClassFile.FieldType.boolean)).before args0 about1 = true := code_word (m := ⟨8, 10⟩) (meth := k8m10) (c := k8c10) (by decide +kernel) rfl rfl rfl (by decide +kernel)
set_option maxRecDepth 65536 in
theorem w_c17 : (Jvm.Cond.code ({ cls := "java/lang/StringLatin1", name := "indexOf", desc := "([B[B)I" } : Jvm.MethodName) jdk_43_method_24_code (2 : Nat) (Option.some Jvm.ClassFile.FieldType.int)).before args0 about1 = true := code_word (m := ⟨11, 2⟩) (meth := k11m2) (c := k11c2) (by decide +kernel) rfl rfl rfl (by decide +kernel)
set_option maxRecDepth 65536 in
theorem w_c18 : (Jvm.Cond.code ({ cls := "java/lang/StringLatin1", name := "indexOf", desc := "([BI[BII)I" } : Jvm.MethodName) jdk_43_method_25_code (11 : Nat) (Option.some Jvm.ClassFile.FieldType.int)).before args0 about1 = true := code_word (m := ⟨11, 3⟩) (meth := k11m3) (c := k11c3) (by decide +kernel) rfl rfl rfl (by decide +kernel)
set_option maxRecDepth 65536 in
theorem w_c19 : (Jvm.Cond.code ({ cls := "java/lang/StringBuilder", name := "<init>", desc := "()V" } : Jvm.MethodName) jdk_67_method_1_code (1 : Nat) (Option.none : Option Jvm.ClassFile.FieldType)).before args0 about1 = true := code_word (m := ⟨14, 0⟩) (meth := k14m0) (c := k14c0) (by decide +kernel) rfl rfl rfl (by decide +kernel)
set_option maxRecDepth 65536 in
theorem w_c20 : (Jvm.Cond.code ({ cls := "java/lang/AbstractStringBuilder", name := "<init>", desc := "(I)V" } : Jvm.MethodName) jdk_68_method_2_code (2 : Nat) (Option.none : Option Jvm.ClassFile.FieldType)).before args0 about1 = true := code_word (m := ⟨13, 1⟩) (meth := k13m1) (c := k13c1) (by decide +kernel) rfl rfl rfl (by decide +kernel)
set_option maxRecDepth 65536 in
theorem w_c21 : (Jvm.Cond.code ({ cls := "java/lang/StringBuilder", name := "append", desc := "(Ljava/lang/String;)Ljava/lang/StringBuilder;" } : Jvm.MethodName) jdk_67_method_7_code (2 : Nat) (Option.some (Jvm.ClassFile.FieldType.object "java/lang/StringBuilder"))).before args0 about1 = true := code_word (m := ⟨14, 1⟩) (meth := k14m1) (c := k14c1) (by decide +kernel) rfl rfl rfl (by decide +kernel)
set_option maxRecDepth 65536 in
theorem w_c22 : (Jvm.Cond.code ({ cls := "java/lang/AbstractStringBuilder", name := "append", desc := "(Ljava/lang/String;)Ljava/lang/AbstractStringBuilder;" } : Jvm.MethodName) jdk_68_method_22_code (3 : Nat) (Option.some (Jvm.ClassFile.FieldType.object "java/lang/AbstractStringBuilder"))).before args0 about1 = true := code_word (m := ⟨13, 5⟩) (meth := k13m5) (c := k13c5) (by decide +kernel) rfl rfl rfl (by decide +kernel)
set_option maxRecDepth 65536 in
theorem w_c23 : (Jvm.Cond.code ({ cls := "java/lang/String", name := "length", desc := "()I" } : Jvm.MethodName) jdk_42_method_54_code (1 : Nat) (Option.some Jvm.ClassFile.FieldType.int)).before args0 about1 = true := code_word (m := ⟨8, 2⟩) (meth := k8m2) (c := k8c2) (by decide +kernel) rfl rfl rfl (by decide +kernel)
set_option maxRecDepth 65536 in
theorem w_c24 : (Jvm.Cond.code ({ cls := "java/lang/AbstractStringBuilder", name := "ensureCapacityInternal", desc := "(I)V" } : Jvm.MethodName) jdk_68_method_9_code (3 : Nat) (Option.none : Option Jvm.ClassFile.FieldType)).before args0 about1 = true := code_word (m := ⟨13, 3⟩) (meth := k13m3) (c := k13c3) (by decide +kernel) rfl rfl rfl (by decide +kernel)
set_option maxRecDepth 65536 in
theorem w_c25 : (Jvm.Cond.code ({ cls := "java/lang/AbstractStringBuilder", name := "putStringAt", desc := "(ILjava/lang/String;)V" } : Jvm.MethodName) jdk_68_method_73_code (3 : Nat) (Option.none : Option Jvm.ClassFile.FieldType)).before args0 about1 = true := code_word (m := ⟨13, 10⟩) (meth := k13m10) (c := k13c10) (by decide +kernel) rfl rfl rfl (by decide +kernel)
set_option maxRecDepth 65536 in
theorem w_c26 : (Jvm.Cond.code ({ cls := "java/lang/AbstractStringBuilder", name := "inflateIfNeededFor", desc := "(Ljava/lang/String;)V" } : Jvm.MethodName) jdk_68_method_71_code (2 : Nat) (Option.none : Option Jvm.ClassFile.FieldType)).before args0 about1 = true := code_word (m := ⟨13, 9⟩) (meth := k13m9) (c := k13c9) (by decide +kernel) rfl rfl rfl (by decide +kernel)
set_option maxRecDepth 65536 in
theorem w_c27 : (Jvm.Cond.code ({ cls := "java/lang/String", name := "getBytes", desc := "([BIB)V" } : Jvm.MethodName) jdk_42_method_147_code (4 : Nat) (Option.none : Option Jvm.ClassFile.FieldType)).before args0 about1 = true := code_word (m := ⟨8, 7⟩) (meth := k8m7) (c := k8c7) (by decide +kernel) rfl rfl rfl (by decide +kernel)
set_option maxRecDepth 65536 in
theorem w_c28 : (Jvm.Cond.code ({ cls := "java/lang/AbstractStringBuilder", name := "newCapacity", desc := "(I)I" } : Jvm.MethodName) jdk_68_method_10_code (6 : Nat) (Option.some Jvm.ClassFile.FieldType.int)).before args0 about1 = true := code_word (m := ⟨13, 4⟩) (meth := k13m4) (c := k13c4) (by decide +kernel) rfl rfl rfl (by decide +kernel)
set_option maxRecDepth 65536 in
theorem w_c29 : (Jvm.Cond.code ({ cls := "jdk/internal/util/ArraysSupport", name := "newLength", desc := "(III)I" } : Jvm.MethodName) jdk_48_method_27_code (4 : Nat) (Option.some Jvm.ClassFile.FieldType.int)).before args0 about1 = true := code_word (m := ⟨16, 1⟩) (meth := k16m1) (c := k16c1) (by decide +kernel) rfl rfl rfl (by decide +kernel)
set_option maxRecDepth 65536 in
theorem w_c30 : (Jvm.Cond.code ({ cls := "java/lang/Math", name := "max", desc := "(II)I" } : Jvm.MethodName) jdk_29_method_65_code (2 : Nat) (Option.some Jvm.ClassFile.FieldType.int)).before args0 about1 = true := code_word (m := ⟨17, 1⟩) (meth := k17m1) (c := k17c1) (by decide +kernel) rfl rfl rfl (by decide +kernel)
set_option maxRecDepth 65536 in
theorem w_c31 : (Jvm.Cond.code ({ cls := "java/util/Arrays", name := "copyOf", desc := "([BI)[B" } : Jvm.MethodName) jdk_65_method_121_code (3 : Nat) (Option.some (Jvm.ClassFile.FieldType.array Jvm.ClassFile.FieldType.byte))).before args0 about1 = true := code_word (m := ⟨18, 1⟩) (meth := k18m1) (c := k18c1) (by decide +kernel) rfl rfl rfl (by decide +kernel)
set_option maxRecDepth 65536 in
theorem w_c32 : (Jvm.Cond.code ({ cls := "java/lang/Math", name := "min", desc := "(II)I" } : Jvm.MethodName) jdk_29_method_69_code (2 : Nat) (Option.some Jvm.ClassFile.FieldType.int)).before args0 about1 = true := code_word (m := ⟨17, 2⟩) (meth := k17m2) (c := k17c2) (by decide +kernel) rfl rfl rfl (by decide +kernel)
set_option maxRecDepth 65536 in
theorem w_c33 : (Jvm.Cond.code ({ cls := "java/lang/StringBuilder", name := "append", desc := "(I)Ljava/lang/StringBuilder;" } : Jvm.MethodName) jdk_67_method_15_code (2 : Nat) (Option.some (Jvm.ClassFile.FieldType.object "java/lang/StringBuilder"))).before args0 about1 = true := code_word (m := ⟨14, 2⟩) (meth := k14m2) (c := k14c2) (by decide +kernel) rfl rfl rfl (by decide +kernel)
set_option maxRecDepth 65536 in
theorem w_c34 : (Jvm.Cond.code ({ cls := "java/lang/AbstractStringBuilder", name := "append", desc := "(I)Ljava/lang/AbstractStringBuilder;" } : Jvm.MethodName) jdk_68_method_32_code (4 : Nat) (Option.some (Jvm.ClassFile.FieldType.object "java/lang/AbstractStringBuilder"))).before args0 about1 = true := code_word (m := ⟨13, 6⟩) (meth := k13m6) (c := k13c6) (by decide +kernel) rfl rfl rfl (by decide +kernel)
set_option maxRecDepth 65536 in
theorem w_c35 : (Jvm.Cond.code ({ cls := "java/lang/Integer", name := "stringSize", desc := "(I)I" } : Jvm.MethodName) jdk_33_method_13_code (4 : Nat) (Option.some Jvm.ClassFile.FieldType.int)).before args0 about1 = true := code_word (m := ⟨20, 1⟩) (meth := k20m1) (c := k20c1) (by decide +kernel) rfl rfl rfl (by decide +kernel)
set_option maxRecDepth 65536 in
theorem w_c36 : (Jvm.Cond.code ({ cls := "java/lang/AbstractStringBuilder", name := "isLatin1", desc := "()Z" } : Jvm.MethodName) jdk_68_method_68_code (1 : Nat) (Option.some Jvm.ClassFile.FieldType.boolean)).before args0 about1 = true := code_word (m := ⟨13, 8⟩) (meth := k13m8) (c := k13c8) (by decide +kernel) rfl rfl rfl (by decide +kernel)
set_option maxRecDepth 65536 in
theorem w_c37 : (Jvm.Cond.code ({ cls := "java/lang/Integer", name := "getChars", desc := "(II[B)I" } : Jvm.MethodName) jdk_33_method_12_code (7 : Nat) (Option.some Jvm.ClassFile.FieldType.int)).before args0 about1 = true := code_word (m := ⟨20, 0⟩) (meth := k20m0) (c := k20c0) (by decide +kernel) rfl rfl rfl (by decide +kernel)
set_option maxRecDepth 65536 in
theorem w_c38 : (Jvm.Cond.code ({ cls := "java/lang/StringBuilder", name := "toString", desc := "()Ljava/lang/String;" } : Jvm.MethodName) jdk_67_method_42_code (1 : Nat) (Option.some (Jvm.ClassFile.FieldType.object "java/lang/String"))).before args0 about1 = true := code_word (m := ⟨14, 3⟩) (meth := k14m3) (c := k14c3) (by decide +kernel) rfl rfl rfl (by decide +kernel)
set_option maxRecDepth 65536 in
theorem w_c39 : (Jvm.Cond.code ({ cls := "java/lang/String", name := "<init>", desc := "(Ljava/lang/StringBuilder;)V" } : Jvm.MethodName) jdk_42_method_53_code (2 : Nat) (Option.none : Option Jvm.ClassFile.FieldType)).before args0 about1 = true := code_word (m := ⟨8, 1⟩) (meth := k8m1) (c := k8c1) (by decide +kernel) rfl rfl rfl (by decide +kernel)
set_option maxRecDepth 65536 in
theorem w_c40 : (Jvm.Cond.code ({ cls := "java/lang/String", name := "<init>", desc := "(Ljava/lang/AbstractStringBuilder;Ljava/lang/Void;)V" } : Jvm.MethodName) jdk_42_method_150_code (5 : Nat) (Option.none : Option Jvm.ClassFile.FieldType)).before args0 about1 = true := code_word (m := ⟨8, 8⟩) (meth := k8m8) (c := k8c8) (by decide +kernel) rfl rfl rfl (by decide +kernel)
set_option maxRecDepth 65536 in
theorem w_c41 : (Jvm.Cond.code ({ cls := "java/lang/AbstractStringBuilder", name := "getValue", desc := "()[B" } : Jvm.MethodName) jdk_68_method_64_code (1 : Nat) (Option.some (Jvm.ClassFile.FieldType.array Jvm.ClassFile.FieldType.byte))).before args0 about1 = true := code_word (m := ⟨13, 7⟩) (meth := k13m7) (c := k13c7) (by decide +kernel) rfl rfl rfl (by decide +kernel)
set_option maxRecDepth 65536 in
theorem w_c42 : (Jvm.Cond.code ({ cls := "java/lang/StringBuilder", name := "length", desc := "()I" } : Jvm.MethodName) jdk_67_method_93_code (1 : Nat) (Option.some Jvm.ClassFile.FieldType.int)).before args0 about1 = true := code_word (m := ⟨14, 4⟩) (meth := k14m4) (c := k14c4) (by decide +kernel) rfl rfl rfl (by decide +kernel)
set_option maxRecDepth 65536 in
theorem w_c43 : (Jvm.Cond.code ({ cls := "java/lang/AbstractStringBuilder", name := "length", desc := "()I" } : Jvm.MethodName) jdk_68_method_6_code (1 : Nat) (Option.some Jvm.ClassFile.FieldType.int)).before args0 about1 = true := code_word (m := ⟨13, 2⟩) (meth := k13m2) (c := k13c2) (by decide +kernel) rfl rfl rfl (by decide +kernel)
set_option maxRecDepth 65536 in
theorem w_c44 : (Jvm.Cond.code ({ cls := "java/util/Arrays", name := "copyOfRange", desc := "([BII)[B" } : Jvm.MethodName) jdk_65_method_132_code (3 : Nat) (Option.some (Jvm.ClassFile.FieldType.array Jvm.ClassFile.FieldType.byte))).before args0 about1 = true := code_word (m := ⟨18, 3⟩) (meth := k18m3) (c := k18c3) (by decide +kernel) rfl rfl rfl (by decide +kernel)
set_option maxRecDepth 65536 in
theorem w_c45 : (Jvm.Cond.code ({ cls := "java/util/Arrays", name := "copyOfRangeByte", desc := "([BII)[B" } : Jvm.MethodName) jdk_65_method_133_code (5 : Nat) (Option.some (Jvm.ClassFile.FieldType.array Jvm.ClassFile.FieldType.byte))).before args0 about1 = true := code_word (m := ⟨18, 4⟩) (meth := k18m4) (c := k18c4) (by decide +kernel) rfl rfl rfl (by decide +kernel)
set_option maxRecDepth 65536 in
theorem w_c46 : (Jvm.Cond.code ({ cls := "java/util/Arrays", name := "checkLength", desc := "(II)V" } : Jvm.MethodName) jdk_65_method_131_code (2 : Nat) (Option.none : Option Jvm.ClassFile.FieldType)).before args0 about1 = true := code_word (m := ⟨18, 2⟩) (meth := k18m2) (c := k18c2) (by decide +kernel) rfl rfl rfl (by decide +kernel)
set_option maxRecDepth 65536 in
theorem w_c47 : (Jvm.Cond.code ({ cls := "java/lang/String", name := "equals", desc := "(Ljava/lang/Object;)Z" } : Jvm.MethodName) jdk_42_method_66_code (3 : Nat) (Option.some Jvm.ClassFile.FieldType.boolean)).before args0 about1 = true := code_word (m := ⟨8, 3⟩) (meth := k8m3) (c := k8c3) (by decide +kernel) rfl rfl rfl (by decide +kernel)
set_option maxRecDepth 65536 in
theorem w_c48 : (Jvm.Cond.code ({ cls := "java/lang/StringLatin1", name := "equals", desc := "([B[B)Z" } : Jvm.MethodName) jdk_43_method_13_code (3 : Nat) (Option.some Jvm.ClassFile.FieldType.boolean)).before args0 about1 = true := code_word (m := ⟨11, 1⟩) (meth := k11m1) (c := k11c1) (by decide +kernel) rfl rfl rfl (by decide +kernel)
def codes1 : List Jvm.Cond := [Jvm.Cond.code x code maxLocals ret, Jvm.Cond.code ({ cls := "com/example/periwinkle/periwinkle/server/ServerSettings", name := "<init>", desc := "()V" } : Jvm.MethodName) prog_37_method_1_code (1 : Nat) (Option.none : Option Jvm.ClassFile.FieldType), Jvm.Cond.code ({ cls := "java/time/Duration", name := "ofSeconds", desc := "(J)Ljava/time/Duration;" } : Jvm.MethodName) jdk_2316_method_4_code (2 : Nat) (Option.some (Jvm.ClassFile.FieldType.object "java/time/Duration")), Jvm.Cond.code ({ cls := "java/time/Duration", name := "create", desc := "(JI)Ljava/time/Duration;" } : Jvm.MethodName) jdk_2316_method_16_code (3 : Nat) (Option.some (Jvm.ClassFile.FieldType.object "java/time/Duration")), Jvm.Cond.code ({ cls := "java/time/Duration", name := "<init>", desc := "(JI)V" } : Jvm.MethodName) jdk_2316_method_17_code (4 : Nat) (Option.none : Option Jvm.ClassFile.FieldType), Jvm.Cond.code ({ cls := "java/lang/Object", name := "<init>", desc := "()V" } : Jvm.MethodName) object_method_1_code (1 : Nat) (Option.none : Option Jvm.ClassFile.FieldType), Jvm.Cond.code ({ cls := "com/example/periwinkle/periwinkle/server/ServerSettings", name := "<init>", desc := "(Ljava/lang/String;ILjava/nio/file/Path;Ljava/nio/file/Path;Ljava/time/Duration;)V" } : Jvm.MethodName) prog_37_method_2_code (6 : Nat) (Option.none : Option Jvm.ClassFile.FieldType), Jvm.Cond.code ({ cls := "com/example/periwinkle/periwinkle/server/ServerSettings", name := "withPort", desc := "(I)Lcom/example/periwinkle/periwinkle/server/ServerSettings;" } : Jvm.MethodName) prog_37_method_4_code (2 : Nat) (Option.some (Jvm.ClassFile.FieldType.object "com/example/periwinkle/periwinkle/server/ServerSettings")), Jvm.Cond.code ({ cls := "com/example/periwinkle/periwinkle/server/ServerSettings", name := "checkPort", desc := "(I)V" } : Jvm.MethodName) prog_37_method_8_code (1 : Nat) (Option.none : Option Jvm.ClassFile.FieldType), Jvm.Cond.code ({ cls := "com/example/periwinkle/periwinkle/server/ServerSettings", name := "port", desc := "()I" } : Jvm.MethodName) prog_37_method_13_code (1 : Nat) (Option.some Jvm.ClassFile.FieldType.int), Jvm.Cond.code ({ cls := "com/example/periwinkle/periwinkle/server/ServerSettings", name := "tokenLifetime", desc := "()Ljava/time/Duration;" } : Jvm.MethodName) prog_37_method_14_code (1 : Nat) (Option.some (Jvm.ClassFile.FieldType.object "java/time/Duration")), Jvm.Cond.code ({ cls := "com/example/periwinkle/periwinkle/server/ServerSettings", name := "url", desc := "(I)Ljava/lang/String;" } : Jvm.MethodName) prog_37_method_17_code (4 : Nat) (Option.some (Jvm.ClassFile.FieldType.object "java/lang/String")), Jvm.Cond.code ({ cls := "java/lang/String", name := "contains", desc := "(Ljava/lang/CharSequence;)Z" } : Jvm.MethodName) jdk_42_method_97_code (2 : Nat) (Option.some Jvm.ClassFile.FieldType.boolean), Jvm.Cond.code ({ cls := "java/lang/String", name := "toString", desc := "()Ljava/lang/String;" } : Jvm.MethodName) jdk_42_method_126_code (1 : Nat) (Option.some (Jvm.ClassFile.FieldType.object "java/lang/String")), Jvm.Cond.code ({ cls := "java/lang/String", name := "indexOf", desc := "(Ljava/lang/String;)I" } : Jvm.MethodName) jdk_42_method_84_code (3 : Nat) (Option.some Jvm.ClassFile.FieldType.int), Jvm.Cond.code ({ cls := "java/lang/String", name := "coder", desc := "()B" } : Jvm.MethodName) jdk_42_method_152_code (1 : Nat) (Option.some Jvm.ClassFile.FieldType.byte), Jvm.Cond.code ({ cls := "java/lang/String", name := "isLatin1", desc := "()Z" } : Jvm.MethodName) jdk_42_method_154_code (1 : Nat) (Option.some Jvm.ClassFile.FieldType.boolean), Jvm.Cond.code ({ cls := "java/lang/StringLatin1", name := "indexOf", desc := "([B[B)I" } : Jvm.MethodName) jdk_43_method_24_code (2 : Nat) (Option.some Jvm.ClassFile.FieldType.int), Jvm.Cond.code ({ cls := "java/lang/StringLatin1", name := "indexOf", desc := "([BI[BII)I" } : Jvm.MethodName) jdk_43_method_25_code (11 : Nat) (Option.some Jvm.ClassFile.FieldType.int), Jvm.Cond.code ({ cls := "java/lang/StringBuilder", name := "<init>", desc := "()V" } : Jvm.MethodName) jdk_67_method_1_code (1 : Nat) (Option.none : Option Jvm.ClassFile.FieldType), Jvm.Cond.code ({ cls := "java/lang/AbstractStringBuilder", name := "<init>", desc := "(I)V" } : Jvm.MethodName) jdk_68_method_2_code (2 : Nat) (Option.none : Option Jvm.ClassFile.FieldType), Jvm.Cond.code ({ cls := "java/lang/StringBuilder", name := "append", desc := "(Ljava/lang/String;)Ljava/lang/StringBuilder;" } : Jvm.MethodName) jdk_67_method_7_code (2 : Nat) (Option.some (Jvm.ClassFile.FieldType.object "java/lang/StringBuilder")), Jvm.Cond.code ({ cls := "java/lang/AbstractStringBuilder", name := "append", desc := "(Ljava/lang/String;)Ljava/lang/AbstractStringBuilder;" } : Jvm.MethodName) jdk_68_method_22_code (3 : Nat) (Option.some (Jvm.ClassFile.FieldType.object "java/lang/AbstractStringBuilder")), Jvm.Cond.code ({ cls := "java/lang/String", name := "length", desc := "()I" } : Jvm.MethodName) jdk_42_method_54_code (1 : Nat) (Option.some Jvm.ClassFile.FieldType.int), Jvm.Cond.code ({ cls := "java/lang/AbstractStringBuilder", name := "ensureCapacityInternal", desc := "(I)V" } : Jvm.MethodName) jdk_68_method_9_code (3 : Nat) (Option.none : Option Jvm.ClassFile.FieldType), Jvm.Cond.code ({ cls := "java/lang/AbstractStringBuilder", name := "putStringAt", desc := "(ILjava/lang/String;)V" } : Jvm.MethodName) jdk_68_method_73_code (3 : Nat) (Option.none : Option Jvm.ClassFile.FieldType), Jvm.Cond.code ({ cls := "java/lang/AbstractStringBuilder", name := "inflateIfNeededFor", desc := "(Ljava/lang/String;)V" } : Jvm.MethodName) jdk_68_method_71_code (2 : Nat) (Option.none : Option Jvm.ClassFile.FieldType), Jvm.Cond.code ({ cls := "java/lang/String", name := "getBytes", desc := "([BIB)V" } : Jvm.MethodName) jdk_42_method_147_code (4 : Nat) (Option.none : Option Jvm.ClassFile.FieldType), Jvm.Cond.code ({ cls := "java/lang/AbstractStringBuilder", name := "newCapacity", desc := "(I)I" } : Jvm.MethodName) jdk_68_method_10_code (6 : Nat) (Option.some Jvm.ClassFile.FieldType.int), Jvm.Cond.code ({ cls := "jdk/internal/util/ArraysSupport", name := "newLength", desc := "(III)I" } : Jvm.MethodName) jdk_48_method_27_code (4 : Nat) (Option.some Jvm.ClassFile.FieldType.int), Jvm.Cond.code ({ cls := "java/lang/Math", name := "max", desc := "(II)I" } : Jvm.MethodName) jdk_29_method_65_code (2 : Nat) (Option.some Jvm.ClassFile.FieldType.int), Jvm.Cond.code ({ cls := "java/util/Arrays", name := "copyOf", desc := "([BI)[B" } : Jvm.MethodName) jdk_65_method_121_code (3 : Nat) (Option.some (Jvm.ClassFile.FieldType.array Jvm.ClassFile.FieldType.byte)), Jvm.Cond.code ({ cls := "java/lang/Math", name := "min", desc := "(II)I" } : Jvm.MethodName) jdk_29_method_69_code (2 : Nat) (Option.some Jvm.ClassFile.FieldType.int), Jvm.Cond.code ({ cls := "java/lang/StringBuilder", name := "append", desc := "(I)Ljava/lang/StringBuilder;" } : Jvm.MethodName) jdk_67_method_15_code (2 : Nat) (Option.some (Jvm.ClassFile.FieldType.object "java/lang/StringBuilder")), Jvm.Cond.code ({ cls := "java/lang/AbstractStringBuilder", name := "append", desc := "(I)Ljava/lang/AbstractStringBuilder;" } : Jvm.MethodName) jdk_68_method_32_code (4 : Nat) (Option.some (Jvm.ClassFile.FieldType.object "java/lang/AbstractStringBuilder")), Jvm.Cond.code ({ cls := "java/lang/Integer", name := "stringSize", desc := "(I)I" } : Jvm.MethodName) jdk_33_method_13_code (4 : Nat) (Option.some Jvm.ClassFile.FieldType.int), Jvm.Cond.code ({ cls := "java/lang/AbstractStringBuilder", name := "isLatin1", desc := "()Z" } : Jvm.MethodName) jdk_68_method_68_code (1 : Nat) (Option.some Jvm.ClassFile.FieldType.boolean), Jvm.Cond.code ({ cls := "java/lang/Integer", name := "getChars", desc := "(II[B)I" } : Jvm.MethodName) jdk_33_method_12_code (7 : Nat) (Option.some Jvm.ClassFile.FieldType.int), Jvm.Cond.code ({ cls := "java/lang/StringBuilder", name := "toString", desc := "()Ljava/lang/String;" } : Jvm.MethodName) jdk_67_method_42_code (1 : Nat) (Option.some (Jvm.ClassFile.FieldType.object "java/lang/String")), Jvm.Cond.code ({ cls := "java/lang/String", name := "<init>", desc := "(Ljava/lang/StringBuilder;)V" } : Jvm.MethodName) jdk_42_method_53_code (2 : Nat) (Option.none : Option Jvm.ClassFile.FieldType), Jvm.Cond.code ({ cls := "java/lang/String", name := "<init>", desc := "(Ljava/lang/AbstractStringBuilder;Ljava/lang/Void;)V" } : Jvm.MethodName) jdk_42_method_150_code (5 : Nat) (Option.none : Option Jvm.ClassFile.FieldType), Jvm.Cond.code ({ cls := "java/lang/AbstractStringBuilder", name := "getValue", desc := "()[B" } : Jvm.MethodName) jdk_68_method_64_code (1 : Nat) (Option.some (Jvm.ClassFile.FieldType.array Jvm.ClassFile.FieldType.byte)), Jvm.Cond.code ({ cls := "java/lang/StringBuilder", name := "length", desc := "()I" } : Jvm.MethodName) jdk_67_method_93_code (1 : Nat) (Option.some Jvm.ClassFile.FieldType.int), Jvm.Cond.code ({ cls := "java/lang/AbstractStringBuilder", name := "length", desc := "()I" } : Jvm.MethodName) jdk_68_method_6_code (1 : Nat) (Option.some Jvm.ClassFile.FieldType.int), Jvm.Cond.code ({ cls := "java/util/Arrays", name := "copyOfRange", desc := "([BII)[B" } : Jvm.MethodName) jdk_65_method_132_code (3 : Nat) (Option.some (Jvm.ClassFile.FieldType.array Jvm.ClassFile.FieldType.byte)), Jvm.Cond.code ({ cls := "java/util/Arrays", name := "copyOfRangeByte", desc := "([BII)[B" } : Jvm.MethodName) jdk_65_method_133_code (5 : Nat) (Option.some (Jvm.ClassFile.FieldType.array Jvm.ClassFile.FieldType.byte)), Jvm.Cond.code ({ cls := "java/util/Arrays", name := "checkLength", desc := "(II)V" } : Jvm.MethodName) jdk_65_method_131_code (2 : Nat) (Option.none : Option Jvm.ClassFile.FieldType), Jvm.Cond.code ({ cls := "java/lang/String", name := "equals", desc := "(Ljava/lang/Object;)Z" } : Jvm.MethodName) jdk_42_method_66_code (3 : Nat) (Option.some Jvm.ClassFile.FieldType.boolean), Jvm.Cond.code ({ cls := "java/lang/StringLatin1", name := "equals", desc := "([B[B)Z" } : Jvm.MethodName) jdk_43_method_13_code (3 : Nat) (Option.some Jvm.ClassFile.FieldType.boolean)]
set_option maxRecDepth 65536 in
theorem codes_eq : words1.filter isCode = codes1 := rfl
theorem w_codes : ∀ c ∈ words1.filter isCode, c.before args0 about1 = true := by
  rw [codes_eq]
  intro c hc
  simp only [codes1, List.mem_cons, List.not_mem_nil, or_false] at hc
  rcases hc with rfl | rfl | rfl | rfl | rfl | rfl | rfl | rfl | rfl | rfl | rfl | rfl | rfl | rfl | rfl | rfl | rfl | rfl | rfl | rfl | rfl | rfl | rfl | rfl | rfl | rfl | rfl | rfl | rfl | rfl | rfl | rfl | rfl | rfl | rfl | rfl | rfl | rfl | rfl | rfl | rfl | rfl | rfl | rfl | rfl | rfl | rfl | rfl | rfl
  · exact w_c0
  · exact w_c1
  · exact w_c2
  · exact w_c3
  · exact w_c4
  · exact w_c5
  · exact w_c6
  · exact w_c7
  · exact w_c8
  · exact w_c9
  · exact w_c10
  · exact w_c11
  · exact w_c12
  · exact w_c13
  · exact w_c14
  · exact w_c15
  · exact w_c16
  · exact w_c17
  · exact w_c18
  · exact w_c19
  · exact w_c20
  · exact w_c21
  · exact w_c22
  · exact w_c23
  · exact w_c24
  · exact w_c25
  · exact w_c26
  · exact w_c27
  · exact w_c28
  · exact w_c29
  · exact w_c30
  · exact w_c31
  · exact w_c32
  · exact w_c33
  · exact w_c34
  · exact w_c35
  · exact w_c36
  · exact w_c37
  · exact w_c38
  · exact w_c39
  · exact w_c40
  · exact w_c41
  · exact w_c42
  · exact w_c43
  · exact w_c44
  · exact w_c45
  · exact w_c46
  · exact w_c47
  · exact w_c48
set_option maxRecDepth 65536 in
theorem w_t1 : (words1.take 24).all (fun c => isCode c || c.before args0 about1) = true := by decide +kernel
set_option maxRecDepth 65536 in
theorem w_t2 : ((words1.drop 24).take 24).all (fun c => isCode c || c.before args0 about1) = true := by decide +kernel
set_option maxRecDepth 65536 in
theorem w_t3 : (((words1.drop 24).drop 24).take 24).all (fun c => isCode c || c.before args0 about1) = true := by decide +kernel
set_option maxRecDepth 65536 in
theorem w_t4 : ((((words1.drop 24).drop 24).drop 24).take 24).all (fun c => isCode c || c.before args0 about1) = true := by decide +kernel
set_option maxRecDepth 65536 in
theorem w_t5 : (((((words1.drop 24).drop 24).drop 24).drop 24).take 24).all (fun c => isCode c || c.before args0 about1) = true := by decide +kernel
set_option maxRecDepth 65536 in
theorem w_t6 : ((((((words1.drop 24).drop 24).drop 24).drop 24).drop 24).take 24).all (fun c => isCode c || c.before args0 about1) = true := by decide +kernel
set_option maxRecDepth 65536 in
theorem w_t7 : (((((((words1.drop 24).drop 24).drop 24).drop 24).drop 24).drop 24).take 24).all (fun c => isCode c || c.before args0 about1) = true := by decide +kernel
set_option maxRecDepth 65536 in
theorem w_t8 : ((((((((words1.drop 24).drop 24).drop 24).drop 24).drop 24).drop 24).drop 24).take 24).all (fun c => isCode c || c.before args0 about1) = true := by decide +kernel
set_option maxRecDepth 65536 in
theorem w_t9 : (((((((((words1.drop 24).drop 24).drop 24).drop 24).drop 24).drop 24).drop 24).drop 24).take 24).all (fun c => isCode c || c.before args0 about1) = true := by decide +kernel
set_option maxRecDepth 65536 in
theorem w_t10 : ((((((((((words1.drop 24).drop 24).drop 24).drop 24).drop 24).drop 24).drop 24).drop 24).drop 24).take 24).all (fun c => isCode c || c.before args0 about1) = true := by decide +kernel
set_option maxRecDepth 65536 in
theorem w_t11 : (((((((((((words1.drop 24).drop 24).drop 24).drop 24).drop 24).drop 24).drop 24).drop 24).drop 24).drop 24).take 24).all (fun c => isCode c || c.before args0 about1) = true := by decide +kernel
set_option maxRecDepth 65536 in
theorem w_t12 : (((((((((((words1.drop 24).drop 24).drop 24).drop 24).drop 24).drop 24).drop 24).drop 24).drop 24).drop 24).drop 24).all (fun c => isCode c || c.before args0 about1) = true := by decide +kernel
theorem w_tables : (allAtoms (Jvm.Cond.code x code maxLocals ret :: tables_1)).before args0 about1 = true := by
  rw [allAtoms_all]
  show words1.all (fun c => c.before args0 about1) = true
  refine all_split ?_ w_codes
  rw [← List.take_append_drop 24 words1, List.all_append, w_t1, ← List.take_append_drop 24 (words1.drop 24), List.all_append, w_t2, ← List.take_append_drop 24 ((words1.drop 24).drop 24), List.all_append, w_t3, ← List.take_append_drop 24 (((words1.drop 24).drop 24).drop 24), List.all_append, w_t4, ← List.take_append_drop 24 ((((words1.drop 24).drop 24).drop 24).drop 24), List.all_append, w_t5, ← List.take_append_drop 24 (((((words1.drop 24).drop 24).drop 24).drop 24).drop 24), List.all_append, w_t6, ← List.take_append_drop 24 ((((((words1.drop 24).drop 24).drop 24).drop 24).drop 24).drop 24), List.all_append, w_t7, ← List.take_append_drop 24 (((((((words1.drop 24).drop 24).drop 24).drop 24).drop 24).drop 24).drop 24), List.all_append, w_t8, ← List.take_append_drop 24 ((((((((words1.drop 24).drop 24).drop 24).drop 24).drop 24).drop 24).drop 24).drop 24), List.all_append, w_t9, ← List.take_append_drop 24 (((((((((words1.drop 24).drop 24).drop 24).drop 24).drop 24).drop 24).drop 24).drop 24).drop 24), List.all_append, w_t10, ← List.take_append_drop 24 ((((((((((words1.drop 24).drop 24).drop 24).drop 24).drop 24).drop 24).drop 24).drop 24).drop 24).drop 24), List.all_append, w_t11, w_t12]
  rfl
set_option maxRecDepth 65536 in
theorem w_rest : rest_1_c.before args0 about1 = true := by decide +kernel
set_option maxRecDepth 65536 in
theorem w_case : (Jvm.Cond.and given_1 narrow_1).before args0 about1 = true := by decide +kernel
set_option maxRecDepth 65536 in
theorem w_consts : constsHeld consts_1 about1 := Jvm.Lit.constsHeldB_iff.mp (by decide +kernel)
theorem w_applies : (headSpec (Jvm.Cond.code x code maxLocals ret :: tables_1) room_1).applies x e0.platform about1 = true :=
  (Spec.applies_iff w_frames).mpr ⟨w_running, w_runnable, w_alone, w_named, w_hears, w_ripe, w_room, w_tables⟩
theorem atStart : AtStart classFile x code maxLocals ret World_1 tables_1 room_1 Calls_1 rest_1 Pre_1 launch0 p0 e0 about1 theMethod args0 below0 :=
  ⟨lists_1, trivial, launch0.admits_env _ _ _, launch0.least_env, fairChoices_fair.cas, fairChoices_fair.clock, w_frames, w_args, w_heap, w_applies, ⟨w_consts, trivial⟩, w_rest, w_case⟩
end start1
theorem witness_1 : WitnessClaimed_1 := ⟨start1.p0, start1.e0, start1.about1, start1.theMethod, start1.args0, start1.below0, start1.atStart⟩
end Jvm.Pilot.@@N@@
