import JvmDerived
import JvmDerived.Pilot.@@N@@Statement
import JvmDerived.Pilot.@@N@@Code
set_option linter.unusedVariables false
set_option linter.unusedSimpArgs false
@@BLOCK:NumsL.lean.txt@@
namespace Jvm.Pilot.@@N@@
open Jvm Jvm.ClassFile Sem Op Lib Jvm.Free Jvm.Stand Jvm.LawKit Jvm.RoadKit Bundle Jvm.Pilot.@@N@@.Jvm.D

section Own
variable {p : Program} {l : Launch} {e : Env} {R : Room} {s : State} {m : MethodId} {args : Array Value} {below : List Frame} {meth : Method} {c : Code} {S0 : State} {n0 : Nat} {h h' : Heap} {ce sl ce' sl' : Nat} {f f' : JFrame} {Z : State} {a0 : Array Value}
/-- the walk stands at the frame f over the heap h; it has made ce cells and sl slots; what it wrote lies at or above n0 -/
def own_R (p : Program) (l : Launch) (e : Env) (R : Room) (s : State) (m : MethodId) (args : Array Value) (below : List Frame) (meth : Method) (c : Code) (S0 : State) (n0 : Nat) (h : Heap) (ce sl : Nat) (f : JFrame) : Prop :=
  ∃ T L, Stand p l e R s m args below meth c T L ce sl ∧ T.heap = h ∧ Fr n0 L ∧ Steps p.tables e below S0 (T.setTop f)
/-- the walk has returned, and Q holds of what it returned and of the heap -/
def own_E (p : Program) (e : Env) (R : Room) (s : State) (below : List Frame) (S0 : State) (n0 : Nat) (Q : Option Value → Heap → Prop) : Prop :=
  ∃ s₂ v L, Steps p.tables e below S0 s₂ ∧ s₂.status = .running ∧ Ended s₂ below (.returned v) ∧ (Q v s₂.heap ∧ Fr n0 L) ∧ FrameEnd s (.returned v) s₂ L R.cells R.slots
/-- a body's contract -/
def own_M (l : Launch) (Z : State) (y : MethodName) (bytes : ByteArray) (maxL : Nat) (ret : Option FieldType) (ws : List Cond) (rm : Room) (as : Array Value) (h0 : Heap) (n0 : Nat) (Q : Option Value → Heap → Prop) : Prop :=
  MetFree l y (head1 (Cond.code y bytes maxL ret :: ws) rm) (fun a U => a = as ∧ Z.Warmed39 U.vm ∧ U.heap = h0) (fun _ _ _ _ _ => True) (fun _ U o U' => ∃ v L, o = .returned v ∧ (Q v U'.heap ∧ Fr n0 L) ∧ FrameEnd U o U' L rm.cells rm.slots)
theorem own_M.of {y : MethodName} {bytes : ByteArray} {maxL : Nat} {ret : Option FieldType} {ws : List Cond} {rm : Room} {as : Array Value} {h0 : Heap} {Q : Option Value → Heap → Prop} (pn : plainFor y = true)
    (body : ∀ (p : Program) (e : Env) (s : State) (m : MethodId) (below : List Frame) (meth : Method) (c : Code) (S0 : State), p.tables.exec = Jvm.exec → c.code = bytes → c.maxLocals = maxL → s.vm.findClass y.cls = some m.cls → meth.name = y.name → meth.sig.returnType = ret → meth.locks = false → Z.Warmed39 s.vm →
      own_R p l e rm s m as below meth c S0 n0 h0 0 0 (entryFrame m as maxL) → own_E p e rm s below S0 n0 Q) :
    own_M l Z y bytes maxL ret ws rm as h0 n0 Q := by
  refine MetFree.of_bodySF pn hisR ?_
  intro p e s m args below meth c s₁ Bd hml0 hP hK
  obtain ⟨rfl, hZ, hh⟩ := hP
  have e0 : s₁.heap = h0 := by rw [← hh, Bd.state]; rfl
  obtain ⟨s₂, v, L, k, hrun, hend, hq, hF⟩ := body p e s m below meth c _ Bd.exec Bd.bytes hml0 (findClass_of_methodNamed Bd.named) (name_of_methodNamed Bd.named Bd.method).1 Bd.returns Bd.notSynchronized hZ ⟨s₁, [], Stand.of_body Bd, e0, Fr.nil n0, Steps.refl _⟩
  exact ⟨s₂, _, k, hrun, hend, v, L, rfl, hq, hF⟩
theorem own_R.cast (A : own_R p l e R s m args below meth c S0 n0 h ce sl f) (q : f = f') : own_R p l e R s m args below meth c S0 n0 h ce sl f' := q ▸ A
theorem own_R.go (A : own_R p l e R s m args below meth c S0 n0 h ce sl f)
    (st : ∀ T L, Stand p l e R s m args below meth c T L ce sl → ∀ target, Steps p.tables e below (T.setTop f') target → Steps p.tables e below (T.setTop f) target) :
    own_R p l e R s m args below meth c S0 n0 h ce sl f' := by
  obtain ⟨T, L, X, eT, N, k⟩ := A
  exact ⟨T, L, X, eT, N, k.trans (st T L X _ (Steps.refl _))⟩
theorem own_R.law (A : own_R p l e R s m args below meth c S0 n0 h ce sl f)
    (st : ∀ T L, Stand p l e R s m args below meth c T L ce sl → T.heap = h → Fr n0 L → ∃ T' L', Stand p l e R s m args below meth c T' L' ce' sl' ∧ T'.heap = h' ∧ Fr n0 L' ∧ ∀ target, Steps p.tables e below (T'.setTop f') target → Steps p.tables e below (T.setTop f) target) :
    own_R p l e R s m args below meth c S0 n0 h' ce' sl' f' := by
  obtain ⟨T, L, X, eT, N, k⟩ := A
  obtain ⟨T', L', X', e', N', k'⟩ := st T L X eT N
  exact ⟨T', L', X', e', N', k.trans (k' _ (Steps.refl _))⟩
theorem own_R.getF {pc : Nat} {Ls : Array Slot} {rest : List Value} {a : Addr} {v : Value} {own R0 O n d : String} {index : Nat}
    (A : own_R p l e R s m args below meth c S0 n0 h ce sl (mkF m pc Ls (.ref a :: rest))) (hx : p.tables.exec = Jvm.exec) (hZ : Z.Warmed39 s.vm) (hown : s.vm.findClass own = some m.cls)
    (hd : decode c.code pc = .ok (.getfield index, 3)) (w : (Cond.fieldLink own index R0 n d).before a0 Z = true) (via : Via Z R0 O n d) (F : Fld Z h a O n d v) :
    own_R p l e R s m args below meth c S0 n0 h ce sl (mkF m (pc + 3) Ls (v :: rest)) := A.law fun T L X eT N => by
  obtain ⟨T', X', e', st⟩ := RoadKit.getF X hx hZ hown (host := "") (Or.inl w) via eT F (g := mkF m pc Ls (.ref a :: rest)) rfl rfl hd
  exact ⟨T', L, X', e', N, st⟩
theorem own_R.getS {pc : Nat} {Ls : Array Slot} {st : List Value} {v : Value} {own R0 O n d : String} {index : Nat}
    (A : own_R p l e R s m args below meth c S0 n0 h ce sl (mkF m pc Ls st)) (hx : p.tables.exec = Jvm.exec) (hZ : Z.Warmed39 s.vm) (hown : s.vm.findClass own = some m.cls)
    (hd : decode c.code pc = .ok (.getstatic index, 3)) (w : (Cond.fieldLink own index R0 n d).before a0 Z = true) (via : Via Z R0 O n d) (F : Sta Z h O n d v) :
    own_R p l e R s m args below meth c S0 n0 h ce sl (mkF m (pc + 3) Ls (v :: st)) := A.law fun T L X eT N => by
  obtain ⟨T', X', e', k⟩ := RoadKit.getS X hx hZ hown (host := "") w via eT F (g := mkF m pc Ls st) rfl hd
  exact ⟨T', L, X', e', N, k⟩
theorem own_R.ldcI {pc : Nat} {Ls : Array Slot} {st : List Value} {v : Int32} {own : String} {index : Nat}
    (A : own_R p l e R s m args below meth c S0 n0 h ce sl (mkF m pc Ls st)) (hx : p.tables.exec = Jvm.exec) (hZ : Z.Warmed39 s.vm) (hown : s.vm.findClass own = some m.cls)
    (hd : decode c.code pc = .ok (.ldc index, 2)) (w : (Cond.constant own index v).before a0 Z = true) :
    own_R p l e R s m args below meth c S0 n0 h ce sl (mkF m (pc + 2) Ls (.int v :: st)) := A.go fun T L X t k =>
  X.ldcInt hx hown (mvT hZ w) (g := mkF m pc Ls st) rfl hd t k
theorem own_R.ldcL {pc : Nat} {Ls : Array Slot} {st : List Value} {v : Int64} {own : String} {index : Nat}
    (A : own_R p l e R s m args below meth c S0 n0 h ce sl (mkF m pc Ls st)) (hx : p.tables.exec = Jvm.exec) (hZ : Z.Warmed39 s.vm) (hown : s.vm.findClass own = some m.cls)
    (hd : decode c.code pc = .ok (.ldc2_w index, 3)) (w : (Cond.constantLong own index v).before a0 Z = true) :
    own_R p l e R s m args below meth c S0 n0 h ce sl (mkF m (pc + 3) Ls (.long v :: st)) := A.go fun T L X t k =>
  X.ldc2Long hx hown (mvT hZ w) (g := mkF m pc Ls st) rfl hd t k
theorem own_R.ldcD {pc : Nat} {Ls : Array Slot} {st : List Value} {v : UInt64} {own : String} {index : Nat}
    (A : own_R p l e R s m args below meth c S0 n0 h ce sl (mkF m pc Ls st)) (hx : p.tables.exec = Jvm.exec) (hZ : Z.Warmed39 s.vm) (hown : s.vm.findClass own = some m.cls)
    (hd : decode c.code pc = .ok (.ldc2_w index, 3)) (w : (Cond.constantDouble own index v).before a0 Z = true) :
    own_R p l e R s m args below meth c S0 n0 h ce sl (mkF m (pc + 3) Ls (.double v :: st)) := A.go fun T L X t k =>
  X.ldc2DoubleC hx hown (mvT hZ w) (g := mkF m pc Ls st) rfl hd t k
theorem own_R.callS {pc : Nat} {Ls : Array Slot} {st : List Value} {own : String} {index W : Nat} {y : MethodName} {bytes : ByteArray} {maxL : Nat} {ret : Option FieldType} {rm : Room} {as : Array Value} {Q : Option Value → Heap → Prop} {argsL rest : List Value}
    (A : own_R p l e R s m args below meth c S0 n0 h ce sl (mkF m pc Ls st)) (M : own_M l Z y bytes maxL ret [] rm as h n0 Q) (hx : p.tables.exec = Jvm.exec) (hZ : Z.Warmed39 s.vm) (hown : s.vm.findClass own = some m.cls)
    (hd : decode c.code pc = .ok (.invokestatic index, 3)) (w1 : (Cond.methodLink own index y).before a0 Z = true) (w2 : (Cond.static y).before a0 Z = true) (w3 : (Cond.initialized y.cls).before a0 Z = true) (w4 : (Cond.code y bytes maxL ret).before a0 Z = true)
    (hy : y.cls ≠ "java/lang/invoke/MethodHandle" ∧ y.cls ≠ "java/lang/invoke/VarHandle") (hlen : ∀ sig, parseMethodDescriptor y.desc = some sig → argsL.length = sig.parameters.length) (hst : st = argsL.reverse ++ rest) (has : argsL.toArray = as)
    (hsz : Ls.size = c.maxLocals) (hW : (rest.map fun v => v.category).sum ≤ W) (hf : rm.frames + 1 ≤ R.frames) (hl : W + (maxL + 11) + rm.locals ≤ R.locals) (hc : ce + rm.cells ≤ R.cells) (hs : sl + rm.slots ≤ R.slots) :
    ∃ v h', Q v h' ∧ own_R p l e R s m args below meth c S0 n0 h' (ce + rm.cells) (sl + rm.slots) (mkF m (pc + 3) Ls (v.toList ++ rest)) := by
  obtain ⟨T, L, X, eT, N, k⟩ := A
  obtain ⟨v, vm₁, ⟨T', L', k', n'⟩, -, X', ⟨Lc, hQ, l1, l2, l3⟩, sT⟩ := Jvm.LawKit.callS X hx (y := y) hown (mvT hZ w1) (mvT hZ w2) (mvT hZ w3) (mvT hZ w4) hy (backOf (W := W) (Q := fun v h' L => Q v h' ∧ Fr n0 L) M hZ w4 w3 hf hl) (g := mkF m pc Ls st) rfl hsz (argsL := argsL) (rest := rest) hlen hst (by show 2 * 0 + _ ≤ _; omega) hd (fun _ _ => ⟨has, eT, hc, hs⟩)
  dsimp only [Pt.U, Pt.locs, Pt.cells, Pt.slots] at X' l1 l2 l3 sT hQ
  subst l1 l2 l3
  exact ⟨v, _, hQ.1, T', _, X', rfl, Fr.app N hQ.2, k.trans (sT _ (Steps.refl _))⟩
theorem own_R.callV {pc : Nat} {Ls : Array Slot} {st : List Value} {own C : String} {index W : Nat} {y z : MethodName} {bytes : ByteArray} {maxL : Nat} {ret : Option FieldType} {rm : Room} {as : Array Value} {Q : Option Value → Heap → Prop} {b : Addr} {argsL rest : List Value}
    (A : own_R p l e R s m args below meth c S0 n0 h ce sl (mkF m pc Ls st)) (M : own_M l Z z bytes maxL ret [] rm as h n0 Q) (E : Exa Z h b C) (hx : p.tables.exec = Jvm.exec) (hZ : Z.Warmed39 s.vm) (hown : s.vm.findClass own = some m.cls)
    (hd : decode c.code pc = .ok (.invokevirtual index, 3)) (w1 : (Cond.methodLink own index y).before a0 Z = true) (w2 : (Cond.declares y).before a0 Z = true) (w3 : (Cond.selects C y z).before a0 Z = true) (w4 : (Cond.instanceMethod z).before a0 Z = true) (w5 : (Cond.code z bytes maxL ret).before a0 Z = true) (w6 : (Cond.initialized z.cls).before a0 Z = true) (hnf : ∀ s' : State, Z.Warmed39 s'.vm → NotFace s' y)
    (hy : y.cls ≠ "java/lang/invoke/MethodHandle" ∧ y.cls ≠ "java/lang/invoke/VarHandle") (hlen : ∀ sig, parseMethodDescriptor y.desc = some sig → argsL.length = sig.parameters.length) (hst : st = argsL.reverse ++ .ref b :: rest) (has : (Value.ref b :: argsL).toArray = as)
    (hsz : Ls.size = c.maxLocals) (hW : (rest.map fun v => v.category).sum ≤ W) (hf : rm.frames + 1 ≤ R.frames) (hl : W + (maxL + 11) + rm.locals ≤ R.locals) (hc : ce + rm.cells ≤ R.cells) (hs : sl + rm.slots ≤ R.slots) :
    ∃ v h', Q v h' ∧ own_R p l e R s m args below meth c S0 n0 h' (ce + rm.cells) (sl + rm.slots) (mkF m (pc + 3) Ls (v.toList ++ rest)) := by
  obtain ⟨T, L, X, eT, N, k⟩ := A
  obtain ⟨cq, kq, qa, qb, qc⟩ := isOf hZ eT E
  obtain ⟨v, vm₁, ⟨T', L', k', n'⟩, -, X', ⟨Lc, hQ, l1, l2, l3⟩, sT⟩ := X.virtualBack hx (y := y) (z := z) hown (mvT hZ w1) (mvT hZ w2) (hnf s hZ) (mvT hZ w3) (mvT hZ w4) hy (backOf (W := W) (Q := fun v h' L => Q v h' ∧ Fr n0 L) M hZ w5 w6 hf hl) qa qc (g := mkF m pc Ls st) rfl hsz (Steps.refl _) (argsL := argsL) (rest := rest) hlen hst (by show 2 * 0 + _ ≤ _; omega) hd (fun _ _ => ⟨has, eT, hc, hs⟩)
  dsimp only [Pt.U, Pt.locs, Pt.cells, Pt.slots] at X' l1 l2 l3 sT hQ
  subst l1 l2 l3
  exact ⟨v, _, hQ.1, T', _, X', rfl, Fr.app N hQ.2, k.trans sT⟩
theorem own_R.callI {pc : Nat} {Ls : Array Slot} {st : List Value} {own : String} {index W : Nat} {y : MethodName} {bytes : ByteArray} {maxL : Nat} {rm : Room} {as : Array Value} {Q : Option Value → Heap → Prop} {b : Addr} {argsL rest : List Value}
    (A : own_R p l e R s m args below meth c S0 n0 h ce sl (mkF m pc Ls st)) (M : own_M l Z y bytes maxL none [] rm as h n0 Q) (hx : p.tables.exec = Jvm.exec) (hZ : Z.Warmed39 s.vm) (hown : s.vm.findClass own = some m.cls)
    (hd : decode c.code pc = .ok (.invokespecial index, 3)) (hy1 : y.name = "<init>") (w1 : (Cond.methodLink own index y).before a0 Z = true) (w2 : (Cond.instanceMethod y).before a0 Z = true) (w3 : (Cond.code y bytes maxL none).before a0 Z = true) (w4 : (Cond.initialized y.cls).before a0 Z = true)
    (hy : y.cls ≠ "java/lang/invoke/MethodHandle" ∧ y.cls ≠ "java/lang/invoke/VarHandle") (hlen : ∀ sig, parseMethodDescriptor y.desc = some sig → argsL.length = sig.parameters.length) (hst : st = argsL.reverse ++ .ref b :: rest) (has : (Value.ref b :: argsL).toArray = as)
    (hsz : Ls.size = c.maxLocals) (hW : (rest.map fun v => v.category).sum ≤ W) (hf : rm.frames + 1 ≤ R.frames) (hl : W + (maxL + 11) + rm.locals ≤ R.locals) (hc : ce + rm.cells ≤ R.cells) (hs : sl + rm.slots ≤ R.slots) :
    ∃ v h', Q v h' ∧ own_R p l e R s m args below meth c S0 n0 h' (ce + rm.cells) (sl + rm.slots) (mkF m (pc + 3) Ls (v.toList ++ rest)) := by
  obtain ⟨T, L, X, eT, N, k⟩ := A
  obtain ⟨v, vm₁, ⟨T', L', k', n'⟩, -, X', ⟨Lc, hQ, l1, l2, l3⟩, sT⟩ := X.specialBack hx (y := y) hy1 hown (mvT hZ w1) (mvT hZ w2) (mvT hZ w3) hy (backOf (W := W) (Q := fun v h' L => Q v h' ∧ Fr n0 L) M hZ w3 w4 hf hl) (g := mkF m pc Ls st) rfl hsz (Steps.refl _) (a := b) (argsL := argsL) (rest := rest) hlen hst (by show 2 * 0 + _ ≤ _; omega) hd (fun _ _ => ⟨has, eT, hc, hs⟩)
  dsimp only [Pt.U, Pt.locs, Pt.cells, Pt.slots] at X' l1 l2 l3 sT hQ
  subst l1 l2 l3
  exact ⟨v, _, hQ.1, T', _, X', rfl, Fr.app N hQ.2, k.trans sT⟩
theorem own_R.ret {pc : Nat} {Ls : Array Slot} {rest : List Value} {w : Value} {t : FieldType} {i : Instr} {Q : Option Value → Heap → Prop}
    (A : own_R p l e R s m args below meth c S0 n0 h ce sl (mkF m pc Ls (w :: rest))) (hx : p.tables.exec = Jvm.exec) (hlk : meth.locks = false) (hret : meth.sig.returnType = some t) (hd : decode c.code pc = .ok (i, 1)) (hn : narrow t w = w)
    (hi : (i = .ireturn ∧ (t = .int ∨ t = .boolean ∨ t = .byte ∨ t = .char ∨ t = .short) ∧ ∃ z, w = .int z) ∨ (i = .lreturn ∧ t = .long ∧ ∃ z, w = .long z) ∨ (i = .dreturn ∧ t = .double ∧ ∃ z, w = .double z) ∨ (i = .freturn ∧ t = .float ∧ ∃ z, w = .float z) ∨ (i = .areturn ∧ t.isReference = true ∧ w.isRef = true))
    (hc : ce ≤ R.cells) (hs : sl ≤ R.slots) (q : Q (some w) h) : own_E p e R s below S0 n0 Q := by
  obtain ⟨T, L, X, eT, N, k⟩ := A
  obtain ⟨fs, hr, hrun, hended, hW, hsame⟩ := X.leave (v := some w) (fun h => by rw [hret] at h; cases h) hlk
  refine ⟨_, _, _, k.trans (retOut X hx hret hn hi hd hr), hrun, hended, ⟨?_, N⟩, ⟨_, rfl⟩, hW, hsame.mono hc hs⟩
  show Q _ T.heap
  rw [eT]; exact q
theorem own_R.retV {pc : Nat} {Ls : Array Slot} {Q : Option Value → Heap → Prop}
    (A : own_R p l e R s m args below meth c S0 n0 h ce sl (mkF m pc Ls [])) (hx : p.tables.exec = Jvm.exec) (hlk : meth.locks = false) (hret : meth.sig.returnType = none) (hd : decode c.code pc = .ok (.return_, 1))
    (hc : ce ≤ R.cells) (hs : sl ≤ R.slots) (q : Q none h) : own_E p e R s below S0 n0 Q := by
  obtain ⟨T, L, X, eT, N, k⟩ := A
  obtain ⟨fs, hr, hrun, hended, hW, hsame⟩ := X.leave (v := none) (fun _ => rfl) hlk
  refine ⟨_, _, _, k.trans (X.returnOut hx hret hd hr), hrun, hended, ⟨?_, N⟩, ⟨_, rfl⟩, hW, hsame.mono hc hs⟩
  show Q _ T.heap
  rw [eT]; exact q
end Own
section Own2
variable {p : Program} {l : Launch} {e : Env} {R : Room} {s : State} {m : MethodId} {args : Array Value} {below : List Frame} {meth : Method} {c : Code} {S0 : State} {n0 : Nat} {h h' : Heap} {ce sl : Nat} {Z : State} {a0 : Array Value} {pc : Nat} {Ls : Array Slot} {rest : List Value} {a b : Addr} {ty : FieldType} {vs : List Value} {ws : List Addr} {v : Value} {i : Nat}
/-- an array whose components are listed -/
def own_Ar (Z : State) (h : Heap) (a : Addr) (ty : FieldType) (vs : List Value) : Prop := ∃ cl : Cell, Arr Z h a cl ty ∧ cl.slots.toList = vs
theorem own_Ar.ext (F : own_Ar Z h a ty vs) (E : Ext h h') : own_Ar Z h' a ty vs := by obtain ⟨cl, A, q⟩ := F; exact ⟨cl, A.ext E, q⟩
theorem own_Ar.other (F : own_Ar Z h a ty vs) (W : Wr h h' b i v) (q : a ≠ b) : own_Ar Z h' a ty vs := by obtain ⟨cl, A, r⟩ := F; exact ⟨cl, A.other W q, r⟩
theorem own_Ar.same (F : own_Ar Z h a ty vs) (W : Wr h h' a i v) : own_Ar Z h' a ty (vs.set i v) := by
  obtain ⟨cl, A, rfl⟩ := F
  exact ⟨_, A.same W, by simp [Cell.setSlot, Array.toList_setIfInBounds]⟩
theorem own_Ar.keep (F : own_Ar Z h a ty vs) (K : Keep h h' ws) (q : a ∉ ws) : own_Ar Z h' a ty vs := by obtain ⟨cl, A, r⟩ := F; exact ⟨cl, ⟨K.2.1 a cl A.1 q, A.2⟩, r⟩
theorem own_Ar.lt (F : own_Ar Z h a ty vs) : a < h.size := by obtain ⟨cl, A, -⟩ := F; exact A.lt
theorem own_R.newP {n : Int32} {aty : ArrayType} {cap : Nat} (A : own_R p l e R s m args below meth c S0 n0 h ce sl (mkF m pc Ls (.int n :: rest))) (hx : p.tables.exec = Jvm.exec) (hZ : Z.Warmed39 s.vm)
    (hd : decode c.code pc = .ok (.newarray aty, 2)) (w : (Cond.arrayClass (newarray.typeOf aty)).before a0 Z = true) (hn : ¬ n < 0) (hcap : n.toNatClampNeg ≤ cap) (hb : cap * 8 ≤ 536870912) (hc : ce + 1 ≤ R.cells) (hl : sl + cap ≤ R.slots) :
    ∃ h', Ext h h' ∧ own_Ar Z h' h.size (newarray.typeOf aty) (List.replicate n.toNatClampNeg (defaultValue (newarray.typeOf aty))) ∧ own_R p l e R s m args below meth c S0 n0 h' (ce + 1) (sl + cap) (mkF m (pc + 2) Ls (.ref h.size :: rest)) := by
  obtain ⟨T, L, X, eT, N, k⟩ := A
  obtain ⟨T', h', cA, X', e', E, AA, st⟩ := RoadKit.newP X hx hZ w eT (g := mkF m pc Ls (.int n :: rest)) rfl hd rfl hn hcap hb hc hl
  exact ⟨h', E, ⟨_, AA, by simp [newA]⟩, T', L, X', e', N, k.trans (st _ (Steps.refl _))⟩
theorem own_R.newO {own C : String} {index n : Nat} (A : own_R p l e R s m args below meth c S0 n0 h ce sl (mkF m pc Ls rest)) (hx : p.tables.exec = Jvm.exec) (hZ : Z.Warmed39 s.vm) (hown : s.vm.findClass own = some m.cls)
    (hd : decode c.code pc = .ok (.new index, 3)) (w : (Cond.classLink own index C).before a0 Z = true) (wi : (Cond.instantiable C n).before a0 Z = true) (wz : (Cond.initialized C).before a0 Z = true) (hc : ce + 1 ≤ R.cells) (hl : sl + n ≤ R.slots) :
    ∃ h', Ext h h' ∧ Exa Z h' h.size C ∧ (∀ {O nm d : String} {ty : FieldType}, Laid Z a0 C O nm d → parseFieldDescriptor d = some ty → Fld Z h' h.size O nm d (defaultValue ty)) ∧ own_R p l e R s m args below meth c S0 n0 h' (ce + 1) (sl + n) (mkF m (pc + 3) Ls (.ref h.size :: rest)) := by
  obtain ⟨T, L, X, eT, N, k⟩ := A
  obtain ⟨T', h', X', e', E, AA, D, -, st⟩ := RoadKit.newO X hx hZ hown w wi wz eT (g := mkF m pc Ls rest) rfl hd hc hl
  exact ⟨h', E, AA, D, T', L, X', e', N, k.trans (st _ (Steps.refl _))⟩
theorem own_R.putF {own O n d C : String} {index kk : Nat} {v old : Value} (A : own_R p l e R s m args below meth c S0 n0 h ce sl (mkF m pc Ls (v :: .ref a :: rest))) (hx : p.tables.exec = Jvm.exec) (hZ : Z.Warmed39 s.vm) (hown : s.vm.findClass own = some m.cls)
    (hd : decode c.code pc = .ok (.putfield index, 3)) (w : (Cond.fieldLink own index O n d).before a0 Z = true) (F : Fld Z h a O n d old) (E : Exa Z h a C) (L : (Cond.lays C O n d).before a0 Z = true ∨ ((Cond.laysFinal C O n d).before a0 Z = true ∧ own = O ∧ meth.name = "<init>")) (wi : (Cond.instantiable C kk).before a0 Z = true)
    (hty : parseFieldDescriptor d = some ty) (hn : narrow ty v = v) (hf : fits ty v = true) (q : n0 ≤ a) :
    ∃ h', Wr h h' a (RoadKit.slotOf Z O n d) v ∧ own_R p l e R s m args below meth c S0 n0 h' ce sl (mkF m (pc + 3) Ls rest) := by
  obtain ⟨T, Lc, X, eT, N, k⟩ := A
  obtain ⟨T', h', X', e', W, st⟩ := RoadKit.putF X hx hZ hown (host := "") (Or.inl w) Via.refl eT F E L wi hty hn hf (g := mkF m pc Ls (v :: .ref a :: rest)) rfl rfl hd
  exact ⟨h', W, T', _, X', e', Fr.snoc X' N q, k.trans (st _ (Steps.refl _))⟩
theorem own_R.initO {own : String} {idx W : Nat} (A : own_R p l e R s m args below meth c S0 n0 h ce sl (mkF m pc Ls (.ref a :: rest))) (hx : p.tables.exec = Jvm.exec) (hZ : Z.Warmed39 s.vm) (hown : s.vm.findClass own = some m.cls)
    (hd : decode c.code pc = .ok (.invokespecial idx, 3)) (w1 : (Cond.methodLink own idx Lib.objectInit).before a0 Z = true) (w2 : (Cond.instanceMethod Lib.objectInit).before a0 Z = true) (w3 : (Cond.code Lib.objectInit ⟨#[0xb1]⟩ 1 none).before a0 Z = true)
    (hsz : Ls.size = c.maxLocals) (hW : (rest.map fun v => v.category).sum ≤ W) (hf : 1 ≤ R.frames) (hl : W + 12 ≤ R.locals) : own_R p l e R s m args below meth c S0 n0 h ce sl (mkF m (pc + 3) Ls rest) := A.law fun T L X eT N => by
  obtain ⟨T', X', e', st⟩ := RoadKit.initO X hx hZ hown w1 w2 w3 eT (g := mkF m pc Ls (.ref a :: rest)) rfl hsz rfl hd hf (by show 2 * 0 + _ ≤ _; exact (Nat.zero_add _).symm ▸ hW) hl
  exact ⟨T', L, X', e', N, st⟩
theorem own_R.stI {j x : Int32} (A : own_R p l e R s m args below meth c S0 n0 h ce sl (mkF m pc Ls (.int x :: .int j :: .ref a :: rest))) (hx : p.tables.exec = Jvm.exec) (hZ : Z.Warmed39 s.vm)
    (hd : decode c.code pc = .ok (.iastore, 1)) (F : own_Ar Z h a .int vs) (hj : ¬ j < 0) (hi : j.toNatClampNeg < vs.length) (q : n0 ≤ a) :
    ∃ h', Wr h h' a j.toNatClampNeg (.int x) ∧ own_R p l e R s m args below meth c S0 n0 h' ce sl (mkF m (pc + 1) Ls rest) := by
  obtain ⟨cl, F, rfl⟩ := F
  obtain ⟨T, Lc, X, eT, N, k⟩ := A
  obtain ⟨T', h', X', e', W, st⟩ := RoadKit.stI X hx hZ eT F (j := j) (fun z => z.elim hj fun u => by rw [Array.length_toList] at hi; omega) (g := mkF m pc Ls (.int x :: .int j :: .ref a :: rest)) rfl rfl hd
  exact ⟨h', W, T', _, X', e', Fr.snoc X' N q, k.trans (st _ (Steps.refl _))⟩
theorem own_R.stB {j x : Int32} (A : own_R p l e R s m args below meth c S0 n0 h ce sl (mkF m pc Ls (.int x :: .int j :: .ref a :: rest))) (hx : p.tables.exec = Jvm.exec) (hZ : Z.Warmed39 s.vm)
    (hd : decode c.code pc = .ok (.bastore, 1)) (F : own_Ar Z h a .byte vs) (hj : ¬ j < 0) (hi : j.toNatClampNeg < vs.length) (q : n0 ≤ a) :
    ∃ h', Wr h h' a j.toNatClampNeg (.int (nar .byte x)) ∧ own_R p l e R s m args below meth c S0 n0 h' ce sl (mkF m (pc + 1) Ls rest) := by
  obtain ⟨cl, F, rfl⟩ := F
  obtain ⟨T, Lc, X, eT, N, k⟩ := A
  obtain ⟨T', h', X', e', W, st⟩ := RoadKit.stB X hx hZ eT F (j := j) (fun z => z.elim hj fun u => by rw [Array.length_toList] at hi; omega) (g := mkF m pc Ls (.int x :: .int j :: .ref a :: rest)) rfl rfl hd
  exact ⟨h', W, T', _, X', e', Fr.snoc X' N q, k.trans (st _ (Steps.refl _))⟩
theorem own_R.ldI {j : Int32} (A : own_R p l e R s m args below meth c S0 n0 h ce sl (mkF m pc Ls (.int j :: .ref a :: rest))) (hx : p.tables.exec = Jvm.exec) (hZ : Z.Warmed39 s.vm)
    (hd : decode c.code pc = .ok (.iaload, 1)) (F : own_Ar Z h a .int vs) (hj : ¬ j < 0) (hv : vs[j.toNatClampNeg]? = some v) :
    own_R p l e R s m args below meth c S0 n0 h ce sl (mkF m (pc + 1) Ls (v :: rest)) := A.law fun T L X eT N => by
  obtain ⟨cl, F, rfl⟩ := F
  rw [Array.getElem?_toList] at hv
  have hlt := (Array.getElem?_eq_some_iff.mp hv).1
  exact ⟨T, L, X, eT, N, fun t k => X.iaload hx (j := j) (v := v) (by rw [eT]; exact F.1) (State.isArrayOf_alike hZ.alike F.2.1) F.2.2 (fun z => z.elim hj fun u => by omega) hv (g := mkF m pc Ls (.int j :: .ref a :: rest)) rfl rfl hd t k⟩
theorem own_R.ldB {j : Int32} (A : own_R p l e R s m args below meth c S0 n0 h ce sl (mkF m pc Ls (.int j :: .ref a :: rest))) (hx : p.tables.exec = Jvm.exec) (hZ : Z.Warmed39 s.vm)
    (hd : decode c.code pc = .ok (.baload, 1)) (F : own_Ar Z h a .byte vs) (hj : ¬ j < 0) (hv : vs[j.toNatClampNeg]? = some v) :
    own_R p l e R s m args below meth c S0 n0 h ce sl (mkF m (pc + 1) Ls (v :: rest)) := A.law fun T L X eT N => by
  obtain ⟨cl, F, rfl⟩ := F
  rw [Array.getElem?_toList] at hv
  have hlt := (Array.getElem?_eq_some_iff.mp hv).1
  exact ⟨T, L, X, eT, N, fun t k => X.baloadBytes hx (j := j) (v := v) (by rw [eT]; exact F.1) (State.isArrayOf_alike hZ.alike F.2.1) F.2.2 (fun z => z.elim hj fun u => by omega) hv (g := mkF m pc Ls (.int j :: .ref a :: rest)) rfl rfl hd t k⟩
theorem own_R.stD {j : Int32} {x : UInt64} (A : own_R p l e R s m args below meth c S0 n0 h ce sl (mkF m pc Ls (.double x :: .int j :: .ref a :: rest))) (hx : p.tables.exec = Jvm.exec) (hZ : Z.Warmed39 s.vm)
    (hd : decode c.code pc = .ok (.dastore, 1)) (F : own_Ar Z h a .double vs) (hj : ¬ j < 0) (hi : j.toNatClampNeg < vs.length) (q : n0 ≤ a) :
    ∃ h', Wr h h' a j.toNatClampNeg (.double x) ∧ own_R p l e R s m args below meth c S0 n0 h' ce sl (mkF m (pc + 1) Ls rest) := by
  obtain ⟨cl, F, rfl⟩ := F
  obtain ⟨T, Lc, X, eT, N, k⟩ := A
  obtain ⟨T', h', X', e', W, st⟩ := RoadKit.stD X hx hZ eT F (j := j) (fun z => z.elim hj fun u => by rw [Array.length_toList] at hi; omega) (g := mkF m pc Ls (.double x :: .int j :: .ref a :: rest)) rfl rfl hd
  exact ⟨h', W, T', _, X', e', Fr.snoc X' N q, k.trans (st _ (Steps.refl _))⟩
theorem own_R.stC {j : Int32} {x : Int32} (A : own_R p l e R s m args below meth c S0 n0 h ce sl (mkF m pc Ls (.int x :: .int j :: .ref a :: rest))) (hx : p.tables.exec = Jvm.exec) (hZ : Z.Warmed39 s.vm)
    (hd : decode c.code pc = .ok (.castore, 1)) (F : own_Ar Z h a .char vs) (hj : ¬ j < 0) (hi : j.toNatClampNeg < vs.length) (q : n0 ≤ a) :
    ∃ h', Wr h h' a j.toNatClampNeg (.int (nar .char x)) ∧ own_R p l e R s m args below meth c S0 n0 h' ce sl (mkF m (pc + 1) Ls rest) := by
  obtain ⟨cl, F, rfl⟩ := F
  obtain ⟨T, Lc, X, eT, N, k⟩ := A
  obtain ⟨T', h', X', e', W, st⟩ := RoadKit.stC X hx hZ eT F (j := j) (fun z => z.elim hj fun u => by rw [Array.length_toList] at hi; omega) (g := mkF m pc Ls (.int x :: .int j :: .ref a :: rest)) rfl rfl hd
  exact ⟨h', W, T', _, X', e', Fr.snoc X' N q, k.trans (st _ (Steps.refl _))⟩
theorem own_R.stL {j : Int32} {x : Int64} (A : own_R p l e R s m args below meth c S0 n0 h ce sl (mkF m pc Ls (.long x :: .int j :: .ref a :: rest))) (hx : p.tables.exec = Jvm.exec) (hZ : Z.Warmed39 s.vm)
    (hd : decode c.code pc = .ok (.lastore, 1)) (F : own_Ar Z h a .long vs) (hj : ¬ j < 0) (hi : j.toNatClampNeg < vs.length) (q : n0 ≤ a) :
    ∃ h', Wr h h' a j.toNatClampNeg (.long x) ∧ own_R p l e R s m args below meth c S0 n0 h' ce sl (mkF m (pc + 1) Ls rest) := by
  obtain ⟨cl, F, rfl⟩ := F
  obtain ⟨T, Lc, X, eT, N, k⟩ := A
  obtain ⟨T', h', X', e', W, st⟩ := RoadKit.stJ X hx hZ eT F (j := j) (fun z => z.elim hj fun u => by rw [Array.length_toList] at hi; omega) (g := mkF m pc Ls (.long x :: .int j :: .ref a :: rest)) rfl rfl hd
  exact ⟨h', W, T', _, X', e', Fr.snoc X' N q, k.trans (st _ (Steps.refl _))⟩
theorem own_R.ldD {j : Int32} (A : own_R p l e R s m args below meth c S0 n0 h ce sl (mkF m pc Ls (.int j :: .ref a :: rest))) (hx : p.tables.exec = Jvm.exec) (hZ : Z.Warmed39 s.vm)
    (hd : decode c.code pc = .ok (.daload, 1)) (F : own_Ar Z h a .double vs) (hj : ¬ j < 0) (hv : vs[j.toNatClampNeg]? = some v) :
    own_R p l e R s m args below meth c S0 n0 h ce sl (mkF m (pc + 1) Ls (v :: rest)) := A.law fun T L X eT N => by
  obtain ⟨cl, F, rfl⟩ := F
  rw [Array.getElem?_toList] at hv
  have hlt := (Array.getElem?_eq_some_iff.mp hv).1
  exact ⟨T, L, X, eT, N, fun t k => X.daload hx (j := j) (v := v) (by rw [eT]; exact F.1) (State.isArrayOf_alike hZ.alike F.2.1) F.2.2 (fun z => z.elim hj fun u => by omega) hv (g := mkF m pc Ls (.int j :: .ref a :: rest)) rfl rfl hd t k⟩
theorem own_R.ldC {j : Int32} (A : own_R p l e R s m args below meth c S0 n0 h ce sl (mkF m pc Ls (.int j :: .ref a :: rest))) (hx : p.tables.exec = Jvm.exec) (hZ : Z.Warmed39 s.vm)
    (hd : decode c.code pc = .ok (.caload, 1)) (F : own_Ar Z h a .char vs) (hj : ¬ j < 0) (hv : vs[j.toNatClampNeg]? = some v) :
    own_R p l e R s m args below meth c S0 n0 h ce sl (mkF m (pc + 1) Ls (v :: rest)) := A.law fun T L X eT N => by
  obtain ⟨cl, F, rfl⟩ := F
  rw [Array.getElem?_toList] at hv
  have hlt := (Array.getElem?_eq_some_iff.mp hv).1
  exact ⟨T, L, X, eT, N, fun t k => X.caload hx (j := j) (v := v) (by rw [eT]; exact F.1) (State.isArrayOf_alike hZ.alike F.2.1) F.2.2 (fun z => z.elim hj fun u => by omega) hv (g := mkF m pc Ls (.int j :: .ref a :: rest)) rfl rfl hd t k⟩
theorem own_R.ldL {j : Int32} (A : own_R p l e R s m args below meth c S0 n0 h ce sl (mkF m pc Ls (.int j :: .ref a :: rest))) (hx : p.tables.exec = Jvm.exec) (hZ : Z.Warmed39 s.vm)
    (hd : decode c.code pc = .ok (.laload, 1)) (F : own_Ar Z h a .long vs) (hj : ¬ j < 0) (hv : vs[j.toNatClampNeg]? = some v) :
    own_R p l e R s m args below meth c S0 n0 h ce sl (mkF m (pc + 1) Ls (v :: rest)) := A.law fun T L X eT N => by
  obtain ⟨cl, F, rfl⟩ := F
  rw [Array.getElem?_toList] at hv
  have hlt := (Array.getElem?_eq_some_iff.mp hv).1
  exact ⟨T, L, X, eT, N, fun t k => X.laload hx (j := j) (v := v) (by rw [eT]; exact F.1) (State.isArrayOf_alike hZ.alike F.2.1) F.2.2 (fun z => z.elim hj fun u => by omega) hv (g := mkF m pc Ls (.int j :: .ref a :: rest)) rfl rfl hd t k⟩
theorem own_R.len (A : own_R p l e R s m args below meth c S0 n0 h ce sl (mkF m pc Ls (.ref a :: rest))) (hx : p.tables.exec = Jvm.exec) (hZ : Z.Warmed39 s.vm)
    (hd : decode c.code pc = .ok (.arraylength, 1)) (F : own_Ar Z h a ty vs) :
    own_R p l e R s m args below meth c S0 n0 h ce sl (mkF m (pc + 1) Ls (.int vs.length.toInt32 :: rest)) := A.law fun T L X eT N => by
  obtain ⟨cl, F, rfl⟩ := F
  exact ⟨T, L, X, eT, N, fun t k => X.arraylength hx (by rw [eT]; exact F.1) (State.isArrayOf_alike hZ.alike F.2.1) (g := mkF m pc Ls (.ref a :: rest)) rfl rfl hd t (by rw [Array.length_toList] at k; exact k)⟩
end Own2
section Own2b
variable {p : Program} {l : Launch} {e : Env} {R : Room} {s : State} {m : MethodId} {args : Array Value} {below : List Frame} {meth : Method} {c : Code} {S0 : State} {n0 : Nat} {h h' : Heap} {ce sl : Nat} {Z : State} {a0 : Array Value} {pc : Nat} {Ls : Array Slot} {rest : List Value} {a : Addr}
theorem own_R.instY {own K : String} {index : Nat} (A : own_R p l e R s m args below meth c S0 n0 h ce sl (mkF m pc Ls (.ref a :: rest))) (hx : p.tables.exec = Jvm.exec) (hZ : Z.Warmed39 s.vm) (hown : s.vm.findClass own = some m.cls)
    (hd : decode c.code pc = .ok (.instanceof index, 3)) (w : (Cond.classLink own index K).before a0 Z = true) (F : Ins Z h a K true) : own_R p l e R s m args below meth c S0 n0 h ce sl (mkF m (pc + 3) Ls (.int 1 :: rest)) := A.law fun T L X eT N => by
  obtain ⟨T', X', e', st⟩ := RoadKit.instY X hx hZ hown w eT F (g := mkF m pc Ls (.ref a :: rest)) rfl rfl hd
  exact ⟨T', L, X', e', N, st⟩
theorem own_R.castY {own K : String} {index : Nat} (A : own_R p l e R s m args below meth c S0 n0 h ce sl (mkF m pc Ls (.ref a :: rest))) (hx : p.tables.exec = Jvm.exec) (hZ : Z.Warmed39 s.vm) (hown : s.vm.findClass own = some m.cls)
    (hd : decode c.code pc = .ok (.checkcast index, 3)) (w : (Cond.classLink own index K).before a0 Z = true) (F : Ins Z h a K true) : own_R p l e R s m args below meth c S0 n0 h ce sl (mkF m (pc + 3) Ls (.ref a :: rest)) := A.law fun T L X eT N => by
  obtain ⟨T', X', e', st⟩ := RoadKit.castY X hx hZ hown w eT F (g := mkF m pc Ls (.ref a :: rest)) rfl rfl hd
  exact ⟨T', L, X', e', N, st⟩
theorem own_eqI {args : Array Value} {t : Term} {k : Int32} (h : (Cond.eq t (.int k)).value args Z none Z [] = some true) : t.eval args Z none [] Z = some (.int k) := by
  simp only [Cond.value, Term.int_eval] at h
  cases hv : t.eval args Z none [] Z with
  | none => rw [hv] at h; cases h
  | some w =>
    rw [hv] at h
    cases w <;> simp at h
    rw [h]
theorem own_Ar.start3 {args : Array Value} {t : Term} {x y z : Int32} (ev : t.eval args Z none [] Z = some (.ref a)) (hA : (Cond.arrayOf t .byte).value args Z none Z [] = some true) (hL : (Cond.eq (.length t) (.int 3)).value args Z none Z [] = some true)
    (h0 : (Cond.eq (.elem t (.int 0)) (.int x)).value args Z none Z [] = some true) (h1 : (Cond.eq (.elem t (.int 1)) (.int y)).value args Z none Z [] = some true) (h2 : (Cond.eq (.elem t (.int 2)) (.int z)).value args Z none Z [] = some true) : own_Ar Z Z.heap a .byte [.int x, .int y, .int z] := by
  obtain ⟨cl, A⟩ := Arr.start ev hA
  have e0 := (elem_in (own_eqI h0) ev (Term.int_eval _) A.1).2
  have e1 := (elem_in (own_eqI h1) ev (Term.int_eval _) A.1).2
  have e2 := (elem_in (own_eqI h2) ev (Term.int_eval _) A.1).2
  have q0 : (0 : Int32).toNatClampNeg = 0 := by decide
  have q1 : (1 : Int32).toNatClampNeg = 1 := by decide
  have q2 : (2 : Int32).toNatClampNeg = 2 := by decide
  rw [q0] at e0
  rw [q1] at e1
  rw [q2] at e2
  have ha : Z.arrayAt? a = some cl := Arr.fin (U := Z) (State.Warmed39.refl Z).alike A
  have hl := own_eqI hL
  simp only [Term.eval, ev, ha, Option.bind_eq_bind, Option.bind_some, Option.pure_def] at hl
  have hsz : cl.slots.size = 3 := by
    split at hl
    · rename_i hlt
      have e3 : cl.slots.size.toInt32 = 3 := by simpa using hl
      have e4 := len_toInt hlt
      rw [e3] at e4
      have e5 : (3 : Int32).toInt = 3 := by decide
      omega
    · cases hl
  refine ⟨cl, A, ?_⟩
  apply List.ext_getElem?
  intro i
  rw [Array.getElem?_toList]
  match i with
  | 0 => exact e0
  | 1 => exact e1
  | 2 => exact e2
  | n + 3 => rw [Array.getElem?_eq_none (by omega)]; rfl
end Own2b

theorem d1_0 : decode jdk_29_method_69_code 0 = .ok (.iload_n 0, 1) := by decide +kernel
theorem d1_1 : decode jdk_29_method_69_code 1 = .ok (.iload_n 1, 1) := by decide +kernel
theorem d1_2 : decode jdk_29_method_69_code 2 = .ok (.if_icmp .gt 7, 3) := by decide +kernel
theorem d1_5 : decode jdk_29_method_69_code 5 = .ok (.iload_n 0, 1) := by decide +kernel
theorem d1_6 : decode jdk_29_method_69_code 6 = .ok (.goto 4, 3) := by decide +kernel
theorem d1_9 : decode jdk_29_method_69_code 9 = .ok (.iload_n 1, 1) := by decide +kernel
theorem d1_10 : decode jdk_29_method_69_code 10 = .ok (.ireturn, 1) := by decide +kernel
theorem ef1 (m : MethodId) (p1 : Int32) (p2 : Int32) : entryFrame m #[(.int p1), (.int p2)] 2 = mkF m 0 #[.val (.int p1), .val (.int p2)] [] := by first | (simp [entryFrame, mkF, argsToLocals, Value.category, maxLocals]; done) | rfl
set_option maxRecDepth 65536 in
set_option maxHeartbeats 40000000 in
theorem own_min (l : Launch) (Z : State) (a0 : Array Value) (hw : ∀ d ∈ tables_1, d.before a0 Z = true) (p1 p2 : Int32) (h0 : Heap) (n0 : Nat) (Z0 : n0 ≤ h0.size)  :
    own_M l Z (⟨"java/lang/Math", "min", "(II)I"⟩ : MethodName) jdk_29_method_69_code 2 (some .int) [] ({ frames := 0, cells := 0, slots := 0, locals := 0 } : Room) #[(.int p1), (.int p2)] h0 n0 (fun v h => v = some (.int (if p2 < p1 then p2 else p1)) ∧ h0 = h) := by
  refine own_M.of (by decide +kernel) ?_
  intro p e s m below meth c S0 hx hby hml hown hnm hret hlk hZ A00
  have A0 := A00.cast (ef1 m p1 p2)
  have A1 := A0.go (f' := mkF m 1 #[.val (.int p1), .val (.int p2)] [(.int p1)]) fun _ _ X _ k => XS.iloadN X.here hx rfl (hb hby d1_0) rfl k
  have A2 := A1.go (f' := mkF m 2 #[.val (.int p1), .val (.int p2)] [(.int p2), (.int p1)]) fun _ _ X _ k => XS.iloadN X.here hx rfl (hb hby d1_1) rfl k
  by_cases q3 : p2 < p1
  · skip
    have A4 := A2.go (f' := mkF m 9 #[.val (.int p1), .val (.int p2)] []) fun _ _ X _ k => XS.icmpYes X.here hx rfl (pc0 := 2) (pc' := 9) rfl (hb hby d1_2) rfl ((tlt q3).2.2.1) (by decide) (by decide) k
    have A5 := A4.go (f' := mkF m 10 #[.val (.int p1), .val (.int p2)] [(.int p2)]) fun _ _ X _ k => XS.iloadN X.here hx rfl (hb hby d1_9) rfl k
    exact A5.ret hx hlk hret (hb hby d1_10) rfl (Or.inl ⟨rfl, by simp, _, rfl⟩) (by decide) (by decide) ⟨by simp [q3], rfl⟩
  · skip
    have A6 := A2.go (f' := mkF m 5 #[.val (.int p1), .val (.int p2)] []) fun _ _ X _ k => XS.icmpNo X.here hx rfl (hb hby d1_2) rfl ((flt q3).2.2.1) k
    have A7 := A6.go (f' := mkF m 6 #[.val (.int p1), .val (.int p2)] [(.int p1)]) fun _ _ X _ k => XS.iloadN X.here hx rfl (hb hby d1_5) rfl k
    have A8 := A7.go (f' := mkF m 10 #[.val (.int p1), .val (.int p2)] [(.int p1)]) fun _ _ X _ k => XS.goto X.here hx rfl (pc0 := 6) (pc' := 10) rfl (hb hby d1_6) (by decide) (by decide) k
    exact A8.ret hx hlk hret (hb hby d1_10) rfl (Or.inl ⟨rfl, by simp, _, rfl⟩) (by decide) (by decide) ⟨by simp [q3], rfl⟩
theorem d2_0 : decode jdk_29_method_65_code 0 = .ok (.iload_n 0, 1) := by decide +kernel
theorem d2_1 : decode jdk_29_method_65_code 1 = .ok (.iload_n 1, 1) := by decide +kernel
theorem d2_2 : decode jdk_29_method_65_code 2 = .ok (.if_icmp .lt 7, 3) := by decide +kernel
theorem d2_5 : decode jdk_29_method_65_code 5 = .ok (.iload_n 0, 1) := by decide +kernel
theorem d2_6 : decode jdk_29_method_65_code 6 = .ok (.goto 4, 3) := by decide +kernel
theorem d2_9 : decode jdk_29_method_65_code 9 = .ok (.iload_n 1, 1) := by decide +kernel
theorem d2_10 : decode jdk_29_method_65_code 10 = .ok (.ireturn, 1) := by decide +kernel
theorem ef2 (m : MethodId) (p1 : Int32) (p2 : Int32) : entryFrame m #[(.int p1), (.int p2)] 2 = mkF m 0 #[.val (.int p1), .val (.int p2)] [] := by first | (simp [entryFrame, mkF, argsToLocals, Value.category, maxLocals]; done) | rfl
set_option maxRecDepth 65536 in
set_option maxHeartbeats 40000000 in
theorem own_max (l : Launch) (Z : State) (a0 : Array Value) (hw : ∀ d ∈ tables_1, d.before a0 Z = true) (p1 p2 : Int32) (h0 : Heap) (n0 : Nat) (Z0 : n0 ≤ h0.size)  :
    own_M l Z (⟨"java/lang/Math", "max", "(II)I"⟩ : MethodName) jdk_29_method_65_code 2 (some .int) [] ({ frames := 0, cells := 0, slots := 0, locals := 0 } : Room) #[(.int p1), (.int p2)] h0 n0 (fun v h => v = some (.int (if p1 < p2 then p2 else p1)) ∧ h0 = h) := by
  refine own_M.of (by decide +kernel) ?_
  intro p e s m below meth c S0 hx hby hml hown hnm hret hlk hZ A00
  have A0 := A00.cast (ef2 m p1 p2)
  have A1 := A0.go (f' := mkF m 1 #[.val (.int p1), .val (.int p2)] [(.int p1)]) fun _ _ X _ k => XS.iloadN X.here hx rfl (hb hby d2_0) rfl k
  have A2 := A1.go (f' := mkF m 2 #[.val (.int p1), .val (.int p2)] [(.int p2), (.int p1)]) fun _ _ X _ k => XS.iloadN X.here hx rfl (hb hby d2_1) rfl k
  by_cases q3 : p1 < p2
  · skip
    have A4 := A2.go (f' := mkF m 9 #[.val (.int p1), .val (.int p2)] []) fun _ _ X _ k => XS.icmpYes X.here hx rfl (pc0 := 2) (pc' := 9) rfl (hb hby d2_2) rfl ((tlt q3).1) (by decide) (by decide) k
    have A5 := A4.go (f' := mkF m 10 #[.val (.int p1), .val (.int p2)] [(.int p2)]) fun _ _ X _ k => XS.iloadN X.here hx rfl (hb hby d2_9) rfl k
    exact A5.ret hx hlk hret (hb hby d2_10) rfl (Or.inl ⟨rfl, by simp, _, rfl⟩) (by decide) (by decide) ⟨by simp [q3], rfl⟩
  · skip
    have A6 := A2.go (f' := mkF m 5 #[.val (.int p1), .val (.int p2)] []) fun _ _ X _ k => XS.icmpNo X.here hx rfl (hb hby d2_2) rfl ((flt q3).1) k
    have A7 := A6.go (f' := mkF m 6 #[.val (.int p1), .val (.int p2)] [(.int p1)]) fun _ _ X _ k => XS.iloadN X.here hx rfl (hb hby d2_5) rfl k
    have A8 := A7.go (f' := mkF m 10 #[.val (.int p1), .val (.int p2)] [(.int p1)]) fun _ _ X _ k => XS.goto X.here hx rfl (pc0 := 6) (pc' := 10) rfl (hb hby d2_6) (by decide) (by decide) k
    exact A8.ret hx hlk hret (hb hby d2_10) rfl (Or.inl ⟨rfl, by simp, _, rfl⟩) (by decide) (by decide) ⟨by simp [q3], rfl⟩
def own_hit (i f t z w : Int32) : Int32 := if i < f then 0 else if i < t then (if z = w then 1 else 0) else 0
theorem d3_0 : decode method_3_code 0 = .ok (.iload_n 1, 1) := by decide +kernel
theorem d3_1 : decode method_3_code 1 = .ok (.iload_n 2, 1) := by decide +kernel
theorem d3_2 : decode method_3_code 2 = .ok (.if_icmp .lt 20, 3) := by decide +kernel
theorem d3_5 : decode method_3_code 5 = .ok (.iload_n 1, 1) := by decide +kernel
theorem d3_6 : decode method_3_code 6 = .ok (.iload_n 3, 1) := by decide +kernel
theorem d3_7 : decode method_3_code 7 = .ok (.if_icmp .ge 15, 3) := by decide +kernel
theorem d3_10 : decode method_3_code 10 = .ok (.aload_n 0, 1) := by decide +kernel
theorem d3_11 : decode method_3_code 11 = .ok (.iload_n 1, 1) := by decide +kernel
theorem d3_12 : decode method_3_code 12 = .ok (.baload, 1) := by decide +kernel
theorem d3_13 : decode method_3_code 13 = .ok (.iload 4, 2) := by decide +kernel
theorem d3_15 : decode method_3_code 15 = .ok (.if_icmp .ne 7, 3) := by decide +kernel
theorem d3_18 : decode method_3_code 18 = .ok (.iconst 1, 1) := by decide +kernel
theorem d3_19 : decode method_3_code 19 = .ok (.goto 4, 3) := by decide +kernel
theorem d3_22 : decode method_3_code 22 = .ok (.iconst 0, 1) := by decide +kernel
theorem d3_23 : decode method_3_code 23 = .ok (.ireturn, 1) := by decide +kernel
theorem ef3 (m : MethodId) (a1 : Addr) (p2 : Int32) (p3 : Int32) (p4 : Int32) (p5 : Int32) : entryFrame m #[(.ref a1), (.int p2), (.int p3), (.int p4), (.int p5)] 5 = mkF m 0 #[.val (.ref a1), .val (.int p2), .val (.int p3), .val (.int p4), .val (.int p5)] [] := by first | (simp [entryFrame, mkF, argsToLocals, Value.category, maxLocals]; done) | rfl
set_option maxRecDepth 65536 in
set_option maxHeartbeats 40000000 in
theorem own_hitM (l : Launch) (Z : State) (a0 : Array Value) (hw : ∀ d ∈ tables_1, d.before a0 Z = true) (a1 : Addr) (p2 p3 p4 p5 z : Int32) (vs : List Value) (h0 : Heap) (n0 : Nat) (Z0 : n0 ≤ h0.size) (Ar : own_Ar Z h0 a1 .byte vs) (hj : ¬ p2 < 0) (hv : vs[p2.toNatClampNeg]? = some (.int z)) :
    own_M l Z (⟨"com/example/modest_issuer/modestissuer/core/FormEncodingIndexOfPinLaw", "hit", "([BIIIB)Z"⟩ : MethodName) method_3_code 5 (some .boolean) [] ({ frames := 0, cells := 0, slots := 0, locals := 0 } : Room) #[(.ref a1), (.int p2), (.int p3), (.int p4), (.int p5)] h0 n0 (fun v h => v = some (.int (own_hit p2 p3 p4 z p5)) ∧ h0 = h) := by
  refine own_M.of (plainFor_of_name (by first | (simp [plainName, overriddenIn]; done) | decide +kernel)) ?_
  intro p e s m below meth c S0 hx hby hml hown hnm hret hlk hZ A00
  have A0 := A00.cast (ef3 m a1 p2 p3 p4 p5)
  have A1 := A0.go (f' := mkF m 1 #[.val (.ref a1), .val (.int p2), .val (.int p3), .val (.int p4), .val (.int p5)] [(.int p2)]) fun _ _ X _ k => XS.iloadN X.here hx rfl (hb hby d3_0) rfl k
  have A2 := A1.go (f' := mkF m 2 #[.val (.ref a1), .val (.int p2), .val (.int p3), .val (.int p4), .val (.int p5)] [(.int p3), (.int p2)]) fun _ _ X _ k => XS.iloadN X.here hx rfl (hb hby d3_1) rfl k
  by_cases q3 : p2 < p3
  · skip
    have A4 := A2.go (f' := mkF m 22 #[.val (.ref a1), .val (.int p2), .val (.int p3), .val (.int p4), .val (.int p5)] []) fun _ _ X _ k => XS.icmpYes X.here hx rfl (pc0 := 2) (pc' := 22) rfl (hb hby d3_2) rfl ((tlt q3).1) (by decide) (by decide) k
    have A5 := A4.go (f' := mkF m 23 #[.val (.ref a1), .val (.int p2), .val (.int p3), .val (.int p4), .val (.int p5)] [(.int (0 : Int32))]) fun _ _ X _ k => XS.iconst X.here hx rfl (hb hby d3_22) k
    exact A5.ret hx hlk hret (hb hby d3_23) rfl (Or.inl ⟨rfl, by simp, _, rfl⟩) (by decide) (by decide) ⟨by simp [own_hit, q3], rfl⟩
  · skip
    have A6 := A2.go (f' := mkF m 5 #[.val (.ref a1), .val (.int p2), .val (.int p3), .val (.int p4), .val (.int p5)] []) fun _ _ X _ k => XS.icmpNo X.here hx rfl (hb hby d3_2) rfl ((flt q3).1) k
    have A7 := A6.go (f' := mkF m 6 #[.val (.ref a1), .val (.int p2), .val (.int p3), .val (.int p4), .val (.int p5)] [(.int p2)]) fun _ _ X _ k => XS.iloadN X.here hx rfl (hb hby d3_5) rfl k
    have A8 := A7.go (f' := mkF m 7 #[.val (.ref a1), .val (.int p2), .val (.int p3), .val (.int p4), .val (.int p5)] [(.int p4), (.int p2)]) fun _ _ X _ k => XS.iloadN X.here hx rfl (hb hby d3_6) rfl k
    by_cases q9 : p2 < p4
    · skip
      have A10 := A8.go (f' := mkF m 10 #[.val (.ref a1), .val (.int p2), .val (.int p3), .val (.int p4), .val (.int p5)] []) fun _ _ X _ k => XS.icmpNo X.here hx rfl (hb hby d3_7) rfl ((tlt q9).2.1) k
      have A11 := A10.go (f' := mkF m 11 #[.val (.ref a1), .val (.int p2), .val (.int p3), .val (.int p4), .val (.int p5)] [(.ref a1)]) fun _ _ X _ k => XS.aloadN X.here hx rfl (hb hby d3_10) rfl rfl k
      have A12 := A11.go (f' := mkF m 12 #[.val (.ref a1), .val (.int p2), .val (.int p3), .val (.int p4), .val (.int p5)] [(.int p2), (.ref a1)]) fun _ _ X _ k => XS.iloadN X.here hx rfl (hb hby d3_11) rfl k
      have A13 : own_R p l e _ _ m _ below meth c S0 n0 h0 0 0 (mkF m 13 #[.val (.ref a1), .val (.int p2), .val (.int p3), .val (.int p4), .val (.int p5)] [(.int z)]) := A12.ldB hx hZ (hb hby d3_12) Ar hj hv
      have A14 := A13.go (f' := mkF m 15 #[.val (.ref a1), .val (.int p2), .val (.int p3), .val (.int p4), .val (.int p5)] [(.int p5), (.int z)]) fun _ _ X _ k => XS.iload X.here hx rfl (hb hby d3_13) rfl k
      by_cases q15 : z = p5
      · skip
        have A16 := A14.go (f' := mkF m 18 #[.val (.ref a1), .val (.int p2), .val (.int p3), .val (.int p4), .val (.int p5)] []) fun _ _ X _ k => XS.icmpNo X.here hx rfl (hb hby d3_15) rfl ((teq q15).2) k
        have A17 := A16.go (f' := mkF m 19 #[.val (.ref a1), .val (.int p2), .val (.int p3), .val (.int p4), .val (.int p5)] [(.int (1 : Int32))]) fun _ _ X _ k => XS.iconst X.here hx rfl (hb hby d3_18) k
        have A18 := A17.go (f' := mkF m 23 #[.val (.ref a1), .val (.int p2), .val (.int p3), .val (.int p4), .val (.int p5)] [(.int (1 : Int32))]) fun _ _ X _ k => XS.goto X.here hx rfl (pc0 := 19) (pc' := 23) rfl (hb hby d3_19) (by decide) (by decide) k
        exact A18.ret hx hlk hret (hb hby d3_23) rfl (Or.inl ⟨rfl, by simp, _, rfl⟩) (by decide) (by decide) ⟨by simp [own_hit, q3, q9, q15], rfl⟩
      · skip
        have A19 := A14.go (f' := mkF m 22 #[.val (.ref a1), .val (.int p2), .val (.int p3), .val (.int p4), .val (.int p5)] []) fun _ _ X _ k => XS.icmpYes X.here hx rfl (pc0 := 15) (pc' := 22) rfl (hb hby d3_15) rfl ((feq q15).2) (by decide) (by decide) k
        have A20 := A19.go (f' := mkF m 23 #[.val (.ref a1), .val (.int p2), .val (.int p3), .val (.int p4), .val (.int p5)] [(.int (0 : Int32))]) fun _ _ X _ k => XS.iconst X.here hx rfl (hb hby d3_22) k
        exact A20.ret hx hlk hret (hb hby d3_23) rfl (Or.inl ⟨rfl, by simp, _, rfl⟩) (by decide) (by decide) ⟨by simp [own_hit, q3, q9, q15], rfl⟩
    · skip
      have A21 := A8.go (f' := mkF m 22 #[.val (.ref a1), .val (.int p2), .val (.int p3), .val (.int p4), .val (.int p5)] []) fun _ _ X _ k => XS.icmpYes X.here hx rfl (pc0 := 7) (pc' := 22) rfl (hb hby d3_7) rfl ((flt q9).2.1) (by decide) (by decide) k
      have A22 := A21.go (f' := mkF m 23 #[.val (.ref a1), .val (.int p2), .val (.int p3), .val (.int p4), .val (.int p5)] [(.int (0 : Int32))]) fun _ _ X _ k => XS.iconst X.here hx rfl (hb hby d3_22) k
      exact A22.ret hx hlk hret (hb hby d3_23) rfl (Or.inl ⟨rfl, by simp, _, rfl⟩) (by decide) (by decide) ⟨by simp [own_hit, q3, q9], rfl⟩
def own_get (es : List Int32) (i : Int32) : Int32 := es.getD i.toNatClampNeg 0
def own_find (es : List Int32) (w : Int32) : Nat → Int32 → Int32 → Int32
  | 0, i, _ => i
  | n + 1, i, t => if i < t then (if own_get es i = w then i else own_find es w n (i + 1) t) else i
theorem own_at {es : List Int32} {i : Int32} (h : i.toNatClampNeg < es.length) : (es.map Value.int)[i.toNatClampNeg]? = some (.int (own_get es i)) := by
  simp [own_get, h]
theorem own_in {i t : Int32} {n : Nat} (h0 : 0 ≤ i.toInt) (h1 : t.toInt ≤ n) (h2 : i < t) : i.toNatClampNeg < n := by
  rw [Int32.lt_iff_toInt_lt] at h2
  simp only [Int32.toNatClampNeg]
  omega
theorem own_succ {i t : Int32} (h0 : 0 ≤ i.toInt) (h2 : i < t) : (i + (1 : Int32)).toInt = i.toInt + 1 := by
  rw [Int32.lt_iff_toInt_lt] at h2
  have := t.toInt_lt
  have e1 : (1 : Int32).toInt = 1 := by decide
  rw [Jvm.Kit.i32_add (by omega) (by omega), e1]
theorem d4_0 : decode prog_10_method_4_code 0 = .ok (.iload_n 2, 1) := by decide +kernel
theorem d4_1 : decode prog_10_method_4_code 1 = .ok (.istore 4, 2) := by decide +kernel
theorem d4_3 : decode prog_10_method_4_code 3 = .ok (.iload 4, 2) := by decide +kernel
theorem d4_5 : decode prog_10_method_4_code 5 = .ok (.iload_n 3, 1) := by decide +kernel
theorem d4_6 : decode prog_10_method_4_code 6 = .ok (.if_icmp .ge 17, 3) := by decide +kernel
theorem d4_9 : decode prog_10_method_4_code 9 = .ok (.aload_n 0, 1) := by decide +kernel
theorem d4_10 : decode prog_10_method_4_code 10 = .ok (.iload 4, 2) := by decide +kernel
theorem d4_12 : decode prog_10_method_4_code 12 = .ok (.baload, 1) := by decide +kernel
theorem d4_13 : decode prog_10_method_4_code 13 = .ok (.iload_n 1, 1) := by decide +kernel
theorem d4_14 : decode prog_10_method_4_code 14 = .ok (.if_icmp .eq 9, 3) := by decide +kernel
theorem d4_17 : decode prog_10_method_4_code 17 = .ok (.iinc 4 1, 3) := by decide +kernel
theorem d4_20 : decode prog_10_method_4_code 20 = .ok (.goto (-17), 3) := by decide +kernel
theorem d4_23 : decode prog_10_method_4_code 23 = .ok (.iload 4, 2) := by decide +kernel
theorem d4_25 : decode prog_10_method_4_code 25 = .ok (.ireturn, 1) := by decide +kernel
theorem ef4 (m : MethodId) (a1 : Addr) (p2 : Int32) (p3 : Int32) (p4 : Int32) : entryFrame m #[(.ref a1), (.int p2), (.int p3), (.int p4)] 5 = mkF m 0 #[.val (.ref a1), .val (.int p2), .val (.int p3), .val (.int p4), .unset] [] := by first | (simp [entryFrame, mkF, argsToLocals, Value.category, maxLocals]; done) | rfl
set_option maxRecDepth 65536 in
set_option maxHeartbeats 40000000 in
theorem own_idx (l : Launch) (Z : State) (a0 : Array Value) (hw : ∀ d ∈ tables_1, d.before a0 Z = true) (a1 : Addr) (p2 p3 p4 z : Int32) (es : List Int32) (h0 : Heap) (n0 : Nat) (Z0 : n0 ≤ h0.size) (Ar : own_Ar Z h0 a1 .byte (es.map Value.int)) (hlen : p4.toInt ≤ es.length) (hp3 : 0 ≤ p3.toInt) (hp4 : p4.toInt ≤ 4) (hz : own_find es p2 5 p3 p4 = z) :
    own_M l Z (⟨"com/example/modest_issuer/modestissuer/core/FormEncoding", "indexOf", "([BBII)I"⟩ : MethodName) prog_10_method_4_code 5 (some .int) [] ({ frames := 0, cells := 0, slots := 0, locals := 0 } : Room) #[(.ref a1), (.int p2), (.int p3), (.int p4)] h0 n0 (fun v h => v = some (.int z) ∧ h0 = h) := by
  refine own_M.of (plainFor_of_name (by first | (simp [plainName, overriddenIn]; done) | decide +kernel)) ?_
  intro p e s m below meth c S0 hx hby hml hown hnm hret hlk hZ A00
  have A0 := A00.cast (ef4 m a1 p2 p3 p4)
  have A1 := A0.go (f' := mkF m 1 #[.val (.ref a1), .val (.int p2), .val (.int p3), .val (.int p4), .unset] [(.int p3)]) fun _ _ X _ k => XS.iloadN X.here hx rfl (hb hby d4_0) rfl k
  have A2 := A1.go (f' := mkF m 3 #[.val (.ref a1), .val (.int p2), .val (.int p3), .val (.int p4), .val (.int p3)] []) fun _ _ X _ k => XS.istore X.here hx rfl (hb hby d4_1) rfl (l' := #[.val (.ref a1), .val (.int p2), .val (.int p3), .val (.int p4), .val (.int p3)]) rfl k
  have loop : ∀ (n : Nat) (i : Int32), 0 ≤ i.toInt → p4.toInt - i.toInt ≤ n → own_find es p2 n i p4 = z → own_R p l e ({ frames := 0, cells := 0, slots := 0, locals := 0 } : Room) s m #[(.ref a1), (.int p2), (.int p3), (.int p4)] below meth c S0 n0 h0 0 0 (mkF m 3 #[.val (.ref a1), .val (.int p2), .val (.int p3), .val (.int p4), .val (.int i)] []) → own_E p e ({ frames := 0, cells := 0, slots := 0, locals := 0 } : Room) s below S0 n0 (fun v h => v = some (.int z) ∧ h0 = h) := by
    intro n
    induction n with
    | zero =>
      intro i hi hn hz B
      have A3 := B.go (f' := mkF m 5 #[.val (.ref a1), .val (.int p2), .val (.int p3), .val (.int p4), .val (.int i)] [(.int i)]) fun _ _ X _ k => XS.iload X.here hx rfl (hb hby d4_3) rfl k
      have A4 := A3.go (f' := mkF m 6 #[.val (.ref a1), .val (.int p2), .val (.int p3), .val (.int p4), .val (.int i)] [(.int p4), (.int i)]) fun _ _ X _ k => XS.iloadN X.here hx rfl (hb hby d4_5) rfl k
      have q5 : ¬ (i < p4) := by rw [Int32.lt_iff_toInt_lt]; omega
      have A6 := A4.go (f' := mkF m 23 #[.val (.ref a1), .val (.int p2), .val (.int p3), .val (.int p4), .val (.int i)] []) fun _ _ X _ k => XS.icmpYes X.here hx rfl (pc0 := 6) (pc' := 23) rfl (hb hby d4_6) rfl ((flt q5).2.1) (by decide) (by decide) k
      have A7 := A6.go (f' := mkF m 25 #[.val (.ref a1), .val (.int p2), .val (.int p3), .val (.int p4), .val (.int i)] [(.int i)]) fun _ _ X _ k => XS.iload X.here hx rfl (hb hby d4_23) rfl k
      exact A7.ret hx hlk hret (hb hby d4_25) rfl (Or.inl ⟨rfl, by simp, _, rfl⟩) (by decide) (by decide) ⟨by rw [← hz]; rfl, rfl⟩
    | succ n ih =>
      intro i hi hn hz B
      have A8 := B.go (f' := mkF m 5 #[.val (.ref a1), .val (.int p2), .val (.int p3), .val (.int p4), .val (.int i)] [(.int i)]) fun _ _ X _ k => XS.iload X.here hx rfl (hb hby d4_3) rfl k
      have A9 := A8.go (f' := mkF m 6 #[.val (.ref a1), .val (.int p2), .val (.int p3), .val (.int p4), .val (.int i)] [(.int p4), (.int i)]) fun _ _ X _ k => XS.iloadN X.here hx rfl (hb hby d4_5) rfl k
      by_cases q10 : i < p4
      · skip
        have A11 := A9.go (f' := mkF m 9 #[.val (.ref a1), .val (.int p2), .val (.int p3), .val (.int p4), .val (.int i)] []) fun _ _ X _ k => XS.icmpNo X.here hx rfl (hb hby d4_6) rfl ((tlt q10).2.1) k
        have A12 := A11.go (f' := mkF m 10 #[.val (.ref a1), .val (.int p2), .val (.int p3), .val (.int p4), .val (.int i)] [(.ref a1)]) fun _ _ X _ k => XS.aloadN X.here hx rfl (hb hby d4_9) rfl rfl k
        have A13 := A12.go (f' := mkF m 12 #[.val (.ref a1), .val (.int p2), .val (.int p3), .val (.int p4), .val (.int i)] [(.int i), (.ref a1)]) fun _ _ X _ k => XS.iload X.here hx rfl (hb hby d4_10) rfl k
        have A14 : own_R p l e _ _ m _ below meth c S0 n0 h0 0 0 (mkF m 13 #[.val (.ref a1), .val (.int p2), .val (.int p3), .val (.int p4), .val (.int i)] [(.int (own_get es i))]) := A13.ldB hx hZ (hb hby d4_12) Ar (by rw [Int32.lt_iff_toInt_lt, Int32.toInt_zero]; omega) (own_at (own_in hi hlen q10))
        have A15 := A14.go (f' := mkF m 14 #[.val (.ref a1), .val (.int p2), .val (.int p3), .val (.int p4), .val (.int i)] [(.int p2), (.int (own_get es i))]) fun _ _ X _ k => XS.iloadN X.here hx rfl (hb hby d4_13) rfl k
        by_cases q16 : (own_get es i) = p2
        · skip
          have A17 := A15.go (f' := mkF m 23 #[.val (.ref a1), .val (.int p2), .val (.int p3), .val (.int p4), .val (.int i)] []) fun _ _ X _ k => XS.icmpYes X.here hx rfl (pc0 := 14) (pc' := 23) rfl (hb hby d4_14) rfl ((teq q16).1) (by decide) (by decide) k
          have A18 := A17.go (f' := mkF m 25 #[.val (.ref a1), .val (.int p2), .val (.int p3), .val (.int p4), .val (.int i)] [(.int i)]) fun _ _ X _ k => XS.iload X.here hx rfl (hb hby d4_23) rfl k
          exact A18.ret hx hlk hret (hb hby d4_25) rfl (Or.inl ⟨rfl, by simp, _, rfl⟩) (by decide) (by decide) ⟨by rw [← hz]; simp [own_find, q10, q16], rfl⟩
        · skip
          have A19 := A15.go (f' := mkF m 17 #[.val (.ref a1), .val (.int p2), .val (.int p3), .val (.int p4), .val (.int i)] []) fun _ _ X _ k => XS.icmpNo X.here hx rfl (hb hby d4_14) rfl ((feq q16).1) k
          have A20 := A19.go (f' := mkF m 20 #[.val (.ref a1), .val (.int p2), .val (.int p3), .val (.int p4), .val (.int (i + (1 : Int32)))] []) fun _ _ X _ k => XS.iinc X.here hx rfl (hb hby d4_17) rfl (l' := #[.val (.ref a1), .val (.int p2), .val (.int p3), .val (.int p4), .val (.int (i + (1 : Int32)))]) rfl k
          have A21 := A20.go (f' := mkF m 3 #[.val (.ref a1), .val (.int p2), .val (.int p3), .val (.int p4), .val (.int (i + (1 : Int32)))] []) fun _ _ X _ k => XS.goto X.here hx rfl (pc0 := 20) (pc' := 3) rfl (hb hby d4_20) (by decide) (by decide) k
          have e1 := own_succ hi q10
          exact ih (i + (1 : Int32)) (by omega) (by omega) (by rw [← hz]; simp [own_find, q10, q16]) A21
      · skip
        have A22 := A9.go (f' := mkF m 23 #[.val (.ref a1), .val (.int p2), .val (.int p3), .val (.int p4), .val (.int i)] []) fun _ _ X _ k => XS.icmpYes X.here hx rfl (pc0 := 6) (pc' := 23) rfl (hb hby d4_6) rfl ((flt q10).2.1) (by decide) (by decide) k
        have A23 := A22.go (f' := mkF m 25 #[.val (.ref a1), .val (.int p2), .val (.int p3), .val (.int p4), .val (.int i)] [(.int i)]) fun _ _ X _ k => XS.iload X.here hx rfl (hb hby d4_23) rfl k
        exact A23.ret hx hlk hret (hb hby d4_25) rfl (Or.inl ⟨rfl, by simp, _, rfl⟩) (by decide) (by decide) ⟨by rw [← hz]; simp [own_find, q10], rfl⟩
  exact loop 5 p3 hp3 (by omega) hz A2
theorem own_plain (e0 e1 e2 e3 w fr to : Int32) (h0 : 0 ≤ fr.toInt) (h1 : fr.toInt ≤ to.toInt) (h2 : to.toInt ≤ 4) : own_find [e0, e1, e2, e3] w 5 fr to = (if (own_hit (0 : Int32) fr to e0 w) = (0 : Int32) then (if (own_hit (1 : Int32) fr to e1 w) = (0 : Int32) then (if (own_hit (2 : Int32) fr to e2 w) = (0 : Int32) then (if (own_hit (3 : Int32) fr to e3 w) = (0 : Int32) then to else (3 : Int32)) else (2 : Int32)) else (1 : Int32)) else (0 : Int32)) := by
  have k : ∀ x : Int32, 0 ≤ x.toInt → x.toInt ≤ 4 → x = 0 ∨ x = 1 ∨ x = 2 ∨ x = 3 ∨ x = 4 := by
    intro x a b
    have c0 : (0 : Int32).toInt = 0 := by decide
    have c1 : (1 : Int32).toInt = 1 := by decide
    have c2 : (2 : Int32).toInt = 2 := by decide
    have c3 : (3 : Int32).toInt = 3 := by decide
    have c4 : (4 : Int32).toInt = 4 := by decide
    simp only [← Int32.toInt_inj, c0, c1, c2, c3, c4]
    omega
  by_cases a0 : e0 = w <;> by_cases a1 : e1 = w <;> by_cases a2 : e2 = w <;> by_cases a3 : e3 = w <;> rcases k fr h0 (by omega) with rfl | rfl | rfl | rfl | rfl <;> rcases k to (by omega) h2 with rfl | rfl | rfl | rfl | rfl <;> first | (exfalso; revert h1; decide) | simp +decide [own_find, own_get, own_hit, a0, a1, a2, a3]
theorem own_m5 (x : Int32) : 0 ≤ ((x &&& (7 : Int32)) % (5 : Int32)).toInt ∧ ((x &&& (7 : Int32)) % (5 : Int32)).toInt ≤ 4 := by
  have e := Jvm.Kit.i32_mask x 7 (k := 3) (by decide) (by decide)
  have h5 : (5 : Int32).toInt = 5 := by decide
  rw [Int32.toInt_mod, e, h5, Int.tmod_eq_emod_of_nonneg (by omega)]
  omega
theorem own_rng {f t fr to : Int32} (p3 : Int32) (hf : f = ((((p3.toUInt32 >>> ((4 : Int32) &&& 31).toUInt32).toInt32) &&& (7 : Int32)) % (5 : Int32))) (ht : t = ((((p3.toUInt32 >>> ((7 : Int32) &&& 31).toUInt32).toInt32) &&& (7 : Int32)) % (5 : Int32))) (hfr : fr = (if t < f then t else f)) (hto : to = (if f < t then t else f)) : 0 ≤ fr.toInt ∧ fr.toInt ≤ to.toInt ∧ to.toInt ≤ 4 := by
  have a := own_m5 ((p3.toUInt32 >>> ((4 : Int32) &&& 31).toUInt32).toInt32)
  have b := own_m5 ((p3.toUInt32 >>> ((7 : Int32) &&& 31).toUInt32).toInt32)
  rw [← hf] at a
  rw [← ht] at b
  simp only [Int32.lt_iff_toInt_lt] at hfr hto
  subst hfr hto
  split <;> split <;> omega
theorem pd__28II_29I : parseMethodDescriptor "(II)I" = some ⟨[.int, .int], some .int⟩ := by decide +kernel
theorem pd__28_5bBBII_29I : parseMethodDescriptor "([BBII)I" = some ⟨[(.array .byte), .byte, .int, .int], some .int⟩ := by decide +kernel
theorem pd__28_5bBIIIB_29Z : parseMethodDescriptor "([BIIIB)Z" = some ⟨[(.array .byte), .int, .int, .int, .byte], some .boolean⟩ := by decide +kernel
theorem d0_0 : decode code 0 = .ok (.iload_n 1, 1) := at_0
theorem d0_1 : decode code 1 = .ok (.i2b, 1) := at_1
theorem d0_2 : decode code 2 = .ok (.istore_n 3, 1) := at_2
theorem d0_3 : decode code 3 = .ok (.iconst 4, 1) := at_3
theorem d0_4 : decode code 4 = .ok (.newarray .byte, 2) := at_4
theorem d0_6 : decode code 6 = .ok (.astore 4, 2) := at_6
theorem d0_8 : decode code 8 = .ok (.aload 4, 2) := at_8
theorem d0_10 : decode code 10 = .ok (.iconst 0, 1) := at_10
theorem d0_11 : decode code 11 = .ok (.iload_n 2, 1) := at_11
theorem d0_12 : decode code 12 = .ok (.iconst 1, 1) := at_12
theorem d0_13 : decode code 13 = .ok (.iand, 1) := at_13
theorem d0_14 : decode code 14 = .ok (.ifCond .eq 7, 3) := at_14
theorem d0_17 : decode code 17 = .ok (.iload_n 3, 1) := at_17
theorem d0_18 : decode code 18 = .ok (.goto 5, 3) := at_18
theorem d0_21 : decode code 21 = .ok (.iload_n 0, 1) := at_21
theorem d0_22 : decode code 22 = .ok (.i2b, 1) := at_22
theorem d0_23 : decode code 23 = .ok (.bastore, 1) := at_23
theorem d0_24 : decode code 24 = .ok (.aload 4, 2) := at_24
theorem d0_26 : decode code 26 = .ok (.iconst 1, 1) := at_26
theorem d0_27 : decode code 27 = .ok (.iload_n 2, 1) := at_27
theorem d0_28 : decode code 28 = .ok (.iconst 2, 1) := at_28
theorem d0_29 : decode code 29 = .ok (.iand, 1) := at_29
theorem d0_30 : decode code 30 = .ok (.ifCond .eq 7, 3) := at_30
theorem d0_33 : decode code 33 = .ok (.iload_n 3, 1) := at_33
theorem d0_34 : decode code 34 = .ok (.goto 8, 3) := at_34
theorem d0_37 : decode code 37 = .ok (.iload_n 0, 1) := at_37
theorem d0_38 : decode code 38 = .ok (.bipush 8, 2) := at_38
theorem d0_40 : decode code 40 = .ok (.ishr, 1) := at_40
theorem d0_41 : decode code 41 = .ok (.i2b, 1) := at_41
theorem d0_42 : decode code 42 = .ok (.bastore, 1) := at_42
theorem d0_43 : decode code 43 = .ok (.aload 4, 2) := at_43
theorem d0_45 : decode code 45 = .ok (.iconst 2, 1) := at_45
theorem d0_46 : decode code 46 = .ok (.iload_n 2, 1) := at_46
theorem d0_47 : decode code 47 = .ok (.iconst 4, 1) := at_47
theorem d0_48 : decode code 48 = .ok (.iand, 1) := at_48
theorem d0_49 : decode code 49 = .ok (.ifCond .eq 7, 3) := at_49
theorem d0_52 : decode code 52 = .ok (.iload_n 3, 1) := at_52
theorem d0_53 : decode code 53 = .ok (.goto 8, 3) := at_53
theorem d0_56 : decode code 56 = .ok (.iload_n 0, 1) := at_56
theorem d0_57 : decode code 57 = .ok (.bipush 16, 2) := at_57
theorem d0_59 : decode code 59 = .ok (.ishr, 1) := at_59
theorem d0_60 : decode code 60 = .ok (.i2b, 1) := at_60
theorem d0_61 : decode code 61 = .ok (.bastore, 1) := at_61
theorem d0_62 : decode code 62 = .ok (.aload 4, 2) := at_62
theorem d0_64 : decode code 64 = .ok (.iconst 3, 1) := at_64
theorem d0_65 : decode code 65 = .ok (.iload_n 2, 1) := at_65
theorem d0_66 : decode code 66 = .ok (.bipush 8, 2) := at_66
theorem d0_68 : decode code 68 = .ok (.iand, 1) := at_68
theorem d0_69 : decode code 69 = .ok (.ifCond .eq 7, 3) := at_69
theorem d0_72 : decode code 72 = .ok (.iload_n 3, 1) := at_72
theorem d0_73 : decode code 73 = .ok (.goto 8, 3) := at_73
theorem d0_76 : decode code 76 = .ok (.iload_n 0, 1) := at_76
theorem d0_77 : decode code 77 = .ok (.bipush 24, 2) := at_77
theorem d0_79 : decode code 79 = .ok (.ishr, 1) := at_79
theorem d0_80 : decode code 80 = .ok (.i2b, 1) := at_80
theorem d0_81 : decode code 81 = .ok (.bastore, 1) := at_81
theorem d0_82 : decode code 82 = .ok (.iload_n 2, 1) := at_82
theorem d0_83 : decode code 83 = .ok (.iconst 4, 1) := at_83
theorem d0_84 : decode code 84 = .ok (.iushr, 1) := at_84
theorem d0_85 : decode code 85 = .ok (.bipush 7, 2) := at_85
theorem d0_87 : decode code 87 = .ok (.iand, 1) := at_87
theorem d0_88 : decode code 88 = .ok (.iconst 5, 1) := at_88
theorem d0_89 : decode code 89 = .ok (.irem, 1) := at_89
theorem d0_90 : decode code 90 = .ok (.istore 5, 2) := at_90
theorem d0_92 : decode code 92 = .ok (.iload_n 2, 1) := at_92
theorem d0_93 : decode code 93 = .ok (.bipush 7, 2) := at_93
theorem d0_95 : decode code 95 = .ok (.iushr, 1) := at_95
theorem d0_96 : decode code 96 = .ok (.bipush 7, 2) := at_96
theorem d0_98 : decode code 98 = .ok (.iand, 1) := at_98
theorem d0_99 : decode code 99 = .ok (.iconst 5, 1) := at_99
theorem d0_100 : decode code 100 = .ok (.irem, 1) := at_100
theorem d0_101 : decode code 101 = .ok (.istore 6, 2) := at_101
theorem d0_103 : decode code 103 = .ok (.iload 5, 2) := at_103
theorem d0_105 : decode code 105 = .ok (.iload 6, 2) := at_105
theorem d0_107 : decode code 107 = .ok (.invokestatic 7, 3) := at_107
theorem d0_110 : decode code 110 = .ok (.istore 7, 2) := at_110
theorem d0_112 : decode code 112 = .ok (.iload 5, 2) := at_112
theorem d0_114 : decode code 114 = .ok (.iload 6, 2) := at_114
theorem d0_116 : decode code 116 = .ok (.invokestatic 13, 3) := at_116
theorem d0_119 : decode code 119 = .ok (.istore 8, 2) := at_119
theorem d0_121 : decode code 121 = .ok (.iload 8, 2) := at_121
theorem d0_123 : decode code 123 = .ok (.istore 9, 2) := at_123
theorem d0_125 : decode code 125 = .ok (.aload 4, 2) := at_125
theorem d0_127 : decode code 127 = .ok (.iconst 3, 1) := at_127
theorem d0_128 : decode code 128 = .ok (.iload 7, 2) := at_128
theorem d0_130 : decode code 130 = .ok (.iload 8, 2) := at_130
theorem d0_132 : decode code 132 = .ok (.iload_n 3, 1) := at_132
theorem d0_133 : decode code 133 = .ok (.invokestatic 16, 3) := at_133
theorem d0_136 : decode code 136 = .ok (.ifCond .eq 6, 3) := at_136
theorem d0_139 : decode code 139 = .ok (.iconst 3, 1) := at_139
theorem d0_140 : decode code 140 = .ok (.istore 9, 2) := at_140
theorem d0_142 : decode code 142 = .ok (.aload 4, 2) := at_142
theorem d0_144 : decode code 144 = .ok (.iconst 2, 1) := at_144
theorem d0_145 : decode code 145 = .ok (.iload 7, 2) := at_145
theorem d0_147 : decode code 147 = .ok (.iload 8, 2) := at_147
theorem d0_149 : decode code 149 = .ok (.iload_n 3, 1) := at_149
theorem d0_150 : decode code 150 = .ok (.invokestatic 16, 3) := at_150
theorem d0_153 : decode code 153 = .ok (.ifCond .eq 6, 3) := at_153
theorem d0_156 : decode code 156 = .ok (.iconst 2, 1) := at_156
theorem d0_157 : decode code 157 = .ok (.istore 9, 2) := at_157
theorem d0_159 : decode code 159 = .ok (.aload 4, 2) := at_159
theorem d0_161 : decode code 161 = .ok (.iconst 1, 1) := at_161
theorem d0_162 : decode code 162 = .ok (.iload 7, 2) := at_162
theorem d0_164 : decode code 164 = .ok (.iload 8, 2) := at_164
theorem d0_166 : decode code 166 = .ok (.iload_n 3, 1) := at_166
theorem d0_167 : decode code 167 = .ok (.invokestatic 16, 3) := at_167
theorem d0_170 : decode code 170 = .ok (.ifCond .eq 6, 3) := at_170
theorem d0_173 : decode code 173 = .ok (.iconst 1, 1) := at_173
theorem d0_174 : decode code 174 = .ok (.istore 9, 2) := at_174
theorem d0_176 : decode code 176 = .ok (.aload 4, 2) := at_176
theorem d0_178 : decode code 178 = .ok (.iconst 0, 1) := at_178
theorem d0_179 : decode code 179 = .ok (.iload 7, 2) := at_179
theorem d0_181 : decode code 181 = .ok (.iload 8, 2) := at_181
theorem d0_183 : decode code 183 = .ok (.iload_n 3, 1) := at_183
theorem d0_184 : decode code 184 = .ok (.invokestatic 16, 3) := at_184
theorem d0_187 : decode code 187 = .ok (.ifCond .eq 6, 3) := at_187
theorem d0_190 : decode code 190 = .ok (.iconst 0, 1) := at_190
theorem d0_191 : decode code 191 = .ok (.istore 9, 2) := at_191
theorem d0_193 : decode code 193 = .ok (.aload 4, 2) := at_193
theorem d0_195 : decode code 195 = .ok (.iload_n 3, 1) := at_195
theorem d0_196 : decode code 196 = .ok (.iload 7, 2) := at_196
theorem d0_198 : decode code 198 = .ok (.iload 8, 2) := at_198
theorem d0_200 : decode code 200 = .ok (.invokestatic 22, 3) := at_200
theorem d0_203 : decode code 203 = .ok (.iload 9, 2) := at_203
theorem d0_205 : decode code 205 = .ok (.if_icmp .ne 7, 3) := at_205
theorem d0_208 : decode code 208 = .ok (.iconst 1, 1) := at_208
theorem d0_209 : decode code 209 = .ok (.goto 4, 3) := at_209
theorem d0_213 : decode code 213 = .ok (.ireturn, 1) := at_213
theorem ef0 (m : MethodId) (p1 : Int32) (p2 : Int32) (p3 : Int32) : entryFrame m #[(.int p1), (.int p2), (.int p3)] maxLocals = mkF m 0 #[.val (.int p1), .val (.int p2), .val (.int p3), .unset, .unset, .unset, .unset, .unset, .unset, .unset] [] := by first | (simp [entryFrame, mkF, argsToLocals, Value.category, maxLocals]; done) | rfl
set_option maxRecDepth 65536 in
set_option maxHeartbeats 40000000 in
theorem own_law (l : Launch) (Z : State) (a0 : Array Value) (hw : ∀ d ∈ tables_1, d.before a0 Z = true) (p1 p2 p3 : Int32) (h0 : Heap) (n0 : Nat) (Z0 : n0 ≤ h0.size)  :
    own_M l Z x code maxLocals ret tables_1 room_1 #[(.int p1), (.int p2), (.int p3)] h0 n0 (fun v h => v = some (.int 1) ∧ True) := by
  refine own_M.of (plainFor_of_name (by first | (simp [plainName, overriddenIn]; done) | decide +kernel)) ?_
  intro p e s m below meth c S0 hx hby hml hown hnm hret hlk hZ A00
  have A0 := A00.cast (ef0 m p1 p2 p3)
  have A1 := A0.go (f' := mkF m 1 #[.val (.int p1), .val (.int p2), .val (.int p3), .unset, .unset, .unset, .unset, .unset, .unset, .unset] [(.int p2)]) fun _ _ X _ k => XS.iloadN X.here hx rfl (hb hby d0_0) rfl k
  have A2 := A1.go (f' := mkF m 2 #[.val (.int p1), .val (.int p2), .val (.int p3), .unset, .unset, .unset, .unset, .unset, .unset, .unset] [(.int (p2.toInt8.toInt32))]) fun _ _ X _ k => XS.i2b X.here hx rfl (hb hby d0_1) rfl k
  have A3 := A2.go (f' := mkF m 3 #[.val (.int p1), .val (.int p2), .val (.int p3), .val (.int (p2.toInt8.toInt32)), .unset, .unset, .unset, .unset, .unset, .unset] []) fun _ _ X _ k => XS.istoreN X.here hx rfl (hb hby d0_2) rfl (l' := #[.val (.int p1), .val (.int p2), .val (.int p3), .val (.int (p2.toInt8.toInt32)), .unset, .unset, .unset, .unset, .unset, .unset]) rfl k
  have A4 := A3.go (f' := mkF m 4 #[.val (.int p1), .val (.int p2), .val (.int p3), .val (.int (p2.toInt8.toInt32)), .unset, .unset, .unset, .unset, .unset, .unset] [(.int (4 : Int32))]) fun _ _ X _ k => XS.iconst X.here hx rfl (hb hby d0_3) k
  obtain ⟨h5, E6, V_xb, A7⟩ := A4.newP hx hZ (hb hby d0_4) (hw _ (List.mem_of_getElem? (i := 0) rfl)) (by decide) (cap := 4) (by decide) (by decide) (by decide) (by decide)
  obtain ⟨xb, gxb⟩ : ∃ z, z = h0.size := ⟨_, rfl⟩
  rw [← gxb] at V_xb A7
  have g_xb : n0 ≤ xb := by rw [gxb]; exact Z0
  have Z0 : n0 ≤ h5.size := Nat.le_trans Z0 E6.1
  have V_xb : own_Ar Z h5 xb .byte [(.int (0 : Int32)), (.int (0 : Int32)), (.int (0 : Int32)), (.int (0 : Int32))] := V_xb
  have A8 : own_R p l e _ _ m _ below meth c S0 n0 h5 1 4 (mkF m 6 #[.val (.int p1), .val (.int p2), .val (.int p3), .val (.int (p2.toInt8.toInt32)), .unset, .unset, .unset, .unset, .unset, .unset] [(.ref xb)]) := A7
  have A9 := A8.go (f' := mkF m 8 #[.val (.int p1), .val (.int p2), .val (.int p3), .val (.int (p2.toInt8.toInt32)), .val (.ref xb), .unset, .unset, .unset, .unset, .unset] []) fun _ _ X _ k => XS.astore X.here hx rfl (hb hby d0_6) rfl rfl (l' := #[.val (.int p1), .val (.int p2), .val (.int p3), .val (.int (p2.toInt8.toInt32)), .val (.ref xb), .unset, .unset, .unset, .unset, .unset]) rfl k
  have A10 := A9.go (f' := mkF m 10 #[.val (.int p1), .val (.int p2), .val (.int p3), .val (.int (p2.toInt8.toInt32)), .val (.ref xb), .unset, .unset, .unset, .unset, .unset] [(.ref xb)]) fun _ _ X _ k => XS.aload X.here hx rfl (hb hby d0_8) rfl rfl k
  have A11 := A10.go (f' := mkF m 11 #[.val (.int p1), .val (.int p2), .val (.int p3), .val (.int (p2.toInt8.toInt32)), .val (.ref xb), .unset, .unset, .unset, .unset, .unset] [(.int (0 : Int32)), (.ref xb)]) fun _ _ X _ k => XS.iconst X.here hx rfl (hb hby d0_10) k
  have A12 := A11.go (f' := mkF m 12 #[.val (.int p1), .val (.int p2), .val (.int p3), .val (.int (p2.toInt8.toInt32)), .val (.ref xb), .unset, .unset, .unset, .unset, .unset] [(.int p3), (.int (0 : Int32)), (.ref xb)]) fun _ _ X _ k => XS.iloadN X.here hx rfl (hb hby d0_11) rfl k
  have A13 := A12.go (f' := mkF m 13 #[.val (.int p1), .val (.int p2), .val (.int p3), .val (.int (p2.toInt8.toInt32)), .val (.ref xb), .unset, .unset, .unset, .unset, .unset] [(.int (1 : Int32)), (.int p3), (.int (0 : Int32)), (.ref xb)]) fun _ _ X _ k => XS.iconst X.here hx rfl (hb hby d0_12) k
  have A14 := A13.go (f' := mkF m 14 #[.val (.int p1), .val (.int p2), .val (.int p3), .val (.int (p2.toInt8.toInt32)), .val (.ref xb), .unset, .unset, .unset, .unset, .unset] [(.int (p3 &&& (1 : Int32))), (.int (0 : Int32)), (.ref xb)]) fun _ _ X _ k => XS.iand X.here hx rfl (hb hby d0_13) rfl k
  have A16 : own_R p l e room_1 s m #[(.int p1), (.int p2), (.int p3)] below meth c S0 n0 h5 1 4 (mkF m 23 #[.val (.int p1), .val (.int p2), .val (.int p3), .val (.int (p2.toInt8.toInt32)), .val (.ref xb), .unset, .unset, .unset, .unset, .unset] [(.int (if (p3 &&& (1 : Int32)) = (0 : Int32) then (p1.toInt8.toInt32) else (p2.toInt8.toInt32))), (.int (0 : Int32)), (.ref xb)]) := by
    by_cases q15 : (p3 &&& (1 : Int32)) = (0 : Int32)
    · skip
      have A17 := A14.go (f' := mkF m 21 #[.val (.int p1), .val (.int p2), .val (.int p3), .val (.int (p2.toInt8.toInt32)), .val (.ref xb), .unset, .unset, .unset, .unset, .unset] [(.int (0 : Int32)), (.ref xb)]) fun _ _ X _ k => XS.ifYes X.here hx rfl (pc0 := 14) (pc' := 21) rfl (hb hby d0_14) rfl ((if0 _ _).trans (teq q15).1) (by decide) (by decide) k
      have A18 := A17.go (f' := mkF m 22 #[.val (.int p1), .val (.int p2), .val (.int p3), .val (.int (p2.toInt8.toInt32)), .val (.ref xb), .unset, .unset, .unset, .unset, .unset] [(.int p1), (.int (0 : Int32)), (.ref xb)]) fun _ _ X _ k => XS.iloadN X.here hx rfl (hb hby d0_21) rfl k
      have A19 := A18.go (f' := mkF m 23 #[.val (.int p1), .val (.int p2), .val (.int p3), .val (.int (p2.toInt8.toInt32)), .val (.ref xb), .unset, .unset, .unset, .unset, .unset] [(.int (p1.toInt8.toInt32)), (.int (0 : Int32)), (.ref xb)]) fun _ _ X _ k => XS.i2b X.here hx rfl (hb hby d0_22) rfl k
      simp only [if_pos q15]
      exact A19
    · skip
      have A20 := A14.go (f' := mkF m 17 #[.val (.int p1), .val (.int p2), .val (.int p3), .val (.int (p2.toInt8.toInt32)), .val (.ref xb), .unset, .unset, .unset, .unset, .unset] [(.int (0 : Int32)), (.ref xb)]) fun _ _ X _ k => XS.ifNo X.here hx rfl (hb hby d0_14) rfl ((if0 _ _).trans (feq q15).1) k
      have A21 := A20.go (f' := mkF m 18 #[.val (.int p1), .val (.int p2), .val (.int p3), .val (.int (p2.toInt8.toInt32)), .val (.ref xb), .unset, .unset, .unset, .unset, .unset] [(.int (p2.toInt8.toInt32)), (.int (0 : Int32)), (.ref xb)]) fun _ _ X _ k => XS.iloadN X.here hx rfl (hb hby d0_17) rfl k
      have A22 := A21.go (f' := mkF m 23 #[.val (.int p1), .val (.int p2), .val (.int p3), .val (.int (p2.toInt8.toInt32)), .val (.ref xb), .unset, .unset, .unset, .unset, .unset] [(.int (p2.toInt8.toInt32)), (.int (0 : Int32)), (.ref xb)]) fun _ _ X _ k => XS.goto X.here hx rfl (pc0 := 18) (pc' := 23) rfl (hb hby d0_18) (by decide) (by decide) k
      simp only [if_neg q15]
      exact A22
  obtain ⟨v0, hv0⟩ : ∃ zq_, zq_ = (if (p3 &&& (1 : Int32)) = (0 : Int32) then (p1.toInt8.toInt32) else (p2.toInt8.toInt32)) := ⟨_, rfl⟩
  rw [← hv0] at A16
  obtain ⟨h23, W24, A25⟩ := A16.stB hx hZ (hb hby d0_23) V_xb (by decide) (by simp +decide) g_xb
  have V_xb : own_Ar Z h23 xb .byte [(.int (nar .byte v0)), (.int (0 : Int32)), (.int (0 : Int32)), (.int (0 : Int32))] := V_xb.same W24
  have Z0 : n0 ≤ h23.size := by rw [W24.size]; exact Z0
  have A26 : own_R p l e _ _ m _ below meth c S0 n0 h23 1 4 (mkF m 24 #[.val (.int p1), .val (.int p2), .val (.int p3), .val (.int (p2.toInt8.toInt32)), .val (.ref xb), .unset, .unset, .unset, .unset, .unset] []) := A25
  have A27 := A26.go (f' := mkF m 26 #[.val (.int p1), .val (.int p2), .val (.int p3), .val (.int (p2.toInt8.toInt32)), .val (.ref xb), .unset, .unset, .unset, .unset, .unset] [(.ref xb)]) fun _ _ X _ k => XS.aload X.here hx rfl (hb hby d0_24) rfl rfl k
  have A28 := A27.go (f' := mkF m 27 #[.val (.int p1), .val (.int p2), .val (.int p3), .val (.int (p2.toInt8.toInt32)), .val (.ref xb), .unset, .unset, .unset, .unset, .unset] [(.int (1 : Int32)), (.ref xb)]) fun _ _ X _ k => XS.iconst X.here hx rfl (hb hby d0_26) k
  have A29 := A28.go (f' := mkF m 28 #[.val (.int p1), .val (.int p2), .val (.int p3), .val (.int (p2.toInt8.toInt32)), .val (.ref xb), .unset, .unset, .unset, .unset, .unset] [(.int p3), (.int (1 : Int32)), (.ref xb)]) fun _ _ X _ k => XS.iloadN X.here hx rfl (hb hby d0_27) rfl k
  have A30 := A29.go (f' := mkF m 29 #[.val (.int p1), .val (.int p2), .val (.int p3), .val (.int (p2.toInt8.toInt32)), .val (.ref xb), .unset, .unset, .unset, .unset, .unset] [(.int (2 : Int32)), (.int p3), (.int (1 : Int32)), (.ref xb)]) fun _ _ X _ k => XS.iconst X.here hx rfl (hb hby d0_28) k
  have A31 := A30.go (f' := mkF m 30 #[.val (.int p1), .val (.int p2), .val (.int p3), .val (.int (p2.toInt8.toInt32)), .val (.ref xb), .unset, .unset, .unset, .unset, .unset] [(.int (p3 &&& (2 : Int32))), (.int (1 : Int32)), (.ref xb)]) fun _ _ X _ k => XS.iand X.here hx rfl (hb hby d0_29) rfl k
  have A33 : own_R p l e room_1 s m #[(.int p1), (.int p2), (.int p3)] below meth c S0 n0 h23 1 4 (mkF m 42 #[.val (.int p1), .val (.int p2), .val (.int p3), .val (.int (p2.toInt8.toInt32)), .val (.ref xb), .unset, .unset, .unset, .unset, .unset] [(.int (if (p3 &&& (2 : Int32)) = (0 : Int32) then ((p1 >>> ((8 : Int32) &&& 31)).toInt8.toInt32) else (p2.toInt8.toInt32))), (.int (1 : Int32)), (.ref xb)]) := by
    by_cases q32 : (p3 &&& (2 : Int32)) = (0 : Int32)
    · skip
      have A34 := A31.go (f' := mkF m 37 #[.val (.int p1), .val (.int p2), .val (.int p3), .val (.int (p2.toInt8.toInt32)), .val (.ref xb), .unset, .unset, .unset, .unset, .unset] [(.int (1 : Int32)), (.ref xb)]) fun _ _ X _ k => XS.ifYes X.here hx rfl (pc0 := 30) (pc' := 37) rfl (hb hby d0_30) rfl ((if0 _ _).trans (teq q32).1) (by decide) (by decide) k
      have A35 := A34.go (f' := mkF m 38 #[.val (.int p1), .val (.int p2), .val (.int p3), .val (.int (p2.toInt8.toInt32)), .val (.ref xb), .unset, .unset, .unset, .unset, .unset] [(.int p1), (.int (1 : Int32)), (.ref xb)]) fun _ _ X _ k => XS.iloadN X.here hx rfl (hb hby d0_37) rfl k
      have A36 := A35.go (f' := mkF m 40 #[.val (.int p1), .val (.int p2), .val (.int p3), .val (.int (p2.toInt8.toInt32)), .val (.ref xb), .unset, .unset, .unset, .unset, .unset] [(.int (8 : Int32)), (.int p1), (.int (1 : Int32)), (.ref xb)]) fun _ _ X _ k => XS.bipush X.here hx rfl (hb hby d0_38) k
      have A37 := A36.go (f' := mkF m 41 #[.val (.int p1), .val (.int p2), .val (.int p3), .val (.int (p2.toInt8.toInt32)), .val (.ref xb), .unset, .unset, .unset, .unset, .unset] [(.int (p1 >>> ((8 : Int32) &&& 31))), (.int (1 : Int32)), (.ref xb)]) fun _ _ X _ k => XS.ishr X.here hx rfl (hb hby d0_40) rfl k
      have A38 := A37.go (f' := mkF m 42 #[.val (.int p1), .val (.int p2), .val (.int p3), .val (.int (p2.toInt8.toInt32)), .val (.ref xb), .unset, .unset, .unset, .unset, .unset] [(.int ((p1 >>> ((8 : Int32) &&& 31)).toInt8.toInt32)), (.int (1 : Int32)), (.ref xb)]) fun _ _ X _ k => XS.i2b X.here hx rfl (hb hby d0_41) rfl k
      simp only [if_pos q32]
      exact A38
    · skip
      have A39 := A31.go (f' := mkF m 33 #[.val (.int p1), .val (.int p2), .val (.int p3), .val (.int (p2.toInt8.toInt32)), .val (.ref xb), .unset, .unset, .unset, .unset, .unset] [(.int (1 : Int32)), (.ref xb)]) fun _ _ X _ k => XS.ifNo X.here hx rfl (hb hby d0_30) rfl ((if0 _ _).trans (feq q32).1) k
      have A40 := A39.go (f' := mkF m 34 #[.val (.int p1), .val (.int p2), .val (.int p3), .val (.int (p2.toInt8.toInt32)), .val (.ref xb), .unset, .unset, .unset, .unset, .unset] [(.int (p2.toInt8.toInt32)), (.int (1 : Int32)), (.ref xb)]) fun _ _ X _ k => XS.iloadN X.here hx rfl (hb hby d0_33) rfl k
      have A41 := A40.go (f' := mkF m 42 #[.val (.int p1), .val (.int p2), .val (.int p3), .val (.int (p2.toInt8.toInt32)), .val (.ref xb), .unset, .unset, .unset, .unset, .unset] [(.int (p2.toInt8.toInt32)), (.int (1 : Int32)), (.ref xb)]) fun _ _ X _ k => XS.goto X.here hx rfl (pc0 := 34) (pc' := 42) rfl (hb hby d0_34) (by decide) (by decide) k
      simp only [if_neg q32]
      exact A41
  obtain ⟨v1, hv1⟩ : ∃ zq_, zq_ = (if (p3 &&& (2 : Int32)) = (0 : Int32) then ((p1 >>> ((8 : Int32) &&& 31)).toInt8.toInt32) else (p2.toInt8.toInt32)) := ⟨_, rfl⟩
  rw [← hv1] at A33
  obtain ⟨h42, W43, A44⟩ := A33.stB hx hZ (hb hby d0_42) V_xb (by decide) (by simp +decide) g_xb
  have V_xb : own_Ar Z h42 xb .byte [(.int (nar .byte v0)), (.int (nar .byte v1)), (.int (0 : Int32)), (.int (0 : Int32))] := V_xb.same W43
  have Z0 : n0 ≤ h42.size := by rw [W43.size]; exact Z0
  have A45 : own_R p l e _ _ m _ below meth c S0 n0 h42 1 4 (mkF m 43 #[.val (.int p1), .val (.int p2), .val (.int p3), .val (.int (p2.toInt8.toInt32)), .val (.ref xb), .unset, .unset, .unset, .unset, .unset] []) := A44
  have A46 := A45.go (f' := mkF m 45 #[.val (.int p1), .val (.int p2), .val (.int p3), .val (.int (p2.toInt8.toInt32)), .val (.ref xb), .unset, .unset, .unset, .unset, .unset] [(.ref xb)]) fun _ _ X _ k => XS.aload X.here hx rfl (hb hby d0_43) rfl rfl k
  have A47 := A46.go (f' := mkF m 46 #[.val (.int p1), .val (.int p2), .val (.int p3), .val (.int (p2.toInt8.toInt32)), .val (.ref xb), .unset, .unset, .unset, .unset, .unset] [(.int (2 : Int32)), (.ref xb)]) fun _ _ X _ k => XS.iconst X.here hx rfl (hb hby d0_45) k
  have A48 := A47.go (f' := mkF m 47 #[.val (.int p1), .val (.int p2), .val (.int p3), .val (.int (p2.toInt8.toInt32)), .val (.ref xb), .unset, .unset, .unset, .unset, .unset] [(.int p3), (.int (2 : Int32)), (.ref xb)]) fun _ _ X _ k => XS.iloadN X.here hx rfl (hb hby d0_46) rfl k
  have A49 := A48.go (f' := mkF m 48 #[.val (.int p1), .val (.int p2), .val (.int p3), .val (.int (p2.toInt8.toInt32)), .val (.ref xb), .unset, .unset, .unset, .unset, .unset] [(.int (4 : Int32)), (.int p3), (.int (2 : Int32)), (.ref xb)]) fun _ _ X _ k => XS.iconst X.here hx rfl (hb hby d0_47) k
  have A50 := A49.go (f' := mkF m 49 #[.val (.int p1), .val (.int p2), .val (.int p3), .val (.int (p2.toInt8.toInt32)), .val (.ref xb), .unset, .unset, .unset, .unset, .unset] [(.int (p3 &&& (4 : Int32))), (.int (2 : Int32)), (.ref xb)]) fun _ _ X _ k => XS.iand X.here hx rfl (hb hby d0_48) rfl k
  have A52 : own_R p l e room_1 s m #[(.int p1), (.int p2), (.int p3)] below meth c S0 n0 h42 1 4 (mkF m 61 #[.val (.int p1), .val (.int p2), .val (.int p3), .val (.int (p2.toInt8.toInt32)), .val (.ref xb), .unset, .unset, .unset, .unset, .unset] [(.int (if (p3 &&& (4 : Int32)) = (0 : Int32) then ((p1 >>> ((16 : Int32) &&& 31)).toInt8.toInt32) else (p2.toInt8.toInt32))), (.int (2 : Int32)), (.ref xb)]) := by
    by_cases q51 : (p3 &&& (4 : Int32)) = (0 : Int32)
    · skip
      have A53 := A50.go (f' := mkF m 56 #[.val (.int p1), .val (.int p2), .val (.int p3), .val (.int (p2.toInt8.toInt32)), .val (.ref xb), .unset, .unset, .unset, .unset, .unset] [(.int (2 : Int32)), (.ref xb)]) fun _ _ X _ k => XS.ifYes X.here hx rfl (pc0 := 49) (pc' := 56) rfl (hb hby d0_49) rfl ((if0 _ _).trans (teq q51).1) (by decide) (by decide) k
      have A54 := A53.go (f' := mkF m 57 #[.val (.int p1), .val (.int p2), .val (.int p3), .val (.int (p2.toInt8.toInt32)), .val (.ref xb), .unset, .unset, .unset, .unset, .unset] [(.int p1), (.int (2 : Int32)), (.ref xb)]) fun _ _ X _ k => XS.iloadN X.here hx rfl (hb hby d0_56) rfl k
      have A55 := A54.go (f' := mkF m 59 #[.val (.int p1), .val (.int p2), .val (.int p3), .val (.int (p2.toInt8.toInt32)), .val (.ref xb), .unset, .unset, .unset, .unset, .unset] [(.int (16 : Int32)), (.int p1), (.int (2 : Int32)), (.ref xb)]) fun _ _ X _ k => XS.bipush X.here hx rfl (hb hby d0_57) k
      have A56 := A55.go (f' := mkF m 60 #[.val (.int p1), .val (.int p2), .val (.int p3), .val (.int (p2.toInt8.toInt32)), .val (.ref xb), .unset, .unset, .unset, .unset, .unset] [(.int (p1 >>> ((16 : Int32) &&& 31))), (.int (2 : Int32)), (.ref xb)]) fun _ _ X _ k => XS.ishr X.here hx rfl (hb hby d0_59) rfl k
      have A57 := A56.go (f' := mkF m 61 #[.val (.int p1), .val (.int p2), .val (.int p3), .val (.int (p2.toInt8.toInt32)), .val (.ref xb), .unset, .unset, .unset, .unset, .unset] [(.int ((p1 >>> ((16 : Int32) &&& 31)).toInt8.toInt32)), (.int (2 : Int32)), (.ref xb)]) fun _ _ X _ k => XS.i2b X.here hx rfl (hb hby d0_60) rfl k
      simp only [if_pos q51]
      exact A57
    · skip
      have A58 := A50.go (f' := mkF m 52 #[.val (.int p1), .val (.int p2), .val (.int p3), .val (.int (p2.toInt8.toInt32)), .val (.ref xb), .unset, .unset, .unset, .unset, .unset] [(.int (2 : Int32)), (.ref xb)]) fun _ _ X _ k => XS.ifNo X.here hx rfl (hb hby d0_49) rfl ((if0 _ _).trans (feq q51).1) k
      have A59 := A58.go (f' := mkF m 53 #[.val (.int p1), .val (.int p2), .val (.int p3), .val (.int (p2.toInt8.toInt32)), .val (.ref xb), .unset, .unset, .unset, .unset, .unset] [(.int (p2.toInt8.toInt32)), (.int (2 : Int32)), (.ref xb)]) fun _ _ X _ k => XS.iloadN X.here hx rfl (hb hby d0_52) rfl k
      have A60 := A59.go (f' := mkF m 61 #[.val (.int p1), .val (.int p2), .val (.int p3), .val (.int (p2.toInt8.toInt32)), .val (.ref xb), .unset, .unset, .unset, .unset, .unset] [(.int (p2.toInt8.toInt32)), (.int (2 : Int32)), (.ref xb)]) fun _ _ X _ k => XS.goto X.here hx rfl (pc0 := 53) (pc' := 61) rfl (hb hby d0_53) (by decide) (by decide) k
      simp only [if_neg q51]
      exact A60
  obtain ⟨v2, hv2⟩ : ∃ zq_, zq_ = (if (p3 &&& (4 : Int32)) = (0 : Int32) then ((p1 >>> ((16 : Int32) &&& 31)).toInt8.toInt32) else (p2.toInt8.toInt32)) := ⟨_, rfl⟩
  rw [← hv2] at A52
  obtain ⟨h61, W62, A63⟩ := A52.stB hx hZ (hb hby d0_61) V_xb (by decide) (by simp +decide) g_xb
  have V_xb : own_Ar Z h61 xb .byte [(.int (nar .byte v0)), (.int (nar .byte v1)), (.int (nar .byte v2)), (.int (0 : Int32))] := V_xb.same W62
  have Z0 : n0 ≤ h61.size := by rw [W62.size]; exact Z0
  have A64 : own_R p l e _ _ m _ below meth c S0 n0 h61 1 4 (mkF m 62 #[.val (.int p1), .val (.int p2), .val (.int p3), .val (.int (p2.toInt8.toInt32)), .val (.ref xb), .unset, .unset, .unset, .unset, .unset] []) := A63
  have A65 := A64.go (f' := mkF m 64 #[.val (.int p1), .val (.int p2), .val (.int p3), .val (.int (p2.toInt8.toInt32)), .val (.ref xb), .unset, .unset, .unset, .unset, .unset] [(.ref xb)]) fun _ _ X _ k => XS.aload X.here hx rfl (hb hby d0_62) rfl rfl k
  have A66 := A65.go (f' := mkF m 65 #[.val (.int p1), .val (.int p2), .val (.int p3), .val (.int (p2.toInt8.toInt32)), .val (.ref xb), .unset, .unset, .unset, .unset, .unset] [(.int (3 : Int32)), (.ref xb)]) fun _ _ X _ k => XS.iconst X.here hx rfl (hb hby d0_64) k
  have A67 := A66.go (f' := mkF m 66 #[.val (.int p1), .val (.int p2), .val (.int p3), .val (.int (p2.toInt8.toInt32)), .val (.ref xb), .unset, .unset, .unset, .unset, .unset] [(.int p3), (.int (3 : Int32)), (.ref xb)]) fun _ _ X _ k => XS.iloadN X.here hx rfl (hb hby d0_65) rfl k
  have A68 := A67.go (f' := mkF m 68 #[.val (.int p1), .val (.int p2), .val (.int p3), .val (.int (p2.toInt8.toInt32)), .val (.ref xb), .unset, .unset, .unset, .unset, .unset] [(.int (8 : Int32)), (.int p3), (.int (3 : Int32)), (.ref xb)]) fun _ _ X _ k => XS.bipush X.here hx rfl (hb hby d0_66) k
  have A69 := A68.go (f' := mkF m 69 #[.val (.int p1), .val (.int p2), .val (.int p3), .val (.int (p2.toInt8.toInt32)), .val (.ref xb), .unset, .unset, .unset, .unset, .unset] [(.int (p3 &&& (8 : Int32))), (.int (3 : Int32)), (.ref xb)]) fun _ _ X _ k => XS.iand X.here hx rfl (hb hby d0_68) rfl k
  have A71 : own_R p l e room_1 s m #[(.int p1), (.int p2), (.int p3)] below meth c S0 n0 h61 1 4 (mkF m 81 #[.val (.int p1), .val (.int p2), .val (.int p3), .val (.int (p2.toInt8.toInt32)), .val (.ref xb), .unset, .unset, .unset, .unset, .unset] [(.int (if (p3 &&& (8 : Int32)) = (0 : Int32) then ((p1 >>> ((24 : Int32) &&& 31)).toInt8.toInt32) else (p2.toInt8.toInt32))), (.int (3 : Int32)), (.ref xb)]) := by
    by_cases q70 : (p3 &&& (8 : Int32)) = (0 : Int32)
    · skip
      have A72 := A69.go (f' := mkF m 76 #[.val (.int p1), .val (.int p2), .val (.int p3), .val (.int (p2.toInt8.toInt32)), .val (.ref xb), .unset, .unset, .unset, .unset, .unset] [(.int (3 : Int32)), (.ref xb)]) fun _ _ X _ k => XS.ifYes X.here hx rfl (pc0 := 69) (pc' := 76) rfl (hb hby d0_69) rfl ((if0 _ _).trans (teq q70).1) (by decide) (by decide) k
      have A73 := A72.go (f' := mkF m 77 #[.val (.int p1), .val (.int p2), .val (.int p3), .val (.int (p2.toInt8.toInt32)), .val (.ref xb), .unset, .unset, .unset, .unset, .unset] [(.int p1), (.int (3 : Int32)), (.ref xb)]) fun _ _ X _ k => XS.iloadN X.here hx rfl (hb hby d0_76) rfl k
      have A74 := A73.go (f' := mkF m 79 #[.val (.int p1), .val (.int p2), .val (.int p3), .val (.int (p2.toInt8.toInt32)), .val (.ref xb), .unset, .unset, .unset, .unset, .unset] [(.int (24 : Int32)), (.int p1), (.int (3 : Int32)), (.ref xb)]) fun _ _ X _ k => XS.bipush X.here hx rfl (hb hby d0_77) k
      have A75 := A74.go (f' := mkF m 80 #[.val (.int p1), .val (.int p2), .val (.int p3), .val (.int (p2.toInt8.toInt32)), .val (.ref xb), .unset, .unset, .unset, .unset, .unset] [(.int (p1 >>> ((24 : Int32) &&& 31))), (.int (3 : Int32)), (.ref xb)]) fun _ _ X _ k => XS.ishr X.here hx rfl (hb hby d0_79) rfl k
      have A76 := A75.go (f' := mkF m 81 #[.val (.int p1), .val (.int p2), .val (.int p3), .val (.int (p2.toInt8.toInt32)), .val (.ref xb), .unset, .unset, .unset, .unset, .unset] [(.int ((p1 >>> ((24 : Int32) &&& 31)).toInt8.toInt32)), (.int (3 : Int32)), (.ref xb)]) fun _ _ X _ k => XS.i2b X.here hx rfl (hb hby d0_80) rfl k
      simp only [if_pos q70]
      exact A76
    · skip
      have A77 := A69.go (f' := mkF m 72 #[.val (.int p1), .val (.int p2), .val (.int p3), .val (.int (p2.toInt8.toInt32)), .val (.ref xb), .unset, .unset, .unset, .unset, .unset] [(.int (3 : Int32)), (.ref xb)]) fun _ _ X _ k => XS.ifNo X.here hx rfl (hb hby d0_69) rfl ((if0 _ _).trans (feq q70).1) k
      have A78 := A77.go (f' := mkF m 73 #[.val (.int p1), .val (.int p2), .val (.int p3), .val (.int (p2.toInt8.toInt32)), .val (.ref xb), .unset, .unset, .unset, .unset, .unset] [(.int (p2.toInt8.toInt32)), (.int (3 : Int32)), (.ref xb)]) fun _ _ X _ k => XS.iloadN X.here hx rfl (hb hby d0_72) rfl k
      have A79 := A78.go (f' := mkF m 81 #[.val (.int p1), .val (.int p2), .val (.int p3), .val (.int (p2.toInt8.toInt32)), .val (.ref xb), .unset, .unset, .unset, .unset, .unset] [(.int (p2.toInt8.toInt32)), (.int (3 : Int32)), (.ref xb)]) fun _ _ X _ k => XS.goto X.here hx rfl (pc0 := 73) (pc' := 81) rfl (hb hby d0_73) (by decide) (by decide) k
      simp only [if_neg q70]
      exact A79
  obtain ⟨v3, hv3⟩ : ∃ zq_, zq_ = (if (p3 &&& (8 : Int32)) = (0 : Int32) then ((p1 >>> ((24 : Int32) &&& 31)).toInt8.toInt32) else (p2.toInt8.toInt32)) := ⟨_, rfl⟩
  rw [← hv3] at A71
  obtain ⟨h80, W81, A82⟩ := A71.stB hx hZ (hb hby d0_81) V_xb (by decide) (by simp +decide) g_xb
  have V_xb : own_Ar Z h80 xb .byte [(.int (nar .byte v0)), (.int (nar .byte v1)), (.int (nar .byte v2)), (.int (nar .byte v3))] := V_xb.same W81
  have Z0 : n0 ≤ h80.size := by rw [W81.size]; exact Z0
  have A83 : own_R p l e _ _ m _ below meth c S0 n0 h80 1 4 (mkF m 82 #[.val (.int p1), .val (.int p2), .val (.int p3), .val (.int (p2.toInt8.toInt32)), .val (.ref xb), .unset, .unset, .unset, .unset, .unset] []) := A82
  obtain ⟨e0, he0⟩ : ∃ z, z = (nar .byte v0) := ⟨_, rfl⟩
  obtain ⟨e1, he1⟩ : ∃ z, z = (nar .byte v1) := ⟨_, rfl⟩
  obtain ⟨e2, he2⟩ : ∃ z, z = (nar .byte v2) := ⟨_, rfl⟩
  obtain ⟨e3, he3⟩ : ∃ z, z = (nar .byte v3) := ⟨_, rfl⟩
  rw [← he0, ← he1, ← he2, ← he3] at V_xb
  have A84 := A83.go (f' := mkF m 83 #[.val (.int p1), .val (.int p2), .val (.int p3), .val (.int (p2.toInt8.toInt32)), .val (.ref xb), .unset, .unset, .unset, .unset, .unset] [(.int p3)]) fun _ _ X _ k => XS.iloadN X.here hx rfl (hb hby d0_82) rfl k
  have A85 := A84.go (f' := mkF m 84 #[.val (.int p1), .val (.int p2), .val (.int p3), .val (.int (p2.toInt8.toInt32)), .val (.ref xb), .unset, .unset, .unset, .unset, .unset] [(.int (4 : Int32)), (.int p3)]) fun _ _ X _ k => XS.iconst X.here hx rfl (hb hby d0_83) k
  have A86 := A85.go (f' := mkF m 85 #[.val (.int p1), .val (.int p2), .val (.int p3), .val (.int (p2.toInt8.toInt32)), .val (.ref xb), .unset, .unset, .unset, .unset, .unset] [(.int ((p3.toUInt32 >>> ((4 : Int32) &&& 31).toUInt32).toInt32))]) fun _ _ X _ k => XS.iushr X.here hx rfl (hb hby d0_84) rfl k
  have A87 := A86.go (f' := mkF m 87 #[.val (.int p1), .val (.int p2), .val (.int p3), .val (.int (p2.toInt8.toInt32)), .val (.ref xb), .unset, .unset, .unset, .unset, .unset] [(.int (7 : Int32)), (.int ((p3.toUInt32 >>> ((4 : Int32) &&& 31).toUInt32).toInt32))]) fun _ _ X _ k => XS.bipush X.here hx rfl (hb hby d0_85) k
  have A88 := A87.go (f' := mkF m 88 #[.val (.int p1), .val (.int p2), .val (.int p3), .val (.int (p2.toInt8.toInt32)), .val (.ref xb), .unset, .unset, .unset, .unset, .unset] [(.int (((p3.toUInt32 >>> ((4 : Int32) &&& 31).toUInt32).toInt32) &&& (7 : Int32)))]) fun _ _ X _ k => XS.iand X.here hx rfl (hb hby d0_87) rfl k
  have A89 := A88.go (f' := mkF m 89 #[.val (.int p1), .val (.int p2), .val (.int p3), .val (.int (p2.toInt8.toInt32)), .val (.ref xb), .unset, .unset, .unset, .unset, .unset] [(.int (5 : Int32)), (.int (((p3.toUInt32 >>> ((4 : Int32) &&& 31).toUInt32).toInt32) &&& (7 : Int32)))]) fun _ _ X _ k => XS.iconst X.here hx rfl (hb hby d0_88) k
  have A90 := A89.go (f' := mkF m 90 #[.val (.int p1), .val (.int p2), .val (.int p3), .val (.int (p2.toInt8.toInt32)), .val (.ref xb), .unset, .unset, .unset, .unset, .unset] [(.int ((((p3.toUInt32 >>> ((4 : Int32) &&& 31).toUInt32).toInt32) &&& (7 : Int32)) % (5 : Int32)))]) fun _ _ X _ k => iremM X hx rfl (hb hby d0_89) rfl (by decide) k
  obtain ⟨f, hf⟩ : ∃ zq_, zq_ = ((((p3.toUInt32 >>> ((4 : Int32) &&& 31).toUInt32).toInt32) &&& (7 : Int32)) % (5 : Int32)) := ⟨_, rfl⟩
  rw [← hf] at A90
  have A91 := A90.go (f' := mkF m 92 #[.val (.int p1), .val (.int p2), .val (.int p3), .val (.int (p2.toInt8.toInt32)), .val (.ref xb), .val (.int f), .unset, .unset, .unset, .unset] []) fun _ _ X _ k => XS.istore X.here hx rfl (hb hby d0_90) rfl (l' := #[.val (.int p1), .val (.int p2), .val (.int p3), .val (.int (p2.toInt8.toInt32)), .val (.ref xb), .val (.int f), .unset, .unset, .unset, .unset]) rfl k
  have A92 := A91.go (f' := mkF m 93 #[.val (.int p1), .val (.int p2), .val (.int p3), .val (.int (p2.toInt8.toInt32)), .val (.ref xb), .val (.int f), .unset, .unset, .unset, .unset] [(.int p3)]) fun _ _ X _ k => XS.iloadN X.here hx rfl (hb hby d0_92) rfl k
  have A93 := A92.go (f' := mkF m 95 #[.val (.int p1), .val (.int p2), .val (.int p3), .val (.int (p2.toInt8.toInt32)), .val (.ref xb), .val (.int f), .unset, .unset, .unset, .unset] [(.int (7 : Int32)), (.int p3)]) fun _ _ X _ k => XS.bipush X.here hx rfl (hb hby d0_93) k
  have A94 := A93.go (f' := mkF m 96 #[.val (.int p1), .val (.int p2), .val (.int p3), .val (.int (p2.toInt8.toInt32)), .val (.ref xb), .val (.int f), .unset, .unset, .unset, .unset] [(.int ((p3.toUInt32 >>> ((7 : Int32) &&& 31).toUInt32).toInt32))]) fun _ _ X _ k => XS.iushr X.here hx rfl (hb hby d0_95) rfl k
  have A95 := A94.go (f' := mkF m 98 #[.val (.int p1), .val (.int p2), .val (.int p3), .val (.int (p2.toInt8.toInt32)), .val (.ref xb), .val (.int f), .unset, .unset, .unset, .unset] [(.int (7 : Int32)), (.int ((p3.toUInt32 >>> ((7 : Int32) &&& 31).toUInt32).toInt32))]) fun _ _ X _ k => XS.bipush X.here hx rfl (hb hby d0_96) k
  have A96 := A95.go (f' := mkF m 99 #[.val (.int p1), .val (.int p2), .val (.int p3), .val (.int (p2.toInt8.toInt32)), .val (.ref xb), .val (.int f), .unset, .unset, .unset, .unset] [(.int (((p3.toUInt32 >>> ((7 : Int32) &&& 31).toUInt32).toInt32) &&& (7 : Int32)))]) fun _ _ X _ k => XS.iand X.here hx rfl (hb hby d0_98) rfl k
  have A97 := A96.go (f' := mkF m 100 #[.val (.int p1), .val (.int p2), .val (.int p3), .val (.int (p2.toInt8.toInt32)), .val (.ref xb), .val (.int f), .unset, .unset, .unset, .unset] [(.int (5 : Int32)), (.int (((p3.toUInt32 >>> ((7 : Int32) &&& 31).toUInt32).toInt32) &&& (7 : Int32)))]) fun _ _ X _ k => XS.iconst X.here hx rfl (hb hby d0_99) k
  have A98 := A97.go (f' := mkF m 101 #[.val (.int p1), .val (.int p2), .val (.int p3), .val (.int (p2.toInt8.toInt32)), .val (.ref xb), .val (.int f), .unset, .unset, .unset, .unset] [(.int ((((p3.toUInt32 >>> ((7 : Int32) &&& 31).toUInt32).toInt32) &&& (7 : Int32)) % (5 : Int32)))]) fun _ _ X _ k => iremM X hx rfl (hb hby d0_100) rfl (by decide) k
  obtain ⟨t, ht⟩ : ∃ zq_, zq_ = ((((p3.toUInt32 >>> ((7 : Int32) &&& 31).toUInt32).toInt32) &&& (7 : Int32)) % (5 : Int32)) := ⟨_, rfl⟩
  rw [← ht] at A98
  have A99 := A98.go (f' := mkF m 103 #[.val (.int p1), .val (.int p2), .val (.int p3), .val (.int (p2.toInt8.toInt32)), .val (.ref xb), .val (.int f), .val (.int t), .unset, .unset, .unset] []) fun _ _ X _ k => XS.istore X.here hx rfl (hb hby d0_101) rfl (l' := #[.val (.int p1), .val (.int p2), .val (.int p3), .val (.int (p2.toInt8.toInt32)), .val (.ref xb), .val (.int f), .val (.int t), .unset, .unset, .unset]) rfl k
  have A100 := A99.go (f' := mkF m 105 #[.val (.int p1), .val (.int p2), .val (.int p3), .val (.int (p2.toInt8.toInt32)), .val (.ref xb), .val (.int f), .val (.int t), .unset, .unset, .unset] [(.int f)]) fun _ _ X _ k => XS.iload X.here hx rfl (hb hby d0_103) rfl k
  have A101 := A100.go (f' := mkF m 107 #[.val (.int p1), .val (.int p2), .val (.int p3), .val (.int (p2.toInt8.toInt32)), .val (.ref xb), .val (.int f), .val (.int t), .unset, .unset, .unset] [(.int t), (.int f)]) fun _ _ X _ k => XS.iload X.here hx rfl (hb hby d0_105) rfl k
  obtain ⟨vA102, hA102, ⟨rfl, rfl⟩, A102⟩ := A101.callS (own_min l Z a0 hw f t h80 n0 Z0) hx hZ hown (hb hby d0_107) (hw _ (List.mem_of_getElem? (i := 1) rfl)) (hw _ (List.mem_of_getElem? (i := 2) rfl)) (hw _ (List.mem_of_getElem? (i := 3) rfl)) (hw _ (List.mem_of_getElem? (i := 4) rfl)) ⟨by decide, by decide⟩ (lenOf pd__28II_29I rfl) (argsL := [(.int f), (.int t)]) (rest := []) rfl rfl (by rw [hml]; rfl) (W := 0) (Nat.le_of_eq rfl) (by decide) (by decide) (by decide) (by decide)
  have A103 : own_R p l e _ _ m _ below meth c S0 n0 h80 1 4 (mkF m 110 #[.val (.int p1), .val (.int p2), .val (.int p3), .val (.int (p2.toInt8.toInt32)), .val (.ref xb), .val (.int f), .val (.int t), .unset, .unset, .unset] [(.int (if t < f then t else f))]) := A102
  obtain ⟨fr, hfr⟩ : ∃ zq_, zq_ = (if t < f then t else f) := ⟨_, rfl⟩
  rw [← hfr] at A103
  have A104 := A103.go (f' := mkF m 112 #[.val (.int p1), .val (.int p2), .val (.int p3), .val (.int (p2.toInt8.toInt32)), .val (.ref xb), .val (.int f), .val (.int t), .val (.int fr), .unset, .unset] []) fun _ _ X _ k => XS.istore X.here hx rfl (hb hby d0_110) rfl (l' := #[.val (.int p1), .val (.int p2), .val (.int p3), .val (.int (p2.toInt8.toInt32)), .val (.ref xb), .val (.int f), .val (.int t), .val (.int fr), .unset, .unset]) rfl k
  have A105 := A104.go (f' := mkF m 114 #[.val (.int p1), .val (.int p2), .val (.int p3), .val (.int (p2.toInt8.toInt32)), .val (.ref xb), .val (.int f), .val (.int t), .val (.int fr), .unset, .unset] [(.int f)]) fun _ _ X _ k => XS.iload X.here hx rfl (hb hby d0_112) rfl k
  have A106 := A105.go (f' := mkF m 116 #[.val (.int p1), .val (.int p2), .val (.int p3), .val (.int (p2.toInt8.toInt32)), .val (.ref xb), .val (.int f), .val (.int t), .val (.int fr), .unset, .unset] [(.int t), (.int f)]) fun _ _ X _ k => XS.iload X.here hx rfl (hb hby d0_114) rfl k
  obtain ⟨vA107, hA107, ⟨rfl, rfl⟩, A107⟩ := A106.callS (own_max l Z a0 hw f t h80 n0 Z0) hx hZ hown (hb hby d0_116) (hw _ (List.mem_of_getElem? (i := 5) rfl)) (hw _ (List.mem_of_getElem? (i := 6) rfl)) (hw _ (List.mem_of_getElem? (i := 3) rfl)) (hw _ (List.mem_of_getElem? (i := 7) rfl)) ⟨by decide, by decide⟩ (lenOf pd__28II_29I rfl) (argsL := [(.int f), (.int t)]) (rest := []) rfl rfl (by rw [hml]; rfl) (W := 0) (Nat.le_of_eq rfl) (by decide) (by decide) (by decide) (by decide)
  have A108 : own_R p l e _ _ m _ below meth c S0 n0 h80 1 4 (mkF m 119 #[.val (.int p1), .val (.int p2), .val (.int p3), .val (.int (p2.toInt8.toInt32)), .val (.ref xb), .val (.int f), .val (.int t), .val (.int fr), .unset, .unset] [(.int (if f < t then t else f))]) := A107
  obtain ⟨to, hto⟩ : ∃ zq_, zq_ = (if f < t then t else f) := ⟨_, rfl⟩
  rw [← hto] at A108
  have A109 := A108.go (f' := mkF m 121 #[.val (.int p1), .val (.int p2), .val (.int p3), .val (.int (p2.toInt8.toInt32)), .val (.ref xb), .val (.int f), .val (.int t), .val (.int fr), .val (.int to), .unset] []) fun _ _ X _ k => XS.istore X.here hx rfl (hb hby d0_119) rfl (l' := #[.val (.int p1), .val (.int p2), .val (.int p3), .val (.int (p2.toInt8.toInt32)), .val (.ref xb), .val (.int f), .val (.int t), .val (.int fr), .val (.int to), .unset]) rfl k
  have A110 := A109.go (f' := mkF m 123 #[.val (.int p1), .val (.int p2), .val (.int p3), .val (.int (p2.toInt8.toInt32)), .val (.ref xb), .val (.int f), .val (.int t), .val (.int fr), .val (.int to), .unset] [(.int to)]) fun _ _ X _ k => XS.iload X.here hx rfl (hb hby d0_121) rfl k
  have A111 := A110.go (f' := mkF m 125 #[.val (.int p1), .val (.int p2), .val (.int p3), .val (.int (p2.toInt8.toInt32)), .val (.ref xb), .val (.int f), .val (.int t), .val (.int fr), .val (.int to), .val (.int to)] []) fun _ _ X _ k => XS.istore X.here hx rfl (hb hby d0_123) rfl (l' := #[.val (.int p1), .val (.int p2), .val (.int p3), .val (.int (p2.toInt8.toInt32)), .val (.ref xb), .val (.int f), .val (.int t), .val (.int fr), .val (.int to), .val (.int to)]) rfl k
  have A112 := A111.go (f' := mkF m 127 #[.val (.int p1), .val (.int p2), .val (.int p3), .val (.int (p2.toInt8.toInt32)), .val (.ref xb), .val (.int f), .val (.int t), .val (.int fr), .val (.int to), .val (.int to)] [(.ref xb)]) fun _ _ X _ k => XS.aload X.here hx rfl (hb hby d0_125) rfl rfl k
  have A113 := A112.go (f' := mkF m 128 #[.val (.int p1), .val (.int p2), .val (.int p3), .val (.int (p2.toInt8.toInt32)), .val (.ref xb), .val (.int f), .val (.int t), .val (.int fr), .val (.int to), .val (.int to)] [(.int (3 : Int32)), (.ref xb)]) fun _ _ X _ k => XS.iconst X.here hx rfl (hb hby d0_127) k
  have A114 := A113.go (f' := mkF m 130 #[.val (.int p1), .val (.int p2), .val (.int p3), .val (.int (p2.toInt8.toInt32)), .val (.ref xb), .val (.int f), .val (.int t), .val (.int fr), .val (.int to), .val (.int to)] [(.int fr), (.int (3 : Int32)), (.ref xb)]) fun _ _ X _ k => XS.iload X.here hx rfl (hb hby d0_128) rfl k
  have A115 := A114.go (f' := mkF m 132 #[.val (.int p1), .val (.int p2), .val (.int p3), .val (.int (p2.toInt8.toInt32)), .val (.ref xb), .val (.int f), .val (.int t), .val (.int fr), .val (.int to), .val (.int to)] [(.int to), (.int fr), (.int (3 : Int32)), (.ref xb)]) fun _ _ X _ k => XS.iload X.here hx rfl (hb hby d0_130) rfl k
  have A116 := A115.go (f' := mkF m 133 #[.val (.int p1), .val (.int p2), .val (.int p3), .val (.int (p2.toInt8.toInt32)), .val (.ref xb), .val (.int f), .val (.int t), .val (.int fr), .val (.int to), .val (.int to)] [(.int (p2.toInt8.toInt32)), (.int to), (.int fr), (.int (3 : Int32)), (.ref xb)]) fun _ _ X _ k => XS.iloadN X.here hx rfl (hb hby d0_132) rfl k
  obtain ⟨vA117, hA117, ⟨rfl, rfl⟩, A117⟩ := A116.callS (own_hitM l Z a0 hw xb (3 : Int32) fr to (p2.toInt8.toInt32) e3 _ h80 n0 Z0 V_xb (by decide) rfl) hx hZ hown (hb hby d0_133) (hw _ (List.mem_of_getElem? (i := 8) rfl)) (hw _ (List.mem_of_getElem? (i := 9) rfl)) (hw _ (List.mem_of_getElem? (i := 10) rfl)) (hw _ (List.mem_of_getElem? (i := 11) rfl)) ⟨by decide, by decide⟩ (lenOf pd__28_5bBIIIB_29Z rfl) (argsL := [(.ref xb), (.int (3 : Int32)), (.int fr), (.int to), (.int (p2.toInt8.toInt32))]) (rest := []) rfl rfl (by rw [hml]; rfl) (W := 0) (Nat.le_of_eq rfl) (by decide) (by decide) (by decide) (by decide)
  have A118 : own_R p l e _ _ m _ below meth c S0 n0 h80 1 4 (mkF m 136 #[.val (.int p1), .val (.int p2), .val (.int p3), .val (.int (p2.toInt8.toInt32)), .val (.ref xb), .val (.int f), .val (.int t), .val (.int fr), .val (.int to), .val (.int to)] [(.int (own_hit (3 : Int32) fr to e3 (p2.toInt8.toInt32)))]) := A117
  have A120 : own_R p l e room_1 s m #[(.int p1), (.int p2), (.int p3)] below meth c S0 n0 h80 1 4 (mkF m 142 #[.val (.int p1), .val (.int p2), .val (.int p3), .val (.int (p2.toInt8.toInt32)), .val (.ref xb), .val (.int f), .val (.int t), .val (.int fr), .val (.int to), .val (.int (if (own_hit (3 : Int32) fr to e3 (p2.toInt8.toInt32)) = (0 : Int32) then to else (3 : Int32)))] []) := by
    by_cases q119 : (own_hit (3 : Int32) fr to e3 (p2.toInt8.toInt32)) = (0 : Int32)
    · skip
      have A121 := A118.go (f' := mkF m 142 #[.val (.int p1), .val (.int p2), .val (.int p3), .val (.int (p2.toInt8.toInt32)), .val (.ref xb), .val (.int f), .val (.int t), .val (.int fr), .val (.int to), .val (.int to)] []) fun _ _ X _ k => XS.ifYes X.here hx rfl (pc0 := 136) (pc' := 142) rfl (hb hby d0_136) rfl ((if0 _ _).trans (teq q119).1) (by decide) (by decide) k
      simp only [if_pos q119]
      exact A121
    · skip
      have A122 := A118.go (f' := mkF m 139 #[.val (.int p1), .val (.int p2), .val (.int p3), .val (.int (p2.toInt8.toInt32)), .val (.ref xb), .val (.int f), .val (.int t), .val (.int fr), .val (.int to), .val (.int to)] []) fun _ _ X _ k => XS.ifNo X.here hx rfl (hb hby d0_136) rfl ((if0 _ _).trans (feq q119).1) k
      have A123 := A122.go (f' := mkF m 140 #[.val (.int p1), .val (.int p2), .val (.int p3), .val (.int (p2.toInt8.toInt32)), .val (.ref xb), .val (.int f), .val (.int t), .val (.int fr), .val (.int to), .val (.int to)] [(.int (3 : Int32))]) fun _ _ X _ k => XS.iconst X.here hx rfl (hb hby d0_139) k
      have A124 := A123.go (f' := mkF m 142 #[.val (.int p1), .val (.int p2), .val (.int p3), .val (.int (p2.toInt8.toInt32)), .val (.ref xb), .val (.int f), .val (.int t), .val (.int fr), .val (.int to), .val (.int (3 : Int32))] []) fun _ _ X _ k => XS.istore X.here hx rfl (hb hby d0_140) rfl (l' := #[.val (.int p1), .val (.int p2), .val (.int p3), .val (.int (p2.toInt8.toInt32)), .val (.ref xb), .val (.int f), .val (.int t), .val (.int fr), .val (.int to), .val (.int (3 : Int32))]) rfl k
      simp only [if_neg q119]
      exact A124
  have A125 := A120.go (f' := mkF m 144 #[.val (.int p1), .val (.int p2), .val (.int p3), .val (.int (p2.toInt8.toInt32)), .val (.ref xb), .val (.int f), .val (.int t), .val (.int fr), .val (.int to), .val (.int (if (own_hit (3 : Int32) fr to e3 (p2.toInt8.toInt32)) = (0 : Int32) then to else (3 : Int32)))] [(.ref xb)]) fun _ _ X _ k => XS.aload X.here hx rfl (hb hby d0_142) rfl rfl k
  have A126 := A125.go (f' := mkF m 145 #[.val (.int p1), .val (.int p2), .val (.int p3), .val (.int (p2.toInt8.toInt32)), .val (.ref xb), .val (.int f), .val (.int t), .val (.int fr), .val (.int to), .val (.int (if (own_hit (3 : Int32) fr to e3 (p2.toInt8.toInt32)) = (0 : Int32) then to else (3 : Int32)))] [(.int (2 : Int32)), (.ref xb)]) fun _ _ X _ k => XS.iconst X.here hx rfl (hb hby d0_144) k
  have A127 := A126.go (f' := mkF m 147 #[.val (.int p1), .val (.int p2), .val (.int p3), .val (.int (p2.toInt8.toInt32)), .val (.ref xb), .val (.int f), .val (.int t), .val (.int fr), .val (.int to), .val (.int (if (own_hit (3 : Int32) fr to e3 (p2.toInt8.toInt32)) = (0 : Int32) then to else (3 : Int32)))] [(.int fr), (.int (2 : Int32)), (.ref xb)]) fun _ _ X _ k => XS.iload X.here hx rfl (hb hby d0_145) rfl k
  have A128 := A127.go (f' := mkF m 149 #[.val (.int p1), .val (.int p2), .val (.int p3), .val (.int (p2.toInt8.toInt32)), .val (.ref xb), .val (.int f), .val (.int t), .val (.int fr), .val (.int to), .val (.int (if (own_hit (3 : Int32) fr to e3 (p2.toInt8.toInt32)) = (0 : Int32) then to else (3 : Int32)))] [(.int to), (.int fr), (.int (2 : Int32)), (.ref xb)]) fun _ _ X _ k => XS.iload X.here hx rfl (hb hby d0_147) rfl k
  have A129 := A128.go (f' := mkF m 150 #[.val (.int p1), .val (.int p2), .val (.int p3), .val (.int (p2.toInt8.toInt32)), .val (.ref xb), .val (.int f), .val (.int t), .val (.int fr), .val (.int to), .val (.int (if (own_hit (3 : Int32) fr to e3 (p2.toInt8.toInt32)) = (0 : Int32) then to else (3 : Int32)))] [(.int (p2.toInt8.toInt32)), (.int to), (.int fr), (.int (2 : Int32)), (.ref xb)]) fun _ _ X _ k => XS.iloadN X.here hx rfl (hb hby d0_149) rfl k
  obtain ⟨vA130, hA130, ⟨rfl, rfl⟩, A130⟩ := A129.callS (own_hitM l Z a0 hw xb (2 : Int32) fr to (p2.toInt8.toInt32) e2 _ h80 n0 Z0 V_xb (by decide) rfl) hx hZ hown (hb hby d0_150) (hw _ (List.mem_of_getElem? (i := 8) rfl)) (hw _ (List.mem_of_getElem? (i := 9) rfl)) (hw _ (List.mem_of_getElem? (i := 10) rfl)) (hw _ (List.mem_of_getElem? (i := 11) rfl)) ⟨by decide, by decide⟩ (lenOf pd__28_5bBIIIB_29Z rfl) (argsL := [(.ref xb), (.int (2 : Int32)), (.int fr), (.int to), (.int (p2.toInt8.toInt32))]) (rest := []) rfl rfl (by rw [hml]; rfl) (W := 0) (Nat.le_of_eq rfl) (by decide) (by decide) (by decide) (by decide)
  have A131 : own_R p l e _ _ m _ below meth c S0 n0 h80 1 4 (mkF m 153 #[.val (.int p1), .val (.int p2), .val (.int p3), .val (.int (p2.toInt8.toInt32)), .val (.ref xb), .val (.int f), .val (.int t), .val (.int fr), .val (.int to), .val (.int (if (own_hit (3 : Int32) fr to e3 (p2.toInt8.toInt32)) = (0 : Int32) then to else (3 : Int32)))] [(.int (own_hit (2 : Int32) fr to e2 (p2.toInt8.toInt32)))]) := A130
  have A133 : own_R p l e room_1 s m #[(.int p1), (.int p2), (.int p3)] below meth c S0 n0 h80 1 4 (mkF m 159 #[.val (.int p1), .val (.int p2), .val (.int p3), .val (.int (p2.toInt8.toInt32)), .val (.ref xb), .val (.int f), .val (.int t), .val (.int fr), .val (.int to), .val (.int (if (own_hit (2 : Int32) fr to e2 (p2.toInt8.toInt32)) = (0 : Int32) then (if (own_hit (3 : Int32) fr to e3 (p2.toInt8.toInt32)) = (0 : Int32) then to else (3 : Int32)) else (2 : Int32)))] []) := by
    by_cases q132 : (own_hit (2 : Int32) fr to e2 (p2.toInt8.toInt32)) = (0 : Int32)
    · skip
      have A134 := A131.go (f' := mkF m 159 #[.val (.int p1), .val (.int p2), .val (.int p3), .val (.int (p2.toInt8.toInt32)), .val (.ref xb), .val (.int f), .val (.int t), .val (.int fr), .val (.int to), .val (.int (if (own_hit (3 : Int32) fr to e3 (p2.toInt8.toInt32)) = (0 : Int32) then to else (3 : Int32)))] []) fun _ _ X _ k => XS.ifYes X.here hx rfl (pc0 := 153) (pc' := 159) rfl (hb hby d0_153) rfl ((if0 _ _).trans (teq q132).1) (by decide) (by decide) k
      simp only [if_pos q132]
      exact A134
    · skip
      have A135 := A131.go (f' := mkF m 156 #[.val (.int p1), .val (.int p2), .val (.int p3), .val (.int (p2.toInt8.toInt32)), .val (.ref xb), .val (.int f), .val (.int t), .val (.int fr), .val (.int to), .val (.int (if (own_hit (3 : Int32) fr to e3 (p2.toInt8.toInt32)) = (0 : Int32) then to else (3 : Int32)))] []) fun _ _ X _ k => XS.ifNo X.here hx rfl (hb hby d0_153) rfl ((if0 _ _).trans (feq q132).1) k
      have A136 := A135.go (f' := mkF m 157 #[.val (.int p1), .val (.int p2), .val (.int p3), .val (.int (p2.toInt8.toInt32)), .val (.ref xb), .val (.int f), .val (.int t), .val (.int fr), .val (.int to), .val (.int (if (own_hit (3 : Int32) fr to e3 (p2.toInt8.toInt32)) = (0 : Int32) then to else (3 : Int32)))] [(.int (2 : Int32))]) fun _ _ X _ k => XS.iconst X.here hx rfl (hb hby d0_156) k
      have A137 := A136.go (f' := mkF m 159 #[.val (.int p1), .val (.int p2), .val (.int p3), .val (.int (p2.toInt8.toInt32)), .val (.ref xb), .val (.int f), .val (.int t), .val (.int fr), .val (.int to), .val (.int (2 : Int32))] []) fun _ _ X _ k => XS.istore X.here hx rfl (hb hby d0_157) rfl (l' := #[.val (.int p1), .val (.int p2), .val (.int p3), .val (.int (p2.toInt8.toInt32)), .val (.ref xb), .val (.int f), .val (.int t), .val (.int fr), .val (.int to), .val (.int (2 : Int32))]) rfl k
      simp only [if_neg q132]
      exact A137
  have A138 := A133.go (f' := mkF m 161 #[.val (.int p1), .val (.int p2), .val (.int p3), .val (.int (p2.toInt8.toInt32)), .val (.ref xb), .val (.int f), .val (.int t), .val (.int fr), .val (.int to), .val (.int (if (own_hit (2 : Int32) fr to e2 (p2.toInt8.toInt32)) = (0 : Int32) then (if (own_hit (3 : Int32) fr to e3 (p2.toInt8.toInt32)) = (0 : Int32) then to else (3 : Int32)) else (2 : Int32)))] [(.ref xb)]) fun _ _ X _ k => XS.aload X.here hx rfl (hb hby d0_159) rfl rfl k
  have A139 := A138.go (f' := mkF m 162 #[.val (.int p1), .val (.int p2), .val (.int p3), .val (.int (p2.toInt8.toInt32)), .val (.ref xb), .val (.int f), .val (.int t), .val (.int fr), .val (.int to), .val (.int (if (own_hit (2 : Int32) fr to e2 (p2.toInt8.toInt32)) = (0 : Int32) then (if (own_hit (3 : Int32) fr to e3 (p2.toInt8.toInt32)) = (0 : Int32) then to else (3 : Int32)) else (2 : Int32)))] [(.int (1 : Int32)), (.ref xb)]) fun _ _ X _ k => XS.iconst X.here hx rfl (hb hby d0_161) k
  have A140 := A139.go (f' := mkF m 164 #[.val (.int p1), .val (.int p2), .val (.int p3), .val (.int (p2.toInt8.toInt32)), .val (.ref xb), .val (.int f), .val (.int t), .val (.int fr), .val (.int to), .val (.int (if (own_hit (2 : Int32) fr to e2 (p2.toInt8.toInt32)) = (0 : Int32) then (if (own_hit (3 : Int32) fr to e3 (p2.toInt8.toInt32)) = (0 : Int32) then to else (3 : Int32)) else (2 : Int32)))] [(.int fr), (.int (1 : Int32)), (.ref xb)]) fun _ _ X _ k => XS.iload X.here hx rfl (hb hby d0_162) rfl k
  have A141 := A140.go (f' := mkF m 166 #[.val (.int p1), .val (.int p2), .val (.int p3), .val (.int (p2.toInt8.toInt32)), .val (.ref xb), .val (.int f), .val (.int t), .val (.int fr), .val (.int to), .val (.int (if (own_hit (2 : Int32) fr to e2 (p2.toInt8.toInt32)) = (0 : Int32) then (if (own_hit (3 : Int32) fr to e3 (p2.toInt8.toInt32)) = (0 : Int32) then to else (3 : Int32)) else (2 : Int32)))] [(.int to), (.int fr), (.int (1 : Int32)), (.ref xb)]) fun _ _ X _ k => XS.iload X.here hx rfl (hb hby d0_164) rfl k
  have A142 := A141.go (f' := mkF m 167 #[.val (.int p1), .val (.int p2), .val (.int p3), .val (.int (p2.toInt8.toInt32)), .val (.ref xb), .val (.int f), .val (.int t), .val (.int fr), .val (.int to), .val (.int (if (own_hit (2 : Int32) fr to e2 (p2.toInt8.toInt32)) = (0 : Int32) then (if (own_hit (3 : Int32) fr to e3 (p2.toInt8.toInt32)) = (0 : Int32) then to else (3 : Int32)) else (2 : Int32)))] [(.int (p2.toInt8.toInt32)), (.int to), (.int fr), (.int (1 : Int32)), (.ref xb)]) fun _ _ X _ k => XS.iloadN X.here hx rfl (hb hby d0_166) rfl k
  obtain ⟨vA143, hA143, ⟨rfl, rfl⟩, A143⟩ := A142.callS (own_hitM l Z a0 hw xb (1 : Int32) fr to (p2.toInt8.toInt32) e1 _ h80 n0 Z0 V_xb (by decide) rfl) hx hZ hown (hb hby d0_167) (hw _ (List.mem_of_getElem? (i := 8) rfl)) (hw _ (List.mem_of_getElem? (i := 9) rfl)) (hw _ (List.mem_of_getElem? (i := 10) rfl)) (hw _ (List.mem_of_getElem? (i := 11) rfl)) ⟨by decide, by decide⟩ (lenOf pd__28_5bBIIIB_29Z rfl) (argsL := [(.ref xb), (.int (1 : Int32)), (.int fr), (.int to), (.int (p2.toInt8.toInt32))]) (rest := []) rfl rfl (by rw [hml]; rfl) (W := 0) (Nat.le_of_eq rfl) (by decide) (by decide) (by decide) (by decide)
  have A144 : own_R p l e _ _ m _ below meth c S0 n0 h80 1 4 (mkF m 170 #[.val (.int p1), .val (.int p2), .val (.int p3), .val (.int (p2.toInt8.toInt32)), .val (.ref xb), .val (.int f), .val (.int t), .val (.int fr), .val (.int to), .val (.int (if (own_hit (2 : Int32) fr to e2 (p2.toInt8.toInt32)) = (0 : Int32) then (if (own_hit (3 : Int32) fr to e3 (p2.toInt8.toInt32)) = (0 : Int32) then to else (3 : Int32)) else (2 : Int32)))] [(.int (own_hit (1 : Int32) fr to e1 (p2.toInt8.toInt32)))]) := A143
  have A146 : own_R p l e room_1 s m #[(.int p1), (.int p2), (.int p3)] below meth c S0 n0 h80 1 4 (mkF m 176 #[.val (.int p1), .val (.int p2), .val (.int p3), .val (.int (p2.toInt8.toInt32)), .val (.ref xb), .val (.int f), .val (.int t), .val (.int fr), .val (.int to), .val (.int (if (own_hit (1 : Int32) fr to e1 (p2.toInt8.toInt32)) = (0 : Int32) then (if (own_hit (2 : Int32) fr to e2 (p2.toInt8.toInt32)) = (0 : Int32) then (if (own_hit (3 : Int32) fr to e3 (p2.toInt8.toInt32)) = (0 : Int32) then to else (3 : Int32)) else (2 : Int32)) else (1 : Int32)))] []) := by
    by_cases q145 : (own_hit (1 : Int32) fr to e1 (p2.toInt8.toInt32)) = (0 : Int32)
    · skip
      have A147 := A144.go (f' := mkF m 176 #[.val (.int p1), .val (.int p2), .val (.int p3), .val (.int (p2.toInt8.toInt32)), .val (.ref xb), .val (.int f), .val (.int t), .val (.int fr), .val (.int to), .val (.int (if (own_hit (2 : Int32) fr to e2 (p2.toInt8.toInt32)) = (0 : Int32) then (if (own_hit (3 : Int32) fr to e3 (p2.toInt8.toInt32)) = (0 : Int32) then to else (3 : Int32)) else (2 : Int32)))] []) fun _ _ X _ k => XS.ifYes X.here hx rfl (pc0 := 170) (pc' := 176) rfl (hb hby d0_170) rfl ((if0 _ _).trans (teq q145).1) (by decide) (by decide) k
      simp only [if_pos q145]
      exact A147
    · skip
      have A148 := A144.go (f' := mkF m 173 #[.val (.int p1), .val (.int p2), .val (.int p3), .val (.int (p2.toInt8.toInt32)), .val (.ref xb), .val (.int f), .val (.int t), .val (.int fr), .val (.int to), .val (.int (if (own_hit (2 : Int32) fr to e2 (p2.toInt8.toInt32)) = (0 : Int32) then (if (own_hit (3 : Int32) fr to e3 (p2.toInt8.toInt32)) = (0 : Int32) then to else (3 : Int32)) else (2 : Int32)))] []) fun _ _ X _ k => XS.ifNo X.here hx rfl (hb hby d0_170) rfl ((if0 _ _).trans (feq q145).1) k
      have A149 := A148.go (f' := mkF m 174 #[.val (.int p1), .val (.int p2), .val (.int p3), .val (.int (p2.toInt8.toInt32)), .val (.ref xb), .val (.int f), .val (.int t), .val (.int fr), .val (.int to), .val (.int (if (own_hit (2 : Int32) fr to e2 (p2.toInt8.toInt32)) = (0 : Int32) then (if (own_hit (3 : Int32) fr to e3 (p2.toInt8.toInt32)) = (0 : Int32) then to else (3 : Int32)) else (2 : Int32)))] [(.int (1 : Int32))]) fun _ _ X _ k => XS.iconst X.here hx rfl (hb hby d0_173) k
      have A150 := A149.go (f' := mkF m 176 #[.val (.int p1), .val (.int p2), .val (.int p3), .val (.int (p2.toInt8.toInt32)), .val (.ref xb), .val (.int f), .val (.int t), .val (.int fr), .val (.int to), .val (.int (1 : Int32))] []) fun _ _ X _ k => XS.istore X.here hx rfl (hb hby d0_174) rfl (l' := #[.val (.int p1), .val (.int p2), .val (.int p3), .val (.int (p2.toInt8.toInt32)), .val (.ref xb), .val (.int f), .val (.int t), .val (.int fr), .val (.int to), .val (.int (1 : Int32))]) rfl k
      simp only [if_neg q145]
      exact A150
  have A151 := A146.go (f' := mkF m 178 #[.val (.int p1), .val (.int p2), .val (.int p3), .val (.int (p2.toInt8.toInt32)), .val (.ref xb), .val (.int f), .val (.int t), .val (.int fr), .val (.int to), .val (.int (if (own_hit (1 : Int32) fr to e1 (p2.toInt8.toInt32)) = (0 : Int32) then (if (own_hit (2 : Int32) fr to e2 (p2.toInt8.toInt32)) = (0 : Int32) then (if (own_hit (3 : Int32) fr to e3 (p2.toInt8.toInt32)) = (0 : Int32) then to else (3 : Int32)) else (2 : Int32)) else (1 : Int32)))] [(.ref xb)]) fun _ _ X _ k => XS.aload X.here hx rfl (hb hby d0_176) rfl rfl k
  have A152 := A151.go (f' := mkF m 179 #[.val (.int p1), .val (.int p2), .val (.int p3), .val (.int (p2.toInt8.toInt32)), .val (.ref xb), .val (.int f), .val (.int t), .val (.int fr), .val (.int to), .val (.int (if (own_hit (1 : Int32) fr to e1 (p2.toInt8.toInt32)) = (0 : Int32) then (if (own_hit (2 : Int32) fr to e2 (p2.toInt8.toInt32)) = (0 : Int32) then (if (own_hit (3 : Int32) fr to e3 (p2.toInt8.toInt32)) = (0 : Int32) then to else (3 : Int32)) else (2 : Int32)) else (1 : Int32)))] [(.int (0 : Int32)), (.ref xb)]) fun _ _ X _ k => XS.iconst X.here hx rfl (hb hby d0_178) k
  have A153 := A152.go (f' := mkF m 181 #[.val (.int p1), .val (.int p2), .val (.int p3), .val (.int (p2.toInt8.toInt32)), .val (.ref xb), .val (.int f), .val (.int t), .val (.int fr), .val (.int to), .val (.int (if (own_hit (1 : Int32) fr to e1 (p2.toInt8.toInt32)) = (0 : Int32) then (if (own_hit (2 : Int32) fr to e2 (p2.toInt8.toInt32)) = (0 : Int32) then (if (own_hit (3 : Int32) fr to e3 (p2.toInt8.toInt32)) = (0 : Int32) then to else (3 : Int32)) else (2 : Int32)) else (1 : Int32)))] [(.int fr), (.int (0 : Int32)), (.ref xb)]) fun _ _ X _ k => XS.iload X.here hx rfl (hb hby d0_179) rfl k
  have A154 := A153.go (f' := mkF m 183 #[.val (.int p1), .val (.int p2), .val (.int p3), .val (.int (p2.toInt8.toInt32)), .val (.ref xb), .val (.int f), .val (.int t), .val (.int fr), .val (.int to), .val (.int (if (own_hit (1 : Int32) fr to e1 (p2.toInt8.toInt32)) = (0 : Int32) then (if (own_hit (2 : Int32) fr to e2 (p2.toInt8.toInt32)) = (0 : Int32) then (if (own_hit (3 : Int32) fr to e3 (p2.toInt8.toInt32)) = (0 : Int32) then to else (3 : Int32)) else (2 : Int32)) else (1 : Int32)))] [(.int to), (.int fr), (.int (0 : Int32)), (.ref xb)]) fun _ _ X _ k => XS.iload X.here hx rfl (hb hby d0_181) rfl k
  have A155 := A154.go (f' := mkF m 184 #[.val (.int p1), .val (.int p2), .val (.int p3), .val (.int (p2.toInt8.toInt32)), .val (.ref xb), .val (.int f), .val (.int t), .val (.int fr), .val (.int to), .val (.int (if (own_hit (1 : Int32) fr to e1 (p2.toInt8.toInt32)) = (0 : Int32) then (if (own_hit (2 : Int32) fr to e2 (p2.toInt8.toInt32)) = (0 : Int32) then (if (own_hit (3 : Int32) fr to e3 (p2.toInt8.toInt32)) = (0 : Int32) then to else (3 : Int32)) else (2 : Int32)) else (1 : Int32)))] [(.int (p2.toInt8.toInt32)), (.int to), (.int fr), (.int (0 : Int32)), (.ref xb)]) fun _ _ X _ k => XS.iloadN X.here hx rfl (hb hby d0_183) rfl k
  obtain ⟨vA156, hA156, ⟨rfl, rfl⟩, A156⟩ := A155.callS (own_hitM l Z a0 hw xb (0 : Int32) fr to (p2.toInt8.toInt32) e0 _ h80 n0 Z0 V_xb (by decide) rfl) hx hZ hown (hb hby d0_184) (hw _ (List.mem_of_getElem? (i := 8) rfl)) (hw _ (List.mem_of_getElem? (i := 9) rfl)) (hw _ (List.mem_of_getElem? (i := 10) rfl)) (hw _ (List.mem_of_getElem? (i := 11) rfl)) ⟨by decide, by decide⟩ (lenOf pd__28_5bBIIIB_29Z rfl) (argsL := [(.ref xb), (.int (0 : Int32)), (.int fr), (.int to), (.int (p2.toInt8.toInt32))]) (rest := []) rfl rfl (by rw [hml]; rfl) (W := 0) (Nat.le_of_eq rfl) (by decide) (by decide) (by decide) (by decide)
  have A157 : own_R p l e _ _ m _ below meth c S0 n0 h80 1 4 (mkF m 187 #[.val (.int p1), .val (.int p2), .val (.int p3), .val (.int (p2.toInt8.toInt32)), .val (.ref xb), .val (.int f), .val (.int t), .val (.int fr), .val (.int to), .val (.int (if (own_hit (1 : Int32) fr to e1 (p2.toInt8.toInt32)) = (0 : Int32) then (if (own_hit (2 : Int32) fr to e2 (p2.toInt8.toInt32)) = (0 : Int32) then (if (own_hit (3 : Int32) fr to e3 (p2.toInt8.toInt32)) = (0 : Int32) then to else (3 : Int32)) else (2 : Int32)) else (1 : Int32)))] [(.int (own_hit (0 : Int32) fr to e0 (p2.toInt8.toInt32)))]) := A156
  have A159 : own_R p l e room_1 s m #[(.int p1), (.int p2), (.int p3)] below meth c S0 n0 h80 1 4 (mkF m 193 #[.val (.int p1), .val (.int p2), .val (.int p3), .val (.int (p2.toInt8.toInt32)), .val (.ref xb), .val (.int f), .val (.int t), .val (.int fr), .val (.int to), .val (.int (if (own_hit (0 : Int32) fr to e0 (p2.toInt8.toInt32)) = (0 : Int32) then (if (own_hit (1 : Int32) fr to e1 (p2.toInt8.toInt32)) = (0 : Int32) then (if (own_hit (2 : Int32) fr to e2 (p2.toInt8.toInt32)) = (0 : Int32) then (if (own_hit (3 : Int32) fr to e3 (p2.toInt8.toInt32)) = (0 : Int32) then to else (3 : Int32)) else (2 : Int32)) else (1 : Int32)) else (0 : Int32)))] []) := by
    by_cases q158 : (own_hit (0 : Int32) fr to e0 (p2.toInt8.toInt32)) = (0 : Int32)
    · skip
      have A160 := A157.go (f' := mkF m 193 #[.val (.int p1), .val (.int p2), .val (.int p3), .val (.int (p2.toInt8.toInt32)), .val (.ref xb), .val (.int f), .val (.int t), .val (.int fr), .val (.int to), .val (.int (if (own_hit (1 : Int32) fr to e1 (p2.toInt8.toInt32)) = (0 : Int32) then (if (own_hit (2 : Int32) fr to e2 (p2.toInt8.toInt32)) = (0 : Int32) then (if (own_hit (3 : Int32) fr to e3 (p2.toInt8.toInt32)) = (0 : Int32) then to else (3 : Int32)) else (2 : Int32)) else (1 : Int32)))] []) fun _ _ X _ k => XS.ifYes X.here hx rfl (pc0 := 187) (pc' := 193) rfl (hb hby d0_187) rfl ((if0 _ _).trans (teq q158).1) (by decide) (by decide) k
      simp only [if_pos q158]
      exact A160
    · skip
      have A161 := A157.go (f' := mkF m 190 #[.val (.int p1), .val (.int p2), .val (.int p3), .val (.int (p2.toInt8.toInt32)), .val (.ref xb), .val (.int f), .val (.int t), .val (.int fr), .val (.int to), .val (.int (if (own_hit (1 : Int32) fr to e1 (p2.toInt8.toInt32)) = (0 : Int32) then (if (own_hit (2 : Int32) fr to e2 (p2.toInt8.toInt32)) = (0 : Int32) then (if (own_hit (3 : Int32) fr to e3 (p2.toInt8.toInt32)) = (0 : Int32) then to else (3 : Int32)) else (2 : Int32)) else (1 : Int32)))] []) fun _ _ X _ k => XS.ifNo X.here hx rfl (hb hby d0_187) rfl ((if0 _ _).trans (feq q158).1) k
      have A162 := A161.go (f' := mkF m 191 #[.val (.int p1), .val (.int p2), .val (.int p3), .val (.int (p2.toInt8.toInt32)), .val (.ref xb), .val (.int f), .val (.int t), .val (.int fr), .val (.int to), .val (.int (if (own_hit (1 : Int32) fr to e1 (p2.toInt8.toInt32)) = (0 : Int32) then (if (own_hit (2 : Int32) fr to e2 (p2.toInt8.toInt32)) = (0 : Int32) then (if (own_hit (3 : Int32) fr to e3 (p2.toInt8.toInt32)) = (0 : Int32) then to else (3 : Int32)) else (2 : Int32)) else (1 : Int32)))] [(.int (0 : Int32))]) fun _ _ X _ k => XS.iconst X.here hx rfl (hb hby d0_190) k
      have A163 := A162.go (f' := mkF m 193 #[.val (.int p1), .val (.int p2), .val (.int p3), .val (.int (p2.toInt8.toInt32)), .val (.ref xb), .val (.int f), .val (.int t), .val (.int fr), .val (.int to), .val (.int (0 : Int32))] []) fun _ _ X _ k => XS.istore X.here hx rfl (hb hby d0_191) rfl (l' := #[.val (.int p1), .val (.int p2), .val (.int p3), .val (.int (p2.toInt8.toInt32)), .val (.ref xb), .val (.int f), .val (.int t), .val (.int fr), .val (.int to), .val (.int (0 : Int32))]) rfl k
      simp only [if_neg q158]
      exact A163
  have A164 := A159.go (f' := mkF m 195 #[.val (.int p1), .val (.int p2), .val (.int p3), .val (.int (p2.toInt8.toInt32)), .val (.ref xb), .val (.int f), .val (.int t), .val (.int fr), .val (.int to), .val (.int (if (own_hit (0 : Int32) fr to e0 (p2.toInt8.toInt32)) = (0 : Int32) then (if (own_hit (1 : Int32) fr to e1 (p2.toInt8.toInt32)) = (0 : Int32) then (if (own_hit (2 : Int32) fr to e2 (p2.toInt8.toInt32)) = (0 : Int32) then (if (own_hit (3 : Int32) fr to e3 (p2.toInt8.toInt32)) = (0 : Int32) then to else (3 : Int32)) else (2 : Int32)) else (1 : Int32)) else (0 : Int32)))] [(.ref xb)]) fun _ _ X _ k => XS.aload X.here hx rfl (hb hby d0_193) rfl rfl k
  have A165 := A164.go (f' := mkF m 196 #[.val (.int p1), .val (.int p2), .val (.int p3), .val (.int (p2.toInt8.toInt32)), .val (.ref xb), .val (.int f), .val (.int t), .val (.int fr), .val (.int to), .val (.int (if (own_hit (0 : Int32) fr to e0 (p2.toInt8.toInt32)) = (0 : Int32) then (if (own_hit (1 : Int32) fr to e1 (p2.toInt8.toInt32)) = (0 : Int32) then (if (own_hit (2 : Int32) fr to e2 (p2.toInt8.toInt32)) = (0 : Int32) then (if (own_hit (3 : Int32) fr to e3 (p2.toInt8.toInt32)) = (0 : Int32) then to else (3 : Int32)) else (2 : Int32)) else (1 : Int32)) else (0 : Int32)))] [(.int (p2.toInt8.toInt32)), (.ref xb)]) fun _ _ X _ k => XS.iloadN X.here hx rfl (hb hby d0_195) rfl k
  have A166 := A165.go (f' := mkF m 198 #[.val (.int p1), .val (.int p2), .val (.int p3), .val (.int (p2.toInt8.toInt32)), .val (.ref xb), .val (.int f), .val (.int t), .val (.int fr), .val (.int to), .val (.int (if (own_hit (0 : Int32) fr to e0 (p2.toInt8.toInt32)) = (0 : Int32) then (if (own_hit (1 : Int32) fr to e1 (p2.toInt8.toInt32)) = (0 : Int32) then (if (own_hit (2 : Int32) fr to e2 (p2.toInt8.toInt32)) = (0 : Int32) then (if (own_hit (3 : Int32) fr to e3 (p2.toInt8.toInt32)) = (0 : Int32) then to else (3 : Int32)) else (2 : Int32)) else (1 : Int32)) else (0 : Int32)))] [(.int fr), (.int (p2.toInt8.toInt32)), (.ref xb)]) fun _ _ X _ k => XS.iload X.here hx rfl (hb hby d0_196) rfl k
  have A167 := A166.go (f' := mkF m 200 #[.val (.int p1), .val (.int p2), .val (.int p3), .val (.int (p2.toInt8.toInt32)), .val (.ref xb), .val (.int f), .val (.int t), .val (.int fr), .val (.int to), .val (.int (if (own_hit (0 : Int32) fr to e0 (p2.toInt8.toInt32)) = (0 : Int32) then (if (own_hit (1 : Int32) fr to e1 (p2.toInt8.toInt32)) = (0 : Int32) then (if (own_hit (2 : Int32) fr to e2 (p2.toInt8.toInt32)) = (0 : Int32) then (if (own_hit (3 : Int32) fr to e3 (p2.toInt8.toInt32)) = (0 : Int32) then to else (3 : Int32)) else (2 : Int32)) else (1 : Int32)) else (0 : Int32)))] [(.int to), (.int fr), (.int (p2.toInt8.toInt32)), (.ref xb)]) fun _ _ X _ k => XS.iload X.here hx rfl (hb hby d0_198) rfl k
  have hOB := own_rng p3 hf ht hfr hto
  have hexp := own_plain e0 e1 e2 e3 (p2.toInt8.toInt32) fr to hOB.1 hOB.2.1 hOB.2.2
  obtain ⟨vA168, hA168, ⟨rfl, rfl⟩, A168⟩ := A167.callS (own_idx l Z a0 hw xb (p2.toInt8.toInt32) fr to (if (own_hit (0 : Int32) fr to e0 (p2.toInt8.toInt32)) = (0 : Int32) then (if (own_hit (1 : Int32) fr to e1 (p2.toInt8.toInt32)) = (0 : Int32) then (if (own_hit (2 : Int32) fr to e2 (p2.toInt8.toInt32)) = (0 : Int32) then (if (own_hit (3 : Int32) fr to e3 (p2.toInt8.toInt32)) = (0 : Int32) then to else (3 : Int32)) else (2 : Int32)) else (1 : Int32)) else (0 : Int32)) [e0, e1, e2, e3] h80 n0 Z0 V_xb (by simpa using hOB.2.2) hOB.1 hOB.2.2 hexp) hx hZ hown (hb hby d0_200) (hw _ (List.mem_of_getElem? (i := 12) rfl)) (hw _ (List.mem_of_getElem? (i := 13) rfl)) (hw _ (List.mem_of_getElem? (i := 14) rfl)) (hw _ (List.mem_of_getElem? (i := 15) rfl)) ⟨by decide, by decide⟩ (lenOf pd__28_5bBBII_29I rfl) (argsL := [(.ref xb), (.int (p2.toInt8.toInt32)), (.int fr), (.int to)]) (rest := []) rfl rfl (by rw [hml]; rfl) (W := 0) (Nat.le_of_eq rfl) (by decide) (by decide) (by decide) (by decide)
  have A169 : own_R p l e _ _ m _ below meth c S0 n0 h80 1 4 (mkF m 203 #[.val (.int p1), .val (.int p2), .val (.int p3), .val (.int (p2.toInt8.toInt32)), .val (.ref xb), .val (.int f), .val (.int t), .val (.int fr), .val (.int to), .val (.int (if (own_hit (0 : Int32) fr to e0 (p2.toInt8.toInt32)) = (0 : Int32) then (if (own_hit (1 : Int32) fr to e1 (p2.toInt8.toInt32)) = (0 : Int32) then (if (own_hit (2 : Int32) fr to e2 (p2.toInt8.toInt32)) = (0 : Int32) then (if (own_hit (3 : Int32) fr to e3 (p2.toInt8.toInt32)) = (0 : Int32) then to else (3 : Int32)) else (2 : Int32)) else (1 : Int32)) else (0 : Int32)))] [(.int (if (own_hit (0 : Int32) fr to e0 (p2.toInt8.toInt32)) = (0 : Int32) then (if (own_hit (1 : Int32) fr to e1 (p2.toInt8.toInt32)) = (0 : Int32) then (if (own_hit (2 : Int32) fr to e2 (p2.toInt8.toInt32)) = (0 : Int32) then (if (own_hit (3 : Int32) fr to e3 (p2.toInt8.toInt32)) = (0 : Int32) then to else (3 : Int32)) else (2 : Int32)) else (1 : Int32)) else (0 : Int32)))]) := A168
  have A170 := A169.go (f' := mkF m 205 #[.val (.int p1), .val (.int p2), .val (.int p3), .val (.int (p2.toInt8.toInt32)), .val (.ref xb), .val (.int f), .val (.int t), .val (.int fr), .val (.int to), .val (.int (if (own_hit (0 : Int32) fr to e0 (p2.toInt8.toInt32)) = (0 : Int32) then (if (own_hit (1 : Int32) fr to e1 (p2.toInt8.toInt32)) = (0 : Int32) then (if (own_hit (2 : Int32) fr to e2 (p2.toInt8.toInt32)) = (0 : Int32) then (if (own_hit (3 : Int32) fr to e3 (p2.toInt8.toInt32)) = (0 : Int32) then to else (3 : Int32)) else (2 : Int32)) else (1 : Int32)) else (0 : Int32)))] [(.int (if (own_hit (0 : Int32) fr to e0 (p2.toInt8.toInt32)) = (0 : Int32) then (if (own_hit (1 : Int32) fr to e1 (p2.toInt8.toInt32)) = (0 : Int32) then (if (own_hit (2 : Int32) fr to e2 (p2.toInt8.toInt32)) = (0 : Int32) then (if (own_hit (3 : Int32) fr to e3 (p2.toInt8.toInt32)) = (0 : Int32) then to else (3 : Int32)) else (2 : Int32)) else (1 : Int32)) else (0 : Int32))), (.int (if (own_hit (0 : Int32) fr to e0 (p2.toInt8.toInt32)) = (0 : Int32) then (if (own_hit (1 : Int32) fr to e1 (p2.toInt8.toInt32)) = (0 : Int32) then (if (own_hit (2 : Int32) fr to e2 (p2.toInt8.toInt32)) = (0 : Int32) then (if (own_hit (3 : Int32) fr to e3 (p2.toInt8.toInt32)) = (0 : Int32) then to else (3 : Int32)) else (2 : Int32)) else (1 : Int32)) else (0 : Int32)))]) fun _ _ X _ k => XS.iload X.here hx rfl (hb hby d0_203) rfl k
  have q171 : ((if (own_hit (0 : Int32) fr to e0 (p2.toInt8.toInt32)) = (0 : Int32) then (if (own_hit (1 : Int32) fr to e1 (p2.toInt8.toInt32)) = (0 : Int32) then (if (own_hit (2 : Int32) fr to e2 (p2.toInt8.toInt32)) = (0 : Int32) then (if (own_hit (3 : Int32) fr to e3 (p2.toInt8.toInt32)) = (0 : Int32) then to else (3 : Int32)) else (2 : Int32)) else (1 : Int32)) else (0 : Int32)) = (if (own_hit (0 : Int32) fr to e0 (p2.toInt8.toInt32)) = (0 : Int32) then (if (own_hit (1 : Int32) fr to e1 (p2.toInt8.toInt32)) = (0 : Int32) then (if (own_hit (2 : Int32) fr to e2 (p2.toInt8.toInt32)) = (0 : Int32) then (if (own_hit (3 : Int32) fr to e3 (p2.toInt8.toInt32)) = (0 : Int32) then to else (3 : Int32)) else (2 : Int32)) else (1 : Int32)) else (0 : Int32))) := rfl
  have A172 := A170.go (f' := mkF m 208 #[.val (.int p1), .val (.int p2), .val (.int p3), .val (.int (p2.toInt8.toInt32)), .val (.ref xb), .val (.int f), .val (.int t), .val (.int fr), .val (.int to), .val (.int (if (own_hit (0 : Int32) fr to e0 (p2.toInt8.toInt32)) = (0 : Int32) then (if (own_hit (1 : Int32) fr to e1 (p2.toInt8.toInt32)) = (0 : Int32) then (if (own_hit (2 : Int32) fr to e2 (p2.toInt8.toInt32)) = (0 : Int32) then (if (own_hit (3 : Int32) fr to e3 (p2.toInt8.toInt32)) = (0 : Int32) then to else (3 : Int32)) else (2 : Int32)) else (1 : Int32)) else (0 : Int32)))] []) fun _ _ X _ k => XS.icmpNo X.here hx rfl (hb hby d0_205) rfl ((teq q171).2) k
  have A173 := A172.go (f' := mkF m 209 #[.val (.int p1), .val (.int p2), .val (.int p3), .val (.int (p2.toInt8.toInt32)), .val (.ref xb), .val (.int f), .val (.int t), .val (.int fr), .val (.int to), .val (.int (if (own_hit (0 : Int32) fr to e0 (p2.toInt8.toInt32)) = (0 : Int32) then (if (own_hit (1 : Int32) fr to e1 (p2.toInt8.toInt32)) = (0 : Int32) then (if (own_hit (2 : Int32) fr to e2 (p2.toInt8.toInt32)) = (0 : Int32) then (if (own_hit (3 : Int32) fr to e3 (p2.toInt8.toInt32)) = (0 : Int32) then to else (3 : Int32)) else (2 : Int32)) else (1 : Int32)) else (0 : Int32)))] [(.int (1 : Int32))]) fun _ _ X _ k => XS.iconst X.here hx rfl (hb hby d0_208) k
  have A174 := A173.go (f' := mkF m 213 #[.val (.int p1), .val (.int p2), .val (.int p3), .val (.int (p2.toInt8.toInt32)), .val (.ref xb), .val (.int f), .val (.int t), .val (.int fr), .val (.int to), .val (.int (if (own_hit (0 : Int32) fr to e0 (p2.toInt8.toInt32)) = (0 : Int32) then (if (own_hit (1 : Int32) fr to e1 (p2.toInt8.toInt32)) = (0 : Int32) then (if (own_hit (2 : Int32) fr to e2 (p2.toInt8.toInt32)) = (0 : Int32) then (if (own_hit (3 : Int32) fr to e3 (p2.toInt8.toInt32)) = (0 : Int32) then to else (3 : Int32)) else (2 : Int32)) else (1 : Int32)) else (0 : Int32)))] [(.int (1 : Int32))]) fun _ _ X _ k => XS.goto X.here hx rfl (pc0 := 209) (pc' := 213) rfl (hb hby d0_209) (by decide) (by decide) k
  exact A174.ret hx hlk hret (hb hby d0_213) rfl (Or.inl ⟨rfl, by simp, _, rfl⟩) (by decide) (by decide) ⟨rfl, trivial⟩
set_option maxRecDepth 65536 in
set_option maxHeartbeats 40000000 in
theorem comes_1 {Post : Tables → Env → Array Value → State → Outcome → State → Prop} (hpost : ∀ tb e args s v u, (limb_1_1.after args s (.returned v) u = true ∧ limb_1_2.after args s (.returned v) u = true ∧ True) → FrameEnd s (.returned v) u (Jvm.fieldLocs frame_1_writes args s ++ Jvm.arrayLocs frame_1_arrays args s ++ Jvm.staticLocs frame_1_statics s) 16 128 → Post tb e args s (.returned v) u) :
    ArmFor flags0 classFile x code maxLocals ret World_1 tables_1 room_1 Calls_1 rest_1 Pre_1 Post := by
  intro l hfl _ _ p e ha hc hk s m args below hf hA hF happ hP
  obtain ⟨hcalls, hrest, hpre⟩ := hP
  obtain ⟨-, -, -, hnamed, -, -, -, hat⟩ := (Spec.applies_iff hf).mp happ
  obtain ⟨hg, hn⟩ := and_e (Cond.before_iff.mp (show (Jvm.Cond.and given_1 narrow_1).before args s = true from hpre))
  obtain ⟨h1, g0⟩ := and_e hg
  obtain ⟨w0, w1, w2, rfl⟩ : ∃ w0 w1 w2 : Value, args = #[w0, w1, w2] := by
    have hs : args.size = 3 := by simpa [Cond.value, given_1] using h1
    obtain ⟨L⟩ := args
    match L, hs with
    | [w0, w1, w2], _ => exact ⟨w0, w1, w2, rfl⟩
  have hw := fun d (hd : d ∈ tables_1) => atoms_spec (ws := Jvm.Cond.code x code maxLocals ret :: tables_1) hat d (List.mem_cons_of_mem _ hd)
  have hfit : Fit s := fun {y c} hc i hi => by
    obtain ⟨ha, rfl⟩ := Array.getElem?_eq_some_iff.mp hc
    have q := List.all_eq_true.mp ((Array.all_eq_true_iff_forall_mem.mp hF) _ (Array.getElem_mem ha)) i (List.mem_range.mpr hi)
    simpa [Array.getElem?_eq_getElem hi] using q
  obtain ⟨k0, g1⟩ := and_e g0
  obtain ⟨i0, e0⟩ := is_v k0
  obtain rfl : w0 = (.int i0) := Option.some.inj e0
  obtain ⟨k1, g2⟩ := and_e g1
  obtain ⟨i1, e1⟩ := is_v k1
  obtain rfl : w1 = (.int i1) := Option.some.inj e1
  obtain ⟨i2, e2⟩ := is_v g2
  obtain rfl : w2 = (.int i2) := Option.some.inj e2
  obtain ⟨n, o, h1, h2, h3, _, L, rfl, ⟨⟨rfl, -⟩, N⟩, hq⟩ := (own_law l s _ hw i0 i1 i2 s.heap s.heap.size (Nat.le_refl _)) p e ha hc hk s m _ below hf ((Spec.applies_iff_loose hf).mp happ).1 ⟨rfl, State.Warmed39.refl s, rfl⟩ trivial
  refine ⟨n, _, h1, h2, h3, hpost _ _ _ _ _ _ ⟨Cond.after_iff.mpr rfl, Cond.after_iff.mpr (eq_i res_at (Term.int_eval (1)) rfl), trivial⟩ ⟨hq.1, hq.2.1, (hq.2.2.sift fun y hy => Or.inr (N y hy)).mono (by decide) (by decide)⟩⟩
theorem main_1_1 : Claimed_1_1 := comes_1 fun _ _ _ _ _ _ h hF => ⟨h.1, hF⟩
theorem main_1_2 : Claimed_1_2 := comes_1 fun _ _ _ _ _ _ h hF => ⟨h.2.1, hF⟩
end Jvm.Pilot.@@N@@
namespace Jvm.Pilot.@@N@@
open Jvm Jvm.ClassFile Sem Op Lib Jvm.Free Jvm.Stand Jvm.Pilot.@@N@@.Jvm.D
/-! MADE BY PROGRAM (witnessworld.py) out of the Statement's table words and the real class files: 10 classes; the members and pool entries that the words name. The judged class is class 1, her method 1. -/
namespace start1
open Jvm.ClassFile
def u (s : String) : CpInfo := .utf8 (stringToUtf16 s)
/-- a pool by its gaps: so many unusable entries, then the entry; so many at the end -/
def gap : Nat → List CpInfo → List CpInfo
  | 0, r => r
  | n + 1, r => .unusable :: gap n r
def poolList (es : List (Nat × CpInfo)) (last : Nat) : List CpInfo := es.foldr (fun e r => gap e.1 (e.2 :: r)) (gap last [])
def pool (es : List (Nat × CpInfo)) (last : Nat) : Array CpInfo := ⟨poolList es last⟩
def fileOf (pool : Array CpInfo) (this : Nat) (attrs : Array Attribute := #[]) (ms : Array MethodInfo := #[]) (fl : Nat := 33) (sup : Nat := 0) (ifs : Array Nat := #[]) (fds : Array FieldInfo := #[]) : ClassFile where
  minorVersion := 0
  majorVersion := 65
  constantPool := pool
  accessFlags := fl
  thisClass := this
  superClass := sup
  interfaces := ifs
  fields := fds
  methods := ms
  attributes := attrs
def plain (name : String) (sup : Option ClassId) : Class where
  name := name
  kind := .ordinary
  loader := none
  accessFlags := 33
  super := sup
  interfaces := #[]
  cf := none
  fields := #[]
  methods := #[]
  instanceTypes := #[]
  staticTypes := #[]
  resolved := #[]
  callSites := []
  init := .initialized
  statics := none
  mirror := none

def pool0 : Array CpInfo := pool [(5, u "<init>"), (0, u "()V"), (1, .class_ 10), (1, u "java/lang/Object")] 113

def k0m0 : Method := { name := "<init>", desc := "()V", sig := { parameters := [], returnType := none }, accessFlags := 1, code := none }
/-- java/lang/Object -/
def k0 : Class := { plain "java/lang/Object" none with
  accessFlags := 33
  interfaces := #[]
  cf := some (fileOf pool0 8 #[] #[{ accessFlags := 1, nameIndex := 5, descriptorIndex := 6, attributes := #[] }] 33 0 #[] #[])
  fields := #[]
  methods := #[k0m0]
  instanceTypes := #[]
  staticTypes := #[]
  resolved := Array.replicate 124 none
  statics := none }

def pool1 : Array CpInfo := pool [(2, .class_ 4), (1, u "java/lang/Object"), (0, u "<init>"), (0, u "()V"), (0, .methodref 8 9), (0, .class_ 10), (0, .nameAndType 11 12), (0, u "java/lang/Math"), (0, u "min"), (0, u "(II)I"), (0, .methodref 8 14), (0, .nameAndType 15 12), (0, u "max"), (0, .methodref 17 18), (0, .class_ 19), (0, .nameAndType 20 21), (0, u "com/example/modest_issuer/modestissuer/core/FormEncodingIndexOfPinLaw"), (0, u "hit"), (0, u "([BIIIB)Z"), (0, .methodref 23 24), (0, .class_ 25), (0, .nameAndType 26 27), (0, u "com/example/modest_issuer/modestissuer/core/FormEncoding"), (0, u "indexOf"), (0, u "([BBII)I"), (2, u "law"), (0, u "(III)Z")] 5

def k1m0 : Method := { name := "<init>", desc := "()V", sig := { parameters := [], returnType := none }, accessFlags := 1, code := none }
def k1c1 : Code := { maxStack := 5, maxLocals := 10, code := code, exceptionTable := #[], attributes := #[] }
def k1m1 : Method := { name := "law", desc := "(III)Z", sig := { parameters := [.int, .int, .int], returnType := some .boolean }, accessFlags := 9, code := some k1c1 }
def k1c2 : Code := { maxStack := 2, maxLocals := 5, code := method_3_code, exceptionTable := #[], attributes := #[] }
def k1m2 : Method := { name := "hit", desc := "([BIIIB)Z", sig := { parameters := [(.array .byte), .int, .int, .int, .byte], returnType := some .boolean }, accessFlags := 10, code := some k1c2 }
/-- com/example/modest_issuer/modestissuer/core/FormEncodingIndexOfPinLaw -/
def k1 : Class := { plain "com/example/modest_issuer/modestissuer/core/FormEncodingIndexOfPinLaw" (some 0) with
  accessFlags := 49
  interfaces := #[]
  cf := some (fileOf pool1 17 #[] #[{ accessFlags := 1, nameIndex := 5, descriptorIndex := 6, attributes := #[] }, { accessFlags := 9, nameIndex := 30, descriptorIndex := 31, attributes := #[] }, { accessFlags := 10, nameIndex := 20, descriptorIndex := 21, attributes := #[] }] 49 2 #[] #[])
  fields := #[]
  methods := #[k1m0, k1m1, k1m2]
  instanceTypes := #[]
  staticTypes := #[]
  resolved := Array.replicate 37 none
  statics := none }

def pool2 : Array CpInfo := pool [(1, .class_ 2), (0, u "java/lang/Math"), (1, .class_ 6), (1, u "java/lang/Object"), (0, u "<init>"), (0, u "()V"), (89, .class_ 100), (1, u "java/lang/Math$RandomNumberGeneratorHolder"), (71, u "negativeZeroFloatBits"), (0, u "J"), (2, u "negativeZeroDoubleBits"), (21, u "max"), (2, u "min"), (43, u "$assertionsDisabled"), (0, u "Z"), (88, u "(II)I"), (2, u "twoToTheDoubleScaleDown"), (0, u "D"), (4, u "twoToTheDoubleScaleUp"), (9, u "E"), (3, u "PI"), (2, u "TAU"), (2, u "DEGREES_TO_RADIANS"), (0, u "RADIANS_TO_DEGREES")] 94

def k2m0 : Method := { name := "<init>", desc := "()V", sig := { parameters := [], returnType := none }, accessFlags := 2, code := none }
def k2c1 : Code := { maxStack := 2, maxLocals := 2, code := jdk_29_method_65_code, exceptionTable := #[], attributes := #[] }
def k2m1 : Method := { name := "max", desc := "(II)I", sig := { parameters := [.int, .int], returnType := some .int }, accessFlags := 9, code := some k2c1 }
def k2c2 : Code := { maxStack := 2, maxLocals := 2, code := jdk_29_method_69_code, exceptionTable := #[], attributes := #[] }
def k2m2 : Method := { name := "min", desc := "(II)I", sig := { parameters := [.int, .int], returnType := some .int }, accessFlags := 9, code := some k2c2 }
/-- java/lang/Math -/
def k2 : Class := { plain "java/lang/Math" (some 0) with
  accessFlags := 49
  interfaces := #[]
  cf := some (fileOf pool2 1 #[.nestMembers #[98]] #[{ accessFlags := 2, nameIndex := 7, descriptorIndex := 8, attributes := #[] }, { accessFlags := 9, nameIndex := 198, descriptorIndex := 335, attributes := #[] }, { accessFlags := 9, nameIndex := 201, descriptorIndex := 335, attributes := #[] }] 49 4 #[] #[{ accessFlags := 25, nameIndex := 354, descriptorIndex := 339, attributes := #[] }, { accessFlags := 25, nameIndex := 358, descriptorIndex := 339, attributes := #[] }, { accessFlags := 25, nameIndex := 361, descriptorIndex := 339, attributes := #[] }, { accessFlags := 26, nameIndex := 364, descriptorIndex := 339, attributes := #[] }, { accessFlags := 26, nameIndex := 365, descriptorIndex := 339, attributes := #[] }, { accessFlags := 26, nameIndex := 172, descriptorIndex := 173, attributes := #[] }, { accessFlags := 26, nameIndex := 176, descriptorIndex := 173, attributes := #[] }, { accessFlags := 8, nameIndex := 344, descriptorIndex := 339, attributes := #[] }, { accessFlags := 8, nameIndex := 338, descriptorIndex := 339, attributes := #[] }, { accessFlags := 4120, nameIndex := 245, descriptorIndex := 246, attributes := #[] }])
  fields := #[{ name := "E", type := .double, accessFlags := 25, slot := 0, constantValue := 0 }, { name := "PI", type := .double, accessFlags := 25, slot := 1, constantValue := 0 }, { name := "TAU", type := .double, accessFlags := 25, slot := 2, constantValue := 0 }, { name := "DEGREES_TO_RADIANS", type := .double, accessFlags := 26, slot := 3, constantValue := 0 }, { name := "RADIANS_TO_DEGREES", type := .double, accessFlags := 26, slot := 4, constantValue := 0 }, { name := "negativeZeroFloatBits", type := .long, accessFlags := 26, slot := 5, constantValue := 0 }, { name := "negativeZeroDoubleBits", type := .long, accessFlags := 26, slot := 6, constantValue := 0 }, { name := "twoToTheDoubleScaleUp", type := .double, accessFlags := 8, slot := 7, constantValue := 0 }, { name := "twoToTheDoubleScaleDown", type := .double, accessFlags := 8, slot := 8, constantValue := 0 }, { name := "$assertionsDisabled", type := .boolean, accessFlags := 4120, slot := 9, constantValue := 0 }]
  methods := #[k2m0, k2m1, k2m2]
  instanceTypes := #[]
  staticTypes := #[.double, .double, .double, .double, .double, .long, .long, .double, .double, .boolean]
  resolved := Array.replicate 460 none
  statics := none }

def pool3 : Array CpInfo := pool [(2, .class_ 4), (1, u "java/lang/Object"), (0, u "<init>"), (0, u "()V"), (4, .class_ 13), (1, u "com/example/modest_issuer/modestissuer/core/FormEncoding"), (0, u "indexOf"), (0, u "([BBII)I")] 106

def k3m0 : Method := { name := "<init>", desc := "()V", sig := { parameters := [], returnType := none }, accessFlags := 2, code := none }
def k3c1 : Code := { maxStack := 2, maxLocals := 5, code := prog_10_method_4_code, exceptionTable := #[], attributes := #[] }
def k3m1 : Method := { name := "indexOf", desc := "([BBII)I", sig := { parameters := [(.array .byte), .byte, .int, .int], returnType := some .int }, accessFlags := 8, code := some k3c1 }
/-- com/example/modest_issuer/modestissuer/core/FormEncoding -/
def k3 : Class := { plain "com/example/modest_issuer/modestissuer/core/FormEncoding" (some 0) with
  accessFlags := 33
  interfaces := #[]
  cf := some (fileOf pool3 11 #[] #[{ accessFlags := 2, nameIndex := 5, descriptorIndex := 6, attributes := #[] }, { accessFlags := 8, nameIndex := 14, descriptorIndex := 15, attributes := #[] }] 33 2 #[] #[])
  fields := #[]
  methods := #[k3m0, k3m1]
  instanceTypes := #[]
  staticTypes := #[]
  resolved := Array.replicate 122 none
  statics := none }

def pool4 : Array CpInfo := pool [(1, u "java/lang/Cloneable"), (0, .class_ 1), (0, u "java/lang/Object"), (0, .class_ 3)] 3

/-- java/lang/Cloneable -/
def k4 : Class := { plain "java/lang/Cloneable" (some 0) with
  accessFlags := 1537
  interfaces := #[]
  cf := some (fileOf pool4 2 #[] #[] 1537 4 #[] #[])
  fields := #[]
  methods := #[]
  instanceTypes := #[]
  staticTypes := #[]
  resolved := Array.replicate 8 none
  statics := none }

def pool5 : Array CpInfo := pool [(1, u "java/io/Serializable"), (0, .class_ 1), (0, u "java/lang/Object"), (0, .class_ 3)] 3

/-- java/io/Serializable -/
def k5 : Class := { plain "java/io/Serializable" (some 0) with
  accessFlags := 1537
  interfaces := #[]
  cf := some (fileOf pool5 2 #[] #[] 1537 4 #[] #[])
  fields := #[]
  methods := #[]
  instanceTypes := #[]
  staticTypes := #[]
  resolved := Array.replicate 8 none
  statics := none }

/-- the primitive byte -/
def k6 : Class := { plain "byte" none with kind := .primitive 'B', accessFlags := 0x411 }
/-- [B -/
def k7 : Class := { plain "[B" (some 0) with kind := .array 6 .byte, interfaces := #[4, 5], accessFlags := 1041 }

/-- the primitive int -/
def k8 : Class := { plain "int" none with kind := .primitive 'I', accessFlags := 0x411 }
/-- [I -/
def k9 : Class := { plain "[I" (some 0) with kind := .array 8 .int, interfaces := #[4, 5], accessFlags := 1041 }

def heap : Heap := #[]
def classes : Array Class := #[k0, k1, k2, k3, k4, k5, k6, k7, k8, k9]
def interned : List (Array UInt16 × Addr) := []
def slotsUsed : Nat := 0
def theMethod : MethodId := ⟨1, 1⟩
def args0 : Array Value := #[.int 1, .int 2, .int 3]
def aboutOver (below : List Frame) : State where
  vm := { classes := classes, interned := interned.toArray }
  heap := heap
  slotsUsed := slotsUsed
  threads := #[{ frames := .invoking theMethod args0 :: below }]
def below0 : List Frame := [.native { method := ⟨0, 0⟩, args := #[] }]
def about1 : State := aboutOver below0
def p0 : Program := .bare "" "" ""
def e0 : Env := launch0.env 0 0 0
theorem w_frames : about1.frames = Frame.invoking theMethod args0 :: below0 := rfl
set_option maxRecDepth 65536 in
theorem w_args : argsFit about1.vm theMethod args0 = true := by decide +kernel
set_option maxRecDepth 65536 in
theorem w_heap : heapFits about1 = true := by decide +kernel
set_option maxRecDepth 65536 in
theorem w_runnable : about1.curStatus? = some .runnable := by decide +kernel
set_option maxRecDepth 65536 in
theorem w_alone : about1.alone = true := by decide +kernel
set_option maxRecDepth 65536 in
theorem w_named : about1.methodNamed? x = some theMethod := by decide +kernel
set_option maxRecDepth 65536 in
theorem w_hears : about1.hears theMethod below0 = true := by decide +kernel
set_option maxRecDepth 65536 in
theorem w_ripe : about1.ripe theMethod args0 below0 = true := by decide +kernel
theorem w_running : about1.status = .running := rfl
set_option maxRecDepth 65536 in
theorem w_room : about1.hasRoom e0.platform room_1 = true :=
  launch0.hasRoom_least _ room_1 (by decide +kernel) (by decide +kernel) (by decide +kernel) (by decide +kernel) (by decide +kernel) (by decide +kernel)
theorem allAtoms_all (ts : List Jvm.Cond) (a : Array Jvm.Value) (st : Jvm.State) : (allAtoms ts).before a st = ts.all (fun c => c.before a st) := by
  induction ts with
  | nil => rfl
  | cons c t ih =>
    show (Jvm.Cond.and c (allAtoms t)).before a st = _
    rw [Jvm.Cond.before_and, ih, List.all_cons]
def words1 : List Jvm.Cond := Jvm.Cond.code x code maxLocals ret :: tables_1
/-- a 'code' word, met by the world's own term for the bytes: nothing is compared byte by byte -/
theorem code_word {y : MethodName} {bytes : ByteArray} {mx : Nat} {rt : Option FieldType} {a : Array Value} {s : State} {m : MethodId} {meth : Method} {c : Code} (h1 : s.methodNamed? y = some m) (h2 : s.vm.method? m = some meth) (h3 : meth.code = some c) (h4 : c.code = bytes)
    (h5 : (c.maxLocals == mx && c.exceptionTable.isEmpty && decide (c.maxStack ≤ mostOperands) && decide (meth.sig.returnType = rt) && !meth.locks && decide (parseMethodDescriptor y.desc = some meth.sig)) = true) : (Jvm.Cond.code y bytes mx rt).before a s = true := by
  simp only [Bool.and_eq_true, beq_iff_eq, Bool.not_eq_true', decide_eq_true_eq] at h5
  obtain ⟨⟨⟨⟨⟨g1, g2⟩, g3⟩, g4⟩, g5⟩, g6⟩ := h5
  simp [Cond.before, Cond.holds, Cond.value, h1, h2, h3, h4, g1, g2, g3, g4, g5, g6]
def isCode : Jvm.Cond → Bool
  | .code _ _ _ _ => true
  | _ => false
theorem all_split {L : List Jvm.Cond} {P : Jvm.Cond → Bool} (h1 : L.all (fun c => isCode c || P c) = true) (h2 : ∀ c ∈ L.filter isCode, P c = true) : L.all P = true := by
  refine List.all_eq_true.mpr fun c hc => ?_
  have h := List.all_eq_true.mp h1 c hc
  rcases Bool.eq_false_or_eq_true (isCode c) with hi | hi
  · exact h2 c (List.mem_filter.mpr ⟨hc, hi⟩)
  · simpa [hi] using h
set_option maxRecDepth 65536 in
theorem w_c0 : (Jvm.Cond.code x code maxLocals ret).before args0 about1 = true := code_word (m := ⟨1, 1⟩) (meth := k1m1) (c := k1c1) (by decide +kernel) rfl rfl rfl (by decide +kernel)
set_option maxRecDepth 65536 in
theorem w_c1 : (Jvm.Cond.code ({ cls := "java/lang/Math", name := "min", desc := "(II)I" } : Jvm.MethodName) jdk_29_method_69_code (2 : Nat) (Option.some Jvm.ClassFile.FieldType.int)).before args0 about1 = true := code_word (m := ⟨2, 2⟩) (meth := k2m2) (c := k2c2) (by decide +kernel) rfl rfl rfl (by decide +kernel)
set_option maxRecDepth 65536 in
theorem w_c2 : (Jvm.Cond.code ({ cls := "java/lang/Math", name := "max", desc := "(II)I" } : Jvm.MethodName) jdk_29_method_65_code (2 : Nat) (Option.some Jvm.ClassFile.FieldType.int)).before args0 about1 = true := code_word (m := ⟨2, 1⟩) (meth := k2m1) (c := k2c1) (by decide +kernel) rfl rfl rfl (by decide +kernel)
set_option maxRecDepth 65536 in
theorem w_c3 : (Jvm.Cond.code ({ cls := "com/example/modest_issuer/modestissuer/core/FormEncodingIndexOfPinLaw", name := "hit", desc := "([BIIIB)Z" } : Jvm.MethodName) method_3_code (5 : Nat) (Option.some Jvm.ClassFile.FieldType.boolean)).before args0 about1 = true := code_word (m := ⟨1, 2⟩) (meth := k1m2) (c := k1c2) (by decide +kernel) rfl rfl rfl (by decide +kernel)
set_option maxRecDepth 65536 in
theorem w_c4 : (Jvm.Cond.code ({ cls := "com/example/modest_issuer/modestissuer/core/FormEncoding", name := "indexOf", desc := "([BBII)I" } : Jvm.MethodName) prog_10_method_4_code (5 : Nat) (Option.some Jvm.ClassFile.FieldType.int)).before args0 about1 = true := code_word (m := ⟨3, 1⟩) (meth := k3m1) (c := k3c1) (by decide +kernel) rfl rfl rfl (by decide +kernel)
def codes1 : List Jvm.Cond := [Jvm.Cond.code x code maxLocals ret, Jvm.Cond.code ({ cls := "java/lang/Math", name := "min", desc := "(II)I" } : Jvm.MethodName) jdk_29_method_69_code (2 : Nat) (Option.some Jvm.ClassFile.FieldType.int), Jvm.Cond.code ({ cls := "java/lang/Math", name := "max", desc := "(II)I" } : Jvm.MethodName) jdk_29_method_65_code (2 : Nat) (Option.some Jvm.ClassFile.FieldType.int), Jvm.Cond.code ({ cls := "com/example/modest_issuer/modestissuer/core/FormEncodingIndexOfPinLaw", name := "hit", desc := "([BIIIB)Z" } : Jvm.MethodName) method_3_code (5 : Nat) (Option.some Jvm.ClassFile.FieldType.boolean), Jvm.Cond.code ({ cls := "com/example/modest_issuer/modestissuer/core/FormEncoding", name := "indexOf", desc := "([BBII)I" } : Jvm.MethodName) prog_10_method_4_code (5 : Nat) (Option.some Jvm.ClassFile.FieldType.int)]
set_option maxRecDepth 65536 in
theorem codes_eq : words1.filter isCode = codes1 := rfl
theorem w_codes : ∀ c ∈ words1.filter isCode, c.before args0 about1 = true := by
  rw [codes_eq]
  intro c hc
  simp only [codes1, List.mem_cons, List.not_mem_nil, or_false] at hc
  rcases hc with rfl | rfl | rfl | rfl | rfl
  · exact w_c0
  · exact w_c1
  · exact w_c2
  · exact w_c3
  · exact w_c4
set_option maxRecDepth 65536 in
theorem w_t1 : words1.all (fun c => isCode c || c.before args0 about1) = true := by decide +kernel
theorem w_tables : (allAtoms (Jvm.Cond.code x code maxLocals ret :: tables_1)).before args0 about1 = true := by
  rw [allAtoms_all]
  show words1.all (fun c => c.before args0 about1) = true
  refine all_split ?_ w_codes
  rw [w_t1]
set_option maxRecDepth 65536 in
theorem w_case : (Jvm.Cond.and given_1 narrow_1).before args0 about1 = true := by decide +kernel
theorem w_applies : (headSpec (Jvm.Cond.code x code maxLocals ret :: tables_1) room_1).applies x e0.platform about1 = true :=
  (Spec.applies_iff w_frames).mpr ⟨w_running, w_runnable, w_alone, w_named, w_hears, w_ripe, w_room, w_tables⟩
theorem atStart : AtStart classFile x code maxLocals ret World_1 tables_1 room_1 Calls_1 rest_1 Pre_1 launch0 p0 e0 about1 theMethod args0 below0 :=
  ⟨lists_1, trivial, launch0.admits_env _ _ _, launch0.least_env, fairChoices_fair.cas, fairChoices_fair.clock, w_frames, w_args, w_heap, w_applies, trivial, trivial, w_case⟩
end start1
theorem witness_1 : WitnessClaimed_1 := ⟨start1.p0, start1.e0, start1.about1, start1.theMethod, start1.args0, start1.below0, start1.atStart⟩
end Jvm.Pilot.@@N@@
