import JvmDerived
import JvmDerived.Pilot.@@N@@Statement
import JvmDerived.Pilot.@@N@@Code
set_option linter.unusedVariables false
set_option linter.unusedSimpArgs false
@@BLOCK:NumsL.lean.txt@@
namespace Jvm.Pilot.@@N@@
open Jvm Jvm.ClassFile Sem Op Lib Jvm.Free Jvm.Stand Jvm.LawKit Jvm.RoadKit Bundle Jvm.Pilot.@@N@@.Jvm.D

section Own
variable {p : Program} {l : Launch} {e : Env} {R : Room} {s : State} {m : MethodId} {args : Array Value} {below : List Frame} {meth : Method} {c : Code} {S0 : State} {n0 : Nat} {h h' : Heap} {ce sl ce' sl' : Nat} {f f' : JFrame} {Z : State} {a0 : Array Value}
/-- the walk stands at the frame f over the heap h; it has made ce cells and sl slots; what it wrote lies at or above n0 -/
def own_R (p : Program) (l : Launch) (e : Env) (R : Room) (s : State) (m : MethodId) (args : Array Value) (below : List Frame) (meth : Method) (c : Code) (S0 : State) (n0 : Nat) (h : Heap) (ce sl : Nat) (f : JFrame) : Prop :=
  ∃ T L, Stand p l e R s m args below meth c T L ce sl ∧ T.heap = h ∧ Fr n0 L ∧ Steps p.tables e below S0 (T.setTop f)
/-- the walk has returned, and Q holds of what it returned and of the heap -/
def own_E (p : Program) (e : Env) (R : Room) (s : State) (below : List Frame) (S0 : State) (n0 : Nat) (Q : Option Value → Heap → Prop) : Prop :=
  ∃ s₂ v L, Steps p.tables e below S0 s₂ ∧ s₂.status = .running ∧ Ended s₂ below (.returned v) ∧ (Q v s₂.heap ∧ Fr n0 L) ∧ FrameEnd s (.returned v) s₂ L R.cells R.slots
/-- a body's contract -/
def own_M (l : Launch) (Z : State) (y : MethodName) (bytes : ByteArray) (maxL : Nat) (ret : Option FieldType) (ws : List Cond) (rm : Room) (as : Array Value) (h0 : Heap) (n0 : Nat) (Q : Option Value → Heap → Prop) : Prop :=
  MetFree l y (head1 (Cond.code y bytes maxL ret :: ws) rm) (fun a U => a = as ∧ Z.Warmed39 U.vm ∧ U.heap = h0) (fun _ _ _ _ _ => True) (fun _ U o U' => ∃ v L, o = .returned v ∧ (Q v U'.heap ∧ Fr n0 L) ∧ FrameEnd U o U' L rm.cells rm.slots)
theorem own_M.of {y : MethodName} {bytes : ByteArray} {maxL : Nat} {ret : Option FieldType} {ws : List Cond} {rm : Room} {as : Array Value} {h0 : Heap} {Q : Option Value → Heap → Prop} (pn : plainFor y = true)
    (body : ∀ (p : Program) (e : Env) (s : State) (m : MethodId) (below : List Frame) (meth : Method) (c : Code) (S0 : State), p.tables.exec = Jvm.exec → c.code = bytes → c.maxLocals = maxL → s.vm.findClass y.cls = some m.cls → meth.name = y.name → meth.sig.returnType = ret → meth.locks = false → Z.Warmed39 s.vm →
      own_R p l e rm s m as below meth c S0 n0 h0 0 0 (entryFrame m as maxL) → own_E p e rm s below S0 n0 Q) :
    own_M l Z y bytes maxL ret ws rm as h0 n0 Q := by
  refine MetFree.of_bodySF pn hisR ?_
  intro p e s m args below meth c s₁ Bd hml0 hP hK
  obtain ⟨rfl, hZ, hh⟩ := hP
  have e0 : s₁.heap = h0 := by rw [← hh, Bd.state]; rfl
  obtain ⟨s₂, v, L, k, hrun, hend, hq, hF⟩ := body p e s m below meth c _ Bd.exec Bd.bytes hml0 (findClass_of_methodNamed Bd.named) (name_of_methodNamed Bd.named Bd.method).1 Bd.returns Bd.notSynchronized hZ ⟨s₁, [], Stand.of_body Bd, e0, Fr.nil n0, Steps.refl _⟩
  exact ⟨s₂, _, k, hrun, hend, v, L, rfl, hq, hF⟩
theorem own_R.cast (A : own_R p l e R s m args below meth c S0 n0 h ce sl f) (q : f = f') : own_R p l e R s m args below meth c S0 n0 h ce sl f' := q ▸ A
theorem own_R.go (A : own_R p l e R s m args below meth c S0 n0 h ce sl f)
    (st : ∀ T L, Stand p l e R s m args below meth c T L ce sl → ∀ target, Steps p.tables e below (T.setTop f') target → Steps p.tables e below (T.setTop f) target) :
    own_R p l e R s m args below meth c S0 n0 h ce sl f' := by
  obtain ⟨T, L, X, eT, N, k⟩ := A
  exact ⟨T, L, X, eT, N, k.trans (st T L X _ (Steps.refl _))⟩
theorem own_R.law (A : own_R p l e R s m args below meth c S0 n0 h ce sl f)
    (st : ∀ T L, Stand p l e R s m args below meth c T L ce sl → T.heap = h → Fr n0 L → ∃ T' L', Stand p l e R s m args below meth c T' L' ce' sl' ∧ T'.heap = h' ∧ Fr n0 L' ∧ ∀ target, Steps p.tables e below (T'.setTop f') target → Steps p.tables e below (T.setTop f) target) :
    own_R p l e R s m args below meth c S0 n0 h' ce' sl' f' := by
  obtain ⟨T, L, X, eT, N, k⟩ := A
  obtain ⟨T', L', X', e', N', k'⟩ := st T L X eT N
  exact ⟨T', L', X', e', N', k.trans (k' _ (Steps.refl _))⟩
theorem own_R.getF {pc : Nat} {Ls : Array Slot} {rest : List Value} {a : Addr} {v : Value} {own R0 O n d : String} {index : Nat}
    (A : own_R p l e R s m args below meth c S0 n0 h ce sl (mkF m pc Ls (.ref a :: rest))) (hx : p.tables.exec = Jvm.exec) (hZ : Z.Warmed39 s.vm) (hown : s.vm.findClass own = some m.cls)
    (hd : decode c.code pc = .ok (.getfield index, 3)) (w : (Cond.fieldLink own index R0 n d).before a0 Z = true) (via : Via Z R0 O n d) (F : Fld Z h a O n d v) :
    own_R p l e R s m args below meth c S0 n0 h ce sl (mkF m (pc + 3) Ls (v :: rest)) := A.law fun T L X eT N => by
  obtain ⟨T', X', e', st⟩ := RoadKit.getF X hx hZ hown (host := "") (Or.inl w) via eT F (g := mkF m pc Ls (.ref a :: rest)) rfl rfl hd
  exact ⟨T', L, X', e', N, st⟩
theorem own_R.getS {pc : Nat} {Ls : Array Slot} {st : List Value} {v : Value} {own R0 O n d : String} {index : Nat}
    (A : own_R p l e R s m args below meth c S0 n0 h ce sl (mkF m pc Ls st)) (hx : p.tables.exec = Jvm.exec) (hZ : Z.Warmed39 s.vm) (hown : s.vm.findClass own = some m.cls)
    (hd : decode c.code pc = .ok (.getstatic index, 3)) (w : (Cond.fieldLink own index R0 n d).before a0 Z = true) (via : Via Z R0 O n d) (F : Sta Z h O n d v) :
    own_R p l e R s m args below meth c S0 n0 h ce sl (mkF m (pc + 3) Ls (v :: st)) := A.law fun T L X eT N => by
  obtain ⟨T', X', e', k⟩ := RoadKit.getS X hx hZ hown (host := "") w via eT F (g := mkF m pc Ls st) rfl hd
  exact ⟨T', L, X', e', N, k⟩
theorem own_R.ldcI {pc : Nat} {Ls : Array Slot} {st : List Value} {v : Int32} {own : String} {index : Nat}
    (A : own_R p l e R s m args below meth c S0 n0 h ce sl (mkF m pc Ls st)) (hx : p.tables.exec = Jvm.exec) (hZ : Z.Warmed39 s.vm) (hown : s.vm.findClass own = some m.cls)
    (hd : decode c.code pc = .ok (.ldc index, 2)) (w : (Cond.constant own index v).before a0 Z = true) :
    own_R p l e R s m args below meth c S0 n0 h ce sl (mkF m (pc + 2) Ls (.int v :: st)) := A.go fun T L X t k =>
  X.ldcInt hx hown (mvT hZ w) (g := mkF m pc Ls st) rfl hd t k
theorem own_R.ldcL {pc : Nat} {Ls : Array Slot} {st : List Value} {v : Int64} {own : String} {index : Nat}
    (A : own_R p l e R s m args below meth c S0 n0 h ce sl (mkF m pc Ls st)) (hx : p.tables.exec = Jvm.exec) (hZ : Z.Warmed39 s.vm) (hown : s.vm.findClass own = some m.cls)
    (hd : decode c.code pc = .ok (.ldc2_w index, 3)) (w : (Cond.constantLong own index v).before a0 Z = true) :
    own_R p l e R s m args below meth c S0 n0 h ce sl (mkF m (pc + 3) Ls (.long v :: st)) := A.go fun T L X t k =>
  X.ldc2Long hx hown (mvT hZ w) (g := mkF m pc Ls st) rfl hd t k
theorem own_R.ldcD {pc : Nat} {Ls : Array Slot} {st : List Value} {v : UInt64} {own : String} {index : Nat}
    (A : own_R p l e R s m args below meth c S0 n0 h ce sl (mkF m pc Ls st)) (hx : p.tables.exec = Jvm.exec) (hZ : Z.Warmed39 s.vm) (hown : s.vm.findClass own = some m.cls)
    (hd : decode c.code pc = .ok (.ldc2_w index, 3)) (w : (Cond.constantDouble own index v).before a0 Z = true) :
    own_R p l e R s m args below meth c S0 n0 h ce sl (mkF m (pc + 3) Ls (.double v :: st)) := A.go fun T L X t k =>
  X.ldc2DoubleC hx hown (mvT hZ w) (g := mkF m pc Ls st) rfl hd t k
theorem own_R.callS {pc : Nat} {Ls : Array Slot} {st : List Value} {own : String} {index W : Nat} {y : MethodName} {bytes : ByteArray} {maxL : Nat} {ret : Option FieldType} {rm : Room} {as : Array Value} {Q : Option Value → Heap → Prop} {argsL rest : List Value}
    (A : own_R p l e R s m args below meth c S0 n0 h ce sl (mkF m pc Ls st)) (M : own_M l Z y bytes maxL ret [] rm as h n0 Q) (hx : p.tables.exec = Jvm.exec) (hZ : Z.Warmed39 s.vm) (hown : s.vm.findClass own = some m.cls)
    (hd : decode c.code pc = .ok (.invokestatic index, 3)) (w1 : (Cond.methodLink own index y).before a0 Z = true) (w2 : (Cond.static y).before a0 Z = true) (w3 : (Cond.initialized y.cls).before a0 Z = true) (w4 : (Cond.code y bytes maxL ret).before a0 Z = true)
    (hy : y.cls ≠ "java/lang/invoke/MethodHandle" ∧ y.cls ≠ "java/lang/invoke/VarHandle") (hlen : ∀ sig, parseMethodDescriptor y.desc = some sig → argsL.length = sig.parameters.length) (hst : st = argsL.reverse ++ rest) (has : argsL.toArray = as)
    (hsz : Ls.size = c.maxLocals) (hW : (rest.map fun v => v.category).sum ≤ W) (hf : rm.frames + 1 ≤ R.frames) (hl : W + (maxL + 11) + rm.locals ≤ R.locals) (hc : ce + rm.cells ≤ R.cells) (hs : sl + rm.slots ≤ R.slots) :
    ∃ v h', Q v h' ∧ own_R p l e R s m args below meth c S0 n0 h' (ce + rm.cells) (sl + rm.slots) (mkF m (pc + 3) Ls (v.toList ++ rest)) := by
  obtain ⟨T, L, X, eT, N, k⟩ := A
  obtain ⟨v, vm₁, ⟨T', L', k', n'⟩, -, X', ⟨Lc, hQ, l1, l2, l3⟩, sT⟩ := Jvm.LawKit.callS X hx (y := y) hown (mvT hZ w1) (mvT hZ w2) (mvT hZ w3) (mvT hZ w4) hy (backOf (W := W) (Q := fun v h' L => Q v h' ∧ Fr n0 L) M hZ w4 w3 hf hl) (g := mkF m pc Ls st) rfl hsz (argsL := argsL) (rest := rest) hlen hst (by show 2 * 0 + _ ≤ _; omega) hd (fun _ _ => ⟨has, eT, hc, hs⟩)
  dsimp only [Pt.U, Pt.locs, Pt.cells, Pt.slots] at X' l1 l2 l3 sT hQ
  subst l1 l2 l3
  exact ⟨v, _, hQ.1, T', _, X', rfl, Fr.app N hQ.2, k.trans (sT _ (Steps.refl _))⟩
theorem own_R.callV {pc : Nat} {Ls : Array Slot} {st : List Value} {own C : String} {index W : Nat} {y z : MethodName} {bytes : ByteArray} {maxL : Nat} {ret : Option FieldType} {rm : Room} {as : Array Value} {Q : Option Value → Heap → Prop} {b : Addr} {argsL rest : List Value}
    (A : own_R p l e R s m args below meth c S0 n0 h ce sl (mkF m pc Ls st)) (M : own_M l Z z bytes maxL ret [] rm as h n0 Q) (E : Exa Z h b C) (hx : p.tables.exec = Jvm.exec) (hZ : Z.Warmed39 s.vm) (hown : s.vm.findClass own = some m.cls)
    (hd : decode c.code pc = .ok (.invokevirtual index, 3)) (w1 : (Cond.methodLink own index y).before a0 Z = true) (w2 : (Cond.declares y).before a0 Z = true) (w3 : (Cond.selects C y z).before a0 Z = true) (w4 : (Cond.instanceMethod z).before a0 Z = true) (w5 : (Cond.code z bytes maxL ret).before a0 Z = true) (w6 : (Cond.initialized z.cls).before a0 Z = true) (hnf : ∀ s' : State, Z.Warmed39 s'.vm → NotFace s' y)
    (hy : y.cls ≠ "java/lang/invoke/MethodHandle" ∧ y.cls ≠ "java/lang/invoke/VarHandle") (hlen : ∀ sig, parseMethodDescriptor y.desc = some sig → argsL.length = sig.parameters.length) (hst : st = argsL.reverse ++ .ref b :: rest) (has : (Value.ref b :: argsL).toArray = as)
    (hsz : Ls.size = c.maxLocals) (hW : (rest.map fun v => v.category).sum ≤ W) (hf : rm.frames + 1 ≤ R.frames) (hl : W + (maxL + 11) + rm.locals ≤ R.locals) (hc : ce + rm.cells ≤ R.cells) (hs : sl + rm.slots ≤ R.slots) :
    ∃ v h', Q v h' ∧ own_R p l e R s m args below meth c S0 n0 h' (ce + rm.cells) (sl + rm.slots) (mkF m (pc + 3) Ls (v.toList ++ rest)) := by
  obtain ⟨T, L, X, eT, N, k⟩ := A
  obtain ⟨cq, kq, qa, qb, qc⟩ := isOf hZ eT E
  obtain ⟨v, vm₁, ⟨T', L', k', n'⟩, -, X', ⟨Lc, hQ, l1, l2, l3⟩, sT⟩ := X.virtualBack hx (y := y) (z := z) hown (mvT hZ w1) (mvT hZ w2) (hnf s hZ) (mvT hZ w3) (mvT hZ w4) hy (backOf (W := W) (Q := fun v h' L => Q v h' ∧ Fr n0 L) M hZ w5 w6 hf hl) qa qc (g := mkF m pc Ls st) rfl hsz (Steps.refl _) (argsL := argsL) (rest := rest) hlen hst (by show 2 * 0 + _ ≤ _; omega) hd (fun _ _ => ⟨has, eT, hc, hs⟩)
  dsimp only [Pt.U, Pt.locs, Pt.cells, Pt.slots] at X' l1 l2 l3 sT hQ
  subst l1 l2 l3
  exact ⟨v, _, hQ.1, T', _, X', rfl, Fr.app N hQ.2, k.trans sT⟩
theorem own_R.callI {pc : Nat} {Ls : Array Slot} {st : List Value} {own : String} {index W : Nat} {y : MethodName} {bytes : ByteArray} {maxL : Nat} {rm : Room} {as : Array Value} {Q : Option Value → Heap → Prop} {b : Addr} {argsL rest : List Value}
    (A : own_R p l e R s m args below meth c S0 n0 h ce sl (mkF m pc Ls st)) (M : own_M l Z y bytes maxL none [] rm as h n0 Q) (hx : p.tables.exec = Jvm.exec) (hZ : Z.Warmed39 s.vm) (hown : s.vm.findClass own = some m.cls)
    (hd : decode c.code pc = .ok (.invokespecial index, 3)) (hy1 : y.name = "<init>") (w1 : (Cond.methodLink own index y).before a0 Z = true) (w2 : (Cond.instanceMethod y).before a0 Z = true) (w3 : (Cond.code y bytes maxL none).before a0 Z = true) (w4 : (Cond.initialized y.cls).before a0 Z = true)
    (hy : y.cls ≠ "java/lang/invoke/MethodHandle" ∧ y.cls ≠ "java/lang/invoke/VarHandle") (hlen : ∀ sig, parseMethodDescriptor y.desc = some sig → argsL.length = sig.parameters.length) (hst : st = argsL.reverse ++ .ref b :: rest) (has : (Value.ref b :: argsL).toArray = as)
    (hsz : Ls.size = c.maxLocals) (hW : (rest.map fun v => v.category).sum ≤ W) (hf : rm.frames + 1 ≤ R.frames) (hl : W + (maxL + 11) + rm.locals ≤ R.locals) (hc : ce + rm.cells ≤ R.cells) (hs : sl + rm.slots ≤ R.slots) :
    ∃ v h', Q v h' ∧ own_R p l e R s m args below meth c S0 n0 h' (ce + rm.cells) (sl + rm.slots) (mkF m (pc + 3) Ls (v.toList ++ rest)) := by
  obtain ⟨T, L, X, eT, N, k⟩ := A
  obtain ⟨v, vm₁, ⟨T', L', k', n'⟩, -, X', ⟨Lc, hQ, l1, l2, l3⟩, sT⟩ := X.specialBack hx (y := y) hy1 hown (mvT hZ w1) (mvT hZ w2) (mvT hZ w3) hy (backOf (W := W) (Q := fun v h' L => Q v h' ∧ Fr n0 L) M hZ w3 w4 hf hl) (g := mkF m pc Ls st) rfl hsz (Steps.refl _) (a := b) (argsL := argsL) (rest := rest) hlen hst (by show 2 * 0 + _ ≤ _; omega) hd (fun _ _ => ⟨has, eT, hc, hs⟩)
  dsimp only [Pt.U, Pt.locs, Pt.cells, Pt.slots] at X' l1 l2 l3 sT hQ
  subst l1 l2 l3
  exact ⟨v, _, hQ.1, T', _, X', rfl, Fr.app N hQ.2, k.trans sT⟩
theorem own_R.ret {pc : Nat} {Ls : Array Slot} {rest : List Value} {w : Value} {t : FieldType} {i : Instr} {Q : Option Value → Heap → Prop}
    (A : own_R p l e R s m args below meth c S0 n0 h ce sl (mkF m pc Ls (w :: rest))) (hx : p.tables.exec = Jvm.exec) (hlk : meth.locks = false) (hret : meth.sig.returnType = some t) (hd : decode c.code pc = .ok (i, 1)) (hn : narrow t w = w)
    (hi : (i = .ireturn ∧ (t = .int ∨ t = .boolean ∨ t = .byte ∨ t = .char ∨ t = .short) ∧ ∃ z, w = .int z) ∨ (i = .lreturn ∧ t = .long ∧ ∃ z, w = .long z) ∨ (i = .dreturn ∧ t = .double ∧ ∃ z, w = .double z) ∨ (i = .freturn ∧ t = .float ∧ ∃ z, w = .float z) ∨ (i = .areturn ∧ t.isReference = true ∧ w.isRef = true))
    (hc : ce ≤ R.cells) (hs : sl ≤ R.slots) (q : Q (some w) h) : own_E p e R s below S0 n0 Q := by
  obtain ⟨T, L, X, eT, N, k⟩ := A
  obtain ⟨fs, hr, hrun, hended, hW, hsame⟩ := X.leave (v := some w) (fun h => by rw [hret] at h; cases h) hlk
  refine ⟨_, _, _, k.trans (retOut X hx hret hn hi hd hr), hrun, hended, ⟨?_, N⟩, ⟨_, rfl⟩, hW, hsame.mono hc hs⟩
  show Q _ T.heap
  rw [eT]; exact q
theorem own_R.retV {pc : Nat} {Ls : Array Slot} {Q : Option Value → Heap → Prop}
    (A : own_R p l e R s m args below meth c S0 n0 h ce sl (mkF m pc Ls [])) (hx : p.tables.exec = Jvm.exec) (hlk : meth.locks = false) (hret : meth.sig.returnType = none) (hd : decode c.code pc = .ok (.return_, 1))
    (hc : ce ≤ R.cells) (hs : sl ≤ R.slots) (q : Q none h) : own_E p e R s below S0 n0 Q := by
  obtain ⟨T, L, X, eT, N, k⟩ := A
  obtain ⟨fs, hr, hrun, hended, hW, hsame⟩ := X.leave (v := none) (fun _ => rfl) hlk
  refine ⟨_, _, _, k.trans (X.returnOut hx hret hd hr), hrun, hended, ⟨?_, N⟩, ⟨_, rfl⟩, hW, hsame.mono hc hs⟩
  show Q _ T.heap
  rw [eT]; exact q
end Own
section Own2
variable {p : Program} {l : Launch} {e : Env} {R : Room} {s : State} {m : MethodId} {args : Array Value} {below : List Frame} {meth : Method} {c : Code} {S0 : State} {n0 : Nat} {h h' : Heap} {ce sl : Nat} {Z : State} {a0 : Array Value} {pc : Nat} {Ls : Array Slot} {rest : List Value} {a b : Addr} {ty : FieldType} {vs : List Value} {ws : List Addr} {v : Value} {i : Nat}
/-- an array whose components are listed -/
def own_Ar (Z : State) (h : Heap) (a : Addr) (ty : FieldType) (vs : List Value) : Prop := ∃ cl : Cell, Arr Z h a cl ty ∧ cl.slots.toList = vs
theorem own_Ar.ext (F : own_Ar Z h a ty vs) (E : Ext h h') : own_Ar Z h' a ty vs := by obtain ⟨cl, A, q⟩ := F; exact ⟨cl, A.ext E, q⟩
theorem own_Ar.other (F : own_Ar Z h a ty vs) (W : Wr h h' b i v) (q : a ≠ b) : own_Ar Z h' a ty vs := by obtain ⟨cl, A, r⟩ := F; exact ⟨cl, A.other W q, r⟩
theorem own_Ar.same (F : own_Ar Z h a ty vs) (W : Wr h h' a i v) : own_Ar Z h' a ty (vs.set i v) := by
  obtain ⟨cl, A, rfl⟩ := F
  exact ⟨_, A.same W, by simp [Cell.setSlot, Array.toList_setIfInBounds]⟩
theorem own_Ar.keep (F : own_Ar Z h a ty vs) (K : Keep h h' ws) (q : a ∉ ws) : own_Ar Z h' a ty vs := by obtain ⟨cl, A, r⟩ := F; exact ⟨cl, ⟨K.2.1 a cl A.1 q, A.2⟩, r⟩
theorem own_Ar.lt (F : own_Ar Z h a ty vs) : a < h.size := by obtain ⟨cl, A, -⟩ := F; exact A.lt
theorem own_R.newP {n : Int32} {aty : ArrayType} {cap : Nat} (A : own_R p l e R s m args below meth c S0 n0 h ce sl (mkF m pc Ls (.int n :: rest))) (hx : p.tables.exec = Jvm.exec) (hZ : Z.Warmed39 s.vm)
    (hd : decode c.code pc = .ok (.newarray aty, 2)) (w : (Cond.arrayClass (newarray.typeOf aty)).before a0 Z = true) (hn : ¬ n < 0) (hcap : n.toNatClampNeg ≤ cap) (hb : cap * 8 ≤ 536870912) (hc : ce + 1 ≤ R.cells) (hl : sl + cap ≤ R.slots) :
    ∃ h', Ext h h' ∧ own_Ar Z h' h.size (newarray.typeOf aty) (List.replicate n.toNatClampNeg (defaultValue (newarray.typeOf aty))) ∧ own_R p l e R s m args below meth c S0 n0 h' (ce + 1) (sl + cap) (mkF m (pc + 2) Ls (.ref h.size :: rest)) := by
  obtain ⟨T, L, X, eT, N, k⟩ := A
  obtain ⟨T', h', cA, X', e', E, AA, st⟩ := RoadKit.newP X hx hZ w eT (g := mkF m pc Ls (.int n :: rest)) rfl hd rfl hn hcap hb hc hl
  exact ⟨h', E, ⟨_, AA, by simp [newA]⟩, T', L, X', e', N, k.trans (st _ (Steps.refl _))⟩
theorem own_R.newO {own C : String} {index n : Nat} (A : own_R p l e R s m args below meth c S0 n0 h ce sl (mkF m pc Ls rest)) (hx : p.tables.exec = Jvm.exec) (hZ : Z.Warmed39 s.vm) (hown : s.vm.findClass own = some m.cls)
    (hd : decode c.code pc = .ok (.new index, 3)) (w : (Cond.classLink own index C).before a0 Z = true) (wi : (Cond.instantiable C n).before a0 Z = true) (wz : (Cond.initialized C).before a0 Z = true) (hc : ce + 1 ≤ R.cells) (hl : sl + n ≤ R.slots) :
    ∃ h', Ext h h' ∧ Exa Z h' h.size C ∧ (∀ {O nm d : String} {ty : FieldType}, Laid Z a0 C O nm d → parseFieldDescriptor d = some ty → Fld Z h' h.size O nm d (defaultValue ty)) ∧ own_R p l e R s m args below meth c S0 n0 h' (ce + 1) (sl + n) (mkF m (pc + 3) Ls (.ref h.size :: rest)) := by
  obtain ⟨T, L, X, eT, N, k⟩ := A
  obtain ⟨T', h', X', e', E, AA, D, -, st⟩ := RoadKit.newO X hx hZ hown w wi wz eT (g := mkF m pc Ls rest) rfl hd hc hl
  exact ⟨h', E, AA, D, T', L, X', e', N, k.trans (st _ (Steps.refl _))⟩
theorem own_R.putF {own O n d C : String} {index kk : Nat} {v old : Value} (A : own_R p l e R s m args below meth c S0 n0 h ce sl (mkF m pc Ls (v :: .ref a :: rest))) (hx : p.tables.exec = Jvm.exec) (hZ : Z.Warmed39 s.vm) (hown : s.vm.findClass own = some m.cls)
    (hd : decode c.code pc = .ok (.putfield index, 3)) (w : (Cond.fieldLink own index O n d).before a0 Z = true) (F : Fld Z h a O n d old) (E : Exa Z h a C) (L : (Cond.lays C O n d).before a0 Z = true ∨ ((Cond.laysFinal C O n d).before a0 Z = true ∧ own = O ∧ meth.name = "<init>")) (wi : (Cond.instantiable C kk).before a0 Z = true)
    (hty : parseFieldDescriptor d = some ty) (hn : narrow ty v = v) (hf : fits ty v = true) (q : n0 ≤ a) :
    ∃ h', Wr h h' a (RoadKit.slotOf Z O n d) v ∧ own_R p l e R s m args below meth c S0 n0 h' ce sl (mkF m (pc + 3) Ls rest) := by
  obtain ⟨T, Lc, X, eT, N, k⟩ := A
  obtain ⟨T', h', X', e', W, st⟩ := RoadKit.putF X hx hZ hown (host := "") (Or.inl w) Via.refl eT F E L wi hty hn hf (g := mkF m pc Ls (v :: .ref a :: rest)) rfl rfl hd
  exact ⟨h', W, T', _, X', e', Fr.snoc X' N q, k.trans (st _ (Steps.refl _))⟩
theorem own_R.initO {own : String} {idx W : Nat} (A : own_R p l e R s m args below meth c S0 n0 h ce sl (mkF m pc Ls (.ref a :: rest))) (hx : p.tables.exec = Jvm.exec) (hZ : Z.Warmed39 s.vm) (hown : s.vm.findClass own = some m.cls)
    (hd : decode c.code pc = .ok (.invokespecial idx, 3)) (w1 : (Cond.methodLink own idx Lib.objectInit).before a0 Z = true) (w2 : (Cond.instanceMethod Lib.objectInit).before a0 Z = true) (w3 : (Cond.code Lib.objectInit ⟨#[0xb1]⟩ 1 none).before a0 Z = true)
    (hsz : Ls.size = c.maxLocals) (hW : (rest.map fun v => v.category).sum ≤ W) (hf : 1 ≤ R.frames) (hl : W + 12 ≤ R.locals) : own_R p l e R s m args below meth c S0 n0 h ce sl (mkF m (pc + 3) Ls rest) := A.law fun T L X eT N => by
  obtain ⟨T', X', e', st⟩ := RoadKit.initO X hx hZ hown w1 w2 w3 eT (g := mkF m pc Ls (.ref a :: rest)) rfl hsz rfl hd hf (by show 2 * 0 + _ ≤ _; exact (Nat.zero_add _).symm ▸ hW) hl
  exact ⟨T', L, X', e', N, st⟩
theorem own_R.stI {j x : Int32} (A : own_R p l e R s m args below meth c S0 n0 h ce sl (mkF m pc Ls (.int x :: .int j :: .ref a :: rest))) (hx : p.tables.exec = Jvm.exec) (hZ : Z.Warmed39 s.vm)
    (hd : decode c.code pc = .ok (.iastore, 1)) (F : own_Ar Z h a .int vs) (hj : ¬ j < 0) (hi : j.toNatClampNeg < vs.length) (q : n0 ≤ a) :
    ∃ h', Wr h h' a j.toNatClampNeg (.int x) ∧ own_R p l e R s m args below meth c S0 n0 h' ce sl (mkF m (pc + 1) Ls rest) := by
  obtain ⟨cl, F, rfl⟩ := F
  obtain ⟨T, Lc, X, eT, N, k⟩ := A
  obtain ⟨T', h', X', e', W, st⟩ := RoadKit.stI X hx hZ eT F (j := j) (fun z => z.elim hj fun u => by rw [Array.length_toList] at hi; omega) (g := mkF m pc Ls (.int x :: .int j :: .ref a :: rest)) rfl rfl hd
  exact ⟨h', W, T', _, X', e', Fr.snoc X' N q, k.trans (st _ (Steps.refl _))⟩
theorem own_R.stB {j x : Int32} (A : own_R p l e R s m args below meth c S0 n0 h ce sl (mkF m pc Ls (.int x :: .int j :: .ref a :: rest))) (hx : p.tables.exec = Jvm.exec) (hZ : Z.Warmed39 s.vm)
    (hd : decode c.code pc = .ok (.bastore, 1)) (F : own_Ar Z h a .byte vs) (hj : ¬ j < 0) (hi : j.toNatClampNeg < vs.length) (q : n0 ≤ a) :
    ∃ h', Wr h h' a j.toNatClampNeg (.int (nar .byte x)) ∧ own_R p l e R s m args below meth c S0 n0 h' ce sl (mkF m (pc + 1) Ls rest) := by
  obtain ⟨cl, F, rfl⟩ := F
  obtain ⟨T, Lc, X, eT, N, k⟩ := A
  obtain ⟨T', h', X', e', W, st⟩ := RoadKit.stB X hx hZ eT F (j := j) (fun z => z.elim hj fun u => by rw [Array.length_toList] at hi; omega) (g := mkF m pc Ls (.int x :: .int j :: .ref a :: rest)) rfl rfl hd
  exact ⟨h', W, T', _, X', e', Fr.snoc X' N q, k.trans (st _ (Steps.refl _))⟩
theorem own_R.ldI {j : Int32} (A : own_R p l e R s m args below meth c S0 n0 h ce sl (mkF m pc Ls (.int j :: .ref a :: rest))) (hx : p.tables.exec = Jvm.exec) (hZ : Z.Warmed39 s.vm)
    (hd : decode c.code pc = .ok (.iaload, 1)) (F : own_Ar Z h a .int vs) (hj : ¬ j < 0) (hv : vs[j.toNatClampNeg]? = some v) :
    own_R p l e R s m args below meth c S0 n0 h ce sl (mkF m (pc + 1) Ls (v :: rest)) := A.law fun T L X eT N => by
  obtain ⟨cl, F, rfl⟩ := F
  rw [Array.getElem?_toList] at hv
  have hlt := (Array.getElem?_eq_some_iff.mp hv).1
  exact ⟨T, L, X, eT, N, fun t k => X.iaload hx (j := j) (v := v) (by rw [eT]; exact F.1) (State.isArrayOf_alike hZ.alike F.2.1) F.2.2 (fun z => z.elim hj fun u => by omega) hv (g := mkF m pc Ls (.int j :: .ref a :: rest)) rfl rfl hd t k⟩
theorem own_R.ldB {j : Int32} (A : own_R p l e R s m args below meth c S0 n0 h ce sl (mkF m pc Ls (.int j :: .ref a :: rest))) (hx : p.tables.exec = Jvm.exec) (hZ : Z.Warmed39 s.vm)
    (hd : decode c.code pc = .ok (.baload, 1)) (F : own_Ar Z h a .byte vs) (hj : ¬ j < 0) (hv : vs[j.toNatClampNeg]? = some v) :
    own_R p l e R s m args below meth c S0 n0 h ce sl (mkF m (pc + 1) Ls (v :: rest)) := A.law fun T L X eT N => by
  obtain ⟨cl, F, rfl⟩ := F
  rw [Array.getElem?_toList] at hv
  have hlt := (Array.getElem?_eq_some_iff.mp hv).1
  exact ⟨T, L, X, eT, N, fun t k => X.baloadBytes hx (j := j) (v := v) (by rw [eT]; exact F.1) (State.isArrayOf_alike hZ.alike F.2.1) F.2.2 (fun z => z.elim hj fun u => by omega) hv (g := mkF m pc Ls (.int j :: .ref a :: rest)) rfl rfl hd t k⟩
theorem own_R.stD {j : Int32} {x : UInt64} (A : own_R p l e R s m args below meth c S0 n0 h ce sl (mkF m pc Ls (.double x :: .int j :: .ref a :: rest))) (hx : p.tables.exec = Jvm.exec) (hZ : Z.Warmed39 s.vm)
    (hd : decode c.code pc = .ok (.dastore, 1)) (F : own_Ar Z h a .double vs) (hj : ¬ j < 0) (hi : j.toNatClampNeg < vs.length) (q : n0 ≤ a) :
    ∃ h', Wr h h' a j.toNatClampNeg (.double x) ∧ own_R p l e R s m args below meth c S0 n0 h' ce sl (mkF m (pc + 1) Ls rest) := by
  obtain ⟨cl, F, rfl⟩ := F
  obtain ⟨T, Lc, X, eT, N, k⟩ := A
  obtain ⟨T', h', X', e', W, st⟩ := RoadKit.stD X hx hZ eT F (j := j) (fun z => z.elim hj fun u => by rw [Array.length_toList] at hi; omega) (g := mkF m pc Ls (.double x :: .int j :: .ref a :: rest)) rfl rfl hd
  exact ⟨h', W, T', _, X', e', Fr.snoc X' N q, k.trans (st _ (Steps.refl _))⟩
theorem own_R.stC {j : Int32} {x : Int32} (A : own_R p l e R s m args below meth c S0 n0 h ce sl (mkF m pc Ls (.int x :: .int j :: .ref a :: rest))) (hx : p.tables.exec = Jvm.exec) (hZ : Z.Warmed39 s.vm)
    (hd : decode c.code pc = .ok (.castore, 1)) (F : own_Ar Z h a .char vs) (hj : ¬ j < 0) (hi : j.toNatClampNeg < vs.length) (q : n0 ≤ a) :
    ∃ h', Wr h h' a j.toNatClampNeg (.int (nar .char x)) ∧ own_R p l e R s m args below meth c S0 n0 h' ce sl (mkF m (pc + 1) Ls rest) := by
  obtain ⟨cl, F, rfl⟩ := F
  obtain ⟨T, Lc, X, eT, N, k⟩ := A
  obtain ⟨T', h', X', e', W, st⟩ := RoadKit.stC X hx hZ eT F (j := j) (fun z => z.elim hj fun u => by rw [Array.length_toList] at hi; omega) (g := mkF m pc Ls (.int x :: .int j :: .ref a :: rest)) rfl rfl hd
  exact ⟨h', W, T', _, X', e', Fr.snoc X' N q, k.trans (st _ (Steps.refl _))⟩
theorem own_R.stL {j : Int32} {x : Int64} (A : own_R p l e R s m args below meth c S0 n0 h ce sl (mkF m pc Ls (.long x :: .int j :: .ref a :: rest))) (hx : p.tables.exec = Jvm.exec) (hZ : Z.Warmed39 s.vm)
    (hd : decode c.code pc = .ok (.lastore, 1)) (F : own_Ar Z h a .long vs) (hj : ¬ j < 0) (hi : j.toNatClampNeg < vs.length) (q : n0 ≤ a) :
    ∃ h', Wr h h' a j.toNatClampNeg (.long x) ∧ own_R p l e R s m args below meth c S0 n0 h' ce sl (mkF m (pc + 1) Ls rest) := by
  obtain ⟨cl, F, rfl⟩ := F
  obtain ⟨T, Lc, X, eT, N, k⟩ := A
  obtain ⟨T', h', X', e', W, st⟩ := RoadKit.stJ X hx hZ eT F (j := j) (fun z => z.elim hj fun u => by rw [Array.length_toList] at hi; omega) (g := mkF m pc Ls (.long x :: .int j :: .ref a :: rest)) rfl rfl hd
  exact ⟨h', W, T', _, X', e', Fr.snoc X' N q, k.trans (st _ (Steps.refl _))⟩
theorem own_R.ldD {j : Int32} (A : own_R p l e R s m args below meth c S0 n0 h ce sl (mkF m pc Ls (.int j :: .ref a :: rest))) (hx : p.tables.exec = Jvm.exec) (hZ : Z.Warmed39 s.vm)
    (hd : decode c.code pc = .ok (.daload, 1)) (F : own_Ar Z h a .double vs) (hj : ¬ j < 0) (hv : vs[j.toNatClampNeg]? = some v) :
    own_R p l e R s m args below meth c S0 n0 h ce sl (mkF m (pc + 1) Ls (v :: rest)) := A.law fun T L X eT N => by
  obtain ⟨cl, F, rfl⟩ := F
  rw [Array.getElem?_toList] at hv
  have hlt := (Array.getElem?_eq_some_iff.mp hv).1
  exact ⟨T, L, X, eT, N, fun t k => X.daload hx (j := j) (v := v) (by rw [eT]; exact F.1) (State.isArrayOf_alike hZ.alike F.2.1) F.2.2 (fun z => z.elim hj fun u => by omega) hv (g := mkF m pc Ls (.int j :: .ref a :: rest)) rfl rfl hd t k⟩
theorem own_R.ldC {j : Int32} (A : own_R p l e R s m args below meth c S0 n0 h ce sl (mkF m pc Ls (.int j :: .ref a :: rest))) (hx : p.tables.exec = Jvm.exec) (hZ : Z.Warmed39 s.vm)
    (hd : decode c.code pc = .ok (.caload, 1)) (F : own_Ar Z h a .char vs) (hj : ¬ j < 0) (hv : vs[j.toNatClampNeg]? = some v) :
    own_R p l e R s m args below meth c S0 n0 h ce sl (mkF m (pc + 1) Ls (v :: rest)) := A.law fun T L X eT N => by
  obtain ⟨cl, F, rfl⟩ := F
  rw [Array.getElem?_toList] at hv
  have hlt := (Array.getElem?_eq_some_iff.mp hv).1
  exact ⟨T, L, X, eT, N, fun t k => X.caload hx (j := j) (v := v) (by rw [eT]; exact F.1) (State.isArrayOf_alike hZ.alike F.2.1) F.2.2 (fun z => z.elim hj fun u => by omega) hv (g := mkF m pc Ls (.int j :: .ref a :: rest)) rfl rfl hd t k⟩
theorem own_R.ldL {j : Int32} (A : own_R p l e R s m args below meth c S0 n0 h ce sl (mkF m pc Ls (.int j :: .ref a :: rest))) (hx : p.tables.exec = Jvm.exec) (hZ : Z.Warmed39 s.vm)
    (hd : decode c.code pc = .ok (.laload, 1)) (F : own_Ar Z h a .long vs) (hj : ¬ j < 0) (hv : vs[j.toNatClampNeg]? = some v) :
    own_R p l e R s m args below meth c S0 n0 h ce sl (mkF m (pc + 1) Ls (v :: rest)) := A.law fun T L X eT N => by
  obtain ⟨cl, F, rfl⟩ := F
  rw [Array.getElem?_toList] at hv
  have hlt := (Array.getElem?_eq_some_iff.mp hv).1
  exact ⟨T, L, X, eT, N, fun t k => X.laload hx (j := j) (v := v) (by rw [eT]; exact F.1) (State.isArrayOf_alike hZ.alike F.2.1) F.2.2 (fun z => z.elim hj fun u => by omega) hv (g := mkF m pc Ls (.int j :: .ref a :: rest)) rfl rfl hd t k⟩
theorem own_R.len (A : own_R p l e R s m args below meth c S0 n0 h ce sl (mkF m pc Ls (.ref a :: rest))) (hx : p.tables.exec = Jvm.exec) (hZ : Z.Warmed39 s.vm)
    (hd : decode c.code pc = .ok (.arraylength, 1)) (F : own_Ar Z h a ty vs) :
    own_R p l e R s m args below meth c S0 n0 h ce sl (mkF m (pc + 1) Ls (.int vs.length.toInt32 :: rest)) := A.law fun T L X eT N => by
  obtain ⟨cl, F, rfl⟩ := F
  exact ⟨T, L, X, eT, N, fun t k => X.arraylength hx (by rw [eT]; exact F.1) (State.isArrayOf_alike hZ.alike F.2.1) (g := mkF m pc Ls (.ref a :: rest)) rfl rfl hd t (by rw [Array.length_toList] at k; exact k)⟩
end Own2
section Own2b
variable {p : Program} {l : Launch} {e : Env} {R : Room} {s : State} {m : MethodId} {args : Array Value} {below : List Frame} {meth : Method} {c : Code} {S0 : State} {n0 : Nat} {h h' : Heap} {ce sl : Nat} {Z : State} {a0 : Array Value} {pc : Nat} {Ls : Array Slot} {rest : List Value} {a : Addr}
theorem own_R.instY {own K : String} {index : Nat} (A : own_R p l e R s m args below meth c S0 n0 h ce sl (mkF m pc Ls (.ref a :: rest))) (hx : p.tables.exec = Jvm.exec) (hZ : Z.Warmed39 s.vm) (hown : s.vm.findClass own = some m.cls)
    (hd : decode c.code pc = .ok (.instanceof index, 3)) (w : (Cond.classLink own index K).before a0 Z = true) (F : Ins Z h a K true) : own_R p l e R s m args below meth c S0 n0 h ce sl (mkF m (pc + 3) Ls (.int 1 :: rest)) := A.law fun T L X eT N => by
  obtain ⟨T', X', e', st⟩ := RoadKit.instY X hx hZ hown w eT F (g := mkF m pc Ls (.ref a :: rest)) rfl rfl hd
  exact ⟨T', L, X', e', N, st⟩
theorem own_R.castY {own K : String} {index : Nat} (A : own_R p l e R s m args below meth c S0 n0 h ce sl (mkF m pc Ls (.ref a :: rest))) (hx : p.tables.exec = Jvm.exec) (hZ : Z.Warmed39 s.vm) (hown : s.vm.findClass own = some m.cls)
    (hd : decode c.code pc = .ok (.checkcast index, 3)) (w : (Cond.classLink own index K).before a0 Z = true) (F : Ins Z h a K true) : own_R p l e R s m args below meth c S0 n0 h ce sl (mkF m (pc + 3) Ls (.ref a :: rest)) := A.law fun T L X eT N => by
  obtain ⟨T', X', e', st⟩ := RoadKit.castY X hx hZ hown w eT F (g := mkF m pc Ls (.ref a :: rest)) rfl rfl hd
  exact ⟨T', L, X', e', N, st⟩
theorem own_eqI {args : Array Value} {t : Term} {k : Int32} (h : (Cond.eq t (.int k)).value args Z none Z [] = some true) : t.eval args Z none [] Z = some (.int k) := by
  simp only [Cond.value, Term.int_eval] at h
  cases hv : t.eval args Z none [] Z with
  | none => rw [hv] at h; cases h
  | some w =>
    rw [hv] at h
    cases w <;> simp at h
    rw [h]
theorem own_Ar.start3 {args : Array Value} {t : Term} {x y z : Int32} (ev : t.eval args Z none [] Z = some (.ref a)) (hA : (Cond.arrayOf t .byte).value args Z none Z [] = some true) (hL : (Cond.eq (.length t) (.int 3)).value args Z none Z [] = some true)
    (h0 : (Cond.eq (.elem t (.int 0)) (.int x)).value args Z none Z [] = some true) (h1 : (Cond.eq (.elem t (.int 1)) (.int y)).value args Z none Z [] = some true) (h2 : (Cond.eq (.elem t (.int 2)) (.int z)).value args Z none Z [] = some true) : own_Ar Z Z.heap a .byte [.int x, .int y, .int z] := by
  obtain ⟨cl, A⟩ := Arr.start ev hA
  have e0 := (elem_in (own_eqI h0) ev (Term.int_eval _) A.1).2
  have e1 := (elem_in (own_eqI h1) ev (Term.int_eval _) A.1).2
  have e2 := (elem_in (own_eqI h2) ev (Term.int_eval _) A.1).2
  have q0 : (0 : Int32).toNatClampNeg = 0 := by decide
  have q1 : (1 : Int32).toNatClampNeg = 1 := by decide
  have q2 : (2 : Int32).toNatClampNeg = 2 := by decide
  rw [q0] at e0
  rw [q1] at e1
  rw [q2] at e2
  have ha : Z.arrayAt? a = some cl := Arr.fin (U := Z) (State.Warmed39.refl Z).alike A
  have hl := own_eqI hL
  simp only [Term.eval, ev, ha, Option.bind_eq_bind, Option.bind_some, Option.pure_def] at hl
  have hsz : cl.slots.size = 3 := by
    split at hl
    · rename_i hlt
      have e3 : cl.slots.size.toInt32 = 3 := by simpa using hl
      have e4 := len_toInt hlt
      rw [e3] at e4
      have e5 : (3 : Int32).toInt = 3 := by decide
      omega
    · cases hl
  refine ⟨cl, A, ?_⟩
  apply List.ext_getElem?
  intro i
  rw [Array.getElem?_toList]
  match i with
  | 0 => exact e0
  | 1 => exact e1
  | 2 => exact e2
  | n + 3 => rw [Array.getElem?_eq_none (by omega)]; rfl
end Own2b

theorem drec_0 : decode jdk_30_method_1_code 0 = .ok (.aload_n 0, 1) := by decide +kernel
theorem drec_1 : decode jdk_30_method_1_code 1 = .ok (.invokespecial 1, 3) := by decide +kernel
theorem drec_4 : decode jdk_30_method_1_code 4 = .ok (.return_, 1) := by decide +kernel
theorem efrec (m : MethodId) (a1 : Addr) : entryFrame m #[(.ref a1)] 1 = mkF m 0 #[.val (.ref a1)] [] := by first | (simp [entryFrame, mkF, argsToLocals, Value.category, maxLocals]; done) | rfl
set_option maxRecDepth 65536 in
set_option maxHeartbeats 40000000 in
theorem own_rec (l : Launch) (Z : State) (a0 : Array Value) (hw : ∀ d ∈ tables_1, d.before a0 Z = true) (a1 : Addr) (h0 : Heap) (n0 : Nat) (Z0 : n0 ≤ h0.size)  :
    own_M l Z (⟨"java/lang/Record", "<init>", "()V"⟩ : MethodName) jdk_30_method_1_code 1 none [] ({ frames := 1, cells := 0, slots := 0, locals := 12 } : Room) #[(.ref a1)] h0 n0 (fun v h => v = none ∧ h0 = h) := by
  refine own_M.of (plainFor_of_name (by first | (simp [plainName, overriddenIn]; done) | decide +kernel)) ?_
  intro p e s m below meth c S0 hx hby hml hown hnm hret hlk hZ A00
  have A0 := A00.cast (efrec m a1)
  have A1 := A0.go (f' := mkF m 1 #[.val (.ref a1)] [(.ref a1)]) fun _ _ X _ k => XS.aloadN X.here hx rfl (hb hby drec_0) rfl rfl k
  have A2 : own_R p l e _ _ m _ below meth c S0 n0 h0 0 0 (mkF m 4 #[.val (.ref a1)] []) := A1.initO hx hZ hown (hb hby drec_1) (hw _ (List.mem_of_getElem? (i := 27) rfl)) (hw _ (List.mem_of_getElem? (i := 28) rfl)) (hw _ (List.mem_of_getElem? (i := 29) rfl)) (by rw [hml]; rfl) (W := 0) (Nat.le_of_eq rfl) (by decide) (by decide)
  exact A2.retV hx hlk hret (hb hby drec_4) (by decide) (by decide) ⟨rfl, rfl⟩
theorem pd__28_29V : parseMethodDescriptor "()V" = some ⟨[], none⟩ := by decide +kernel
theorem dini_0 : decode prog_17_method_1_code 0 = .ok (.aload_n 0, 1) := by decide +kernel
theorem dini_1 : decode prog_17_method_1_code 1 = .ok (.invokespecial 1, 3) := by decide +kernel
theorem dini_4 : decode prog_17_method_1_code 4 = .ok (.aload_n 0, 1) := by decide +kernel
theorem dini_5 : decode prog_17_method_1_code 5 = .ok (.iload_n 1, 1) := by decide +kernel
theorem dini_6 : decode prog_17_method_1_code 6 = .ok (.putfield 7, 3) := by decide +kernel
theorem dini_9 : decode prog_17_method_1_code 9 = .ok (.aload_n 0, 1) := by decide +kernel
theorem dini_10 : decode prog_17_method_1_code 10 = .ok (.iload_n 2, 1) := by decide +kernel
theorem dini_11 : decode prog_17_method_1_code 11 = .ok (.putfield 13, 3) := by decide +kernel
theorem dini_14 : decode prog_17_method_1_code 14 = .ok (.aload_n 0, 1) := by decide +kernel
theorem dini_15 : decode prog_17_method_1_code 15 = .ok (.lload_n 3, 1) := by decide +kernel
theorem dini_16 : decode prog_17_method_1_code 16 = .ok (.putfield 16, 3) := by decide +kernel
theorem dini_19 : decode prog_17_method_1_code 19 = .ok (.aload_n 0, 1) := by decide +kernel
theorem dini_20 : decode prog_17_method_1_code 20 = .ok (.lload 5, 2) := by decide +kernel
theorem dini_22 : decode prog_17_method_1_code 22 = .ok (.putfield 20, 3) := by decide +kernel
theorem dini_25 : decode prog_17_method_1_code 25 = .ok (.return_, 1) := by decide +kernel
theorem efini (m : MethodId) (a1 : Addr) (p2 : Int32) (p3 : Int32) (q4 : Int64) (q5 : Int64) : entryFrame m #[(.ref a1), (.int p2), (.int p3), (.long q4), (.long q5)] 7 = mkF m 0 #[.val (.ref a1), .val (.int p2), .val (.int p3), .val (.long q4), .second, .val (.long q5), .second] [] := by first | (simp [entryFrame, mkF, argsToLocals, Value.category, maxLocals]; done) | rfl
set_option maxRecDepth 65536 in
set_option maxHeartbeats 40000000 in
theorem own_init (l : Launch) (Z : State) (a0 : Array Value) (hw : ∀ d ∈ tables_1, d.before a0 Z = true) (a1 : Addr) (p2 p3 : Int32) (q4 q5 : Int64) (h0 : Heap) (n0 : Nat) (Z0 : n0 ≤ h0.size) (E_a1 : Exa Z h0 a1 "com/example/shardrule/shardrule/bench/RoutingBench$Result") (F_a1_keys : Fld Z h0 a1 "com/example/shardrule/shardrule/bench/RoutingBench$Result" "keys" "I" (.int (0 : Int32))) (F_a1_threads : Fld Z h0 a1 "com/example/shardrule/shardrule/bench/RoutingBench$Result" "threads" "I" (.int (0 : Int32))) (F_a1_routePassNanos : Fld Z h0 a1 "com/example/shardrule/shardrule/bench/RoutingBench$Result" "routePassNanos" "J" (.long (0 : Int64))) (F_a1_crcPassNanos : Fld Z h0 a1 "com/example/shardrule/shardrule/bench/RoutingBench$Result" "crcPassNanos" "J" (.long (0 : Int64))) (g_a1 : n0 ≤ a1) :
    own_M l Z (⟨"com/example/shardrule/shardrule/bench/RoutingBench$Result", "<init>", "(IIJJ)V"⟩ : MethodName) prog_17_method_1_code 7 none [] ({ frames := 2, cells := 0, slots := 0, locals := 24 } : Room) #[(.ref a1), (.int p2), (.int p3), (.long q4), (.long q5)] h0 n0 (fun v h => v = none ∧ Keep h0 h [a1] ∧ Fld Z h a1 "com/example/shardrule/shardrule/bench/RoutingBench$Result" "keys" "I" (.int p2) ∧ Fld Z h a1 "com/example/shardrule/shardrule/bench/RoutingBench$Result" "threads" "I" (.int p3) ∧ Fld Z h a1 "com/example/shardrule/shardrule/bench/RoutingBench$Result" "routePassNanos" "J" (.long q4)) := by
  refine own_M.of (plainFor_of_name (by first | (simp [plainName, overriddenIn]; done) | decide +kernel)) ?_
  intro p e s m below meth c S0 hx hby hml hown hnm hret hlk hZ A00
  have A0 := A00.cast (efini m a1 p2 p3 q4 q5)
  have KK := Keep.refl h0 [a1]
  have A1 := A0.go (f' := mkF m 1 #[.val (.ref a1), .val (.int p2), .val (.int p3), .val (.long q4), .second, .val (.long q5), .second] [(.ref a1)]) fun _ _ X _ k => XS.aloadN X.here hx rfl (hb hby dini_0) rfl rfl k
  obtain ⟨vA2, hA2, ⟨rfl, rfl⟩, A2⟩ := A1.callI (b := a1) (own_rec l Z a0 hw a1 h0 n0 Z0) hx hZ hown (hb hby dini_1) rfl (hw _ (List.mem_of_getElem? (i := 22) rfl)) (hw _ (List.mem_of_getElem? (i := 23) rfl)) (hw _ (List.mem_of_getElem? (i := 26) rfl)) (hw _ (List.mem_of_getElem? (i := 25) rfl)) ⟨by decide, by decide⟩ (lenOf pd__28_29V rfl) (argsL := []) (rest := []) rfl rfl (by rw [hml]; rfl) (W := 0) (Nat.le_of_eq rfl) (by decide) (by decide) (by decide) (by decide)
  have A3 : own_R p l e _ _ m _ below meth c S0 n0 h0 0 0 (mkF m 4 #[.val (.ref a1), .val (.int p2), .val (.int p3), .val (.long q4), .second, .val (.long q5), .second] []) := A2
  have A4 := A3.go (f' := mkF m 5 #[.val (.ref a1), .val (.int p2), .val (.int p3), .val (.long q4), .second, .val (.long q5), .second] [(.ref a1)]) fun _ _ X _ k => XS.aloadN X.here hx rfl (hb hby dini_4) rfl rfl k
  have A5 := A4.go (f' := mkF m 6 #[.val (.ref a1), .val (.int p2), .val (.int p3), .val (.long q4), .second, .val (.long q5), .second] [(.int p2), (.ref a1)]) fun _ _ X _ k => XS.iloadN X.here hx rfl (hb hby dini_5) rfl k
  obtain ⟨h6, W7, A8⟩ := A5.putF hx hZ hown (hb hby dini_6) (hw _ (List.mem_of_getElem? (i := 30) rfl)) F_a1_keys E_a1 (Or.inr ⟨(hw _ (List.mem_of_getElem? (i := 31) rfl)), rfl, hnm⟩) (hw _ (List.mem_of_getElem? (i := 17) rfl)) (ty := .int) (by decide) rfl rfl g_a1
  have E_a1 : Exa Z h6 a1 "com/example/shardrule/shardrule/bench/RoutingBench$Result" := E_a1.wr W7
  have F_a1_keys : Fld Z h6 a1 "com/example/shardrule/shardrule/bench/RoutingBench$Result" "keys" "I" (.int p2) := F_a1_keys.same W7
  have F_a1_threads : Fld Z h6 a1 "com/example/shardrule/shardrule/bench/RoutingBench$Result" "threads" "I" (.int (0 : Int32)) := F_a1_threads.other W7 (Or.inr (slot_ne (Or.inr (hw _ (List.mem_of_getElem? (i := 33) rfl))) (Or.inr (hw _ (List.mem_of_getElem? (i := 31) rfl))) (by decide) (t := .int) (t' := .int) (by decide) (by decide)))
  have F_a1_routePassNanos : Fld Z h6 a1 "com/example/shardrule/shardrule/bench/RoutingBench$Result" "routePassNanos" "J" (.long (0 : Int64)) := F_a1_routePassNanos.other W7 (Or.inr (slot_ne (Or.inr (hw _ (List.mem_of_getElem? (i := 35) rfl))) (Or.inr (hw _ (List.mem_of_getElem? (i := 31) rfl))) (by decide) (t := .long) (t' := .int) (by decide) (by decide)))
  have F_a1_crcPassNanos : Fld Z h6 a1 "com/example/shardrule/shardrule/bench/RoutingBench$Result" "crcPassNanos" "J" (.long (0 : Int64)) := F_a1_crcPassNanos.other W7 (Or.inr (slot_ne (Or.inr (hw _ (List.mem_of_getElem? (i := 37) rfl))) (Or.inr (hw _ (List.mem_of_getElem? (i := 31) rfl))) (by decide) (t := .long) (t' := .int) (by decide) (by decide)))
  have Z0 : n0 ≤ h6.size := by rw [W7.size]; exact Z0
  have KK : Keep h0 h6 [a1] := KK.wr W7 (Or.inl (by simp))
  have A9 : own_R p l e _ _ m _ below meth c S0 n0 h6 0 0 (mkF m 9 #[.val (.ref a1), .val (.int p2), .val (.int p3), .val (.long q4), .second, .val (.long q5), .second] []) := A8
  have A10 := A9.go (f' := mkF m 10 #[.val (.ref a1), .val (.int p2), .val (.int p3), .val (.long q4), .second, .val (.long q5), .second] [(.ref a1)]) fun _ _ X _ k => XS.aloadN X.here hx rfl (hb hby dini_9) rfl rfl k
  have A11 := A10.go (f' := mkF m 11 #[.val (.ref a1), .val (.int p2), .val (.int p3), .val (.long q4), .second, .val (.long q5), .second] [(.int p3), (.ref a1)]) fun _ _ X _ k => XS.iloadN X.here hx rfl (hb hby dini_10) rfl k
  obtain ⟨h12, W13, A14⟩ := A11.putF hx hZ hown (hb hby dini_11) (hw _ (List.mem_of_getElem? (i := 32) rfl)) F_a1_threads E_a1 (Or.inr ⟨(hw _ (List.mem_of_getElem? (i := 33) rfl)), rfl, hnm⟩) (hw _ (List.mem_of_getElem? (i := 17) rfl)) (ty := .int) (by decide) rfl rfl g_a1
  have E_a1 : Exa Z h12 a1 "com/example/shardrule/shardrule/bench/RoutingBench$Result" := E_a1.wr W13
  have F_a1_keys : Fld Z h12 a1 "com/example/shardrule/shardrule/bench/RoutingBench$Result" "keys" "I" (.int p2) := F_a1_keys.other W13 (Or.inr (slot_ne (Or.inr (hw _ (List.mem_of_getElem? (i := 31) rfl))) (Or.inr (hw _ (List.mem_of_getElem? (i := 33) rfl))) (by decide) (t := .int) (t' := .int) (by decide) (by decide)))
  have F_a1_threads : Fld Z h12 a1 "com/example/shardrule/shardrule/bench/RoutingBench$Result" "threads" "I" (.int p3) := F_a1_threads.same W13
  have F_a1_routePassNanos : Fld Z h12 a1 "com/example/shardrule/shardrule/bench/RoutingBench$Result" "routePassNanos" "J" (.long (0 : Int64)) := F_a1_routePassNanos.other W13 (Or.inr (slot_ne (Or.inr (hw _ (List.mem_of_getElem? (i := 35) rfl))) (Or.inr (hw _ (List.mem_of_getElem? (i := 33) rfl))) (by decide) (t := .long) (t' := .int) (by decide) (by decide)))
  have F_a1_crcPassNanos : Fld Z h12 a1 "com/example/shardrule/shardrule/bench/RoutingBench$Result" "crcPassNanos" "J" (.long (0 : Int64)) := F_a1_crcPassNanos.other W13 (Or.inr (slot_ne (Or.inr (hw _ (List.mem_of_getElem? (i := 37) rfl))) (Or.inr (hw _ (List.mem_of_getElem? (i := 33) rfl))) (by decide) (t := .long) (t' := .int) (by decide) (by decide)))
  have Z0 : n0 ≤ h12.size := by rw [W13.size]; exact Z0
  have KK : Keep h0 h12 [a1] := KK.wr W13 (Or.inl (by simp))
  have A15 : own_R p l e _ _ m _ below meth c S0 n0 h12 0 0 (mkF m 14 #[.val (.ref a1), .val (.int p2), .val (.int p3), .val (.long q4), .second, .val (.long q5), .second] []) := A14
  have A16 := A15.go (f' := mkF m 15 #[.val (.ref a1), .val (.int p2), .val (.int p3), .val (.long q4), .second, .val (.long q5), .second] [(.ref a1)]) fun _ _ X _ k => XS.aloadN X.here hx rfl (hb hby dini_14) rfl rfl k
  have A17 := A16.go (f' := mkF m 16 #[.val (.ref a1), .val (.int p2), .val (.int p3), .val (.long q4), .second, .val (.long q5), .second] [(.long q4), (.ref a1)]) fun _ _ X _ k => XS.lloadN X.here hx rfl (hb hby dini_15) rfl k
  obtain ⟨h18, W19, A20⟩ := A17.putF hx hZ hown (hb hby dini_16) (hw _ (List.mem_of_getElem? (i := 34) rfl)) F_a1_routePassNanos E_a1 (Or.inr ⟨(hw _ (List.mem_of_getElem? (i := 35) rfl)), rfl, hnm⟩) (hw _ (List.mem_of_getElem? (i := 17) rfl)) (ty := .long) (by decide) rfl rfl g_a1
  have E_a1 : Exa Z h18 a1 "com/example/shardrule/shardrule/bench/RoutingBench$Result" := E_a1.wr W19
  have F_a1_keys : Fld Z h18 a1 "com/example/shardrule/shardrule/bench/RoutingBench$Result" "keys" "I" (.int p2) := F_a1_keys.other W19 (Or.inr (slot_ne (Or.inr (hw _ (List.mem_of_getElem? (i := 31) rfl))) (Or.inr (hw _ (List.mem_of_getElem? (i := 35) rfl))) (by decide) (t := .int) (t' := .long) (by decide) (by decide)))
  have F_a1_threads : Fld Z h18 a1 "com/example/shardrule/shardrule/bench/RoutingBench$Result" "threads" "I" (.int p3) := F_a1_threads.other W19 (Or.inr (slot_ne (Or.inr (hw _ (List.mem_of_getElem? (i := 33) rfl))) (Or.inr (hw _ (List.mem_of_getElem? (i := 35) rfl))) (by decide) (t := .int) (t' := .long) (by decide) (by decide)))
  have F_a1_routePassNanos : Fld Z h18 a1 "com/example/shardrule/shardrule/bench/RoutingBench$Result" "routePassNanos" "J" (.long q4) := F_a1_routePassNanos.same W19
  have F_a1_crcPassNanos : Fld Z h18 a1 "com/example/shardrule/shardrule/bench/RoutingBench$Result" "crcPassNanos" "J" (.long (0 : Int64)) := F_a1_crcPassNanos.other W19 (Or.inr (slot_ne (Or.inr (hw _ (List.mem_of_getElem? (i := 37) rfl))) (Or.inr (hw _ (List.mem_of_getElem? (i := 35) rfl))) (by decide) (t := .long) (t' := .long) (by decide) (by decide)))
  have Z0 : n0 ≤ h18.size := by rw [W19.size]; exact Z0
  have KK : Keep h0 h18 [a1] := KK.wr W19 (Or.inl (by simp))
  have A21 : own_R p l e _ _ m _ below meth c S0 n0 h18 0 0 (mkF m 19 #[.val (.ref a1), .val (.int p2), .val (.int p3), .val (.long q4), .second, .val (.long q5), .second] []) := A20
  have A22 := A21.go (f' := mkF m 20 #[.val (.ref a1), .val (.int p2), .val (.int p3), .val (.long q4), .second, .val (.long q5), .second] [(.ref a1)]) fun _ _ X _ k => XS.aloadN X.here hx rfl (hb hby dini_19) rfl rfl k
  have A23 := A22.go (f' := mkF m 22 #[.val (.ref a1), .val (.int p2), .val (.int p3), .val (.long q4), .second, .val (.long q5), .second] [(.long q5), (.ref a1)]) fun _ _ X _ k => XS.lload X.here hx rfl (hb hby dini_20) rfl k
  obtain ⟨h24, W25, A26⟩ := A23.putF hx hZ hown (hb hby dini_22) (hw _ (List.mem_of_getElem? (i := 36) rfl)) F_a1_crcPassNanos E_a1 (Or.inr ⟨(hw _ (List.mem_of_getElem? (i := 37) rfl)), rfl, hnm⟩) (hw _ (List.mem_of_getElem? (i := 17) rfl)) (ty := .long) (by decide) rfl rfl g_a1
  have E_a1 : Exa Z h24 a1 "com/example/shardrule/shardrule/bench/RoutingBench$Result" := E_a1.wr W25
  have F_a1_keys : Fld Z h24 a1 "com/example/shardrule/shardrule/bench/RoutingBench$Result" "keys" "I" (.int p2) := F_a1_keys.other W25 (Or.inr (slot_ne (Or.inr (hw _ (List.mem_of_getElem? (i := 31) rfl))) (Or.inr (hw _ (List.mem_of_getElem? (i := 37) rfl))) (by decide) (t := .int) (t' := .long) (by decide) (by decide)))
  have F_a1_threads : Fld Z h24 a1 "com/example/shardrule/shardrule/bench/RoutingBench$Result" "threads" "I" (.int p3) := F_a1_threads.other W25 (Or.inr (slot_ne (Or.inr (hw _ (List.mem_of_getElem? (i := 33) rfl))) (Or.inr (hw _ (List.mem_of_getElem? (i := 37) rfl))) (by decide) (t := .int) (t' := .long) (by decide) (by decide)))
  have F_a1_routePassNanos : Fld Z h24 a1 "com/example/shardrule/shardrule/bench/RoutingBench$Result" "routePassNanos" "J" (.long q4) := F_a1_routePassNanos.other W25 (Or.inr (slot_ne (Or.inr (hw _ (List.mem_of_getElem? (i := 35) rfl))) (Or.inr (hw _ (List.mem_of_getElem? (i := 37) rfl))) (by decide) (t := .long) (t' := .long) (by decide) (by decide)))
  have F_a1_crcPassNanos : Fld Z h24 a1 "com/example/shardrule/shardrule/bench/RoutingBench$Result" "crcPassNanos" "J" (.long q5) := F_a1_crcPassNanos.same W25
  have Z0 : n0 ≤ h24.size := by rw [W25.size]; exact Z0
  have KK : Keep h0 h24 [a1] := KK.wr W25 (Or.inl (by simp))
  have A27 : own_R p l e _ _ m _ below meth c S0 n0 h24 0 0 (mkF m 25 #[.val (.ref a1), .val (.int p2), .val (.int p3), .val (.long q4), .second, .val (.long q5), .second] []) := A26
  exact A27.retV hx hlk hret (hb hby dini_25) (by decide) (by decide) ⟨rfl, KK, F_a1_keys, F_a1_threads, F_a1_routePassNanos⟩
theorem dmx_0 : decode jdk_29_method_65_code 0 = .ok (.iload_n 0, 1) := by decide +kernel
theorem dmx_1 : decode jdk_29_method_65_code 1 = .ok (.iload_n 1, 1) := by decide +kernel
theorem dmx_2 : decode jdk_29_method_65_code 2 = .ok (.if_icmp .lt 7, 3) := by decide +kernel
theorem dmx_5 : decode jdk_29_method_65_code 5 = .ok (.iload_n 0, 1) := by decide +kernel
theorem dmx_6 : decode jdk_29_method_65_code 6 = .ok (.goto 4, 3) := by decide +kernel
theorem dmx_9 : decode jdk_29_method_65_code 9 = .ok (.iload_n 1, 1) := by decide +kernel
theorem dmx_10 : decode jdk_29_method_65_code 10 = .ok (.ireturn, 1) := by decide +kernel
theorem efmx (m : MethodId) (p1 : Int32) (p2 : Int32) : entryFrame m #[(.int p1), (.int p2)] 2 = mkF m 0 #[.val (.int p1), .val (.int p2)] [] := by first | (simp [entryFrame, mkF, argsToLocals, Value.category, maxLocals]; done) | rfl
set_option maxRecDepth 65536 in
set_option maxHeartbeats 40000000 in
theorem own_max (l : Launch) (Z : State) (a0 : Array Value) (hw : ∀ d ∈ tables_1, d.before a0 Z = true) (p1 p2 : Int32) (h0 : Heap) (n0 : Nat) (Z0 : n0 ≤ h0.size)  :
    own_M l Z (⟨"java/lang/Math", "max", "(II)I"⟩ : MethodName) jdk_29_method_65_code 2 (some .int) [] ({ frames := 0, cells := 0, slots := 0, locals := 0 } : Room) #[(.int p1), (.int p2)] h0 n0 (fun v h => v = some (.int (if p1 < p2 then p2 else p1)) ∧ h0 = h) := by
  refine own_M.of (by decide +kernel) ?_
  intro p e s m below meth c S0 hx hby hml hown hnm hret hlk hZ A00
  have A0 := A00.cast (efmx m p1 p2)
  have A1 := A0.go (f' := mkF m 1 #[.val (.int p1), .val (.int p2)] [(.int p1)]) fun _ _ X _ k => XS.iloadN X.here hx rfl (hb hby dmx_0) rfl k
  have A2 := A1.go (f' := mkF m 2 #[.val (.int p1), .val (.int p2)] [(.int p2), (.int p1)]) fun _ _ X _ k => XS.iloadN X.here hx rfl (hb hby dmx_1) rfl k
  by_cases q3 : p1 < p2
  · skip
    have A4 := A2.go (f' := mkF m 9 #[.val (.int p1), .val (.int p2)] []) fun _ _ X _ k => XS.icmpYes X.here hx rfl (pc0 := 2) (pc' := 9) rfl (hb hby dmx_2) rfl ((tlt q3).1) (by decide) (by decide) k
    have A5 := A4.go (f' := mkF m 10 #[.val (.int p1), .val (.int p2)] [(.int p2)]) fun _ _ X _ k => XS.iloadN X.here hx rfl (hb hby dmx_9) rfl k
    exact A5.ret hx hlk hret (hb hby dmx_10) rfl (Or.inl ⟨rfl, by simp, _, rfl⟩) (by decide) (by decide) ⟨by simp [q3], rfl⟩
  · skip
    have A6 := A2.go (f' := mkF m 5 #[.val (.int p1), .val (.int p2)] []) fun _ _ X _ k => XS.icmpNo X.here hx rfl (hb hby dmx_2) rfl ((flt q3).1) k
    have A7 := A6.go (f' := mkF m 6 #[.val (.int p1), .val (.int p2)] [(.int p1)]) fun _ _ X _ k => XS.iloadN X.here hx rfl (hb hby dmx_5) rfl k
    have A8 := A7.go (f' := mkF m 10 #[.val (.int p1), .val (.int p2)] [(.int p1)]) fun _ _ X _ k => XS.goto X.here hx rfl (pc0 := 6) (pc' := 10) rfl (hb hby dmx_6) (by decide) (by decide) k
    exact A8.ret hx hlk hret (hb hby dmx_10) rfl (Or.inl ⟨rfl, by simp, _, rfl⟩) (by decide) (by decide) ⟨by simp [q3], rfl⟩
theorem dkp_0 : decode prog_17_method_5_code 0 = .ok (.aload_n 0, 1) := by decide +kernel
theorem dkp_1 : decode prog_17_method_5_code 1 = .ok (.getfield 13, 3) := by decide +kernel
theorem dkp_4 : decode prog_17_method_5_code 4 = .ok (.i2d, 1) := by decide +kernel
theorem dkp_5 : decode prog_17_method_5_code 5 = .ok (.aload_n 0, 1) := by decide +kernel
theorem dkp_6 : decode prog_17_method_5_code 6 = .ok (.getfield 7, 3) := by decide +kernel
theorem dkp_9 : decode prog_17_method_5_code 9 = .ok (.i2d, 1) := by decide +kernel
theorem dkp_10 : decode prog_17_method_5_code 10 = .ok (.dmul, 1) := by decide +kernel
theorem dkp_11 : decode prog_17_method_5_code 11 = .ok (.ldc2_w 30, 3) := by decide +kernel
theorem dkp_14 : decode prog_17_method_5_code 14 = .ok (.dmul, 1) := by decide +kernel
theorem dkp_15 : decode prog_17_method_5_code 15 = .ok (.aload_n 0, 1) := by decide +kernel
theorem dkp_16 : decode prog_17_method_5_code 16 = .ok (.getfield 16, 3) := by decide +kernel
theorem dkp_19 : decode prog_17_method_5_code 19 = .ok (.l2d, 1) := by decide +kernel
theorem dkp_20 : decode prog_17_method_5_code 20 = .ok (.ddiv, 1) := by decide +kernel
theorem dkp_21 : decode prog_17_method_5_code 21 = .ok (.dreturn, 1) := by decide +kernel
theorem efkp (m : MethodId) (a1 : Addr) : entryFrame m #[(.ref a1)] 1 = mkF m 0 #[.val (.ref a1)] [] := by first | (simp [entryFrame, mkF, argsToLocals, Value.category, maxLocals]; done) | rfl
set_option maxRecDepth 65536 in
set_option maxHeartbeats 40000000 in
theorem own_kps (l : Launch) (Z : State) (a0 : Array Value) (hw : ∀ d ∈ tables_1, d.before a0 Z = true) (a1 : Addr) (kk tt : Int32) (rr : Int64) (h0 : Heap) (n0 : Nat) (Z0 : n0 ≤ h0.size) (Fk : Fld Z h0 a1 "com/example/shardrule/shardrule/bench/RoutingBench$Result" "keys" "I" (.int kk)) (Ft : Fld Z h0 a1 "com/example/shardrule/shardrule/bench/RoutingBench$Result" "threads" "I" (.int tt)) (Fr : Fld Z h0 a1 "com/example/shardrule/shardrule/bench/RoutingBench$Result" "routePassNanos" "J" (.long rr)) (hn1 : Jvm.Free.Fl.NoNaN64 (FP.dmul (FP.i2d tt) (FP.i2d kk))) (hn2 : Jvm.Free.Fl.NoNaN64 (FP.dmul (FP.dmul (FP.i2d tt) (FP.i2d kk)) (4741671816366391296 : UInt64))) (hn3 : Jvm.Free.Fl.NoNaN64 (FP.ddiv (FP.dmul (FP.dmul (FP.i2d tt) (FP.i2d kk)) (4741671816366391296 : UInt64)) (FP.l2d rr))) :
    own_M l Z (⟨"com/example/shardrule/shardrule/bench/RoutingBench$Result", "keysPerSecond", "()D"⟩ : MethodName) prog_17_method_5_code 1 (some .double) [] ({ frames := 0, cells := 0, slots := 0, locals := 0 } : Room) #[(.ref a1)] h0 n0 (fun v h => v = some (.double (FP.ddiv (FP.dmul (FP.dmul (FP.i2d tt) (FP.i2d kk)) (4741671816366391296 : UInt64)) (FP.l2d rr))) ∧ h0 = h) := by
  refine own_M.of (plainFor_of_name (by first | (simp [plainName, overriddenIn]; done) | decide +kernel)) ?_
  intro p e s m below meth c S0 hx hby hml hown hnm hret hlk hZ A00
  have A0 := A00.cast (efkp m a1)
  have A1 := A0.go (f' := mkF m 1 #[.val (.ref a1)] [(.ref a1)]) fun _ _ X _ k => XS.aloadN X.here hx rfl (hb hby dkp_0) rfl rfl k
  have A2 : own_R p l e _ _ m _ below meth c S0 n0 h0 0 0 (mkF m 4 #[.val (.ref a1)] [(.int tt)]) := A1.getF hx hZ hown (hb hby dkp_1) (hw _ (List.mem_of_getElem? (i := 32) rfl)) Via.refl Ft
  have A3 := A2.go (f' := mkF m 5 #[.val (.ref a1)] [(.double (FP.i2d tt))]) fun _ _ X _ k => XS.i2dS X.here hx rfl (hb hby dkp_4) rfl rfl k
  have A4 := A3.go (f' := mkF m 6 #[.val (.ref a1)] [(.ref a1), (.double (FP.i2d tt))]) fun _ _ X _ k => XS.aloadN X.here hx rfl (hb hby dkp_5) rfl rfl k
  have A5 : own_R p l e _ _ m _ below meth c S0 n0 h0 0 0 (mkF m 9 #[.val (.ref a1)] [(.int kk), (.double (FP.i2d tt))]) := A4.getF hx hZ hown (hb hby dkp_6) (hw _ (List.mem_of_getElem? (i := 30) rfl)) Via.refl Fk
  have A6 := A5.go (f' := mkF m 10 #[.val (.ref a1)] [(.double (FP.i2d kk)), (.double (FP.i2d tt))]) fun _ _ X _ k => XS.i2dS X.here hx rfl (hb hby dkp_9) rfl rfl k
  have A7 := A6.go (f' := mkF m 11 #[.val (.ref a1)] [(.double (FP.dmul (FP.i2d tt) (FP.i2d kk)))]) fun _ _ X _ k => XS.dmulS X.here hx rfl (hb hby dkp_10) rfl hn1 rfl k
  have A8 : own_R p l e _ _ m _ below meth c S0 n0 h0 0 0 (mkF m 14 #[.val (.ref a1)] [(.double (4741671816366391296 : UInt64)), (.double (FP.dmul (FP.i2d tt) (FP.i2d kk)))]) := A7.ldcD hx hZ hown (hb hby dkp_11) (hw _ (List.mem_of_getElem? (i := 43) rfl))
  have A9 := A8.go (f' := mkF m 15 #[.val (.ref a1)] [(.double (FP.dmul (FP.dmul (FP.i2d tt) (FP.i2d kk)) (4741671816366391296 : UInt64)))]) fun _ _ X _ k => XS.dmulS X.here hx rfl (hb hby dkp_14) rfl hn2 rfl k
  have A10 := A9.go (f' := mkF m 16 #[.val (.ref a1)] [(.ref a1), (.double (FP.dmul (FP.dmul (FP.i2d tt) (FP.i2d kk)) (4741671816366391296 : UInt64)))]) fun _ _ X _ k => XS.aloadN X.here hx rfl (hb hby dkp_15) rfl rfl k
  have A11 : own_R p l e _ _ m _ below meth c S0 n0 h0 0 0 (mkF m 19 #[.val (.ref a1)] [(.long rr), (.double (FP.dmul (FP.dmul (FP.i2d tt) (FP.i2d kk)) (4741671816366391296 : UInt64)))]) := A10.getF hx hZ hown (hb hby dkp_16) (hw _ (List.mem_of_getElem? (i := 34) rfl)) Via.refl Fr
  have A12 := A11.go (f' := mkF m 20 #[.val (.ref a1)] [(.double (FP.l2d rr)), (.double (FP.dmul (FP.dmul (FP.i2d tt) (FP.i2d kk)) (4741671816366391296 : UInt64)))]) fun _ _ X _ k => XS.l2dS X.here hx rfl (hb hby dkp_19) rfl rfl k
  have A13 := A12.go (f' := mkF m 21 #[.val (.ref a1)] [(.double (FP.ddiv (FP.dmul (FP.dmul (FP.i2d tt) (FP.i2d kk)) (4741671816366391296 : UInt64)) (FP.l2d rr)))]) fun _ _ X _ k => XS.ddivS X.here hx rfl (hb hby dkp_20) rfl hn3 rfl k
  exact A13.ret hx hlk hret (hb hby dkp_21) rfl (Or.inr (Or.inr (Or.inl ⟨rfl, rfl, _, rfl⟩))) (by decide) (by decide) ⟨rfl, rfl⟩
/-- the quotient of two whole numbers that are held exactly is the ratio, rounded once -/
theorem own_div {a b : Int64} (wa : FP.Core.Whole a.toInt (FP.Core.val64 (FP.l2d a))) (wb : FP.Core.Whole b.toInt (FP.Core.val64 (FP.l2d b))) (h0 : 0 ≤ a.toInt) (h1 : 0 < b.toInt) :
    FP.Core.val64 (FP.ddiv (FP.l2d a) (FP.l2d b)) = FP.Core.roundRatio FP.Core.b64 false a.toInt.natAbs b.toInt.natAbs 0 := by
  obtain ⟨c, q, ea⟩ := FP.Core.l2d_shape a
  obtain ⟨d, r, eb⟩ := FP.Core.l2d_shape b
  have ea' : FP.Core.val64 (FP.l2d a) = .fin (decide (a.toInt < 0)) c q := ea
  have eb' : FP.Core.val64 (FP.l2d b) = .fin (decide (b.toInt < 0)) d r := eb
  have sa : decide (a.toInt < 0) = false := by simp; omega
  have sb : decide (b.toInt < 0) = false := by simp; omega
  rw [ea'] at wa
  rw [eb'] at wb
  have na := FP.Core.whole_natAbs wa
  have nb := FP.Core.whole_natAbs wb
  have hd : d ≠ 0 := fun hd => by
    have := (FP.Core.whole_zero wb).mp hd
    omega
  have hb : 0 < b.toInt.natAbs := by omega
  show FP.Core.val64 (FP.Core.ddiv _ _) = _
  rw [FP.Core.val64_ddiv, ea', eb', sa, sb]
  show (if d = 0 then (if c = 0 then FP.Core.Datum.nan else .inf (false != false)) else FP.Core.roundRatio FP.Core.b64 (false != false) c d (q - r)) = _
  rw [if_neg hd]
  show FP.Core.roundRatio FP.Core.b64 false c d (q - r) = _
  refine FP.Core.roundRatio_congr (Nat.pos_of_ne_zero hd) hb ?_
  generalize a.toInt.natAbs = A at na
  generalize b.toInt.natAbs = B at nb
  have hm : (2 : Nat) ^ (q.toNat + (-r).toNat - (q - r - 0).toNat) * 2 ^ (q - r - 0).toNat = 2 ^ q.toNat * 2 ^ (-r).toNat := by
    rw [← Nat.pow_add, ← Nat.pow_add]
    congr 1
    omega
  have hm' : (2 : Nat) ^ (q.toNat + (-r).toNat - (q - r - 0).toNat) * 2 ^ (0 - (q - r)).toNat = 2 ^ (-q).toNat * 2 ^ r.toNat := by
    rw [← Nat.pow_add, ← Nat.pow_add]
    congr 1
    omega
  have hp := Nat.two_pow_pos (q.toNat + (-r).toNat - (q - r - 0).toNat)
  refine Nat.eq_of_mul_eq_mul_left hp ?_
  calc 2 ^ (q.toNat + (-r).toNat - (q - r - 0).toNat) * (c * B * 2 ^ (q - r - 0).toNat)
      = c * B * (2 ^ (q.toNat + (-r).toNat - (q - r - 0).toNat) * 2 ^ (q - r - 0).toNat) := by ac_rfl
    _ = c * B * (2 ^ q.toNat * 2 ^ (-r).toNat) := by rw [hm]
    _ = (c * 2 ^ q.toNat) * (B * 2 ^ (-r).toNat) := by ac_rfl
    _ = (A * 2 ^ (-q).toNat) * (d * 2 ^ r.toNat) := by rw [na, nb]
    _ = A * d * (2 ^ (-q).toNat * 2 ^ r.toNat) := by ac_rfl
    _ = A * d * (2 ^ (q.toNat + (-r).toNat - (q - r - 0).toNat) * 2 ^ (0 - (q - r)).toNat) := by rw [hm']
    _ = 2 ^ (q.toNat + (-r).toNat - (q - r - 0).toNat) * (A * d * 2 ^ (0 - (q - r)).toNat) := by ac_rfl
theorem own_div_nn {a b : Int64} (wa : FP.Core.Whole a.toInt (FP.Core.val64 (FP.l2d a))) (wb : FP.Core.Whole b.toInt (FP.Core.val64 (FP.l2d b))) (h0 : 0 ≤ a.toInt) (h1 : 0 < b.toInt) :
    FP.Core.val64 (FP.ddiv (FP.l2d a) (FP.l2d b)) ≠ .nan := by
  rw [own_div wa wb h0 h1]
  exact FP.Core.roundRatio_ne_nan _ _ _ _ _
theorem own_zr {A B : Nat} : FP.Core.zval FP.Core.b64 (FP.Core.roundRatio FP.Core.b64 false A B 0) = (FP.Core.zmag FP.Core.b64 (FP.Core.roundRatio FP.Core.b64 false A B 0) : Int) := by
  unfold FP.Core.zval
  rw [FP.Core.sgn_roundRatio]
  rfl
theorem own_qm : (0 - FP.Core.b64.qmin).toNat = 1074 ∧ FP.Core.b64.qmin ≤ 0 := by decide +kernel
/-- an upper bound that the format holds -/
theorem own_up {A B : Nat} {V : UInt64} (hB : 0 < B) (hV : FP.Core.val64 V ≠ .nan) (h : A * 2 ^ 1074 ≤ FP.Core.zmag FP.Core.b64 (FP.Core.val64 V) * B) :
    FP.Core.zmag FP.Core.b64 (FP.Core.roundRatio FP.Core.b64 false A B 0) ≤ FP.Core.zmag FP.Core.b64 (FP.Core.val64 V) := by
  refine FP.Core.zmag_roundRatio_le FP.Core.good_b64 (e0 := FP.Core.b64.qmin) hB (FP.Core.val64_fits V) hV (Int.le_refl _) own_qm.2 ?_
  unfold FP.Core.inUnits
  rw [own_qm.1, Int.sub_self, Int.toNat_zero, Nat.pow_zero, Nat.mul_one]
  exact h
/-- a lower bound that the format holds -/
theorem own_dn {A B : Nat} {V : UInt64} (hB : 0 < B) (h : FP.Core.zmag FP.Core.b64 (FP.Core.val64 V) * B ≤ A * 2 ^ 1074) :
    FP.Core.zmag FP.Core.b64 (FP.Core.val64 V) ≤ FP.Core.zmag FP.Core.b64 (FP.Core.roundRatio FP.Core.b64 false A B 0) := by
  refine FP.Core.zmag_roundRatio_ge FP.Core.good_b64 (e0 := FP.Core.b64.qmin) hB (FP.Core.val64_fits V) (Int.le_refl _) own_qm.2 ?_
  unfold FP.Core.inUnits
  rw [own_qm.1, Int.sub_self, Int.toNat_zero, Nat.pow_zero, Nat.mul_one]
  exact h
theorem own_cmpz {x y : UInt64} (hx : FP.Core.val64 x ≠ .nan) (hy : FP.Core.val64 y ≠ .nan) : FP.dcmp x y = some (compare (FP.Core.zval FP.Core.b64 (FP.Core.val64 x)) (FP.Core.zval FP.Core.b64 (FP.Core.val64 y))) := FP.Core.dcmp_zval hx hy
theorem own_cmp0 {x y : UInt64} (hx : FP.Core.val64 x ≠ .nan) (hy : FP.Core.val64 y ≠ .nan) (h : FP.Core.zval FP.Core.b64 (FP.Core.val64 x) = FP.Core.zval FP.Core.b64 (FP.Core.val64 y)) (o : CmpOp) : cmpValue (FP.dcmp x y) o = (0 : Int32) := by
  rw [own_cmpz hx hy, h]
  have e : ∀ z : Int, compare z z = .eq := fun z => by simp [compare, compareOfLessAndEq]
  rw [e]
  cases o <;> rfl
theorem own_cmpL {x y : UInt64} (hx : FP.Core.val64 x ≠ .nan) (hy : FP.Core.val64 y ≠ .nan) (h : FP.Core.zval FP.Core.b64 (FP.Core.val64 x) < FP.Core.zval FP.Core.b64 (FP.Core.val64 y)) (o : CmpOp) : cmpValue (FP.dcmp x y) o = (-1 : Int32) := by
  rw [own_cmpz hx hy]
  have e : compare (FP.Core.zval FP.Core.b64 (FP.Core.val64 x)) (FP.Core.zval FP.Core.b64 (FP.Core.val64 y)) = .lt := by simp [compare, compareOfLessAndEq, h]
  rw [e]
  cases o <;> rfl
theorem own_cmpG {x y : UInt64} (hx : FP.Core.val64 x ≠ .nan) (hy : FP.Core.val64 y ≠ .nan) (h : FP.Core.zval FP.Core.b64 (FP.Core.val64 y) < FP.Core.zval FP.Core.b64 (FP.Core.val64 x)) (o : CmpOp) : cmpValue (FP.dcmp x y) o = (1 : Int32) := by
  rw [own_cmpz hx hy]
  have e : compare (FP.Core.zval FP.Core.b64 (FP.Core.val64 x)) (FP.Core.zval FP.Core.b64 (FP.Core.val64 y)) = .gt := by
    have h1 : ¬ FP.Core.zval FP.Core.b64 (FP.Core.val64 x) < FP.Core.zval FP.Core.b64 (FP.Core.val64 y) := by omega
    have h2 : ¬ FP.Core.zval FP.Core.b64 (FP.Core.val64 x) = FP.Core.zval FP.Core.b64 (FP.Core.val64 y) := by omega
    simp [compare, compareOfLessAndEq, h1, h2]
  rw [e]
  cases o <;> rfl
theorem own_zv {t : Int64} (h : B53 t) : FP.Core.zval FP.Core.b64 (FP.Core.val64 (FP.l2d t)) = t.toInt * (FP.Core.one64 : Int) :=
  FP.Core.DInt_zval (FP.Core.l2d_whole (sm h))
theorem own_zm {t : Int64} (h : B53 t) (h0 : 0 ≤ t.toInt) : FP.Core.zmag FP.Core.b64 (FP.Core.val64 (FP.l2d t)) = t.toInt.natAbs * 2 ^ 1074 := by
  have e := congrArg Int.natAbs (own_zv h)
  unfold FP.Core.zval at e
  rw [FP.Core.natAbs_signed, Int.natAbs_mul, Int.natAbs_natCast] at e
  exact e
theorem own_ac1 (N B r P M : Nat) : (N * B + r) * (M * P) = M * (N * B * P) + M * (r * P) := by
  rw [Nat.add_mul]
  congr 1
  · ac_rfl
  · ac_rfl
theorem own_ac2 (N B P M : Nat) : N * (M * P) * B = M * (N * B * P) := by ac_rfl
theorem own_ac3 (N B P M : Nat) : (N * M + 1) * P * B = M * (N * B * P) + B * P := by
  rw [Nat.add_mul, Nat.add_mul, Nat.one_mul]
  congr 1
  · ac_rfl
  · ac_rfl
theorem own_ac4 (N B P M : Nat) : (N + 1) * (M * P) * B = M * (N * B * P) + M * (B * P) := by
  rw [Nat.add_mul, Nat.add_mul, Nat.one_mul]
  congr 1
  · ac_rfl
  · ac_rfl
theorem own_ac5 (N B P M K : Nat) : (N * M + K) * P * B = M * (N * B * P) + K * (B * P) := by
  rw [Nat.add_mul, Nat.add_mul]
  congr 1
  · ac_rfl
  · ac_rfl
theorem own_ac6 (A B P : Nat) : A * B * P = A * P * B := by ac_rfl
theorem own_ac7 (K A B P : Nat) : K * (A * P) * B = K * (A * B * P) := by ac_rfl
theorem own_v63 : FP.Core.val64 (4890909195324358656 : UInt64) ≠ .nan ∧ FP.Core.zmag FP.Core.b64 (FP.Core.val64 (4890909195324358656 : UInt64)) = 9223372036854775808 * 2 ^ 1074 := by decide +kernel
theorem own_top63 : 9223372036854775808 * 2 ^ 1074 < FP.Core.b64.tails * 2 ^ (FP.Core.b64.exps - 2) := by decide +kernel
theorem own_finite {A B : Nat} (hB : 0 < B) (h : A ≤ 9223372036854775808 * B) : ∃ c q, FP.Core.roundRatio FP.Core.b64 false A B 0 = .fin false c q := by
  have hu := own_up (A := A) (B := B) (V := 4890909195324358656) hB own_v63.1 (by
    rw [own_v63.2]
    calc A * 2 ^ 1074 ≤ 9223372036854775808 * B * 2 ^ 1074 := Nat.mul_le_mul_right _ h
      _ = 9223372036854775808 * 2 ^ 1074 * B := own_ac6 _ _ _)
  rw [own_v63.2] at hu
  have hs := FP.Core.sgn_roundRatio FP.Core.b64 false A B 0
  cases hr : FP.Core.roundRatio FP.Core.b64 false A B 0 with
  | nan => exact absurd hr (FP.Core.roundRatio_ne_nan _ _ _ _ _)
  | inf s =>
    rw [hr] at hu
    exact absurd (show FP.Core.b64.tails * 2 ^ (FP.Core.b64.exps - 2) ≤ _ from hu) (Nat.not_le.mpr own_top63)
  | fin s c q =>
    rw [hr] at hs
    have hs' : s = false := hs
    subst hs'
    exact ⟨c, q, rfl⟩
/-- rounding is monotone -/
theorem own_mono {A B A' B' : Nat} (hB : 0 < B) (hB' : 0 < B') (f1 : A ≤ 9223372036854775808 * B) (f2 : A' ≤ 9223372036854775808 * B') (h : A * B' ≤ A' * B) :
    FP.Core.zmag FP.Core.b64 (FP.Core.roundRatio FP.Core.b64 false A B 0) ≤ FP.Core.zmag FP.Core.b64 (FP.Core.roundRatio FP.Core.b64 false A' B' 0) := by
  obtain ⟨c, q, e1⟩ := own_finite hB f1
  obtain ⟨c', q', e2⟩ := own_finite hB' f2
  have g1 : FP.Core.fits FP.Core.b64 (.fin false c q) := e1 ▸ FP.Core.roundRatio_fits FP.Core.good_b64 false A hB 0
  have g2 : FP.Core.fits FP.Core.b64 (.fin false c' q') := e2 ▸ FP.Core.roundRatio_fits FP.Core.good_b64 false A' hB' 0
  have d1 := FP.Core.roundRatio_nearest FP.Core.good_b64 (e0 := FP.Core.b64.qmin) hB e1 g2.1 g2.2.1 (Int.le_refl _) own_qm.2
  have d2 := FP.Core.roundRatio_nearest FP.Core.good_b64 (e0 := FP.Core.b64.qmin) hB' e2 g1.1 g1.2.1 (Int.le_refl _) own_qm.2
  rw [e1, e2]
  show FP.Core.inUnits c q FP.Core.b64.qmin ≤ FP.Core.inUnits c' q' FP.Core.b64.qmin
  unfold FP.Core.distance at d1 d2
  have u1 : FP.Core.inUnits A 0 FP.Core.b64.qmin = A * 2 ^ 1074 := by unfold FP.Core.inUnits; rw [own_qm.1]
  have u2 : FP.Core.inUnits A' 0 FP.Core.b64.qmin = A' * 2 ^ 1074 := by unfold FP.Core.inUnits; rw [own_qm.1]
  rw [u1] at d1
  rw [u2] at d2
  generalize hz1 : FP.Core.inUnits c q FP.Core.b64.qmin = z1 at *
  generalize hz2 : FP.Core.inUnits c' q' FP.Core.b64.qmin = z2 at *
  refine Nat.le_of_not_lt fun hlt => ?_
  rw [← Int.natCast_mul, ← Int.natCast_mul] at d1 d2
  have m1 : z2 * B + B ≤ z1 * B := by
    have := Nat.mul_le_mul_right B (show z2 + 1 ≤ z1 by omega)
    rw [Nat.add_mul, Nat.one_mul] at this
    exact this
  have m2 : z2 * B' + B' ≤ z1 * B' := by
    have := Nat.mul_le_mul_right B' (show z2 + 1 ≤ z1 by omega)
    rw [Nat.add_mul, Nat.one_mul] at this
    exact this
  have k1 : z1 * B + z2 * B ≤ 2 * (A * 2 ^ 1074) := by omega
  have k2 : 2 * (A' * 2 ^ 1074) ≤ z1 * B' + z2 * B' := by omega
  have k3 : (z1 * B + z2 * B) * B' = (z1 * B' + z2 * B') * B := by
    rw [Nat.add_mul, Nat.add_mul, Nat.mul_right_comm z1 B B', Nat.mul_right_comm z2 B B']
  have k4 := Nat.mul_le_mul_right B' k1
  have k5 := Nat.mul_le_mul_right B k2
  have k6 : 2 * (A' * 2 ^ 1074) * B ≤ 2 * (A * 2 ^ 1074) * B' := by
    refine Nat.le_trans k5 ?_
    rw [← k3]
    exact k4
  have k7 : A' * B * 2 ^ 1074 ≤ A * B' * 2 ^ 1074 := by
    have e3 : 2 * (A' * 2 ^ 1074) * B = 2 * (A' * B * 2 ^ 1074) := own_ac7 _ _ _ _
    have e4 : 2 * (A * 2 ^ 1074) * B' = 2 * (A * B' * 2 ^ 1074) := own_ac7 _ _ _ _
    rw [e3, e4] at k6
    exact Nat.le_of_mul_le_mul_left k6 (by decide)
  have k8 : A' * B ≤ A * B' := Nat.le_of_mul_le_mul_right k7 (Nat.two_pow_pos _)
  have k9 : A * B' = A' * B := Nat.le_antisymm h k8
  have r : FP.Core.roundRatio FP.Core.b64 false A B 0 = FP.Core.roundRatio FP.Core.b64 false A' B' 0 := FP.Core.roundRatio_congr hB hB' (by simpa using k9)
  rw [e1, e2] at r
  injection r with _ r1 r2
  subst r1 r2
  rw [hz1] at hz2
  omega
/-- a whole number of few digits times a power of two is held exactly -/
theorem own_exact {i : Int64} {c j : Nat} (hi : i.toInt = ((c * 2 ^ j : Nat) : Int)) (hc0 : 0 < c) (hc : c < 9007199254740992) (hj : j ≤ 62) : FP.Core.Whole i.toInt (FP.Core.val64 (FP.l2d i)) := by
  have hci : (Int64.ofNat c).toInt = (c : Int) := Int64.toInt_ofNat_of_lt (by omega)
  have w : FP.Core.Whole (Int64.ofNat c).toInt (FP.Core.val64 (FP.l2d (Int64.ofNat c))) := FP.Core.l2d_whole (by unfold FP.Core.Small53; omega)
  obtain ⟨c', q, e⟩ := FP.Core.l2d_shape (Int64.ofNat c)
  have e' : FP.Core.val64 (FP.l2d (Int64.ofNat c)) = .fin (decide ((Int64.ofNat c).toInt < 0)) c' q := e
  have sg : decide ((Int64.ofNat c).toInt < 0) = false := decide_eq_false (by omega)
  rw [sg] at e'
  have hf := FP.Core.val64_fits (FP.l2d (Int64.ofNat c))
  rw [e'] at hf w
  obtain ⟨h1, h2, h3, h4⟩ := hf
  have hw := FP.Core.whole_natAbs w
  rw [hci, Int.natAbs_natCast] at hw
  have hq0 : FP.Core.b64.qmin = -1074 := by decide +kernel
  have hqm : FP.Core.b64.qmax = 971 := by decide +kernel
  have hp : FP.Core.b64.p = 53 := by decide +kernel
  have hq : q ≠ FP.Core.b64.qmin := by
    intro hq
    rw [hq, hq0] at hw
    have hw' : c' * 2 ^ (0 : Nat) = c * 2 ^ 1074 := hw
    rw [Nat.pow_zero, Nat.mul_one] at hw'
    have h6 : 2 ^ 1074 ≤ c' := by
      rw [hw']
      exact Nat.le_mul_of_pos_left _ hc0
    have h7 : (2 : Nat) ^ FP.Core.b64.p ≤ 2 ^ 1074 := by decide +kernel
    omega
  have h5 : FP.Core.b64.tails ≤ c' := by
    rcases h4 with h4 | h4
    · exact absurd h4 hq
    · exact h4
  have hqs : q ≤ 0 := by
    refine Int.le_of_not_gt fun hq1 => ?_
    have e1 : (-q).toNat = 0 := by omega
    rw [e1, Nat.pow_zero, Nat.mul_one] at hw
    have e2 : 2 ≤ 2 ^ q.toNat := by
      have : 2 ^ 1 ≤ 2 ^ q.toNat := Nat.pow_le_pow_right (by decide) (by omega)
      exact this
    have e3 : FP.Core.b64.tails * 2 ≤ c' * 2 ^ q.toNat := Nat.mul_le_mul h5 e2
    have e4 : FP.Core.b64.tails * 2 = 9007199254740992 := by decide +kernel
    omega
  have hv : FP.Core.val64 (FP.l2d i) = .fin false c' (q + j) := by
    show FP.Core.val64 (FP.Core.l2d i) = _
    rw [FP.Core.val64_l2d]
    have si : decide (i.toInt < 0) = false := decide_eq_false (by rw [hi]; exact Int.not_lt.mpr (Int.natCast_nonneg _))
    show FP.Core.roundRatio FP.Core.b64 (decide (i.toInt < 0)) i.toInt.natAbs 1 0 = _
    rw [si]
    refine FP.Core.roundRatio_exact FP.Core.good_b64 (by decide) ⟨h1, by omega, by omega, Or.inr h5⟩ ?_
    have hia : i.toInt.natAbs = c * 2 ^ j := by rw [hi, Int.natAbs_natCast]
    rw [hia, Nat.mul_one]
    have e0 : q.toNat = 0 := by omega
    rw [e0, Nat.pow_zero, Nat.mul_one] at hw
    rw [hw]
    by_cases hs : q + (j : Int) ≤ 0
    · have a1 : (0 - (q + (j : Int))).toNat + j = (-q).toNat := by omega
      have a2 : (q + (j : Int) - 0).toNat = 0 := by omega
      rw [a2, Nat.pow_zero, Nat.mul_one, ← a1, Nat.pow_add]
      ac_rfl
    · have a1 : (0 - (q + (j : Int))).toNat = 0 := by omega
      have a2 : j = (-q).toNat + (q + (j : Int) - 0).toNat := by omega
      rw [a1, Nat.pow_zero, Nat.mul_one]
      conv => lhs; rw [a2, Nat.pow_add]
      ac_rfl
  rw [hv]
  show FP.Core.signed false (c' * 2 ^ (q + (j : Int)).toNat) = i.toInt * ((2 ^ (-(q + (j : Int))).toNat : Nat) : Int)
  rw [hi, ← Int.natCast_mul]
  show ((c' * 2 ^ (q + (j : Int)).toNat : Nat) : Int) = _
  congr 1
  have e0 : q.toNat = 0 := by omega
  rw [e0, Nat.pow_zero, Nat.mul_one] at hw
  rw [hw]
  by_cases hs : q + (j : Int) ≤ 0
  · have a1 : j + (-(q + (j : Int))).toNat = (-q).toNat := by omega
    have a2 : (q + (j : Int)).toNat = 0 := by omega
    rw [a2, Nat.pow_zero, Nat.mul_one, ← a1, Nat.pow_add]
    ac_rfl
  · have a1 : (-(q + (j : Int))).toNat = 0 := by omega
    have a2 : (-q).toNat + (q + (j : Int)).toNat = j := by omega
    rw [a1, Nat.pow_zero, Nat.mul_one, Nat.mul_assoc, ← Nat.pow_add, a2]
theorem own_e9 : (4741671816366391296 : UInt64) = FP.l2d (1000000000 : Int64) := by decide +kernel
theorem own_c9 : (1000000000 : Int64).toInt = 1000000000 := by decide
theorem own_c1 : (1 : Int64).toInt = 1 := by decide
theorem own_c0 : (0 : Int64).toInt = 0 := by decide
def own_TK (t k : Int32) : Prop := 1 ≤ t.toInt ∧ 1 ≤ k.toInt ∧ t.toInt * k.toInt ≤ 4294967296
def own_D (d : Int64) : Prop := 1 ≤ d.toInt ∧ d.toInt ≤ 4611686018427387904 ∧ FP.Core.Whole d.toInt (FP.Core.val64 (FP.l2d d))
theorem own_tk64 {t k : Int32} (h : own_TK t k) : (t.toInt64 * k.toInt64).toInt = t.toInt * k.toInt ∧ 1 ≤ t.toInt * k.toInt ∧ t.toInt * k.toInt ≤ 4294967296 := by
  obtain ⟨h1, h2, h3⟩ := h
  have h4 : 1 * 1 ≤ t.toInt * k.toInt := Int.mul_le_mul h1 h2 (by decide) (by omega)
  refine ⟨?_, by omega, h3⟩
  rw [Jvm.Kit.i64_mul, Int32.toInt_toInt64, Int32.toInt_toInt64]
  · rw [Int32.toInt_toInt64, Int32.toInt_toInt64]
    omega
  · rw [Int32.toInt_toInt64, Int32.toInt_toInt64]
    omega
theorem own_n64 {t k : Int32} (h : own_TK t k) {n : Int64} (hn : n = ((t.toInt64 * k.toInt64) * (1000000000 : Int64))) : n.toInt = t.toInt * k.toInt * 1000000000 := by
  obtain ⟨e, h1, h2⟩ := own_tk64 h
  rw [hn, Jvm.Kit.i64_mul, e, own_c9]
  · rw [e, own_c9]
    omega
  · rw [e, own_c9]
    omega
theorem own_num {t k : Int32} (h : own_TK t k) {n : Int64} (hn : n = ((t.toInt64 * k.toInt64) * (1000000000 : Int64))) : FP.dmul (FP.i2d t) (FP.i2d k) = FP.l2d (t.toInt64 * k.toInt64) ∧ FP.dmul (FP.dmul (FP.i2d t) (FP.i2d k)) (4741671816366391296 : UInt64) = FP.l2d n := by
  obtain ⟨e, h1, h2⟩ := own_tk64 h
  obtain ⟨t1, k1, h3⟩ := h
  have t2 := t.toInt_lt
  have k2 := k.toInt_lt
  have e1 : FP.dmul (FP.i2d t) (FP.i2d k) = FP.l2d (t.toInt64 * k.toInt64) := by
    rw [i2d_w, i2d_w]
    refine dmul_w ⟨?_, ?_⟩ ⟨?_, ?_⟩ (fun q => ?_) (fun q => ?_) ?_ ?_
    · rw [Int32.toInt_toInt64]; omega
    · rw [Int32.toInt_toInt64]; omega
    · rw [Int32.toInt_toInt64]; omega
    · rw [Int32.toInt_toInt64]; omega
    · have := congrArg Int64.toInt q
      rw [Int32.toInt_toInt64, own_c0] at this
      omega
    · have := congrArg Int64.toInt q
      rw [Int32.toInt_toInt64, own_c0] at this
      omega
    · rw [Int32.toInt_toInt64, Int32.toInt_toInt64]; omega
    · rw [Int32.toInt_toInt64, Int32.toInt_toInt64]; omega
  refine ⟨e1, ?_⟩
  rw [e1, own_e9, hn]
  refine dmul_w ⟨?_, ?_⟩ ⟨?_, ?_⟩ (fun q => ?_) (by decide) ?_ ?_
  · omega
  · omega
  · rw [own_c9]; omega
  · rw [own_c9]; omega
  · have := congrArg Int64.toInt q
    rw [e, own_c0] at this
    omega
  · rw [e, own_c9]; omega
  · rw [e, own_c9]; omega
theorem own_nw {t k : Int32} (h : own_TK t k) {n : Int64} (hn : n = ((t.toInt64 * k.toInt64) * (1000000000 : Int64))) : FP.Core.Whole n.toInt (FP.Core.val64 (FP.l2d n)) := by
  obtain ⟨e, h1, h2⟩ := own_tk64 h
  have e2 := own_n64 h hn
  refine own_exact (c := (t.toInt * k.toInt).toNat * 1953125) (j := 9) ?_ (by omega) (by omega) (by decide)
  rw [e2]
  omega
theorem own_val {t k : Int32} (h : own_TK t k) {n d : Int64} (hn : n = ((t.toInt64 * k.toInt64) * (1000000000 : Int64))) (hd : own_D d) : FP.Core.val64 (FP.ddiv (FP.dmul (FP.dmul (FP.i2d t) (FP.i2d k)) (4741671816366391296 : UInt64)) (FP.l2d d)) = FP.Core.roundRatio FP.Core.b64 false n.toInt.natAbs d.toInt.natAbs 0 := by
  obtain ⟨e, h1, h2⟩ := own_tk64 h
  have e2 := own_n64 h hn
  rw [(own_num h hn).2]
  exact own_div (own_nw h hn) hd.2.2 (by omega) (by have := hd.1; omega)
theorem own_nn {t k : Int32} (h : own_TK t k) {d : Int64} (hd : own_D d) : Jvm.Free.Fl.NoNaN64 (FP.dmul (FP.i2d t) (FP.i2d k)) ∧ Jvm.Free.Fl.NoNaN64 (FP.dmul (FP.dmul (FP.i2d t) (FP.i2d k)) (4741671816366391296 : UInt64)) ∧ Jvm.Free.Fl.NoNaN64 (FP.ddiv (FP.dmul (FP.dmul (FP.i2d t) (FP.i2d k)) (4741671816366391296 : UInt64)) (FP.l2d d)) := by
  obtain ⟨e1, e2⟩ := own_num h (n := ((t.toInt64 * k.toInt64) * (1000000000 : Int64))) rfl
  refine ⟨nn_w e1, nn_w e2, Jvm.Free.Fl.val64_no.mpr ?_⟩
  rw [own_val h rfl hd]
  exact FP.Core.roundRatio_ne_nan _ _ _ _ _
theorem own_lval {q : Int64} (h : 0 ≤ q.toInt) : FP.Core.val64 (FP.l2d q) = FP.Core.roundRatio FP.Core.b64 false q.toInt.natAbs 1 0 := by
  show FP.Core.val64 (FP.Core.l2d q) = _
  rw [FP.Core.val64_l2d]
  have si : decide (q.toInt < 0) = false := by simp; omega
  show FP.Core.roundRatio FP.Core.b64 (decide (q.toInt < 0)) q.toInt.natAbs 1 0 = _
  rw [si]
theorem own_dm {t k : Int32} (h : own_TK t k) {n d qq rem : Int64} (hn : n = ((t.toInt64 * k.toInt64) * (1000000000 : Int64))) (hd : own_D d) (hq : qq = (n / d)) (hr : rem = (n - n / d * d)) :
    0 ≤ qq.toInt ∧ qq.toInt ≤ 4611686018427387904 ∧ n.toInt.natAbs = qq.toInt.natAbs * d.toInt.natAbs + rem.toInt.natAbs ∧ rem.toInt.natAbs < d.toInt.natAbs ∧ 0 < d.toInt.natAbs ∧ n.toInt.natAbs ≤ 4611686018427387904 := by
  obtain ⟨e, h1, h2⟩ := own_tk64 h
  have e2 := own_n64 h hn
  obtain ⟨d1, d2, -⟩ := hd
  have eq : qq.toInt = n.toInt / d.toInt := by
    rw [hq, Jvm.Kit.i64_div (by omega)]
    exact Int.tdiv_eq_ediv_of_nonneg (by omega)
  have er : rem.toInt = n.toInt % d.toInt := by rw [hr, Jvm.Kit.i64_rem_nonneg (by omega)]
  have q0 : 0 ≤ qq.toInt := by rw [eq]; exact Int.ediv_nonneg (by omega) (by omega)
  have q1 : qq.toInt ≤ n.toInt := by rw [eq]; exact Int.ediv_le_self _ (by omega)
  have r0 : 0 ≤ rem.toInt := by rw [er]; exact Int.emod_nonneg _ (by omega)
  have r1 : rem.toInt < d.toInt := by rw [er]; exact Int.emod_lt_of_pos _ (by omega)
  have dm : qq.toInt * d.toInt + rem.toInt = n.toInt := by
    rw [eq, er]
    have := Int.mul_ediv_add_emod n.toInt d.toInt
    rw [Int.mul_comm] at this
    exact this
  have p0 : 0 ≤ qq.toInt * d.toInt := Int.mul_nonneg q0 (by omega)
  have pe : (qq.toInt * d.toInt).natAbs = qq.toInt.natAbs * d.toInt.natAbs := Int.natAbs_mul _ _
  refine ⟨q0, by omega, ?_, by omega, by omega, by omega⟩
  rw [← pe]
  omega
theorem own_fin0 {t k : Int32} (h : own_TK t k) {n d qq rem : Int64} (hn : n = ((t.toInt64 * k.toInt64) * (1000000000 : Int64))) (hd : own_D d) (hq : qq = (n / d)) (hr : rem = (n - n / d * d)) (h0 : rem = (0 : Int64)) :
    (cmpValue (FP.dcmp (FP.ddiv (FP.dmul (FP.dmul (FP.i2d t) (FP.i2d k)) (4741671816366391296 : UInt64)) (FP.l2d d)) (FP.l2d qq)) .l) = (0 : Int32) := by
  obtain ⟨q0, q1, e1, e2, e3, e4⟩ := own_dm h hn hd hq hr
  have r0 : rem.toInt.natAbs = 0 := by rw [h0]; decide
  refine own_cmp0 (Jvm.Free.Fl.val64_no.mp (own_nn h hd).2.2) (FP.Core.l2d_fin qq).ne_nan ?_ .l
  rw [own_val h hn hd, own_lval q0]
  congr 1
  refine FP.Core.roundRatio_congr e3 (by decide) ?_
  rw [e1, r0]
  simp
theorem own_le0 {x y : UInt64} (hx : FP.Core.val64 x ≠ .nan) (hy : FP.Core.val64 y ≠ .nan) (h : FP.Core.zval FP.Core.b64 (FP.Core.val64 x) ≤ FP.Core.zval FP.Core.b64 (FP.Core.val64 y)) (o : CmpOp) : ¬ (0 : Int32) < cmpValue (FP.dcmp x y) o := by
  rcases Int.lt_or_eq_of_le h with h | h
  · rw [own_cmpL hx hy h]; decide
  · rw [own_cmp0 hx hy h]; decide
theorem own_fin1 {t k : Int32} (h : own_TK t k) {n d qq rem : Int64} (hn : n = ((t.toInt64 * k.toInt64) * (1000000000 : Int64))) (hd : own_D d) (hq : qq = (n / d)) (hr : rem = (n - n / d * d)) :
    ¬ (0 : Int32) < (cmpValue (FP.dcmp (FP.l2d qq) (FP.ddiv (FP.dmul (FP.dmul (FP.i2d t) (FP.i2d k)) (4741671816366391296 : UInt64)) (FP.l2d d))) .g) := by
  obtain ⟨q0, q1, e1, e2, e3, e4⟩ := own_dm h hn hd hq hr
  refine own_le0 (FP.Core.l2d_fin qq).ne_nan (Jvm.Free.Fl.val64_no.mp (own_nn h hd).2.2) ?_ .g
  rw [own_val h hn hd, own_lval q0, own_zr, own_zr]
  have hm := own_mono (A := qq.toInt.natAbs) (B := 1) (A' := n.toInt.natAbs) (B' := d.toInt.natAbs) (by decide) e3 (by omega) (by
    have : 9223372036854775808 * 1 ≤ 9223372036854775808 * d.toInt.natAbs := Nat.mul_le_mul_left _ e3
    omega) (by rw [Nat.mul_one, e1]; omega)
  omega
theorem own_fin2 {t k : Int32} (h : own_TK t k) {n d qq rem : Int64} (hn : n = ((t.toInt64 * k.toInt64) * (1000000000 : Int64))) (hd : own_D d) (hq : qq = (n / d)) (hr : rem = (n - n / d * d)) :
    ¬ (0 : Int32) < (cmpValue (FP.dcmp (FP.ddiv (FP.dmul (FP.dmul (FP.i2d t) (FP.i2d k)) (4741671816366391296 : UInt64)) (FP.l2d d)) (FP.l2d (qq + (1 : Int64)))) .g) := by
  obtain ⟨q0, q1, e1, e2, e3, e4⟩ := own_dm h hn hd hq hr
  have hq1 : (qq + (1 : Int64)).toInt = qq.toInt + 1 := by rw [Jvm.Kit.i64_add (by rw [own_c1]; omega) (by rw [own_c1]; omega), own_c1]
  refine own_le0 (Jvm.Free.Fl.val64_no.mp (own_nn h hd).2.2) (FP.Core.l2d_fin _).ne_nan ?_ .g
  rw [own_val h hn hd, own_lval (by omega), own_zr, own_zr]
  have ha : (qq + (1 : Int64)).toInt.natAbs = qq.toInt.natAbs + 1 := by omega
  have hm := own_mono (A := n.toInt.natAbs) (B := d.toInt.natAbs) (A' := (qq + (1 : Int64)).toInt.natAbs) (B' := 1) e3 (by decide) (by
    have : 9223372036854775808 * 1 ≤ 9223372036854775808 * d.toInt.natAbs := Nat.mul_le_mul_left _ e3
    omega) (by omega) (by rw [Nat.mul_one, ha, Nat.add_mul, Nat.one_mul, e1]; omega)
  omega
/-! the bounds of t and k -/
theorem own_s31 {sel s : Int32} (hs : s = ((sel &&& (31 : Int32)) % (31 : Int32))) : 0 ≤ s.toInt ∧ s.toInt ≤ 30 := by
  have e := Jvm.Kit.i32_mask sel 31 (k := 5) (by decide) (by decide)
  have c : (31 : Int32).toInt = 31 := by decide
  have h : s.toInt = (sel &&& (31 : Int32)).toInt % 31 := by rw [hs, Jvm.Kit.i32_rem_nonneg (by omega), c]
  omega
theorem own_cases31 {s : Int32} (h0 : 0 ≤ s.toInt) (h1 : s.toInt ≤ 30) : ∃ m : Nat, m ≤ 30 ∧ s = Int32.ofNat m := by
  refine ⟨s.toInt.toNat, by omega, Int32.toInt_inj.mp ?_⟩
  rw [Int32.toInt_ofNat_of_lt (by omega)]
  omega
theorem own_shr {p s : Int32} {m : Nat} (hm : m ≤ 30) (hs : s.toInt = m) : 0 ≤ (((p &&& (2147483647 : Int32)).toUInt32 >>> (s &&& 31).toUInt32).toInt32).toInt ∧ (((p &&& (2147483647 : Int32)).toUInt32 >>> (s &&& 31).toUInt32).toInt32).toInt < 2 ^ (31 - m) := by
  have e := Jvm.Kit.i32_mask p 2147483647 (k := 31) (by decide) (by decide)
  have hp : (0 : Int32) ≤ (p &&& (2147483647 : Int32)) := Jvm.Kit.i32_nonneg.mpr (by omega)
  have hsn : (s &&& 31).toUInt32.toNat = m := by
    have e1 := Jvm.Kit.i32_mask s 31 (k := 5) (by decide) (by decide)
    have e2 : (s &&& (31 : Int32)).toInt = m := by omega
    have e3 : (s &&& (31 : Int32)).toUInt32.toNat = (s &&& (31 : Int32)).toInt.toNat := by
      have := Int32.toNat_toUInt32_of_le (x := s &&& (31 : Int32)) (by rw [Int32.le_iff_toInt_le, Int32.toInt_zero]; omega)
      rw [this]
      rfl
    rw [e3, e2]
    rfl
  rw [Jvm.Kit.i32_iushr hp hsn (by omega)]
  have hb : (p &&& (2147483647 : Int32)).toInt < 2 ^ 31 := by omega
  refine ⟨Int.ediv_nonneg (by omega) (Int.le_of_lt (Int.pow_pos (by decide))), ?_⟩
  refine Int.ediv_lt_of_lt_mul (Int.pow_pos (by decide)) ?_
  rw [← Int.pow_add, show 31 - m + m = 31 by omega]
  exact hb
theorem own_tkb {p1 p2 sel s t k : Int32} (hs : s = ((sel &&& (31 : Int32)) % (31 : Int32))) (ht : t = (if (1 : Int32) < (((p1 &&& (2147483647 : Int32)).toUInt32 >>> (s &&& 31).toUInt32).toInt32) then (((p1 &&& (2147483647 : Int32)).toUInt32 >>> (s &&& 31).toUInt32).toInt32) else (1 : Int32)))
    (hk : k = (if (1 : Int32) < (((p2 &&& (2147483647 : Int32)).toUInt32 >>> (((30 : Int32) - s) &&& 31).toUInt32).toInt32) then (((p2 &&& (2147483647 : Int32)).toUInt32 >>> (((30 : Int32) - s) &&& 31).toUInt32).toInt32) else (1 : Int32))) : own_TK t k := by
  obtain ⟨s0, s1⟩ := own_s31 hs
  have c1 : (1 : Int32).toInt = 1 := by decide
  have c30 : (30 : Int32).toInt = 30 := by decide
  obtain ⟨m, hm⟩ : ∃ m : Nat, s.toInt = m := ⟨s.toInt.toNat, by omega⟩
  have h30 : ((30 : Int32) - s).toInt = ((30 - m : Nat) : Int) := by
    rw [Jvm.Kit.i32_sub (by omega) (by omega), c30]
    omega
  obtain ⟨x0, x1⟩ := own_shr (p := p1) (m := m) (by omega) hm
  obtain ⟨y0, y1⟩ := own_shr (p := p2) (m := 30 - m) (by omega) h30
  have P1 : (1 : Int) ≤ 2 ^ (31 - m) := Int.pow_pos (by decide)
  have P2 : (1 : Int) ≤ 2 ^ (31 - (30 - m)) := Int.pow_pos (by decide)
  have t1 : 1 ≤ t.toInt ∧ t.toInt ≤ 2 ^ (31 - m) := by
    rw [ht]
    split
    · rename_i hh
      rw [Int32.lt_iff_toInt_lt, c1] at hh
      omega
    · rw [c1]
      omega
  have k1 : 1 ≤ k.toInt ∧ k.toInt ≤ 2 ^ (31 - (30 - m)) := by
    rw [hk]
    split
    · rename_i hh
      rw [Int32.lt_iff_toInt_lt, c1] at hh
      omega
    · rw [c1]
      omega
  refine ⟨t1.1, k1.1, ?_⟩
  have := Int.mul_le_mul t1.2 k1.2 (by omega) (by omega)
  rw [← Int.pow_add, show 31 - m + (31 - (30 - m)) = 32 by omega] at this
  exact this
/-! the two sorts of d -/
theorem own_dA {dl d : Int64} (hd : d = ((dl &&& (9007199254740991 : Int64)) + (1 : Int64))) : own_D d := by
  have e := Jvm.Kit.i64_mask dl 9007199254740991 (k := 53) (by decide) (by decide)
  have h : d.toInt = (dl &&& (9007199254740991 : Int64)).toInt + 1 := by rw [hd, Jvm.Kit.i64_add (by rw [own_c1]; omega) (by rw [own_c1]; omega), own_c1]
  refine ⟨by omega, by omega, FP.Core.l2d_int (by omega)⟩
theorem own_a10 {x a : Int32} (ha : a = ((x &&& (15 : Int32)) % (10 : Int32))) : a = 0 ∨ a = 1 ∨ a = 2 ∨ a = 3 ∨ a = 4 ∨ a = 5 ∨ a = 6 ∨ a = 7 ∨ a = 8 ∨ a = 9 := by
  have e := Jvm.Kit.i32_mask x 15 (k := 4) (by decide) (by decide)
  have c : (10 : Int32).toInt = 10 := by decide
  have h : a.toInt = (x &&& (15 : Int32)).toInt % 10 := by rw [ha, Jvm.Kit.i32_rem_nonneg (by omega), c]
  have cs : (0 : Int32).toInt = 0 ∧ (1 : Int32).toInt = 1 ∧ (2 : Int32).toInt = 2 ∧ (3 : Int32).toInt = 3 ∧ (4 : Int32).toInt = 4 ∧ (5 : Int32).toInt = 5 ∧ (6 : Int32).toInt = 6 ∧ (7 : Int32).toInt = 7 ∧ (8 : Int32).toInt = 8 ∧ (9 : Int32).toInt = 9 := by decide
  obtain ⟨d0, d1, d2, d3, d4, d5, d6, d7, d8, d9⟩ := cs
  simp only [← Int32.toInt_inj, d0, d1, d2, d3, d4, d5, d6, d7, d8, d9]
  omega
theorem own_pow {a : Int32} (ha : a = 0 ∨ a = 1 ∨ a = 2 ∨ a = 3 ∨ a = 4 ∨ a = 5 ∨ a = 6 ∨ a = 7 ∨ a = 8 ∨ a = 9) : ∃ e : Nat, e ≤ 9 ∧ ((1 : Int64) <<< (a &&& 0x3f).toInt64).toInt = ((2 ^ e : Nat) : Int) := by
  rcases ha with rfl | rfl | rfl | rfl | rfl | rfl | rfl | rfl | rfl | rfl
  · exact ⟨0, by decide, by decide⟩
  · exact ⟨1, by decide, by decide⟩
  · exact ⟨2, by decide, by decide⟩
  · exact ⟨3, by decide, by decide⟩
  · exact ⟨4, by decide, by decide⟩
  · exact ⟨5, by decide, by decide⟩
  · exact ⟨6, by decide, by decide⟩
  · exact ⟨7, by decide, by decide⟩
  · exact ⟨8, by decide, by decide⟩
  · exact ⟨9, by decide, by decide⟩
def own_p5 : List Value := [.long (1 : Int64), .long (5 : Int64), .long (25 : Int64), .long (125 : Int64), .long (625 : Int64), .long (3125 : Int64), .long (15625 : Int64), .long (78125 : Int64), .long (390625 : Int64), .long (1953125 : Int64)]
theorem own_five {b : Int32} (hb : b = 0 ∨ b = 1 ∨ b = 2 ∨ b = 3 ∨ b = 4 ∨ b = 5 ∨ b = 6 ∨ b = 7 ∨ b = 8 ∨ b = 9) : ¬ b < 0 ∧ ∃ z : Int64, own_p5[b.toNatClampNeg]? = some (.long z) ∧ 1 ≤ z.toInt ∧ z.toInt ≤ 1953125 := by
  rcases hb with rfl | rfl | rfl | rfl | rfl | rfl | rfl | rfl | rfl | rfl <;> exact ⟨by decide, _, rfl, by decide, by decide⟩
theorem own_dB {a : Int32} {z g d : Int64} (ha : a = 0 ∨ a = 1 ∨ a = 2 ∨ a = 3 ∨ a = 4 ∨ a = 5 ∨ a = 6 ∨ a = 7 ∨ a = 8 ∨ a = 9) (z1 : 1 ≤ z.toInt) (z2 : z.toInt ≤ 1953125) (g1 : 1 ≤ g.toInt) (g2 : g.toInt ≤ 4294967296)
    (hd : d = ((((1 : Int64) <<< (a &&& 0x3f).toInt64) * z) * g)) : own_D d := by
  obtain ⟨e, he, hp⟩ := own_pow ha
  have pe : (2 : Nat) ^ e ≤ 2 ^ 9 := Nat.pow_le_pow_right (by decide) he
  have pe0 : 0 < (2 : Nat) ^ e := Nat.two_pow_pos _
  generalize hE : (2 : Nat) ^ e = E at *
  have zz : (z.toInt.toNat : Int) = z.toInt := by omega
  have gg : (g.toInt.toNat : Int) = g.toInt := by omega
  have b1 : z.toInt.toNat * g.toInt.toNat ≤ 1953125 * 4294967296 := Nat.mul_le_mul (by omega) (by omega)
  have b2 : 0 < z.toInt.toNat * g.toInt.toNat := Nat.mul_pos (by omega) (by omega)
  have b3 : E * z.toInt.toNat ≤ 512 * 1953125 := Nat.mul_le_mul pe (by omega)
  have b4 : E * z.toInt.toNat * g.toInt.toNat ≤ 512 * 1953125 * 4294967296 := Nat.mul_le_mul b3 (by omega)
  have e1 : (((1 : Int64) <<< (a &&& 0x3f).toInt64) * z).toInt = ((E * z.toInt.toNat : Nat) : Int) := by
    rw [Jvm.Kit.i64_mul, hp, Int.natCast_mul, zz]
    · rw [hp, ← zz, ← Int.natCast_mul]; omega
    · rw [hp, ← zz, ← Int.natCast_mul]; omega
  have e2 : d.toInt = ((E * z.toInt.toNat * g.toInt.toNat : Nat) : Int) := by
    rw [hd, Jvm.Kit.i64_mul, e1, Int.natCast_mul (E * z.toInt.toNat), gg]
    · rw [e1, ← gg, ← Int.natCast_mul]; omega
    · rw [e1, ← gg, ← Int.natCast_mul]; omega
  have e3 : E * z.toInt.toNat * g.toInt.toNat = z.toInt.toNat * g.toInt.toNat * 2 ^ e := by rw [hE]; ac_rfl
  have b5 : 0 < E * z.toInt.toNat * g.toInt.toNat := by rw [e3]; exact Nat.mul_pos b2 (Nat.two_pow_pos _)
  refine ⟨by omega, by omega, own_exact (c := z.toInt.toNat * g.toInt.toNat) (j := e) (by rw [e2, e3]) b2 (by omega) (by omega)⟩
theorem own_gb {t k gs : Int32} {g : Int64} (h : own_TK t k) (hg : g = (if gs = (0 : Int32) then (1 : Int64) else (if gs = (1 : Int32) then (t.toInt64) else (if gs = (2 : Int32) then (k.toInt64) else ((t.toInt64) * (k.toInt64)))))) : 1 ≤ g.toInt ∧ g.toInt ≤ 4294967296 := by
  obtain ⟨e, h1, h2⟩ := own_tk64 h
  have h3 := t.toInt_lt
  have h4 := k.toInt_lt
  obtain ⟨t1, k1, -⟩ := h
  rw [hg]
  split
  · rw [own_c1]; omega
  · split
    · rw [Int32.toInt_toInt64]; omega
    · split
      · rw [Int32.toInt_toInt64]; omega
      · rw [e]; omega

theorem pd__28_29D : parseMethodDescriptor "()D" = some ⟨[], some .double⟩ := by decide +kernel
theorem pd__28II_29I : parseMethodDescriptor "(II)I" = some ⟨[.int, .int], some .int⟩ := by decide +kernel
theorem pd__28IIJJ_29V : parseMethodDescriptor "(IIJJ)V" = some ⟨[.int, .int, .long, .long], none⟩ := by decide +kernel
theorem d0_0 : decode code 0 = .ok (.iload 4, 2) := at_0
theorem d0_2 : decode code 2 = .ok (.bipush 31, 2) := at_2
theorem d0_4 : decode code 4 = .ok (.iand, 1) := at_4
theorem d0_5 : decode code 5 = .ok (.bipush 31, 2) := at_5
theorem d0_7 : decode code 7 = .ok (.irem, 1) := at_7
theorem d0_8 : decode code 8 = .ok (.istore 7, 2) := at_8
theorem d0_10 : decode code 10 = .ok (.iconst 1, 1) := at_10
theorem d0_11 : decode code 11 = .ok (.iload_n 0, 1) := at_11
theorem d0_12 : decode code 12 = .ok (.ldc 7, 2) := at_12
theorem d0_14 : decode code 14 = .ok (.iand, 1) := at_14
theorem d0_15 : decode code 15 = .ok (.iload 7, 2) := at_15
theorem d0_17 : decode code 17 = .ok (.iushr, 1) := at_17
theorem d0_18 : decode code 18 = .ok (.invokestatic 8, 3) := at_18
theorem d0_21 : decode code 21 = .ok (.istore 8, 2) := at_21
theorem d0_23 : decode code 23 = .ok (.iconst 1, 1) := at_23
theorem d0_24 : decode code 24 = .ok (.iload_n 1, 1) := at_24
theorem d0_25 : decode code 25 = .ok (.ldc 7, 2) := at_25
theorem d0_27 : decode code 27 = .ok (.iand, 1) := at_27
theorem d0_28 : decode code 28 = .ok (.bipush 30, 2) := at_28
theorem d0_30 : decode code 30 = .ok (.iload 7, 2) := at_30
theorem d0_32 : decode code 32 = .ok (.isub, 1) := at_32
theorem d0_33 : decode code 33 = .ok (.iushr, 1) := at_33
theorem d0_34 : decode code 34 = .ok (.invokestatic 8, 3) := at_34
theorem d0_37 : decode code 37 = .ok (.istore 9, 2) := at_37
theorem d0_39 : decode code 39 = .ok (.bipush 10, 2) := at_39
theorem d0_41 : decode code 41 = .ok (.newarray .long, 2) := at_41
theorem d0_43 : decode code 43 = .ok (.dup, 1) := at_43
theorem d0_44 : decode code 44 = .ok (.iconst 0, 1) := at_44
theorem d0_45 : decode code 45 = .ok (.lconst 1, 1) := at_45
theorem d0_46 : decode code 46 = .ok (.lastore, 1) := at_46
theorem d0_47 : decode code 47 = .ok (.dup, 1) := at_47
theorem d0_48 : decode code 48 = .ok (.iconst 1, 1) := at_48
theorem d0_49 : decode code 49 = .ok (.ldc2_w 14, 3) := at_49
theorem d0_52 : decode code 52 = .ok (.lastore, 1) := at_52
theorem d0_53 : decode code 53 = .ok (.dup, 1) := at_53
theorem d0_54 : decode code 54 = .ok (.iconst 2, 1) := at_54
theorem d0_55 : decode code 55 = .ok (.ldc2_w 16, 3) := at_55
theorem d0_58 : decode code 58 = .ok (.lastore, 1) := at_58
theorem d0_59 : decode code 59 = .ok (.dup, 1) := at_59
theorem d0_60 : decode code 60 = .ok (.iconst 3, 1) := at_60
theorem d0_61 : decode code 61 = .ok (.ldc2_w 18, 3) := at_61
theorem d0_64 : decode code 64 = .ok (.lastore, 1) := at_64
theorem d0_65 : decode code 65 = .ok (.dup, 1) := at_65
theorem d0_66 : decode code 66 = .ok (.iconst 4, 1) := at_66
theorem d0_67 : decode code 67 = .ok (.ldc2_w 20, 3) := at_67
theorem d0_70 : decode code 70 = .ok (.lastore, 1) := at_70
theorem d0_71 : decode code 71 = .ok (.dup, 1) := at_71
theorem d0_72 : decode code 72 = .ok (.iconst 5, 1) := at_72
theorem d0_73 : decode code 73 = .ok (.ldc2_w 22, 3) := at_73
theorem d0_76 : decode code 76 = .ok (.lastore, 1) := at_76
theorem d0_77 : decode code 77 = .ok (.dup, 1) := at_77
theorem d0_78 : decode code 78 = .ok (.bipush 6, 2) := at_78
theorem d0_80 : decode code 80 = .ok (.ldc2_w 24, 3) := at_80
theorem d0_83 : decode code 83 = .ok (.lastore, 1) := at_83
theorem d0_84 : decode code 84 = .ok (.dup, 1) := at_84
theorem d0_85 : decode code 85 = .ok (.bipush 7, 2) := at_85
theorem d0_87 : decode code 87 = .ok (.ldc2_w 26, 3) := at_87
theorem d0_90 : decode code 90 = .ok (.lastore, 1) := at_90
theorem d0_91 : decode code 91 = .ok (.dup, 1) := at_91
theorem d0_92 : decode code 92 = .ok (.bipush 8, 2) := at_92
theorem d0_94 : decode code 94 = .ok (.ldc2_w 28, 3) := at_94
theorem d0_97 : decode code 97 = .ok (.lastore, 1) := at_97
theorem d0_98 : decode code 98 = .ok (.dup, 1) := at_98
theorem d0_99 : decode code 99 = .ok (.bipush 9, 2) := at_99
theorem d0_101 : decode code 101 = .ok (.ldc2_w 30, 3) := at_101
theorem d0_104 : decode code 104 = .ok (.lastore, 1) := at_104
theorem d0_105 : decode code 105 = .ok (.astore 10, 2) := at_105
theorem d0_107 : decode code 107 = .ok (.iload 4, 2) := at_107
theorem d0_109 : decode code 109 = .ok (.iconst 5, 1) := at_109
theorem d0_110 : decode code 110 = .ok (.iushr, 1) := at_110
theorem d0_111 : decode code 111 = .ok (.iconst 1, 1) := at_111
theorem d0_112 : decode code 112 = .ok (.iand, 1) := at_112
theorem d0_113 : decode code 113 = .ok (.ifCond .ne 15, 3) := at_113
theorem d0_116 : decode code 116 = .ok (.lload_n 2, 1) := at_116
theorem d0_117 : decode code 117 = .ok (.ldc2_w 32, 3) := at_117
theorem d0_120 : decode code 120 = .ok (.land, 1) := at_120
theorem d0_121 : decode code 121 = .ok (.lconst 1, 1) := at_121
theorem d0_122 : decode code 122 = .ok (.ladd, 1) := at_122
theorem d0_123 : decode code 123 = .ok (.lstore 11, 2) := at_123
theorem d0_125 : decode code 125 = .ok (.goto 101, 3) := at_125
theorem d0_128 : decode code 128 = .ok (.iload 4, 2) := at_128
theorem d0_130 : decode code 130 = .ok (.bipush 6, 2) := at_130
theorem d0_132 : decode code 132 = .ok (.iushr, 1) := at_132
theorem d0_133 : decode code 133 = .ok (.bipush 15, 2) := at_133
theorem d0_135 : decode code 135 = .ok (.iand, 1) := at_135
theorem d0_136 : decode code 136 = .ok (.bipush 10, 2) := at_136
theorem d0_138 : decode code 138 = .ok (.irem, 1) := at_138
theorem d0_139 : decode code 139 = .ok (.istore 13, 2) := at_139
theorem d0_141 : decode code 141 = .ok (.iload 4, 2) := at_141
theorem d0_143 : decode code 143 = .ok (.bipush 10, 2) := at_143
theorem d0_145 : decode code 145 = .ok (.iushr, 1) := at_145
theorem d0_146 : decode code 146 = .ok (.bipush 15, 2) := at_146
theorem d0_148 : decode code 148 = .ok (.iand, 1) := at_148
theorem d0_149 : decode code 149 = .ok (.bipush 10, 2) := at_149
theorem d0_151 : decode code 151 = .ok (.irem, 1) := at_151
theorem d0_152 : decode code 152 = .ok (.istore 14, 2) := at_152
theorem d0_154 : decode code 154 = .ok (.iload 4, 2) := at_154
theorem d0_156 : decode code 156 = .ok (.bipush 14, 2) := at_156
theorem d0_158 : decode code 158 = .ok (.iushr, 1) := at_158
theorem d0_159 : decode code 159 = .ok (.iconst 3, 1) := at_159
theorem d0_160 : decode code 160 = .ok (.iand, 1) := at_160
theorem d0_161 : decode code 161 = .ok (.istore 15, 2) := at_161
theorem d0_163 : decode code 163 = .ok (.iload 15, 2) := at_163
theorem d0_165 : decode code 165 = .ok (.ifCond .ne 9, 3) := at_165
theorem d0_168 : decode code 168 = .ok (.lconst 1, 1) := at_168
theorem d0_169 : decode code 169 = .ok (.lstore 16, 2) := at_169
theorem d0_171 : decode code 171 = .ok (.goto 40, 3) := at_171
theorem d0_174 : decode code 174 = .ok (.iload 15, 2) := at_174
theorem d0_176 : decode code 176 = .ok (.iconst 1, 1) := at_176
theorem d0_177 : decode code 177 = .ok (.if_icmp .ne 11, 3) := at_177
theorem d0_180 : decode code 180 = .ok (.iload 8, 2) := at_180
theorem d0_182 : decode code 182 = .ok (.i2l, 1) := at_182
theorem d0_183 : decode code 183 = .ok (.lstore 16, 2) := at_183
theorem d0_185 : decode code 185 = .ok (.goto 26, 3) := at_185
theorem d0_188 : decode code 188 = .ok (.iload 15, 2) := at_188
theorem d0_190 : decode code 190 = .ok (.iconst 2, 1) := at_190
theorem d0_191 : decode code 191 = .ok (.if_icmp .ne 11, 3) := at_191
theorem d0_194 : decode code 194 = .ok (.iload 9, 2) := at_194
theorem d0_196 : decode code 196 = .ok (.i2l, 1) := at_196
theorem d0_197 : decode code 197 = .ok (.lstore 16, 2) := at_197
theorem d0_199 : decode code 199 = .ok (.goto 12, 3) := at_199
theorem d0_202 : decode code 202 = .ok (.iload 8, 2) := at_202
theorem d0_204 : decode code 204 = .ok (.i2l, 1) := at_204
theorem d0_205 : decode code 205 = .ok (.iload 9, 2) := at_205
theorem d0_207 : decode code 207 = .ok (.i2l, 1) := at_207
theorem d0_208 : decode code 208 = .ok (.lmul, 1) := at_208
theorem d0_209 : decode code 209 = .ok (.lstore 16, 2) := at_209
theorem d0_211 : decode code 211 = .ok (.lconst 1, 1) := at_211
theorem d0_212 : decode code 212 = .ok (.iload 13, 2) := at_212
theorem d0_214 : decode code 214 = .ok (.lshl, 1) := at_214
theorem d0_215 : decode code 215 = .ok (.aload 10, 2) := at_215
theorem d0_217 : decode code 217 = .ok (.iload 14, 2) := at_217
theorem d0_219 : decode code 219 = .ok (.laload, 1) := at_219
theorem d0_220 : decode code 220 = .ok (.lmul, 1) := at_220
theorem d0_221 : decode code 221 = .ok (.lload 16, 2) := at_221
theorem d0_223 : decode code 223 = .ok (.lmul, 1) := at_223
theorem d0_224 : decode code 224 = .ok (.lstore 11, 2) := at_224
theorem d0_226 : decode code 226 = .ok (.new 34, 3) := at_226
theorem d0_229 : decode code 229 = .ok (.dup, 1) := at_229
theorem d0_230 : decode code 230 = .ok (.iload 9, 2) := at_230
theorem d0_232 : decode code 232 = .ok (.iload 8, 2) := at_232
theorem d0_234 : decode code 234 = .ok (.lload 11, 2) := at_234
theorem d0_236 : decode code 236 = .ok (.lload 5, 2) := at_236
theorem d0_238 : decode code 238 = .ok (.invokespecial 36, 3) := at_238
theorem d0_241 : decode code 241 = .ok (.astore 13, 2) := at_241
theorem d0_243 : decode code 243 = .ok (.aload 13, 2) := at_243
theorem d0_245 : decode code 245 = .ok (.invokevirtual 39, 3) := at_245
theorem d0_248 : decode code 248 = .ok (.dstore 14, 2) := at_248
theorem d0_250 : decode code 250 = .ok (.iload 8, 2) := at_250
theorem d0_252 : decode code 252 = .ok (.i2l, 1) := at_252
theorem d0_253 : decode code 253 = .ok (.iload 9, 2) := at_253
theorem d0_255 : decode code 255 = .ok (.i2l, 1) := at_255
theorem d0_256 : decode code 256 = .ok (.lmul, 1) := at_256
theorem d0_257 : decode code 257 = .ok (.ldc2_w 43, 3) := at_257
theorem d0_260 : decode code 260 = .ok (.lmul, 1) := at_260
theorem d0_261 : decode code 261 = .ok (.lstore 16, 2) := at_261
theorem d0_263 : decode code 263 = .ok (.lload 16, 2) := at_263
theorem d0_265 : decode code 265 = .ok (.lload 11, 2) := at_265
theorem d0_267 : decode code 267 = .ok (.ldiv, 1) := at_267
theorem d0_268 : decode code 268 = .ok (.lstore 18, 2) := at_268
theorem d0_270 : decode code 270 = .ok (.lload 16, 2) := at_270
theorem d0_272 : decode code 272 = .ok (.lload 11, 2) := at_272
theorem d0_274 : decode code 274 = .ok (.lrem, 1) := at_274
theorem d0_275 : decode code 275 = .ok (.lstore 20, 2) := at_275
theorem d0_277 : decode code 277 = .ok (.lload 20, 2) := at_277
theorem d0_279 : decode code 279 = .ok (.lconst 0, 1) := at_279
theorem d0_280 : decode code 280 = .ok (.lcmp, 1) := at_280
theorem d0_281 : decode code 281 = .ok (.ifCond .ne 18, 3) := at_281
theorem d0_284 : decode code 284 = .ok (.dload 14, 2) := at_284
theorem d0_286 : decode code 286 = .ok (.lload 18, 2) := at_286
theorem d0_288 : decode code 288 = .ok (.l2d, 1) := at_288
theorem d0_289 : decode code 289 = .ok (.dcmp .l, 1) := at_289
theorem d0_290 : decode code 290 = .ok (.ifCond .ne 7, 3) := at_290
theorem d0_293 : decode code 293 = .ok (.iconst 1, 1) := at_293
theorem d0_294 : decode code 294 = .ok (.goto 4, 3) := at_294
theorem d0_298 : decode code 298 = .ok (.ireturn, 1) := at_298
theorem d0_299 : decode code 299 = .ok (.lload 18, 2) := at_299
theorem d0_301 : decode code 301 = .ok (.l2d, 1) := at_301
theorem d0_302 : decode code 302 = .ok (.dload 14, 2) := at_302
theorem d0_304 : decode code 304 = .ok (.dcmp .g, 1) := at_304
theorem d0_305 : decode code 305 = .ok (.ifCond .gt 18, 3) := at_305
theorem d0_308 : decode code 308 = .ok (.dload 14, 2) := at_308
theorem d0_310 : decode code 310 = .ok (.lload 18, 2) := at_310
theorem d0_312 : decode code 312 = .ok (.lconst 1, 1) := at_312
theorem d0_313 : decode code 313 = .ok (.ladd, 1) := at_313
theorem d0_314 : decode code 314 = .ok (.l2d, 1) := at_314
theorem d0_315 : decode code 315 = .ok (.dcmp .g, 1) := at_315
theorem d0_316 : decode code 316 = .ok (.ifCond .gt 7, 3) := at_316
theorem d0_319 : decode code 319 = .ok (.iconst 1, 1) := at_319
theorem d0_320 : decode code 320 = .ok (.goto 4, 3) := at_320
theorem d0_324 : decode code 324 = .ok (.ireturn, 1) := at_324
theorem ef0 (m : MethodId) (p1 : Int32) (p2 : Int32) (qd : Int64) (sel : Int32) (qr : Int64) : entryFrame m #[(.int p1), (.int p2), (.long qd), (.int sel), (.long qr)] maxLocals = mkF m 0 #[.val (.int p1), .val (.int p2), .val (.long qd), .second, .val (.int sel), .val (.long qr), .second, .unset, .unset, .unset, .unset, .unset, .unset, .unset, .unset, .unset, .unset, .unset, .unset, .unset, .unset, .unset] [] := by first | (simp [entryFrame, mkF, argsToLocals, Value.category, maxLocals]; done) | rfl
set_option maxRecDepth 65536 in
set_option maxHeartbeats 40000000 in
theorem own_law (l : Launch) (Z : State) (a0 : Array Value) (hw : ∀ d ∈ tables_1, d.before a0 Z = true) (p1 p2 : Int32) (qd : Int64) (sel : Int32) (qr : Int64) (h0 : Heap) (n0 : Nat) (Z0 : n0 ≤ h0.size)  :
    own_M l Z x code maxLocals ret tables_1 room_1 #[(.int p1), (.int p2), (.long qd), (.int sel), (.long qr)] h0 n0 (fun v h => v = some (.int 1) ∧ True) := by
  refine own_M.of (plainFor_of_name (by first | (simp [plainName, overriddenIn]; done) | decide +kernel)) ?_
  intro p e s m below meth c S0 hx hby hml hown hnm hret hlk hZ A00
  have A0 := A00.cast (ef0 m p1 p2 qd sel qr)
  have A1 := A0.go (f' := mkF m 2 #[.val (.int p1), .val (.int p2), .val (.long qd), .second, .val (.int sel), .val (.long qr), .second, .unset, .unset, .unset, .unset, .unset, .unset, .unset, .unset, .unset, .unset, .unset, .unset, .unset, .unset, .unset] [(.int sel)]) fun _ _ X _ k => XS.iload X.here hx rfl (hb hby d0_0) rfl k
  have A2 := A1.go (f' := mkF m 4 #[.val (.int p1), .val (.int p2), .val (.long qd), .second, .val (.int sel), .val (.long qr), .second, .unset, .unset, .unset, .unset, .unset, .unset, .unset, .unset, .unset, .unset, .unset, .unset, .unset, .unset, .unset] [(.int (31 : Int32)), (.int sel)]) fun _ _ X _ k => XS.bipush X.here hx rfl (hb hby d0_2) k
  have A3 := A2.go (f' := mkF m 5 #[.val (.int p1), .val (.int p2), .val (.long qd), .second, .val (.int sel), .val (.long qr), .second, .unset, .unset, .unset, .unset, .unset, .unset, .unset, .unset, .unset, .unset, .unset, .unset, .unset, .unset, .unset] [(.int (sel &&& (31 : Int32)))]) fun _ _ X _ k => XS.iand X.here hx rfl (hb hby d0_4) rfl k
  have A4 := A3.go (f' := mkF m 7 #[.val (.int p1), .val (.int p2), .val (.long qd), .second, .val (.int sel), .val (.long qr), .second, .unset, .unset, .unset, .unset, .unset, .unset, .unset, .unset, .unset, .unset, .unset, .unset, .unset, .unset, .unset] [(.int (31 : Int32)), (.int (sel &&& (31 : Int32)))]) fun _ _ X _ k => XS.bipush X.here hx rfl (hb hby d0_5) k
  have A5 := A4.go (f' := mkF m 8 #[.val (.int p1), .val (.int p2), .val (.long qd), .second, .val (.int sel), .val (.long qr), .second, .unset, .unset, .unset, .unset, .unset, .unset, .unset, .unset, .unset, .unset, .unset, .unset, .unset, .unset, .unset] [(.int ((sel &&& (31 : Int32)) % (31 : Int32)))]) fun _ _ X _ k => iremM X hx rfl (hb hby d0_7) rfl (by decide) k
  obtain ⟨s_, hs_⟩ : ∃ zq_, zq_ = ((sel &&& (31 : Int32)) % (31 : Int32)) := ⟨_, rfl⟩
  rw [← hs_] at A5
  have A6 := A5.go (f' := mkF m 10 #[.val (.int p1), .val (.int p2), .val (.long qd), .second, .val (.int sel), .val (.long qr), .second, .val (.int s_), .unset, .unset, .unset, .unset, .unset, .unset, .unset, .unset, .unset, .unset, .unset, .unset, .unset, .unset] []) fun _ _ X _ k => XS.istore X.here hx rfl (hb hby d0_8) rfl (l' := #[.val (.int p1), .val (.int p2), .val (.long qd), .second, .val (.int sel), .val (.long qr), .second, .val (.int s_), .unset, .unset, .unset, .unset, .unset, .unset, .unset, .unset, .unset, .unset, .unset, .unset, .unset, .unset]) rfl k
  have A7 := A6.go (f' := mkF m 11 #[.val (.int p1), .val (.int p2), .val (.long qd), .second, .val (.int sel), .val (.long qr), .second, .val (.int s_), .unset, .unset, .unset, .unset, .unset, .unset, .unset, .unset, .unset, .unset, .unset, .unset, .unset, .unset] [(.int (1 : Int32))]) fun _ _ X _ k => XS.iconst X.here hx rfl (hb hby d0_10) k
  have A8 := A7.go (f' := mkF m 12 #[.val (.int p1), .val (.int p2), .val (.long qd), .second, .val (.int sel), .val (.long qr), .second, .val (.int s_), .unset, .unset, .unset, .unset, .unset, .unset, .unset, .unset, .unset, .unset, .unset, .unset, .unset, .unset] [(.int p1), (.int (1 : Int32))]) fun _ _ X _ k => XS.iloadN X.here hx rfl (hb hby d0_11) rfl k
  have A9 : own_R p l e _ _ m _ below meth c S0 n0 h0 0 0 (mkF m 14 #[.val (.int p1), .val (.int p2), .val (.long qd), .second, .val (.int sel), .val (.long qr), .second, .val (.int s_), .unset, .unset, .unset, .unset, .unset, .unset, .unset, .unset, .unset, .unset, .unset, .unset, .unset, .unset] [(.int (2147483647 : Int32)), (.int p1), (.int (1 : Int32))]) := A8.ldcI hx hZ hown (hb hby d0_12) (hw _ (List.mem_of_getElem? (i := 0) rfl))
  have A10 := A9.go (f' := mkF m 15 #[.val (.int p1), .val (.int p2), .val (.long qd), .second, .val (.int sel), .val (.long qr), .second, .val (.int s_), .unset, .unset, .unset, .unset, .unset, .unset, .unset, .unset, .unset, .unset, .unset, .unset, .unset, .unset] [(.int (p1 &&& (2147483647 : Int32))), (.int (1 : Int32))]) fun _ _ X _ k => XS.iand X.here hx rfl (hb hby d0_14) rfl k
  have A11 := A10.go (f' := mkF m 17 #[.val (.int p1), .val (.int p2), .val (.long qd), .second, .val (.int sel), .val (.long qr), .second, .val (.int s_), .unset, .unset, .unset, .unset, .unset, .unset, .unset, .unset, .unset, .unset, .unset, .unset, .unset, .unset] [(.int s_), (.int (p1 &&& (2147483647 : Int32))), (.int (1 : Int32))]) fun _ _ X _ k => XS.iload X.here hx rfl (hb hby d0_15) rfl k
  have A12 := A11.go (f' := mkF m 18 #[.val (.int p1), .val (.int p2), .val (.long qd), .second, .val (.int sel), .val (.long qr), .second, .val (.int s_), .unset, .unset, .unset, .unset, .unset, .unset, .unset, .unset, .unset, .unset, .unset, .unset, .unset, .unset] [(.int (((p1 &&& (2147483647 : Int32)).toUInt32 >>> (s_ &&& 31).toUInt32).toInt32)), (.int (1 : Int32))]) fun _ _ X _ k => XS.iushr X.here hx rfl (hb hby d0_17) rfl k
  obtain ⟨vA13, hA13, ⟨rfl, rfl⟩, A13⟩ := A12.callS (own_max l Z a0 hw (1 : Int32) (((p1 &&& (2147483647 : Int32)).toUInt32 >>> (s_ &&& 31).toUInt32).toInt32) h0 n0 Z0) hx hZ hown (hb hby d0_18) (hw _ (List.mem_of_getElem? (i := 1) rfl)) (hw _ (List.mem_of_getElem? (i := 2) rfl)) (hw _ (List.mem_of_getElem? (i := 3) rfl)) (hw _ (List.mem_of_getElem? (i := 4) rfl)) ⟨by decide, by decide⟩ (lenOf pd__28II_29I rfl) (argsL := [(.int (1 : Int32)), (.int (((p1 &&& (2147483647 : Int32)).toUInt32 >>> (s_ &&& 31).toUInt32).toInt32))]) (rest := []) rfl rfl (by rw [hml]; rfl) (W := 0) (Nat.le_of_eq rfl) (by decide) (by decide) (by decide) (by decide)
  have A14 : own_R p l e _ _ m _ below meth c S0 n0 h0 0 0 (mkF m 21 #[.val (.int p1), .val (.int p2), .val (.long qd), .second, .val (.int sel), .val (.long qr), .second, .val (.int s_), .unset, .unset, .unset, .unset, .unset, .unset, .unset, .unset, .unset, .unset, .unset, .unset, .unset, .unset] [(.int (if (1 : Int32) < (((p1 &&& (2147483647 : Int32)).toUInt32 >>> (s_ &&& 31).toUInt32).toInt32) then (((p1 &&& (2147483647 : Int32)).toUInt32 >>> (s_ &&& 31).toUInt32).toInt32) else (1 : Int32)))]) := A13
  obtain ⟨t, ht⟩ : ∃ zq_, zq_ = (if (1 : Int32) < (((p1 &&& (2147483647 : Int32)).toUInt32 >>> (s_ &&& 31).toUInt32).toInt32) then (((p1 &&& (2147483647 : Int32)).toUInt32 >>> (s_ &&& 31).toUInt32).toInt32) else (1 : Int32)) := ⟨_, rfl⟩
  rw [← ht] at A14
  have A15 := A14.go (f' := mkF m 23 #[.val (.int p1), .val (.int p2), .val (.long qd), .second, .val (.int sel), .val (.long qr), .second, .val (.int s_), .val (.int t), .unset, .unset, .unset, .unset, .unset, .unset, .unset, .unset, .unset, .unset, .unset, .unset, .unset] []) fun _ _ X _ k => XS.istore X.here hx rfl (hb hby d0_21) rfl (l' := #[.val (.int p1), .val (.int p2), .val (.long qd), .second, .val (.int sel), .val (.long qr), .second, .val (.int s_), .val (.int t), .unset, .unset, .unset, .unset, .unset, .unset, .unset, .unset, .unset, .unset, .unset, .unset, .unset]) rfl k
  have A16 := A15.go (f' := mkF m 24 #[.val (.int p1), .val (.int p2), .val (.long qd), .second, .val (.int sel), .val (.long qr), .second, .val (.int s_), .val (.int t), .unset, .unset, .unset, .unset, .unset, .unset, .unset, .unset, .unset, .unset, .unset, .unset, .unset] [(.int (1 : Int32))]) fun _ _ X _ k => XS.iconst X.here hx rfl (hb hby d0_23) k
  have A17 := A16.go (f' := mkF m 25 #[.val (.int p1), .val (.int p2), .val (.long qd), .second, .val (.int sel), .val (.long qr), .second, .val (.int s_), .val (.int t), .unset, .unset, .unset, .unset, .unset, .unset, .unset, .unset, .unset, .unset, .unset, .unset, .unset] [(.int p2), (.int (1 : Int32))]) fun _ _ X _ k => XS.iloadN X.here hx rfl (hb hby d0_24) rfl k
  have A18 : own_R p l e _ _ m _ below meth c S0 n0 h0 0 0 (mkF m 27 #[.val (.int p1), .val (.int p2), .val (.long qd), .second, .val (.int sel), .val (.long qr), .second, .val (.int s_), .val (.int t), .unset, .unset, .unset, .unset, .unset, .unset, .unset, .unset, .unset, .unset, .unset, .unset, .unset] [(.int (2147483647 : Int32)), (.int p2), (.int (1 : Int32))]) := A17.ldcI hx hZ hown (hb hby d0_25) (hw _ (List.mem_of_getElem? (i := 0) rfl))
  have A19 := A18.go (f' := mkF m 28 #[.val (.int p1), .val (.int p2), .val (.long qd), .second, .val (.int sel), .val (.long qr), .second, .val (.int s_), .val (.int t), .unset, .unset, .unset, .unset, .unset, .unset, .unset, .unset, .unset, .unset, .unset, .unset, .unset] [(.int (p2 &&& (2147483647 : Int32))), (.int (1 : Int32))]) fun _ _ X _ k => XS.iand X.here hx rfl (hb hby d0_27) rfl k
  have A20 := A19.go (f' := mkF m 30 #[.val (.int p1), .val (.int p2), .val (.long qd), .second, .val (.int sel), .val (.long qr), .second, .val (.int s_), .val (.int t), .unset, .unset, .unset, .unset, .unset, .unset, .unset, .unset, .unset, .unset, .unset, .unset, .unset] [(.int (30 : Int32)), (.int (p2 &&& (2147483647 : Int32))), (.int (1 : Int32))]) fun _ _ X _ k => XS.bipush X.here hx rfl (hb hby d0_28) k
  have A21 := A20.go (f' := mkF m 32 #[.val (.int p1), .val (.int p2), .val (.long qd), .second, .val (.int sel), .val (.long qr), .second, .val (.int s_), .val (.int t), .unset, .unset, .unset, .unset, .unset, .unset, .unset, .unset, .unset, .unset, .unset, .unset, .unset] [(.int s_), (.int (30 : Int32)), (.int (p2 &&& (2147483647 : Int32))), (.int (1 : Int32))]) fun _ _ X _ k => XS.iload X.here hx rfl (hb hby d0_30) rfl k
  have A22 := A21.go (f' := mkF m 33 #[.val (.int p1), .val (.int p2), .val (.long qd), .second, .val (.int sel), .val (.long qr), .second, .val (.int s_), .val (.int t), .unset, .unset, .unset, .unset, .unset, .unset, .unset, .unset, .unset, .unset, .unset, .unset, .unset] [(.int ((30 : Int32) - s_)), (.int (p2 &&& (2147483647 : Int32))), (.int (1 : Int32))]) fun _ _ X _ k => XS.isub X.here hx rfl (hb hby d0_32) rfl k
  have A23 := A22.go (f' := mkF m 34 #[.val (.int p1), .val (.int p2), .val (.long qd), .second, .val (.int sel), .val (.long qr), .second, .val (.int s_), .val (.int t), .unset, .unset, .unset, .unset, .unset, .unset, .unset, .unset, .unset, .unset, .unset, .unset, .unset] [(.int (((p2 &&& (2147483647 : Int32)).toUInt32 >>> (((30 : Int32) - s_) &&& 31).toUInt32).toInt32)), (.int (1 : Int32))]) fun _ _ X _ k => XS.iushr X.here hx rfl (hb hby d0_33) rfl k
  obtain ⟨vA24, hA24, ⟨rfl, rfl⟩, A24⟩ := A23.callS (own_max l Z a0 hw (1 : Int32) (((p2 &&& (2147483647 : Int32)).toUInt32 >>> (((30 : Int32) - s_) &&& 31).toUInt32).toInt32) h0 n0 Z0) hx hZ hown (hb hby d0_34) (hw _ (List.mem_of_getElem? (i := 1) rfl)) (hw _ (List.mem_of_getElem? (i := 2) rfl)) (hw _ (List.mem_of_getElem? (i := 3) rfl)) (hw _ (List.mem_of_getElem? (i := 4) rfl)) ⟨by decide, by decide⟩ (lenOf pd__28II_29I rfl) (argsL := [(.int (1 : Int32)), (.int (((p2 &&& (2147483647 : Int32)).toUInt32 >>> (((30 : Int32) - s_) &&& 31).toUInt32).toInt32))]) (rest := []) rfl rfl (by rw [hml]; rfl) (W := 0) (Nat.le_of_eq rfl) (by decide) (by decide) (by decide) (by decide)
  have A25 : own_R p l e _ _ m _ below meth c S0 n0 h0 0 0 (mkF m 37 #[.val (.int p1), .val (.int p2), .val (.long qd), .second, .val (.int sel), .val (.long qr), .second, .val (.int s_), .val (.int t), .unset, .unset, .unset, .unset, .unset, .unset, .unset, .unset, .unset, .unset, .unset, .unset, .unset] [(.int (if (1 : Int32) < (((p2 &&& (2147483647 : Int32)).toUInt32 >>> (((30 : Int32) - s_) &&& 31).toUInt32).toInt32) then (((p2 &&& (2147483647 : Int32)).toUInt32 >>> (((30 : Int32) - s_) &&& 31).toUInt32).toInt32) else (1 : Int32)))]) := A24
  obtain ⟨k_, hk_⟩ : ∃ zq_, zq_ = (if (1 : Int32) < (((p2 &&& (2147483647 : Int32)).toUInt32 >>> (((30 : Int32) - s_) &&& 31).toUInt32).toInt32) then (((p2 &&& (2147483647 : Int32)).toUInt32 >>> (((30 : Int32) - s_) &&& 31).toUInt32).toInt32) else (1 : Int32)) := ⟨_, rfl⟩
  rw [← hk_] at A25
  have A26 := A25.go (f' := mkF m 39 #[.val (.int p1), .val (.int p2), .val (.long qd), .second, .val (.int sel), .val (.long qr), .second, .val (.int s_), .val (.int t), .val (.int k_), .unset, .unset, .unset, .unset, .unset, .unset, .unset, .unset, .unset, .unset, .unset, .unset] []) fun _ _ X _ k => XS.istore X.here hx rfl (hb hby d0_37) rfl (l' := #[.val (.int p1), .val (.int p2), .val (.long qd), .second, .val (.int sel), .val (.long qr), .second, .val (.int s_), .val (.int t), .val (.int k_), .unset, .unset, .unset, .unset, .unset, .unset, .unset, .unset, .unset, .unset, .unset, .unset]) rfl k
  have A27 := A26.go (f' := mkF m 41 #[.val (.int p1), .val (.int p2), .val (.long qd), .second, .val (.int sel), .val (.long qr), .second, .val (.int s_), .val (.int t), .val (.int k_), .unset, .unset, .unset, .unset, .unset, .unset, .unset, .unset, .unset, .unset, .unset, .unset] [(.int (10 : Int32))]) fun _ _ X _ k => XS.bipush X.here hx rfl (hb hby d0_39) k
  have hTK := own_tkb hs_ ht hk_
  obtain ⟨h28, E29, V_xp, A30⟩ := A27.newP hx hZ (hb hby d0_41) (hw _ (List.mem_of_getElem? (i := 5) rfl)) (by decide) (cap := 10) (by decide) (by decide) (by decide) (by decide)
  obtain ⟨xp, gxp⟩ : ∃ z, z = h0.size := ⟨_, rfl⟩
  rw [← gxp] at V_xp A30
  have g_xp : n0 ≤ xp := by rw [gxp]; exact Z0
  have Z0 : n0 ≤ h28.size := Nat.le_trans Z0 E29.1
  have V_xp : own_Ar Z h28 xp .long [(.long (0 : Int64)), (.long (0 : Int64)), (.long (0 : Int64)), (.long (0 : Int64)), (.long (0 : Int64)), (.long (0 : Int64)), (.long (0 : Int64)), (.long (0 : Int64)), (.long (0 : Int64)), (.long (0 : Int64))] := V_xp
  have A31 : own_R p l e _ _ m _ below meth c S0 n0 h28 1 10 (mkF m 43 #[.val (.int p1), .val (.int p2), .val (.long qd), .second, .val (.int sel), .val (.long qr), .second, .val (.int s_), .val (.int t), .val (.int k_), .unset, .unset, .unset, .unset, .unset, .unset, .unset, .unset, .unset, .unset, .unset, .unset] [(.ref xp)]) := A30
  have A32 := A31.go (f' := mkF m 44 #[.val (.int p1), .val (.int p2), .val (.long qd), .second, .val (.int sel), .val (.long qr), .second, .val (.int s_), .val (.int t), .val (.int k_), .unset, .unset, .unset, .unset, .unset, .unset, .unset, .unset, .unset, .unset, .unset, .unset] [(.ref xp), (.ref xp)]) fun _ _ X _ k => XS.dup X.here hx rfl (hb hby d0_43) rfl rfl k
  have A33 := A32.go (f' := mkF m 45 #[.val (.int p1), .val (.int p2), .val (.long qd), .second, .val (.int sel), .val (.long qr), .second, .val (.int s_), .val (.int t), .val (.int k_), .unset, .unset, .unset, .unset, .unset, .unset, .unset, .unset, .unset, .unset, .unset, .unset] [(.int (0 : Int32)), (.ref xp), (.ref xp)]) fun _ _ X _ k => XS.iconst X.here hx rfl (hb hby d0_44) k
  have A34 := A33.go (f' := mkF m 46 #[.val (.int p1), .val (.int p2), .val (.long qd), .second, .val (.int sel), .val (.long qr), .second, .val (.int s_), .val (.int t), .val (.int k_), .unset, .unset, .unset, .unset, .unset, .unset, .unset, .unset, .unset, .unset, .unset, .unset] [(.long (1 : Int64)), (.int (0 : Int32)), (.ref xp), (.ref xp)]) fun _ _ X _ k => XS.lconst X.here hx rfl (hb hby d0_45) k
  obtain ⟨h35, W36, A37⟩ := A34.stL hx hZ (hb hby d0_46) V_xp (by decide) (by simp +decide) g_xp
  have V_xp : own_Ar Z h35 xp .long [(.long (1 : Int64)), (.long (0 : Int64)), (.long (0 : Int64)), (.long (0 : Int64)), (.long (0 : Int64)), (.long (0 : Int64)), (.long (0 : Int64)), (.long (0 : Int64)), (.long (0 : Int64)), (.long (0 : Int64))] := V_xp.same W36
  have Z0 : n0 ≤ h35.size := by rw [W36.size]; exact Z0
  have A38 : own_R p l e _ _ m _ below meth c S0 n0 h35 1 10 (mkF m 47 #[.val (.int p1), .val (.int p2), .val (.long qd), .second, .val (.int sel), .val (.long qr), .second, .val (.int s_), .val (.int t), .val (.int k_), .unset, .unset, .unset, .unset, .unset, .unset, .unset, .unset, .unset, .unset, .unset, .unset] [(.ref xp)]) := A37
  have A39 := A38.go (f' := mkF m 48 #[.val (.int p1), .val (.int p2), .val (.long qd), .second, .val (.int sel), .val (.long qr), .second, .val (.int s_), .val (.int t), .val (.int k_), .unset, .unset, .unset, .unset, .unset, .unset, .unset, .unset, .unset, .unset, .unset, .unset] [(.ref xp), (.ref xp)]) fun _ _ X _ k => XS.dup X.here hx rfl (hb hby d0_47) rfl rfl k
  have A40 := A39.go (f' := mkF m 49 #[.val (.int p1), .val (.int p2), .val (.long qd), .second, .val (.int sel), .val (.long qr), .second, .val (.int s_), .val (.int t), .val (.int k_), .unset, .unset, .unset, .unset, .unset, .unset, .unset, .unset, .unset, .unset, .unset, .unset] [(.int (1 : Int32)), (.ref xp), (.ref xp)]) fun _ _ X _ k => XS.iconst X.here hx rfl (hb hby d0_48) k
  have A41 : own_R p l e _ _ m _ below meth c S0 n0 h35 1 10 (mkF m 52 #[.val (.int p1), .val (.int p2), .val (.long qd), .second, .val (.int sel), .val (.long qr), .second, .val (.int s_), .val (.int t), .val (.int k_), .unset, .unset, .unset, .unset, .unset, .unset, .unset, .unset, .unset, .unset, .unset, .unset] [(.long (5 : Int64)), (.int (1 : Int32)), (.ref xp), (.ref xp)]) := A40.ldcL hx hZ hown (hb hby d0_49) (hw _ (List.mem_of_getElem? (i := 6) rfl))
  obtain ⟨h42, W43, A44⟩ := A41.stL hx hZ (hb hby d0_52) V_xp (by decide) (by simp +decide) g_xp
  have V_xp : own_Ar Z h42 xp .long [(.long (1 : Int64)), (.long (5 : Int64)), (.long (0 : Int64)), (.long (0 : Int64)), (.long (0 : Int64)), (.long (0 : Int64)), (.long (0 : Int64)), (.long (0 : Int64)), (.long (0 : Int64)), (.long (0 : Int64))] := V_xp.same W43
  have Z0 : n0 ≤ h42.size := by rw [W43.size]; exact Z0
  have A45 : own_R p l e _ _ m _ below meth c S0 n0 h42 1 10 (mkF m 53 #[.val (.int p1), .val (.int p2), .val (.long qd), .second, .val (.int sel), .val (.long qr), .second, .val (.int s_), .val (.int t), .val (.int k_), .unset, .unset, .unset, .unset, .unset, .unset, .unset, .unset, .unset, .unset, .unset, .unset] [(.ref xp)]) := A44
  have A46 := A45.go (f' := mkF m 54 #[.val (.int p1), .val (.int p2), .val (.long qd), .second, .val (.int sel), .val (.long qr), .second, .val (.int s_), .val (.int t), .val (.int k_), .unset, .unset, .unset, .unset, .unset, .unset, .unset, .unset, .unset, .unset, .unset, .unset] [(.ref xp), (.ref xp)]) fun _ _ X _ k => XS.dup X.here hx rfl (hb hby d0_53) rfl rfl k
  have A47 := A46.go (f' := mkF m 55 #[.val (.int p1), .val (.int p2), .val (.long qd), .second, .val (.int sel), .val (.long qr), .second, .val (.int s_), .val (.int t), .val (.int k_), .unset, .unset, .unset, .unset, .unset, .unset, .unset, .unset, .unset, .unset, .unset, .unset] [(.int (2 : Int32)), (.ref xp), (.ref xp)]) fun _ _ X _ k => XS.iconst X.here hx rfl (hb hby d0_54) k
  have A48 : own_R p l e _ _ m _ below meth c S0 n0 h42 1 10 (mkF m 58 #[.val (.int p1), .val (.int p2), .val (.long qd), .second, .val (.int sel), .val (.long qr), .second, .val (.int s_), .val (.int t), .val (.int k_), .unset, .unset, .unset, .unset, .unset, .unset, .unset, .unset, .unset, .unset, .unset, .unset] [(.long (25 : Int64)), (.int (2 : Int32)), (.ref xp), (.ref xp)]) := A47.ldcL hx hZ hown (hb hby d0_55) (hw _ (List.mem_of_getElem? (i := 7) rfl))
  obtain ⟨h49, W50, A51⟩ := A48.stL hx hZ (hb hby d0_58) V_xp (by decide) (by simp +decide) g_xp
  have V_xp : own_Ar Z h49 xp .long [(.long (1 : Int64)), (.long (5 : Int64)), (.long (25 : Int64)), (.long (0 : Int64)), (.long (0 : Int64)), (.long (0 : Int64)), (.long (0 : Int64)), (.long (0 : Int64)), (.long (0 : Int64)), (.long (0 : Int64))] := V_xp.same W50
  have Z0 : n0 ≤ h49.size := by rw [W50.size]; exact Z0
  have A52 : own_R p l e _ _ m _ below meth c S0 n0 h49 1 10 (mkF m 59 #[.val (.int p1), .val (.int p2), .val (.long qd), .second, .val (.int sel), .val (.long qr), .second, .val (.int s_), .val (.int t), .val (.int k_), .unset, .unset, .unset, .unset, .unset, .unset, .unset, .unset, .unset, .unset, .unset, .unset] [(.ref xp)]) := A51
  have A53 := A52.go (f' := mkF m 60 #[.val (.int p1), .val (.int p2), .val (.long qd), .second, .val (.int sel), .val (.long qr), .second, .val (.int s_), .val (.int t), .val (.int k_), .unset, .unset, .unset, .unset, .unset, .unset, .unset, .unset, .unset, .unset, .unset, .unset] [(.ref xp), (.ref xp)]) fun _ _ X _ k => XS.dup X.here hx rfl (hb hby d0_59) rfl rfl k
  have A54 := A53.go (f' := mkF m 61 #[.val (.int p1), .val (.int p2), .val (.long qd), .second, .val (.int sel), .val (.long qr), .second, .val (.int s_), .val (.int t), .val (.int k_), .unset, .unset, .unset, .unset, .unset, .unset, .unset, .unset, .unset, .unset, .unset, .unset] [(.int (3 : Int32)), (.ref xp), (.ref xp)]) fun _ _ X _ k => XS.iconst X.here hx rfl (hb hby d0_60) k
  have A55 : own_R p l e _ _ m _ below meth c S0 n0 h49 1 10 (mkF m 64 #[.val (.int p1), .val (.int p2), .val (.long qd), .second, .val (.int sel), .val (.long qr), .second, .val (.int s_), .val (.int t), .val (.int k_), .unset, .unset, .unset, .unset, .unset, .unset, .unset, .unset, .unset, .unset, .unset, .unset] [(.long (125 : Int64)), (.int (3 : Int32)), (.ref xp), (.ref xp)]) := A54.ldcL hx hZ hown (hb hby d0_61) (hw _ (List.mem_of_getElem? (i := 8) rfl))
  obtain ⟨h56, W57, A58⟩ := A55.stL hx hZ (hb hby d0_64) V_xp (by decide) (by simp +decide) g_xp
  have V_xp : own_Ar Z h56 xp .long [(.long (1 : Int64)), (.long (5 : Int64)), (.long (25 : Int64)), (.long (125 : Int64)), (.long (0 : Int64)), (.long (0 : Int64)), (.long (0 : Int64)), (.long (0 : Int64)), (.long (0 : Int64)), (.long (0 : Int64))] := V_xp.same W57
  have Z0 : n0 ≤ h56.size := by rw [W57.size]; exact Z0
  have A59 : own_R p l e _ _ m _ below meth c S0 n0 h56 1 10 (mkF m 65 #[.val (.int p1), .val (.int p2), .val (.long qd), .second, .val (.int sel), .val (.long qr), .second, .val (.int s_), .val (.int t), .val (.int k_), .unset, .unset, .unset, .unset, .unset, .unset, .unset, .unset, .unset, .unset, .unset, .unset] [(.ref xp)]) := A58
  have A60 := A59.go (f' := mkF m 66 #[.val (.int p1), .val (.int p2), .val (.long qd), .second, .val (.int sel), .val (.long qr), .second, .val (.int s_), .val (.int t), .val (.int k_), .unset, .unset, .unset, .unset, .unset, .unset, .unset, .unset, .unset, .unset, .unset, .unset] [(.ref xp), (.ref xp)]) fun _ _ X _ k => XS.dup X.here hx rfl (hb hby d0_65) rfl rfl k
  have A61 := A60.go (f' := mkF m 67 #[.val (.int p1), .val (.int p2), .val (.long qd), .second, .val (.int sel), .val (.long qr), .second, .val (.int s_), .val (.int t), .val (.int k_), .unset, .unset, .unset, .unset, .unset, .unset, .unset, .unset, .unset, .unset, .unset, .unset] [(.int (4 : Int32)), (.ref xp), (.ref xp)]) fun _ _ X _ k => XS.iconst X.here hx rfl (hb hby d0_66) k
  have A62 : own_R p l e _ _ m _ below meth c S0 n0 h56 1 10 (mkF m 70 #[.val (.int p1), .val (.int p2), .val (.long qd), .second, .val (.int sel), .val (.long qr), .second, .val (.int s_), .val (.int t), .val (.int k_), .unset, .unset, .unset, .unset, .unset, .unset, .unset, .unset, .unset, .unset, .unset, .unset] [(.long (625 : Int64)), (.int (4 : Int32)), (.ref xp), (.ref xp)]) := A61.ldcL hx hZ hown (hb hby d0_67) (hw _ (List.mem_of_getElem? (i := 9) rfl))
  obtain ⟨h63, W64, A65⟩ := A62.stL hx hZ (hb hby d0_70) V_xp (by decide) (by simp +decide) g_xp
  have V_xp : own_Ar Z h63 xp .long [(.long (1 : Int64)), (.long (5 : Int64)), (.long (25 : Int64)), (.long (125 : Int64)), (.long (625 : Int64)), (.long (0 : Int64)), (.long (0 : Int64)), (.long (0 : Int64)), (.long (0 : Int64)), (.long (0 : Int64))] := V_xp.same W64
  have Z0 : n0 ≤ h63.size := by rw [W64.size]; exact Z0
  have A66 : own_R p l e _ _ m _ below meth c S0 n0 h63 1 10 (mkF m 71 #[.val (.int p1), .val (.int p2), .val (.long qd), .second, .val (.int sel), .val (.long qr), .second, .val (.int s_), .val (.int t), .val (.int k_), .unset, .unset, .unset, .unset, .unset, .unset, .unset, .unset, .unset, .unset, .unset, .unset] [(.ref xp)]) := A65
  have A67 := A66.go (f' := mkF m 72 #[.val (.int p1), .val (.int p2), .val (.long qd), .second, .val (.int sel), .val (.long qr), .second, .val (.int s_), .val (.int t), .val (.int k_), .unset, .unset, .unset, .unset, .unset, .unset, .unset, .unset, .unset, .unset, .unset, .unset] [(.ref xp), (.ref xp)]) fun _ _ X _ k => XS.dup X.here hx rfl (hb hby d0_71) rfl rfl k
  have A68 := A67.go (f' := mkF m 73 #[.val (.int p1), .val (.int p2), .val (.long qd), .second, .val (.int sel), .val (.long qr), .second, .val (.int s_), .val (.int t), .val (.int k_), .unset, .unset, .unset, .unset, .unset, .unset, .unset, .unset, .unset, .unset, .unset, .unset] [(.int (5 : Int32)), (.ref xp), (.ref xp)]) fun _ _ X _ k => XS.iconst X.here hx rfl (hb hby d0_72) k
  have A69 : own_R p l e _ _ m _ below meth c S0 n0 h63 1 10 (mkF m 76 #[.val (.int p1), .val (.int p2), .val (.long qd), .second, .val (.int sel), .val (.long qr), .second, .val (.int s_), .val (.int t), .val (.int k_), .unset, .unset, .unset, .unset, .unset, .unset, .unset, .unset, .unset, .unset, .unset, .unset] [(.long (3125 : Int64)), (.int (5 : Int32)), (.ref xp), (.ref xp)]) := A68.ldcL hx hZ hown (hb hby d0_73) (hw _ (List.mem_of_getElem? (i := 10) rfl))
  obtain ⟨h70, W71, A72⟩ := A69.stL hx hZ (hb hby d0_76) V_xp (by decide) (by simp +decide) g_xp
  have V_xp : own_Ar Z h70 xp .long [(.long (1 : Int64)), (.long (5 : Int64)), (.long (25 : Int64)), (.long (125 : Int64)), (.long (625 : Int64)), (.long (3125 : Int64)), (.long (0 : Int64)), (.long (0 : Int64)), (.long (0 : Int64)), (.long (0 : Int64))] := V_xp.same W71
  have Z0 : n0 ≤ h70.size := by rw [W71.size]; exact Z0
  have A73 : own_R p l e _ _ m _ below meth c S0 n0 h70 1 10 (mkF m 77 #[.val (.int p1), .val (.int p2), .val (.long qd), .second, .val (.int sel), .val (.long qr), .second, .val (.int s_), .val (.int t), .val (.int k_), .unset, .unset, .unset, .unset, .unset, .unset, .unset, .unset, .unset, .unset, .unset, .unset] [(.ref xp)]) := A72
  have A74 := A73.go (f' := mkF m 78 #[.val (.int p1), .val (.int p2), .val (.long qd), .second, .val (.int sel), .val (.long qr), .second, .val (.int s_), .val (.int t), .val (.int k_), .unset, .unset, .unset, .unset, .unset, .unset, .unset, .unset, .unset, .unset, .unset, .unset] [(.ref xp), (.ref xp)]) fun _ _ X _ k => XS.dup X.here hx rfl (hb hby d0_77) rfl rfl k
  have A75 := A74.go (f' := mkF m 80 #[.val (.int p1), .val (.int p2), .val (.long qd), .second, .val (.int sel), .val (.long qr), .second, .val (.int s_), .val (.int t), .val (.int k_), .unset, .unset, .unset, .unset, .unset, .unset, .unset, .unset, .unset, .unset, .unset, .unset] [(.int (6 : Int32)), (.ref xp), (.ref xp)]) fun _ _ X _ k => XS.bipush X.here hx rfl (hb hby d0_78) k
  have A76 : own_R p l e _ _ m _ below meth c S0 n0 h70 1 10 (mkF m 83 #[.val (.int p1), .val (.int p2), .val (.long qd), .second, .val (.int sel), .val (.long qr), .second, .val (.int s_), .val (.int t), .val (.int k_), .unset, .unset, .unset, .unset, .unset, .unset, .unset, .unset, .unset, .unset, .unset, .unset] [(.long (15625 : Int64)), (.int (6 : Int32)), (.ref xp), (.ref xp)]) := A75.ldcL hx hZ hown (hb hby d0_80) (hw _ (List.mem_of_getElem? (i := 11) rfl))
  obtain ⟨h77, W78, A79⟩ := A76.stL hx hZ (hb hby d0_83) V_xp (by decide) (by simp +decide) g_xp
  have V_xp : own_Ar Z h77 xp .long [(.long (1 : Int64)), (.long (5 : Int64)), (.long (25 : Int64)), (.long (125 : Int64)), (.long (625 : Int64)), (.long (3125 : Int64)), (.long (15625 : Int64)), (.long (0 : Int64)), (.long (0 : Int64)), (.long (0 : Int64))] := V_xp.same W78
  have Z0 : n0 ≤ h77.size := by rw [W78.size]; exact Z0
  have A80 : own_R p l e _ _ m _ below meth c S0 n0 h77 1 10 (mkF m 84 #[.val (.int p1), .val (.int p2), .val (.long qd), .second, .val (.int sel), .val (.long qr), .second, .val (.int s_), .val (.int t), .val (.int k_), .unset, .unset, .unset, .unset, .unset, .unset, .unset, .unset, .unset, .unset, .unset, .unset] [(.ref xp)]) := A79
  have A81 := A80.go (f' := mkF m 85 #[.val (.int p1), .val (.int p2), .val (.long qd), .second, .val (.int sel), .val (.long qr), .second, .val (.int s_), .val (.int t), .val (.int k_), .unset, .unset, .unset, .unset, .unset, .unset, .unset, .unset, .unset, .unset, .unset, .unset] [(.ref xp), (.ref xp)]) fun _ _ X _ k => XS.dup X.here hx rfl (hb hby d0_84) rfl rfl k
  have A82 := A81.go (f' := mkF m 87 #[.val (.int p1), .val (.int p2), .val (.long qd), .second, .val (.int sel), .val (.long qr), .second, .val (.int s_), .val (.int t), .val (.int k_), .unset, .unset, .unset, .unset, .unset, .unset, .unset, .unset, .unset, .unset, .unset, .unset] [(.int (7 : Int32)), (.ref xp), (.ref xp)]) fun _ _ X _ k => XS.bipush X.here hx rfl (hb hby d0_85) k
  have A83 : own_R p l e _ _ m _ below meth c S0 n0 h77 1 10 (mkF m 90 #[.val (.int p1), .val (.int p2), .val (.long qd), .second, .val (.int sel), .val (.long qr), .second, .val (.int s_), .val (.int t), .val (.int k_), .unset, .unset, .unset, .unset, .unset, .unset, .unset, .unset, .unset, .unset, .unset, .unset] [(.long (78125 : Int64)), (.int (7 : Int32)), (.ref xp), (.ref xp)]) := A82.ldcL hx hZ hown (hb hby d0_87) (hw _ (List.mem_of_getElem? (i := 12) rfl))
  obtain ⟨h84, W85, A86⟩ := A83.stL hx hZ (hb hby d0_90) V_xp (by decide) (by simp +decide) g_xp
  have V_xp : own_Ar Z h84 xp .long [(.long (1 : Int64)), (.long (5 : Int64)), (.long (25 : Int64)), (.long (125 : Int64)), (.long (625 : Int64)), (.long (3125 : Int64)), (.long (15625 : Int64)), (.long (78125 : Int64)), (.long (0 : Int64)), (.long (0 : Int64))] := V_xp.same W85
  have Z0 : n0 ≤ h84.size := by rw [W85.size]; exact Z0
  have A87 : own_R p l e _ _ m _ below meth c S0 n0 h84 1 10 (mkF m 91 #[.val (.int p1), .val (.int p2), .val (.long qd), .second, .val (.int sel), .val (.long qr), .second, .val (.int s_), .val (.int t), .val (.int k_), .unset, .unset, .unset, .unset, .unset, .unset, .unset, .unset, .unset, .unset, .unset, .unset] [(.ref xp)]) := A86
  have A88 := A87.go (f' := mkF m 92 #[.val (.int p1), .val (.int p2), .val (.long qd), .second, .val (.int sel), .val (.long qr), .second, .val (.int s_), .val (.int t), .val (.int k_), .unset, .unset, .unset, .unset, .unset, .unset, .unset, .unset, .unset, .unset, .unset, .unset] [(.ref xp), (.ref xp)]) fun _ _ X _ k => XS.dup X.here hx rfl (hb hby d0_91) rfl rfl k
  have A89 := A88.go (f' := mkF m 94 #[.val (.int p1), .val (.int p2), .val (.long qd), .second, .val (.int sel), .val (.long qr), .second, .val (.int s_), .val (.int t), .val (.int k_), .unset, .unset, .unset, .unset, .unset, .unset, .unset, .unset, .unset, .unset, .unset, .unset] [(.int (8 : Int32)), (.ref xp), (.ref xp)]) fun _ _ X _ k => XS.bipush X.here hx rfl (hb hby d0_92) k
  have A90 : own_R p l e _ _ m _ below meth c S0 n0 h84 1 10 (mkF m 97 #[.val (.int p1), .val (.int p2), .val (.long qd), .second, .val (.int sel), .val (.long qr), .second, .val (.int s_), .val (.int t), .val (.int k_), .unset, .unset, .unset, .unset, .unset, .unset, .unset, .unset, .unset, .unset, .unset, .unset] [(.long (390625 : Int64)), (.int (8 : Int32)), (.ref xp), (.ref xp)]) := A89.ldcL hx hZ hown (hb hby d0_94) (hw _ (List.mem_of_getElem? (i := 13) rfl))
  obtain ⟨h91, W92, A93⟩ := A90.stL hx hZ (hb hby d0_97) V_xp (by decide) (by simp +decide) g_xp
  have V_xp : own_Ar Z h91 xp .long [(.long (1 : Int64)), (.long (5 : Int64)), (.long (25 : Int64)), (.long (125 : Int64)), (.long (625 : Int64)), (.long (3125 : Int64)), (.long (15625 : Int64)), (.long (78125 : Int64)), (.long (390625 : Int64)), (.long (0 : Int64))] := V_xp.same W92
  have Z0 : n0 ≤ h91.size := by rw [W92.size]; exact Z0
  have A94 : own_R p l e _ _ m _ below meth c S0 n0 h91 1 10 (mkF m 98 #[.val (.int p1), .val (.int p2), .val (.long qd), .second, .val (.int sel), .val (.long qr), .second, .val (.int s_), .val (.int t), .val (.int k_), .unset, .unset, .unset, .unset, .unset, .unset, .unset, .unset, .unset, .unset, .unset, .unset] [(.ref xp)]) := A93
  have A95 := A94.go (f' := mkF m 99 #[.val (.int p1), .val (.int p2), .val (.long qd), .second, .val (.int sel), .val (.long qr), .second, .val (.int s_), .val (.int t), .val (.int k_), .unset, .unset, .unset, .unset, .unset, .unset, .unset, .unset, .unset, .unset, .unset, .unset] [(.ref xp), (.ref xp)]) fun _ _ X _ k => XS.dup X.here hx rfl (hb hby d0_98) rfl rfl k
  have A96 := A95.go (f' := mkF m 101 #[.val (.int p1), .val (.int p2), .val (.long qd), .second, .val (.int sel), .val (.long qr), .second, .val (.int s_), .val (.int t), .val (.int k_), .unset, .unset, .unset, .unset, .unset, .unset, .unset, .unset, .unset, .unset, .unset, .unset] [(.int (9 : Int32)), (.ref xp), (.ref xp)]) fun _ _ X _ k => XS.bipush X.here hx rfl (hb hby d0_99) k
  have A97 : own_R p l e _ _ m _ below meth c S0 n0 h91 1 10 (mkF m 104 #[.val (.int p1), .val (.int p2), .val (.long qd), .second, .val (.int sel), .val (.long qr), .second, .val (.int s_), .val (.int t), .val (.int k_), .unset, .unset, .unset, .unset, .unset, .unset, .unset, .unset, .unset, .unset, .unset, .unset] [(.long (1953125 : Int64)), (.int (9 : Int32)), (.ref xp), (.ref xp)]) := A96.ldcL hx hZ hown (hb hby d0_101) (hw _ (List.mem_of_getElem? (i := 14) rfl))
  obtain ⟨h98, W99, A100⟩ := A97.stL hx hZ (hb hby d0_104) V_xp (by decide) (by simp +decide) g_xp
  have V_xp : own_Ar Z h98 xp .long [(.long (1 : Int64)), (.long (5 : Int64)), (.long (25 : Int64)), (.long (125 : Int64)), (.long (625 : Int64)), (.long (3125 : Int64)), (.long (15625 : Int64)), (.long (78125 : Int64)), (.long (390625 : Int64)), (.long (1953125 : Int64))] := V_xp.same W99
  have Z0 : n0 ≤ h98.size := by rw [W99.size]; exact Z0
  have A101 : own_R p l e _ _ m _ below meth c S0 n0 h98 1 10 (mkF m 105 #[.val (.int p1), .val (.int p2), .val (.long qd), .second, .val (.int sel), .val (.long qr), .second, .val (.int s_), .val (.int t), .val (.int k_), .unset, .unset, .unset, .unset, .unset, .unset, .unset, .unset, .unset, .unset, .unset, .unset] [(.ref xp)]) := A100
  have A102 := A101.go (f' := mkF m 107 #[.val (.int p1), .val (.int p2), .val (.long qd), .second, .val (.int sel), .val (.long qr), .second, .val (.int s_), .val (.int t), .val (.int k_), .val (.ref xp), .unset, .unset, .unset, .unset, .unset, .unset, .unset, .unset, .unset, .unset, .unset] []) fun _ _ X _ k => XS.astore X.here hx rfl (hb hby d0_105) rfl rfl (l' := #[.val (.int p1), .val (.int p2), .val (.long qd), .second, .val (.int sel), .val (.long qr), .second, .val (.int s_), .val (.int t), .val (.int k_), .val (.ref xp), .unset, .unset, .unset, .unset, .unset, .unset, .unset, .unset, .unset, .unset, .unset]) rfl k
  have A103 := A102.go (f' := mkF m 109 #[.val (.int p1), .val (.int p2), .val (.long qd), .second, .val (.int sel), .val (.long qr), .second, .val (.int s_), .val (.int t), .val (.int k_), .val (.ref xp), .unset, .unset, .unset, .unset, .unset, .unset, .unset, .unset, .unset, .unset, .unset] [(.int sel)]) fun _ _ X _ k => XS.iload X.here hx rfl (hb hby d0_107) rfl k
  have A104 := A103.go (f' := mkF m 110 #[.val (.int p1), .val (.int p2), .val (.long qd), .second, .val (.int sel), .val (.long qr), .second, .val (.int s_), .val (.int t), .val (.int k_), .val (.ref xp), .unset, .unset, .unset, .unset, .unset, .unset, .unset, .unset, .unset, .unset, .unset] [(.int (5 : Int32)), (.int sel)]) fun _ _ X _ k => XS.iconst X.here hx rfl (hb hby d0_109) k
  have A105 := A104.go (f' := mkF m 111 #[.val (.int p1), .val (.int p2), .val (.long qd), .second, .val (.int sel), .val (.long qr), .second, .val (.int s_), .val (.int t), .val (.int k_), .val (.ref xp), .unset, .unset, .unset, .unset, .unset, .unset, .unset, .unset, .unset, .unset, .unset] [(.int ((sel.toUInt32 >>> ((5 : Int32) &&& 31).toUInt32).toInt32))]) fun _ _ X _ k => XS.iushr X.here hx rfl (hb hby d0_110) rfl k
  have A106 := A105.go (f' := mkF m 112 #[.val (.int p1), .val (.int p2), .val (.long qd), .second, .val (.int sel), .val (.long qr), .second, .val (.int s_), .val (.int t), .val (.int k_), .val (.ref xp), .unset, .unset, .unset, .unset, .unset, .unset, .unset, .unset, .unset, .unset, .unset] [(.int (1 : Int32)), (.int ((sel.toUInt32 >>> ((5 : Int32) &&& 31).toUInt32).toInt32))]) fun _ _ X _ k => XS.iconst X.here hx rfl (hb hby d0_111) k
  have A107 := A106.go (f' := mkF m 113 #[.val (.int p1), .val (.int p2), .val (.long qd), .second, .val (.int sel), .val (.long qr), .second, .val (.int s_), .val (.int t), .val (.int k_), .val (.ref xp), .unset, .unset, .unset, .unset, .unset, .unset, .unset, .unset, .unset, .unset, .unset] [(.int (((sel.toUInt32 >>> ((5 : Int32) &&& 31).toUInt32).toInt32) &&& (1 : Int32)))]) fun _ _ X _ k => XS.iand X.here hx rfl (hb hby d0_112) rfl k
  by_cases q108 : (((sel.toUInt32 >>> ((5 : Int32) &&& 31).toUInt32).toInt32) &&& (1 : Int32)) = (0 : Int32)
  · skip
    have A109 := A107.go (f' := mkF m 116 #[.val (.int p1), .val (.int p2), .val (.long qd), .second, .val (.int sel), .val (.long qr), .second, .val (.int s_), .val (.int t), .val (.int k_), .val (.ref xp), .unset, .unset, .unset, .unset, .unset, .unset, .unset, .unset, .unset, .unset, .unset] []) fun _ _ X _ k => XS.ifNo X.here hx rfl (hb hby d0_113) rfl ((if0 _ _).trans (teq q108).2) k
    have A110 := A109.go (f' := mkF m 117 #[.val (.int p1), .val (.int p2), .val (.long qd), .second, .val (.int sel), .val (.long qr), .second, .val (.int s_), .val (.int t), .val (.int k_), .val (.ref xp), .unset, .unset, .unset, .unset, .unset, .unset, .unset, .unset, .unset, .unset, .unset] [(.long qd)]) fun _ _ X _ k => XS.lloadN X.here hx rfl (hb hby d0_116) rfl k
    have A111 : own_R p l e _ _ m _ below meth c S0 n0 h98 1 10 (mkF m 120 #[.val (.int p1), .val (.int p2), .val (.long qd), .second, .val (.int sel), .val (.long qr), .second, .val (.int s_), .val (.int t), .val (.int k_), .val (.ref xp), .unset, .unset, .unset, .unset, .unset, .unset, .unset, .unset, .unset, .unset, .unset] [(.long (9007199254740991 : Int64)), (.long qd)]) := A110.ldcL hx hZ hown (hb hby d0_117) (hw _ (List.mem_of_getElem? (i := 15) rfl))
    have A112 := A111.go (f' := mkF m 121 #[.val (.int p1), .val (.int p2), .val (.long qd), .second, .val (.int sel), .val (.long qr), .second, .val (.int s_), .val (.int t), .val (.int k_), .val (.ref xp), .unset, .unset, .unset, .unset, .unset, .unset, .unset, .unset, .unset, .unset, .unset] [(.long (qd &&& (9007199254740991 : Int64)))]) fun _ _ X _ k => XS.land X.here hx rfl (hb hby d0_120) rfl k
    have A113 := A112.go (f' := mkF m 122 #[.val (.int p1), .val (.int p2), .val (.long qd), .second, .val (.int sel), .val (.long qr), .second, .val (.int s_), .val (.int t), .val (.int k_), .val (.ref xp), .unset, .unset, .unset, .unset, .unset, .unset, .unset, .unset, .unset, .unset, .unset] [(.long (1 : Int64)), (.long (qd &&& (9007199254740991 : Int64)))]) fun _ _ X _ k => XS.lconst X.here hx rfl (hb hby d0_121) k
    have A114 := A113.go (f' := mkF m 123 #[.val (.int p1), .val (.int p2), .val (.long qd), .second, .val (.int sel), .val (.long qr), .second, .val (.int s_), .val (.int t), .val (.int k_), .val (.ref xp), .unset, .unset, .unset, .unset, .unset, .unset, .unset, .unset, .unset, .unset, .unset] [(.long ((qd &&& (9007199254740991 : Int64)) + (1 : Int64)))]) fun _ _ X _ k => XS.ladd X.here hx rfl (hb hby d0_122) rfl k
    obtain ⟨d, hd⟩ : ∃ zq_, zq_ = ((qd &&& (9007199254740991 : Int64)) + (1 : Int64)) := ⟨_, rfl⟩
    rw [← hd] at A114
    have hD := own_dA hd
    have A115 := A114.go (f' := mkF m 125 #[.val (.int p1), .val (.int p2), .val (.long qd), .second, .val (.int sel), .val (.long qr), .second, .val (.int s_), .val (.int t), .val (.int k_), .val (.ref xp), .val (.long d), .second, .unset, .unset, .unset, .unset, .unset, .unset, .unset, .unset, .unset] []) fun _ _ X _ k => XS.lstore X.here hx rfl (hb hby d0_123) rfl (l' := #[.val (.int p1), .val (.int p2), .val (.long qd), .second, .val (.int sel), .val (.long qr), .second, .val (.int s_), .val (.int t), .val (.int k_), .val (.ref xp), .val (.long d), .second, .unset, .unset, .unset, .unset, .unset, .unset, .unset, .unset, .unset]) rfl k
    have A116 := A115.go (f' := mkF m 226 #[.val (.int p1), .val (.int p2), .val (.long qd), .second, .val (.int sel), .val (.long qr), .second, .val (.int s_), .val (.int t), .val (.int k_), .val (.ref xp), .val (.long d), .second, .unset, .unset, .unset, .unset, .unset, .unset, .unset, .unset, .unset] []) fun _ _ X _ k => XS.goto X.here hx rfl (pc0 := 125) (pc' := 226) rfl (hb hby d0_125) (by decide) (by decide) k
    obtain ⟨h117, E118, E_x2, D_x2, A119⟩ := A116.newO hx hZ hown (hb hby d0_226) (hw _ (List.mem_of_getElem? (i := 16) rfl)) (hw _ (List.mem_of_getElem? (i := 17) rfl)) (hw _ (List.mem_of_getElem? (i := 18) rfl)) (by decide) (by decide)
    obtain ⟨x2, gx2⟩ : ∃ z, z = h98.size := ⟨_, rfl⟩
    rw [← gx2] at E_x2 D_x2 A119
    have ne_xp_x2 : xp ≠ x2 := by rw [gx2]; exact Nat.ne_of_lt V_xp.lt
    have ne_x2_xp := Ne.symm ne_xp_x2
    have g_x2 : n0 ≤ x2 := by rw [gx2]; exact Z0
    have V_xp : own_Ar Z h117 xp .long [(.long (1 : Int64)), (.long (5 : Int64)), (.long (25 : Int64)), (.long (125 : Int64)), (.long (625 : Int64)), (.long (3125 : Int64)), (.long (15625 : Int64)), (.long (78125 : Int64)), (.long (390625 : Int64)), (.long (1953125 : Int64))] := V_xp.ext E118
    have Z0 : n0 ≤ h117.size := Nat.le_trans Z0 E118.1
    have F_x2_keys : Fld Z h117 x2 "com/example/shardrule/shardrule/bench/RoutingBench$Result" "keys" "I" (.int (0 : Int32)) := D_x2 (Or.inr (hw _ (List.mem_of_getElem? (i := 31) rfl))) (ty := .int) (by decide)
    have F_x2_threads : Fld Z h117 x2 "com/example/shardrule/shardrule/bench/RoutingBench$Result" "threads" "I" (.int (0 : Int32)) := D_x2 (Or.inr (hw _ (List.mem_of_getElem? (i := 33) rfl))) (ty := .int) (by decide)
    have F_x2_routePassNanos : Fld Z h117 x2 "com/example/shardrule/shardrule/bench/RoutingBench$Result" "routePassNanos" "J" (.long (0 : Int64)) := D_x2 (Or.inr (hw _ (List.mem_of_getElem? (i := 35) rfl))) (ty := .long) (by decide)
    have F_x2_crcPassNanos : Fld Z h117 x2 "com/example/shardrule/shardrule/bench/RoutingBench$Result" "crcPassNanos" "J" (.long (0 : Int64)) := D_x2 (Or.inr (hw _ (List.mem_of_getElem? (i := 37) rfl))) (ty := .long) (by decide)
    have A120 : own_R p l e _ _ m _ below meth c S0 n0 h117 2 14 (mkF m 229 #[.val (.int p1), .val (.int p2), .val (.long qd), .second, .val (.int sel), .val (.long qr), .second, .val (.int s_), .val (.int t), .val (.int k_), .val (.ref xp), .val (.long d), .second, .unset, .unset, .unset, .unset, .unset, .unset, .unset, .unset, .unset] [(.ref x2)]) := A119
    have A121 := A120.go (f' := mkF m 230 #[.val (.int p1), .val (.int p2), .val (.long qd), .second, .val (.int sel), .val (.long qr), .second, .val (.int s_), .val (.int t), .val (.int k_), .val (.ref xp), .val (.long d), .second, .unset, .unset, .unset, .unset, .unset, .unset, .unset, .unset, .unset] [(.ref x2), (.ref x2)]) fun _ _ X _ k => XS.dup X.here hx rfl (hb hby d0_229) rfl rfl k
    have A122 := A121.go (f' := mkF m 232 #[.val (.int p1), .val (.int p2), .val (.long qd), .second, .val (.int sel), .val (.long qr), .second, .val (.int s_), .val (.int t), .val (.int k_), .val (.ref xp), .val (.long d), .second, .unset, .unset, .unset, .unset, .unset, .unset, .unset, .unset, .unset] [(.int k_), (.ref x2), (.ref x2)]) fun _ _ X _ k => XS.iload X.here hx rfl (hb hby d0_230) rfl k
    have A123 := A122.go (f' := mkF m 234 #[.val (.int p1), .val (.int p2), .val (.long qd), .second, .val (.int sel), .val (.long qr), .second, .val (.int s_), .val (.int t), .val (.int k_), .val (.ref xp), .val (.long d), .second, .unset, .unset, .unset, .unset, .unset, .unset, .unset, .unset, .unset] [(.int t), (.int k_), (.ref x2), (.ref x2)]) fun _ _ X _ k => XS.iload X.here hx rfl (hb hby d0_232) rfl k
    have A124 := A123.go (f' := mkF m 236 #[.val (.int p1), .val (.int p2), .val (.long qd), .second, .val (.int sel), .val (.long qr), .second, .val (.int s_), .val (.int t), .val (.int k_), .val (.ref xp), .val (.long d), .second, .unset, .unset, .unset, .unset, .unset, .unset, .unset, .unset, .unset] [(.long d), (.int t), (.int k_), (.ref x2), (.ref x2)]) fun _ _ X _ k => XS.lload X.here hx rfl (hb hby d0_234) rfl k
    have A125 := A124.go (f' := mkF m 238 #[.val (.int p1), .val (.int p2), .val (.long qd), .second, .val (.int sel), .val (.long qr), .second, .val (.int s_), .val (.int t), .val (.int k_), .val (.ref xp), .val (.long d), .second, .unset, .unset, .unset, .unset, .unset, .unset, .unset, .unset, .unset] [(.long qr), (.long d), (.int t), (.int k_), (.ref x2), (.ref x2)]) fun _ _ X _ k => XS.lload X.here hx rfl (hb hby d0_236) rfl k
    obtain ⟨vA126, hA126, ⟨rfl, KI, F_k, F_t, F_r⟩, A126⟩ := A125.callI (b := x2) (own_init l Z a0 hw x2 k_ t d qr h117 n0 Z0 E_x2 F_x2_keys F_x2_threads F_x2_routePassNanos F_x2_crcPassNanos g_x2) hx hZ hown (hb hby d0_238) rfl (hw _ (List.mem_of_getElem? (i := 19) rfl)) (hw _ (List.mem_of_getElem? (i := 20) rfl)) (hw _ (List.mem_of_getElem? (i := 21) rfl)) (hw _ (List.mem_of_getElem? (i := 18) rfl)) ⟨by decide, by decide⟩ (lenOf pd__28IIJJ_29V rfl) (argsL := [(.int k_), (.int t), (.long d), (.long qr)]) (rest := [(.ref x2)]) rfl rfl (by rw [hml]; rfl) (W := 1) (Nat.le_of_eq rfl) (by decide) (by decide) (by decide) (by decide)
    have V_xp : own_Ar Z hA126 xp .long [(.long (1 : Int64)), (.long (5 : Int64)), (.long (25 : Int64)), (.long (125 : Int64)), (.long (625 : Int64)), (.long (3125 : Int64)), (.long (15625 : Int64)), (.long (78125 : Int64)), (.long (390625 : Int64)), (.long (1953125 : Int64))] := V_xp.keep KI (ninS ne_xp_x2 nin0)
    have E_x2 : Exa Z hA126 x2 "com/example/shardrule/shardrule/bench/RoutingBench$Result" := E_x2.keep KI
    have Z0 : n0 ≤ hA126.size := Nat.le_trans Z0 KI.1
    have F_x2_keys := F_k
    have F_x2_threads := F_t
    have F_x2_routePassNanos := F_r
    have A127 : own_R p l e _ _ m _ below meth c S0 n0 hA126 2 14 (mkF m 241 #[.val (.int p1), .val (.int p2), .val (.long qd), .second, .val (.int sel), .val (.long qr), .second, .val (.int s_), .val (.int t), .val (.int k_), .val (.ref xp), .val (.long d), .second, .unset, .unset, .unset, .unset, .unset, .unset, .unset, .unset, .unset] [(.ref x2)]) := A126
    have A128 := A127.go (f' := mkF m 243 #[.val (.int p1), .val (.int p2), .val (.long qd), .second, .val (.int sel), .val (.long qr), .second, .val (.int s_), .val (.int t), .val (.int k_), .val (.ref xp), .val (.long d), .second, .val (.ref x2), .unset, .unset, .unset, .unset, .unset, .unset, .unset, .unset] []) fun _ _ X _ k => XS.astore X.here hx rfl (hb hby d0_241) rfl rfl (l' := #[.val (.int p1), .val (.int p2), .val (.long qd), .second, .val (.int sel), .val (.long qr), .second, .val (.int s_), .val (.int t), .val (.int k_), .val (.ref xp), .val (.long d), .second, .val (.ref x2), .unset, .unset, .unset, .unset, .unset, .unset, .unset, .unset]) rfl k
    have A129 := A128.go (f' := mkF m 245 #[.val (.int p1), .val (.int p2), .val (.long qd), .second, .val (.int sel), .val (.long qr), .second, .val (.int s_), .val (.int t), .val (.int k_), .val (.ref xp), .val (.long d), .second, .val (.ref x2), .unset, .unset, .unset, .unset, .unset, .unset, .unset, .unset] [(.ref x2)]) fun _ _ X _ k => XS.aload X.here hx rfl (hb hby d0_243) rfl rfl k
    have hnn := own_nn hTK hD
    obtain ⟨vA130, hA130, ⟨rfl, rfl⟩, A130⟩ := A129.callV (b := x2) (own_kps l Z a0 hw x2 k_ t d hA126 n0 Z0 F_x2_keys F_x2_threads F_x2_routePassNanos hnn.1 hnn.2.1 hnn.2.2) E_x2 hx hZ hown (hb hby d0_245) (hw _ (List.mem_of_getElem? (i := 38) rfl)) (hw _ (List.mem_of_getElem? (i := 39) rfl)) (hw _ (List.mem_of_getElem? (i := 41) rfl)) (hw _ (List.mem_of_getElem? (i := 40) rfl)) (hw _ (List.mem_of_getElem? (i := 42) rfl)) (hw _ (List.mem_of_getElem? (i := 18) rfl)) (fun _ q => notFace_of_selects (args := #[]) (mvT q (hw _ (List.mem_of_getElem? (i := 41) rfl)))) ⟨by decide, by decide⟩ (lenOf pd__28_29D rfl) (argsL := []) (rest := []) rfl rfl (by rw [hml]; rfl) (W := 0) (Nat.le_of_eq rfl) (by decide) (by decide) (by decide) (by decide)
    have A131 : own_R p l e _ _ m _ below meth c S0 n0 hA126 2 14 (mkF m 248 #[.val (.int p1), .val (.int p2), .val (.long qd), .second, .val (.int sel), .val (.long qr), .second, .val (.int s_), .val (.int t), .val (.int k_), .val (.ref xp), .val (.long d), .second, .val (.ref x2), .unset, .unset, .unset, .unset, .unset, .unset, .unset, .unset] [(.double (FP.ddiv (FP.dmul (FP.dmul (FP.i2d t) (FP.i2d k_)) (4741671816366391296 : UInt64)) (FP.l2d d)))]) := A130
    have A132 := A131.go (f' := mkF m 250 #[.val (.int p1), .val (.int p2), .val (.long qd), .second, .val (.int sel), .val (.long qr), .second, .val (.int s_), .val (.int t), .val (.int k_), .val (.ref xp), .val (.long d), .second, .val (.ref x2), .val (.double (FP.ddiv (FP.dmul (FP.dmul (FP.i2d t) (FP.i2d k_)) (4741671816366391296 : UInt64)) (FP.l2d d))), .second, .unset, .unset, .unset, .unset, .unset, .unset] []) fun _ _ X _ k => XS.dstore X.here hx rfl (hb hby d0_248) rfl (l' := #[.val (.int p1), .val (.int p2), .val (.long qd), .second, .val (.int sel), .val (.long qr), .second, .val (.int s_), .val (.int t), .val (.int k_), .val (.ref xp), .val (.long d), .second, .val (.ref x2), .val (.double (FP.ddiv (FP.dmul (FP.dmul (FP.i2d t) (FP.i2d k_)) (4741671816366391296 : UInt64)) (FP.l2d d))), .second, .unset, .unset, .unset, .unset, .unset, .unset]) rfl k
    have A133 := A132.go (f' := mkF m 252 #[.val (.int p1), .val (.int p2), .val (.long qd), .second, .val (.int sel), .val (.long qr), .second, .val (.int s_), .val (.int t), .val (.int k_), .val (.ref xp), .val (.long d), .second, .val (.ref x2), .val (.double (FP.ddiv (FP.dmul (FP.dmul (FP.i2d t) (FP.i2d k_)) (4741671816366391296 : UInt64)) (FP.l2d d))), .second, .unset, .unset, .unset, .unset, .unset, .unset] [(.int t)]) fun _ _ X _ k => XS.iload X.here hx rfl (hb hby d0_250) rfl k
    have A134 := A133.go (f' := mkF m 253 #[.val (.int p1), .val (.int p2), .val (.long qd), .second, .val (.int sel), .val (.long qr), .second, .val (.int s_), .val (.int t), .val (.int k_), .val (.ref xp), .val (.long d), .second, .val (.ref x2), .val (.double (FP.ddiv (FP.dmul (FP.dmul (FP.i2d t) (FP.i2d k_)) (4741671816366391296 : UInt64)) (FP.l2d d))), .second, .unset, .unset, .unset, .unset, .unset, .unset] [(.long (t.toInt64))]) fun _ _ X _ k => XS.i2l X.here hx rfl (hb hby d0_252) rfl k
    have A135 := A134.go (f' := mkF m 255 #[.val (.int p1), .val (.int p2), .val (.long qd), .second, .val (.int sel), .val (.long qr), .second, .val (.int s_), .val (.int t), .val (.int k_), .val (.ref xp), .val (.long d), .second, .val (.ref x2), .val (.double (FP.ddiv (FP.dmul (FP.dmul (FP.i2d t) (FP.i2d k_)) (4741671816366391296 : UInt64)) (FP.l2d d))), .second, .unset, .unset, .unset, .unset, .unset, .unset] [(.int k_), (.long (t.toInt64))]) fun _ _ X _ k => XS.iload X.here hx rfl (hb hby d0_253) rfl k
    have A136 := A135.go (f' := mkF m 256 #[.val (.int p1), .val (.int p2), .val (.long qd), .second, .val (.int sel), .val (.long qr), .second, .val (.int s_), .val (.int t), .val (.int k_), .val (.ref xp), .val (.long d), .second, .val (.ref x2), .val (.double (FP.ddiv (FP.dmul (FP.dmul (FP.i2d t) (FP.i2d k_)) (4741671816366391296 : UInt64)) (FP.l2d d))), .second, .unset, .unset, .unset, .unset, .unset, .unset] [(.long (k_.toInt64)), (.long (t.toInt64))]) fun _ _ X _ k => XS.i2l X.here hx rfl (hb hby d0_255) rfl k
    have A137 := A136.go (f' := mkF m 257 #[.val (.int p1), .val (.int p2), .val (.long qd), .second, .val (.int sel), .val (.long qr), .second, .val (.int s_), .val (.int t), .val (.int k_), .val (.ref xp), .val (.long d), .second, .val (.ref x2), .val (.double (FP.ddiv (FP.dmul (FP.dmul (FP.i2d t) (FP.i2d k_)) (4741671816366391296 : UInt64)) (FP.l2d d))), .second, .unset, .unset, .unset, .unset, .unset, .unset] [(.long ((t.toInt64) * (k_.toInt64)))]) fun _ _ X _ k => XS.lmul X.here hx rfl (hb hby d0_256) rfl k
    have A138 : own_R p l e _ _ m _ below meth c S0 n0 hA126 2 14 (mkF m 260 #[.val (.int p1), .val (.int p2), .val (.long qd), .second, .val (.int sel), .val (.long qr), .second, .val (.int s_), .val (.int t), .val (.int k_), .val (.ref xp), .val (.long d), .second, .val (.ref x2), .val (.double (FP.ddiv (FP.dmul (FP.dmul (FP.i2d t) (FP.i2d k_)) (4741671816366391296 : UInt64)) (FP.l2d d))), .second, .unset, .unset, .unset, .unset, .unset, .unset] [(.long (1000000000 : Int64)), (.long ((t.toInt64) * (k_.toInt64)))]) := A137.ldcL hx hZ hown (hb hby d0_257) (hw _ (List.mem_of_getElem? (i := 44) rfl))
    have A139 := A138.go (f' := mkF m 261 #[.val (.int p1), .val (.int p2), .val (.long qd), .second, .val (.int sel), .val (.long qr), .second, .val (.int s_), .val (.int t), .val (.int k_), .val (.ref xp), .val (.long d), .second, .val (.ref x2), .val (.double (FP.ddiv (FP.dmul (FP.dmul (FP.i2d t) (FP.i2d k_)) (4741671816366391296 : UInt64)) (FP.l2d d))), .second, .unset, .unset, .unset, .unset, .unset, .unset] [(.long (((t.toInt64) * (k_.toInt64)) * (1000000000 : Int64)))]) fun _ _ X _ k => XS.lmul X.here hx rfl (hb hby d0_260) rfl k
    obtain ⟨n, hn⟩ : ∃ zq_, zq_ = (((t.toInt64) * (k_.toInt64)) * (1000000000 : Int64)) := ⟨_, rfl⟩
    rw [← hn] at A139
    have A140 := A139.go (f' := mkF m 263 #[.val (.int p1), .val (.int p2), .val (.long qd), .second, .val (.int sel), .val (.long qr), .second, .val (.int s_), .val (.int t), .val (.int k_), .val (.ref xp), .val (.long d), .second, .val (.ref x2), .val (.double (FP.ddiv (FP.dmul (FP.dmul (FP.i2d t) (FP.i2d k_)) (4741671816366391296 : UInt64)) (FP.l2d d))), .second, .val (.long n), .second, .unset, .unset, .unset, .unset] []) fun _ _ X _ k => XS.lstore X.here hx rfl (hb hby d0_261) rfl (l' := #[.val (.int p1), .val (.int p2), .val (.long qd), .second, .val (.int sel), .val (.long qr), .second, .val (.int s_), .val (.int t), .val (.int k_), .val (.ref xp), .val (.long d), .second, .val (.ref x2), .val (.double (FP.ddiv (FP.dmul (FP.dmul (FP.i2d t) (FP.i2d k_)) (4741671816366391296 : UInt64)) (FP.l2d d))), .second, .val (.long n), .second, .unset, .unset, .unset, .unset]) rfl k
    have A141 := A140.go (f' := mkF m 265 #[.val (.int p1), .val (.int p2), .val (.long qd), .second, .val (.int sel), .val (.long qr), .second, .val (.int s_), .val (.int t), .val (.int k_), .val (.ref xp), .val (.long d), .second, .val (.ref x2), .val (.double (FP.ddiv (FP.dmul (FP.dmul (FP.i2d t) (FP.i2d k_)) (4741671816366391296 : UInt64)) (FP.l2d d))), .second, .val (.long n), .second, .unset, .unset, .unset, .unset] [(.long n)]) fun _ _ X _ k => XS.lload X.here hx rfl (hb hby d0_263) rfl k
    have A142 := A141.go (f' := mkF m 267 #[.val (.int p1), .val (.int p2), .val (.long qd), .second, .val (.int sel), .val (.long qr), .second, .val (.int s_), .val (.int t), .val (.int k_), .val (.ref xp), .val (.long d), .second, .val (.ref x2), .val (.double (FP.ddiv (FP.dmul (FP.dmul (FP.i2d t) (FP.i2d k_)) (4741671816366391296 : UInt64)) (FP.l2d d))), .second, .val (.long n), .second, .unset, .unset, .unset, .unset] [(.long d), (.long n)]) fun _ _ X _ k => XS.lload X.here hx rfl (hb hby d0_265) rfl k
    have A143 := A142.go (f' := mkF m 268 #[.val (.int p1), .val (.int p2), .val (.long qd), .second, .val (.int sel), .val (.long qr), .second, .val (.int s_), .val (.int t), .val (.int k_), .val (.ref xp), .val (.long d), .second, .val (.ref x2), .val (.double (FP.ddiv (FP.dmul (FP.dmul (FP.i2d t) (FP.i2d k_)) (4741671816366391296 : UInt64)) (FP.l2d d))), .second, .val (.long n), .second, .unset, .unset, .unset, .unset] [(.long (n / d))]) fun _ _ X _ k => XS.ldiv X.here hx rfl (hb hby d0_267) rfl (fun q => by have := hD.1; rw [q, own_c0] at this; omega) k
    obtain ⟨qq, hqq⟩ : ∃ zq_, zq_ = (n / d) := ⟨_, rfl⟩
    rw [← hqq] at A143
    have A144 := A143.go (f' := mkF m 270 #[.val (.int p1), .val (.int p2), .val (.long qd), .second, .val (.int sel), .val (.long qr), .second, .val (.int s_), .val (.int t), .val (.int k_), .val (.ref xp), .val (.long d), .second, .val (.ref x2), .val (.double (FP.ddiv (FP.dmul (FP.dmul (FP.i2d t) (FP.i2d k_)) (4741671816366391296 : UInt64)) (FP.l2d d))), .second, .val (.long n), .second, .val (.long qq), .second, .unset, .unset] []) fun _ _ X _ k => XS.lstore X.here hx rfl (hb hby d0_268) rfl (l' := #[.val (.int p1), .val (.int p2), .val (.long qd), .second, .val (.int sel), .val (.long qr), .second, .val (.int s_), .val (.int t), .val (.int k_), .val (.ref xp), .val (.long d), .second, .val (.ref x2), .val (.double (FP.ddiv (FP.dmul (FP.dmul (FP.i2d t) (FP.i2d k_)) (4741671816366391296 : UInt64)) (FP.l2d d))), .second, .val (.long n), .second, .val (.long qq), .second, .unset, .unset]) rfl k
    have A145 := A144.go (f' := mkF m 272 #[.val (.int p1), .val (.int p2), .val (.long qd), .second, .val (.int sel), .val (.long qr), .second, .val (.int s_), .val (.int t), .val (.int k_), .val (.ref xp), .val (.long d), .second, .val (.ref x2), .val (.double (FP.ddiv (FP.dmul (FP.dmul (FP.i2d t) (FP.i2d k_)) (4741671816366391296 : UInt64)) (FP.l2d d))), .second, .val (.long n), .second, .val (.long qq), .second, .unset, .unset] [(.long n)]) fun _ _ X _ k => XS.lload X.here hx rfl (hb hby d0_270) rfl k
    have A146 := A145.go (f' := mkF m 274 #[.val (.int p1), .val (.int p2), .val (.long qd), .second, .val (.int sel), .val (.long qr), .second, .val (.int s_), .val (.int t), .val (.int k_), .val (.ref xp), .val (.long d), .second, .val (.ref x2), .val (.double (FP.ddiv (FP.dmul (FP.dmul (FP.i2d t) (FP.i2d k_)) (4741671816366391296 : UInt64)) (FP.l2d d))), .second, .val (.long n), .second, .val (.long qq), .second, .unset, .unset] [(.long d), (.long n)]) fun _ _ X _ k => XS.lload X.here hx rfl (hb hby d0_272) rfl k
    have A147 := A146.go (f' := mkF m 275 #[.val (.int p1), .val (.int p2), .val (.long qd), .second, .val (.int sel), .val (.long qr), .second, .val (.int s_), .val (.int t), .val (.int k_), .val (.ref xp), .val (.long d), .second, .val (.ref x2), .val (.double (FP.ddiv (FP.dmul (FP.dmul (FP.i2d t) (FP.i2d k_)) (4741671816366391296 : UInt64)) (FP.l2d d))), .second, .val (.long n), .second, .val (.long qq), .second, .unset, .unset] [(.long (n - n / d * d))]) fun _ _ X _ k => XS.lrem X.here hx rfl (hb hby d0_274) rfl (fun q => by have := hD.1; rw [q, own_c0] at this; omega) k
    obtain ⟨rem, hrem⟩ : ∃ zq_, zq_ = (n - n / d * d) := ⟨_, rfl⟩
    rw [← hrem] at A147
    have A148 := A147.go (f' := mkF m 277 #[.val (.int p1), .val (.int p2), .val (.long qd), .second, .val (.int sel), .val (.long qr), .second, .val (.int s_), .val (.int t), .val (.int k_), .val (.ref xp), .val (.long d), .second, .val (.ref x2), .val (.double (FP.ddiv (FP.dmul (FP.dmul (FP.i2d t) (FP.i2d k_)) (4741671816366391296 : UInt64)) (FP.l2d d))), .second, .val (.long n), .second, .val (.long qq), .second, .val (.long rem), .second] []) fun _ _ X _ k => XS.lstore X.here hx rfl (hb hby d0_275) rfl (l' := #[.val (.int p1), .val (.int p2), .val (.long qd), .second, .val (.int sel), .val (.long qr), .second, .val (.int s_), .val (.int t), .val (.int k_), .val (.ref xp), .val (.long d), .second, .val (.ref x2), .val (.double (FP.ddiv (FP.dmul (FP.dmul (FP.i2d t) (FP.i2d k_)) (4741671816366391296 : UInt64)) (FP.l2d d))), .second, .val (.long n), .second, .val (.long qq), .second, .val (.long rem), .second]) rfl k
    have A149 := A148.go (f' := mkF m 279 #[.val (.int p1), .val (.int p2), .val (.long qd), .second, .val (.int sel), .val (.long qr), .second, .val (.int s_), .val (.int t), .val (.int k_), .val (.ref xp), .val (.long d), .second, .val (.ref x2), .val (.double (FP.ddiv (FP.dmul (FP.dmul (FP.i2d t) (FP.i2d k_)) (4741671816366391296 : UInt64)) (FP.l2d d))), .second, .val (.long n), .second, .val (.long qq), .second, .val (.long rem), .second] [(.long rem)]) fun _ _ X _ k => XS.lload X.here hx rfl (hb hby d0_277) rfl k
    have A150 := A149.go (f' := mkF m 280 #[.val (.int p1), .val (.int p2), .val (.long qd), .second, .val (.int sel), .val (.long qr), .second, .val (.int s_), .val (.int t), .val (.int k_), .val (.ref xp), .val (.long d), .second, .val (.ref x2), .val (.double (FP.ddiv (FP.dmul (FP.dmul (FP.i2d t) (FP.i2d k_)) (4741671816366391296 : UInt64)) (FP.l2d d))), .second, .val (.long n), .second, .val (.long qq), .second, .val (.long rem), .second] [(.long (0 : Int64)), (.long rem)]) fun _ _ X _ k => XS.lconst X.here hx rfl (hb hby d0_279) k
    have A151 := A150.go (f' := mkF m 281 #[.val (.int p1), .val (.int p2), .val (.long qd), .second, .val (.int sel), .val (.long qr), .second, .val (.int s_), .val (.int t), .val (.int k_), .val (.ref xp), .val (.long d), .second, .val (.ref x2), .val (.double (FP.ddiv (FP.dmul (FP.dmul (FP.i2d t) (FP.i2d k_)) (4741671816366391296 : UInt64)) (FP.l2d d))), .second, .val (.long n), .second, .val (.long qq), .second, .val (.long rem), .second] [(.int (lcmpW rem (0 : Int64)))]) fun _ _ X _ k => XS.lcmp X.here hx rfl (hb hby d0_280) rfl k
    by_cases q152 : (lcmpW rem (0 : Int64)) = (0 : Int32)
    · skip
      have A153 := A151.go (f' := mkF m 284 #[.val (.int p1), .val (.int p2), .val (.long qd), .second, .val (.int sel), .val (.long qr), .second, .val (.int s_), .val (.int t), .val (.int k_), .val (.ref xp), .val (.long d), .second, .val (.ref x2), .val (.double (FP.ddiv (FP.dmul (FP.dmul (FP.i2d t) (FP.i2d k_)) (4741671816366391296 : UInt64)) (FP.l2d d))), .second, .val (.long n), .second, .val (.long qq), .second, .val (.long rem), .second] []) fun _ _ X _ k => XS.ifNo X.here hx rfl (hb hby d0_281) rfl ((if0 _ _).trans (teq q152).2) k
      have A154 := A153.go (f' := mkF m 286 #[.val (.int p1), .val (.int p2), .val (.long qd), .second, .val (.int sel), .val (.long qr), .second, .val (.int s_), .val (.int t), .val (.int k_), .val (.ref xp), .val (.long d), .second, .val (.ref x2), .val (.double (FP.ddiv (FP.dmul (FP.dmul (FP.i2d t) (FP.i2d k_)) (4741671816366391296 : UInt64)) (FP.l2d d))), .second, .val (.long n), .second, .val (.long qq), .second, .val (.long rem), .second] [(.double (FP.ddiv (FP.dmul (FP.dmul (FP.i2d t) (FP.i2d k_)) (4741671816366391296 : UInt64)) (FP.l2d d)))]) fun _ _ X _ k => XS.dload X.here hx rfl (hb hby d0_284) rfl k
      have A155 := A154.go (f' := mkF m 288 #[.val (.int p1), .val (.int p2), .val (.long qd), .second, .val (.int sel), .val (.long qr), .second, .val (.int s_), .val (.int t), .val (.int k_), .val (.ref xp), .val (.long d), .second, .val (.ref x2), .val (.double (FP.ddiv (FP.dmul (FP.dmul (FP.i2d t) (FP.i2d k_)) (4741671816366391296 : UInt64)) (FP.l2d d))), .second, .val (.long n), .second, .val (.long qq), .second, .val (.long rem), .second] [(.long qq), (.double (FP.ddiv (FP.dmul (FP.dmul (FP.i2d t) (FP.i2d k_)) (4741671816366391296 : UInt64)) (FP.l2d d)))]) fun _ _ X _ k => XS.lload X.here hx rfl (hb hby d0_286) rfl k
      have A156 := A155.go (f' := mkF m 289 #[.val (.int p1), .val (.int p2), .val (.long qd), .second, .val (.int sel), .val (.long qr), .second, .val (.int s_), .val (.int t), .val (.int k_), .val (.ref xp), .val (.long d), .second, .val (.ref x2), .val (.double (FP.ddiv (FP.dmul (FP.dmul (FP.i2d t) (FP.i2d k_)) (4741671816366391296 : UInt64)) (FP.l2d d))), .second, .val (.long n), .second, .val (.long qq), .second, .val (.long rem), .second] [(.double (FP.l2d qq)), (.double (FP.ddiv (FP.dmul (FP.dmul (FP.i2d t) (FP.i2d k_)) (4741671816366391296 : UInt64)) (FP.l2d d)))]) fun _ _ X _ k => XS.l2dS X.here hx rfl (hb hby d0_288) rfl rfl k
      have A157 := A156.go (f' := mkF m 290 #[.val (.int p1), .val (.int p2), .val (.long qd), .second, .val (.int sel), .val (.long qr), .second, .val (.int s_), .val (.int t), .val (.int k_), .val (.ref xp), .val (.long d), .second, .val (.ref x2), .val (.double (FP.ddiv (FP.dmul (FP.dmul (FP.i2d t) (FP.i2d k_)) (4741671816366391296 : UInt64)) (FP.l2d d))), .second, .val (.long n), .second, .val (.long qq), .second, .val (.long rem), .second] [(.int (cmpValue (FP.dcmp (FP.ddiv (FP.dmul (FP.dmul (FP.i2d t) (FP.i2d k_)) (4741671816366391296 : UInt64)) (FP.l2d d)) (FP.l2d qq)) .l))]) fun _ _ X _ k => XS.dcmpS X.here hx rfl (hb hby d0_289) rfl rfl k
      have q158 : ((cmpValue (FP.dcmp (FP.ddiv (FP.dmul (FP.dmul (FP.i2d t) (FP.i2d k_)) (4741671816366391296 : UInt64)) (FP.l2d d)) (FP.l2d qq)) .l) = (0 : Int32)) := own_fin0 hTK hn hD hqq hrem ((lw_eq _ _).mp q152)
      have A159 := A157.go (f' := mkF m 293 #[.val (.int p1), .val (.int p2), .val (.long qd), .second, .val (.int sel), .val (.long qr), .second, .val (.int s_), .val (.int t), .val (.int k_), .val (.ref xp), .val (.long d), .second, .val (.ref x2), .val (.double (FP.ddiv (FP.dmul (FP.dmul (FP.i2d t) (FP.i2d k_)) (4741671816366391296 : UInt64)) (FP.l2d d))), .second, .val (.long n), .second, .val (.long qq), .second, .val (.long rem), .second] []) fun _ _ X _ k => XS.ifNo X.here hx rfl (hb hby d0_290) rfl ((if0 _ _).trans (teq q158).2) k
      have A160 := A159.go (f' := mkF m 294 #[.val (.int p1), .val (.int p2), .val (.long qd), .second, .val (.int sel), .val (.long qr), .second, .val (.int s_), .val (.int t), .val (.int k_), .val (.ref xp), .val (.long d), .second, .val (.ref x2), .val (.double (FP.ddiv (FP.dmul (FP.dmul (FP.i2d t) (FP.i2d k_)) (4741671816366391296 : UInt64)) (FP.l2d d))), .second, .val (.long n), .second, .val (.long qq), .second, .val (.long rem), .second] [(.int (1 : Int32))]) fun _ _ X _ k => XS.iconst X.here hx rfl (hb hby d0_293) k
      have A161 := A160.go (f' := mkF m 298 #[.val (.int p1), .val (.int p2), .val (.long qd), .second, .val (.int sel), .val (.long qr), .second, .val (.int s_), .val (.int t), .val (.int k_), .val (.ref xp), .val (.long d), .second, .val (.ref x2), .val (.double (FP.ddiv (FP.dmul (FP.dmul (FP.i2d t) (FP.i2d k_)) (4741671816366391296 : UInt64)) (FP.l2d d))), .second, .val (.long n), .second, .val (.long qq), .second, .val (.long rem), .second] [(.int (1 : Int32))]) fun _ _ X _ k => XS.goto X.here hx rfl (pc0 := 294) (pc' := 298) rfl (hb hby d0_294) (by decide) (by decide) k
      exact A161.ret hx hlk hret (hb hby d0_298) rfl (Or.inl ⟨rfl, by simp, _, rfl⟩) (by decide) (by decide) ⟨rfl, trivial⟩
    · skip
      have A162 := A151.go (f' := mkF m 299 #[.val (.int p1), .val (.int p2), .val (.long qd), .second, .val (.int sel), .val (.long qr), .second, .val (.int s_), .val (.int t), .val (.int k_), .val (.ref xp), .val (.long d), .second, .val (.ref x2), .val (.double (FP.ddiv (FP.dmul (FP.dmul (FP.i2d t) (FP.i2d k_)) (4741671816366391296 : UInt64)) (FP.l2d d))), .second, .val (.long n), .second, .val (.long qq), .second, .val (.long rem), .second] []) fun _ _ X _ k => XS.ifYes X.here hx rfl (pc0 := 281) (pc' := 299) rfl (hb hby d0_281) rfl ((if0 _ _).trans (feq q152).2) (by decide) (by decide) k
      have A163 := A162.go (f' := mkF m 301 #[.val (.int p1), .val (.int p2), .val (.long qd), .second, .val (.int sel), .val (.long qr), .second, .val (.int s_), .val (.int t), .val (.int k_), .val (.ref xp), .val (.long d), .second, .val (.ref x2), .val (.double (FP.ddiv (FP.dmul (FP.dmul (FP.i2d t) (FP.i2d k_)) (4741671816366391296 : UInt64)) (FP.l2d d))), .second, .val (.long n), .second, .val (.long qq), .second, .val (.long rem), .second] [(.long qq)]) fun _ _ X _ k => XS.lload X.here hx rfl (hb hby d0_299) rfl k
      have A164 := A163.go (f' := mkF m 302 #[.val (.int p1), .val (.int p2), .val (.long qd), .second, .val (.int sel), .val (.long qr), .second, .val (.int s_), .val (.int t), .val (.int k_), .val (.ref xp), .val (.long d), .second, .val (.ref x2), .val (.double (FP.ddiv (FP.dmul (FP.dmul (FP.i2d t) (FP.i2d k_)) (4741671816366391296 : UInt64)) (FP.l2d d))), .second, .val (.long n), .second, .val (.long qq), .second, .val (.long rem), .second] [(.double (FP.l2d qq))]) fun _ _ X _ k => XS.l2dS X.here hx rfl (hb hby d0_301) rfl rfl k
      have A165 := A164.go (f' := mkF m 304 #[.val (.int p1), .val (.int p2), .val (.long qd), .second, .val (.int sel), .val (.long qr), .second, .val (.int s_), .val (.int t), .val (.int k_), .val (.ref xp), .val (.long d), .second, .val (.ref x2), .val (.double (FP.ddiv (FP.dmul (FP.dmul (FP.i2d t) (FP.i2d k_)) (4741671816366391296 : UInt64)) (FP.l2d d))), .second, .val (.long n), .second, .val (.long qq), .second, .val (.long rem), .second] [(.double (FP.ddiv (FP.dmul (FP.dmul (FP.i2d t) (FP.i2d k_)) (4741671816366391296 : UInt64)) (FP.l2d d))), (.double (FP.l2d qq))]) fun _ _ X _ k => XS.dload X.here hx rfl (hb hby d0_302) rfl k
      have A166 := A165.go (f' := mkF m 305 #[.val (.int p1), .val (.int p2), .val (.long qd), .second, .val (.int sel), .val (.long qr), .second, .val (.int s_), .val (.int t), .val (.int k_), .val (.ref xp), .val (.long d), .second, .val (.ref x2), .val (.double (FP.ddiv (FP.dmul (FP.dmul (FP.i2d t) (FP.i2d k_)) (4741671816366391296 : UInt64)) (FP.l2d d))), .second, .val (.long n), .second, .val (.long qq), .second, .val (.long rem), .second] [(.int (cmpValue (FP.dcmp (FP.l2d qq) (FP.ddiv (FP.dmul (FP.dmul (FP.i2d t) (FP.i2d k_)) (4741671816366391296 : UInt64)) (FP.l2d d))) .g))]) fun _ _ X _ k => XS.dcmpS X.here hx rfl (hb hby d0_304) rfl rfl k
      have q167 : ¬ ((0 : Int32) < (cmpValue (FP.dcmp (FP.l2d qq) (FP.ddiv (FP.dmul (FP.dmul (FP.i2d t) (FP.i2d k_)) (4741671816366391296 : UInt64)) (FP.l2d d))) .g)) := own_fin1 hTK hn hD hqq hrem
      have A168 := A166.go (f' := mkF m 308 #[.val (.int p1), .val (.int p2), .val (.long qd), .second, .val (.int sel), .val (.long qr), .second, .val (.int s_), .val (.int t), .val (.int k_), .val (.ref xp), .val (.long d), .second, .val (.ref x2), .val (.double (FP.ddiv (FP.dmul (FP.dmul (FP.i2d t) (FP.i2d k_)) (4741671816366391296 : UInt64)) (FP.l2d d))), .second, .val (.long n), .second, .val (.long qq), .second, .val (.long rem), .second] []) fun _ _ X _ k => XS.ifNo X.here hx rfl (hb hby d0_305) rfl ((if0 _ _).trans (flt q167).2.2.1) k
      have A169 := A168.go (f' := mkF m 310 #[.val (.int p1), .val (.int p2), .val (.long qd), .second, .val (.int sel), .val (.long qr), .second, .val (.int s_), .val (.int t), .val (.int k_), .val (.ref xp), .val (.long d), .second, .val (.ref x2), .val (.double (FP.ddiv (FP.dmul (FP.dmul (FP.i2d t) (FP.i2d k_)) (4741671816366391296 : UInt64)) (FP.l2d d))), .second, .val (.long n), .second, .val (.long qq), .second, .val (.long rem), .second] [(.double (FP.ddiv (FP.dmul (FP.dmul (FP.i2d t) (FP.i2d k_)) (4741671816366391296 : UInt64)) (FP.l2d d)))]) fun _ _ X _ k => XS.dload X.here hx rfl (hb hby d0_308) rfl k
      have A170 := A169.go (f' := mkF m 312 #[.val (.int p1), .val (.int p2), .val (.long qd), .second, .val (.int sel), .val (.long qr), .second, .val (.int s_), .val (.int t), .val (.int k_), .val (.ref xp), .val (.long d), .second, .val (.ref x2), .val (.double (FP.ddiv (FP.dmul (FP.dmul (FP.i2d t) (FP.i2d k_)) (4741671816366391296 : UInt64)) (FP.l2d d))), .second, .val (.long n), .second, .val (.long qq), .second, .val (.long rem), .second] [(.long qq), (.double (FP.ddiv (FP.dmul (FP.dmul (FP.i2d t) (FP.i2d k_)) (4741671816366391296 : UInt64)) (FP.l2d d)))]) fun _ _ X _ k => XS.lload X.here hx rfl (hb hby d0_310) rfl k
      have A171 := A170.go (f' := mkF m 313 #[.val (.int p1), .val (.int p2), .val (.long qd), .second, .val (.int sel), .val (.long qr), .second, .val (.int s_), .val (.int t), .val (.int k_), .val (.ref xp), .val (.long d), .second, .val (.ref x2), .val (.double (FP.ddiv (FP.dmul (FP.dmul (FP.i2d t) (FP.i2d k_)) (4741671816366391296 : UInt64)) (FP.l2d d))), .second, .val (.long n), .second, .val (.long qq), .second, .val (.long rem), .second] [(.long (1 : Int64)), (.long qq), (.double (FP.ddiv (FP.dmul (FP.dmul (FP.i2d t) (FP.i2d k_)) (4741671816366391296 : UInt64)) (FP.l2d d)))]) fun _ _ X _ k => XS.lconst X.here hx rfl (hb hby d0_312) k
      have A172 := A171.go (f' := mkF m 314 #[.val (.int p1), .val (.int p2), .val (.long qd), .second, .val (.int sel), .val (.long qr), .second, .val (.int s_), .val (.int t), .val (.int k_), .val (.ref xp), .val (.long d), .second, .val (.ref x2), .val (.double (FP.ddiv (FP.dmul (FP.dmul (FP.i2d t) (FP.i2d k_)) (4741671816366391296 : UInt64)) (FP.l2d d))), .second, .val (.long n), .second, .val (.long qq), .second, .val (.long rem), .second] [(.long (qq + (1 : Int64))), (.double (FP.ddiv (FP.dmul (FP.dmul (FP.i2d t) (FP.i2d k_)) (4741671816366391296 : UInt64)) (FP.l2d d)))]) fun _ _ X _ k => XS.ladd X.here hx rfl (hb hby d0_313) rfl k
      have A173 := A172.go (f' := mkF m 315 #[.val (.int p1), .val (.int p2), .val (.long qd), .second, .val (.int sel), .val (.long qr), .second, .val (.int s_), .val (.int t), .val (.int k_), .val (.ref xp), .val (.long d), .second, .val (.ref x2), .val (.double (FP.ddiv (FP.dmul (FP.dmul (FP.i2d t) (FP.i2d k_)) (4741671816366391296 : UInt64)) (FP.l2d d))), .second, .val (.long n), .second, .val (.long qq), .second, .val (.long rem), .second] [(.double (FP.l2d (qq + (1 : Int64)))), (.double (FP.ddiv (FP.dmul (FP.dmul (FP.i2d t) (FP.i2d k_)) (4741671816366391296 : UInt64)) (FP.l2d d)))]) fun _ _ X _ k => XS.l2dS X.here hx rfl (hb hby d0_314) rfl rfl k
      have A174 := A173.go (f' := mkF m 316 #[.val (.int p1), .val (.int p2), .val (.long qd), .second, .val (.int sel), .val (.long qr), .second, .val (.int s_), .val (.int t), .val (.int k_), .val (.ref xp), .val (.long d), .second, .val (.ref x2), .val (.double (FP.ddiv (FP.dmul (FP.dmul (FP.i2d t) (FP.i2d k_)) (4741671816366391296 : UInt64)) (FP.l2d d))), .second, .val (.long n), .second, .val (.long qq), .second, .val (.long rem), .second] [(.int (cmpValue (FP.dcmp (FP.ddiv (FP.dmul (FP.dmul (FP.i2d t) (FP.i2d k_)) (4741671816366391296 : UInt64)) (FP.l2d d)) (FP.l2d (qq + (1 : Int64)))) .g))]) fun _ _ X _ k => XS.dcmpS X.here hx rfl (hb hby d0_315) rfl rfl k
      have q175 : ¬ ((0 : Int32) < (cmpValue (FP.dcmp (FP.ddiv (FP.dmul (FP.dmul (FP.i2d t) (FP.i2d k_)) (4741671816366391296 : UInt64)) (FP.l2d d)) (FP.l2d (qq + (1 : Int64)))) .g)) := own_fin2 hTK hn hD hqq hrem
      have A176 := A174.go (f' := mkF m 319 #[.val (.int p1), .val (.int p2), .val (.long qd), .second, .val (.int sel), .val (.long qr), .second, .val (.int s_), .val (.int t), .val (.int k_), .val (.ref xp), .val (.long d), .second, .val (.ref x2), .val (.double (FP.ddiv (FP.dmul (FP.dmul (FP.i2d t) (FP.i2d k_)) (4741671816366391296 : UInt64)) (FP.l2d d))), .second, .val (.long n), .second, .val (.long qq), .second, .val (.long rem), .second] []) fun _ _ X _ k => XS.ifNo X.here hx rfl (hb hby d0_316) rfl ((if0 _ _).trans (flt q175).2.2.1) k
      have A177 := A176.go (f' := mkF m 320 #[.val (.int p1), .val (.int p2), .val (.long qd), .second, .val (.int sel), .val (.long qr), .second, .val (.int s_), .val (.int t), .val (.int k_), .val (.ref xp), .val (.long d), .second, .val (.ref x2), .val (.double (FP.ddiv (FP.dmul (FP.dmul (FP.i2d t) (FP.i2d k_)) (4741671816366391296 : UInt64)) (FP.l2d d))), .second, .val (.long n), .second, .val (.long qq), .second, .val (.long rem), .second] [(.int (1 : Int32))]) fun _ _ X _ k => XS.iconst X.here hx rfl (hb hby d0_319) k
      have A178 := A177.go (f' := mkF m 324 #[.val (.int p1), .val (.int p2), .val (.long qd), .second, .val (.int sel), .val (.long qr), .second, .val (.int s_), .val (.int t), .val (.int k_), .val (.ref xp), .val (.long d), .second, .val (.ref x2), .val (.double (FP.ddiv (FP.dmul (FP.dmul (FP.i2d t) (FP.i2d k_)) (4741671816366391296 : UInt64)) (FP.l2d d))), .second, .val (.long n), .second, .val (.long qq), .second, .val (.long rem), .second] [(.int (1 : Int32))]) fun _ _ X _ k => XS.goto X.here hx rfl (pc0 := 320) (pc' := 324) rfl (hb hby d0_320) (by decide) (by decide) k
      exact A178.ret hx hlk hret (hb hby d0_324) rfl (Or.inl ⟨rfl, by simp, _, rfl⟩) (by decide) (by decide) ⟨rfl, trivial⟩
  · skip
    have A179 := A107.go (f' := mkF m 128 #[.val (.int p1), .val (.int p2), .val (.long qd), .second, .val (.int sel), .val (.long qr), .second, .val (.int s_), .val (.int t), .val (.int k_), .val (.ref xp), .unset, .unset, .unset, .unset, .unset, .unset, .unset, .unset, .unset, .unset, .unset] []) fun _ _ X _ k => XS.ifYes X.here hx rfl (pc0 := 113) (pc' := 128) rfl (hb hby d0_113) rfl ((if0 _ _).trans (feq q108).2) (by decide) (by decide) k
    have A180 := A179.go (f' := mkF m 130 #[.val (.int p1), .val (.int p2), .val (.long qd), .second, .val (.int sel), .val (.long qr), .second, .val (.int s_), .val (.int t), .val (.int k_), .val (.ref xp), .unset, .unset, .unset, .unset, .unset, .unset, .unset, .unset, .unset, .unset, .unset] [(.int sel)]) fun _ _ X _ k => XS.iload X.here hx rfl (hb hby d0_128) rfl k
    have A181 := A180.go (f' := mkF m 132 #[.val (.int p1), .val (.int p2), .val (.long qd), .second, .val (.int sel), .val (.long qr), .second, .val (.int s_), .val (.int t), .val (.int k_), .val (.ref xp), .unset, .unset, .unset, .unset, .unset, .unset, .unset, .unset, .unset, .unset, .unset] [(.int (6 : Int32)), (.int sel)]) fun _ _ X _ k => XS.bipush X.here hx rfl (hb hby d0_130) k
    have A182 := A181.go (f' := mkF m 133 #[.val (.int p1), .val (.int p2), .val (.long qd), .second, .val (.int sel), .val (.long qr), .second, .val (.int s_), .val (.int t), .val (.int k_), .val (.ref xp), .unset, .unset, .unset, .unset, .unset, .unset, .unset, .unset, .unset, .unset, .unset] [(.int ((sel.toUInt32 >>> ((6 : Int32) &&& 31).toUInt32).toInt32))]) fun _ _ X _ k => XS.iushr X.here hx rfl (hb hby d0_132) rfl k
    have A183 := A182.go (f' := mkF m 135 #[.val (.int p1), .val (.int p2), .val (.long qd), .second, .val (.int sel), .val (.long qr), .second, .val (.int s_), .val (.int t), .val (.int k_), .val (.ref xp), .unset, .unset, .unset, .unset, .unset, .unset, .unset, .unset, .unset, .unset, .unset] [(.int (15 : Int32)), (.int ((sel.toUInt32 >>> ((6 : Int32) &&& 31).toUInt32).toInt32))]) fun _ _ X _ k => XS.bipush X.here hx rfl (hb hby d0_133) k
    have A184 := A183.go (f' := mkF m 136 #[.val (.int p1), .val (.int p2), .val (.long qd), .second, .val (.int sel), .val (.long qr), .second, .val (.int s_), .val (.int t), .val (.int k_), .val (.ref xp), .unset, .unset, .unset, .unset, .unset, .unset, .unset, .unset, .unset, .unset, .unset] [(.int (((sel.toUInt32 >>> ((6 : Int32) &&& 31).toUInt32).toInt32) &&& (15 : Int32)))]) fun _ _ X _ k => XS.iand X.here hx rfl (hb hby d0_135) rfl k
    have A185 := A184.go (f' := mkF m 138 #[.val (.int p1), .val (.int p2), .val (.long qd), .second, .val (.int sel), .val (.long qr), .second, .val (.int s_), .val (.int t), .val (.int k_), .val (.ref xp), .unset, .unset, .unset, .unset, .unset, .unset, .unset, .unset, .unset, .unset, .unset] [(.int (10 : Int32)), (.int (((sel.toUInt32 >>> ((6 : Int32) &&& 31).toUInt32).toInt32) &&& (15 : Int32)))]) fun _ _ X _ k => XS.bipush X.here hx rfl (hb hby d0_136) k
    have A186 := A185.go (f' := mkF m 139 #[.val (.int p1), .val (.int p2), .val (.long qd), .second, .val (.int sel), .val (.long qr), .second, .val (.int s_), .val (.int t), .val (.int k_), .val (.ref xp), .unset, .unset, .unset, .unset, .unset, .unset, .unset, .unset, .unset, .unset, .unset] [(.int ((((sel.toUInt32 >>> ((6 : Int32) &&& 31).toUInt32).toInt32) &&& (15 : Int32)) % (10 : Int32)))]) fun _ _ X _ k => iremM X hx rfl (hb hby d0_138) rfl (by decide) k
    obtain ⟨a_, ha_⟩ : ∃ zq_, zq_ = ((((sel.toUInt32 >>> ((6 : Int32) &&& 31).toUInt32).toInt32) &&& (15 : Int32)) % (10 : Int32)) := ⟨_, rfl⟩
    rw [← ha_] at A186
    have hA := own_a10 ha_
    have A187 := A186.go (f' := mkF m 141 #[.val (.int p1), .val (.int p2), .val (.long qd), .second, .val (.int sel), .val (.long qr), .second, .val (.int s_), .val (.int t), .val (.int k_), .val (.ref xp), .unset, .unset, .val (.int a_), .unset, .unset, .unset, .unset, .unset, .unset, .unset, .unset] []) fun _ _ X _ k => XS.istore X.here hx rfl (hb hby d0_139) rfl (l' := #[.val (.int p1), .val (.int p2), .val (.long qd), .second, .val (.int sel), .val (.long qr), .second, .val (.int s_), .val (.int t), .val (.int k_), .val (.ref xp), .unset, .unset, .val (.int a_), .unset, .unset, .unset, .unset, .unset, .unset, .unset, .unset]) rfl k
    have A188 := A187.go (f' := mkF m 143 #[.val (.int p1), .val (.int p2), .val (.long qd), .second, .val (.int sel), .val (.long qr), .second, .val (.int s_), .val (.int t), .val (.int k_), .val (.ref xp), .unset, .unset, .val (.int a_), .unset, .unset, .unset, .unset, .unset, .unset, .unset, .unset] [(.int sel)]) fun _ _ X _ k => XS.iload X.here hx rfl (hb hby d0_141) rfl k
    have A189 := A188.go (f' := mkF m 145 #[.val (.int p1), .val (.int p2), .val (.long qd), .second, .val (.int sel), .val (.long qr), .second, .val (.int s_), .val (.int t), .val (.int k_), .val (.ref xp), .unset, .unset, .val (.int a_), .unset, .unset, .unset, .unset, .unset, .unset, .unset, .unset] [(.int (10 : Int32)), (.int sel)]) fun _ _ X _ k => XS.bipush X.here hx rfl (hb hby d0_143) k
    have A190 := A189.go (f' := mkF m 146 #[.val (.int p1), .val (.int p2), .val (.long qd), .second, .val (.int sel), .val (.long qr), .second, .val (.int s_), .val (.int t), .val (.int k_), .val (.ref xp), .unset, .unset, .val (.int a_), .unset, .unset, .unset, .unset, .unset, .unset, .unset, .unset] [(.int ((sel.toUInt32 >>> ((10 : Int32) &&& 31).toUInt32).toInt32))]) fun _ _ X _ k => XS.iushr X.here hx rfl (hb hby d0_145) rfl k
    have A191 := A190.go (f' := mkF m 148 #[.val (.int p1), .val (.int p2), .val (.long qd), .second, .val (.int sel), .val (.long qr), .second, .val (.int s_), .val (.int t), .val (.int k_), .val (.ref xp), .unset, .unset, .val (.int a_), .unset, .unset, .unset, .unset, .unset, .unset, .unset, .unset] [(.int (15 : Int32)), (.int ((sel.toUInt32 >>> ((10 : Int32) &&& 31).toUInt32).toInt32))]) fun _ _ X _ k => XS.bipush X.here hx rfl (hb hby d0_146) k
    have A192 := A191.go (f' := mkF m 149 #[.val (.int p1), .val (.int p2), .val (.long qd), .second, .val (.int sel), .val (.long qr), .second, .val (.int s_), .val (.int t), .val (.int k_), .val (.ref xp), .unset, .unset, .val (.int a_), .unset, .unset, .unset, .unset, .unset, .unset, .unset, .unset] [(.int (((sel.toUInt32 >>> ((10 : Int32) &&& 31).toUInt32).toInt32) &&& (15 : Int32)))]) fun _ _ X _ k => XS.iand X.here hx rfl (hb hby d0_148) rfl k
    have A193 := A192.go (f' := mkF m 151 #[.val (.int p1), .val (.int p2), .val (.long qd), .second, .val (.int sel), .val (.long qr), .second, .val (.int s_), .val (.int t), .val (.int k_), .val (.ref xp), .unset, .unset, .val (.int a_), .unset, .unset, .unset, .unset, .unset, .unset, .unset, .unset] [(.int (10 : Int32)), (.int (((sel.toUInt32 >>> ((10 : Int32) &&& 31).toUInt32).toInt32) &&& (15 : Int32)))]) fun _ _ X _ k => XS.bipush X.here hx rfl (hb hby d0_149) k
    have A194 := A193.go (f' := mkF m 152 #[.val (.int p1), .val (.int p2), .val (.long qd), .second, .val (.int sel), .val (.long qr), .second, .val (.int s_), .val (.int t), .val (.int k_), .val (.ref xp), .unset, .unset, .val (.int a_), .unset, .unset, .unset, .unset, .unset, .unset, .unset, .unset] [(.int ((((sel.toUInt32 >>> ((10 : Int32) &&& 31).toUInt32).toInt32) &&& (15 : Int32)) % (10 : Int32)))]) fun _ _ X _ k => iremM X hx rfl (hb hby d0_151) rfl (by decide) k
    obtain ⟨b_, hb_⟩ : ∃ zq_, zq_ = ((((sel.toUInt32 >>> ((10 : Int32) &&& 31).toUInt32).toInt32) &&& (15 : Int32)) % (10 : Int32)) := ⟨_, rfl⟩
    rw [← hb_] at A194
    have hB := own_a10 hb_
    have A195 := A194.go (f' := mkF m 154 #[.val (.int p1), .val (.int p2), .val (.long qd), .second, .val (.int sel), .val (.long qr), .second, .val (.int s_), .val (.int t), .val (.int k_), .val (.ref xp), .unset, .unset, .val (.int a_), .val (.int b_), .unset, .unset, .unset, .unset, .unset, .unset, .unset] []) fun _ _ X _ k => XS.istore X.here hx rfl (hb hby d0_152) rfl (l' := #[.val (.int p1), .val (.int p2), .val (.long qd), .second, .val (.int sel), .val (.long qr), .second, .val (.int s_), .val (.int t), .val (.int k_), .val (.ref xp), .unset, .unset, .val (.int a_), .val (.int b_), .unset, .unset, .unset, .unset, .unset, .unset, .unset]) rfl k
    have A196 := A195.go (f' := mkF m 156 #[.val (.int p1), .val (.int p2), .val (.long qd), .second, .val (.int sel), .val (.long qr), .second, .val (.int s_), .val (.int t), .val (.int k_), .val (.ref xp), .unset, .unset, .val (.int a_), .val (.int b_), .unset, .unset, .unset, .unset, .unset, .unset, .unset] [(.int sel)]) fun _ _ X _ k => XS.iload X.here hx rfl (hb hby d0_154) rfl k
    have A197 := A196.go (f' := mkF m 158 #[.val (.int p1), .val (.int p2), .val (.long qd), .second, .val (.int sel), .val (.long qr), .second, .val (.int s_), .val (.int t), .val (.int k_), .val (.ref xp), .unset, .unset, .val (.int a_), .val (.int b_), .unset, .unset, .unset, .unset, .unset, .unset, .unset] [(.int (14 : Int32)), (.int sel)]) fun _ _ X _ k => XS.bipush X.here hx rfl (hb hby d0_156) k
    have A198 := A197.go (f' := mkF m 159 #[.val (.int p1), .val (.int p2), .val (.long qd), .second, .val (.int sel), .val (.long qr), .second, .val (.int s_), .val (.int t), .val (.int k_), .val (.ref xp), .unset, .unset, .val (.int a_), .val (.int b_), .unset, .unset, .unset, .unset, .unset, .unset, .unset] [(.int ((sel.toUInt32 >>> ((14 : Int32) &&& 31).toUInt32).toInt32))]) fun _ _ X _ k => XS.iushr X.here hx rfl (hb hby d0_158) rfl k
    have A199 := A198.go (f' := mkF m 160 #[.val (.int p1), .val (.int p2), .val (.long qd), .second, .val (.int sel), .val (.long qr), .second, .val (.int s_), .val (.int t), .val (.int k_), .val (.ref xp), .unset, .unset, .val (.int a_), .val (.int b_), .unset, .unset, .unset, .unset, .unset, .unset, .unset] [(.int (3 : Int32)), (.int ((sel.toUInt32 >>> ((14 : Int32) &&& 31).toUInt32).toInt32))]) fun _ _ X _ k => XS.iconst X.here hx rfl (hb hby d0_159) k
    have A200 := A199.go (f' := mkF m 161 #[.val (.int p1), .val (.int p2), .val (.long qd), .second, .val (.int sel), .val (.long qr), .second, .val (.int s_), .val (.int t), .val (.int k_), .val (.ref xp), .unset, .unset, .val (.int a_), .val (.int b_), .unset, .unset, .unset, .unset, .unset, .unset, .unset] [(.int (((sel.toUInt32 >>> ((14 : Int32) &&& 31).toUInt32).toInt32) &&& (3 : Int32)))]) fun _ _ X _ k => XS.iand X.here hx rfl (hb hby d0_160) rfl k
    obtain ⟨gs, hgs⟩ : ∃ zq_, zq_ = (((sel.toUInt32 >>> ((14 : Int32) &&& 31).toUInt32).toInt32) &&& (3 : Int32)) := ⟨_, rfl⟩
    rw [← hgs] at A200
    have A201 := A200.go (f' := mkF m 163 #[.val (.int p1), .val (.int p2), .val (.long qd), .second, .val (.int sel), .val (.long qr), .second, .val (.int s_), .val (.int t), .val (.int k_), .val (.ref xp), .unset, .unset, .val (.int a_), .val (.int b_), .val (.int gs), .unset, .unset, .unset, .unset, .unset, .unset] []) fun _ _ X _ k => XS.istore X.here hx rfl (hb hby d0_161) rfl (l' := #[.val (.int p1), .val (.int p2), .val (.long qd), .second, .val (.int sel), .val (.long qr), .second, .val (.int s_), .val (.int t), .val (.int k_), .val (.ref xp), .unset, .unset, .val (.int a_), .val (.int b_), .val (.int gs), .unset, .unset, .unset, .unset, .unset, .unset]) rfl k
    have A202 := A201.go (f' := mkF m 165 #[.val (.int p1), .val (.int p2), .val (.long qd), .second, .val (.int sel), .val (.long qr), .second, .val (.int s_), .val (.int t), .val (.int k_), .val (.ref xp), .unset, .unset, .val (.int a_), .val (.int b_), .val (.int gs), .unset, .unset, .unset, .unset, .unset, .unset] [(.int gs)]) fun _ _ X _ k => XS.iload X.here hx rfl (hb hby d0_163) rfl k
    have A204 : own_R p l e room_1 s m #[(.int p1), (.int p2), (.long qd), (.int sel), (.long qr)] below meth c S0 n0 h98 1 10 (mkF m 211 #[.val (.int p1), .val (.int p2), .val (.long qd), .second, .val (.int sel), .val (.long qr), .second, .val (.int s_), .val (.int t), .val (.int k_), .val (.ref xp), .unset, .unset, .val (.int a_), .val (.int b_), .val (.int gs), .val (.long (if gs = (0 : Int32) then (1 : Int64) else (if gs = (1 : Int32) then (t.toInt64) else (if gs = (2 : Int32) then (k_.toInt64) else ((t.toInt64) * (k_.toInt64)))))), .second, .unset, .unset, .unset, .unset] []) := by
      by_cases q203 : gs = (0 : Int32)
      · skip
        have A205 := A202.go (f' := mkF m 168 #[.val (.int p1), .val (.int p2), .val (.long qd), .second, .val (.int sel), .val (.long qr), .second, .val (.int s_), .val (.int t), .val (.int k_), .val (.ref xp), .unset, .unset, .val (.int a_), .val (.int b_), .val (.int gs), .unset, .unset, .unset, .unset, .unset, .unset] []) fun _ _ X _ k => XS.ifNo X.here hx rfl (hb hby d0_165) rfl ((if0 _ _).trans (teq q203).2) k
        have A206 := A205.go (f' := mkF m 169 #[.val (.int p1), .val (.int p2), .val (.long qd), .second, .val (.int sel), .val (.long qr), .second, .val (.int s_), .val (.int t), .val (.int k_), .val (.ref xp), .unset, .unset, .val (.int a_), .val (.int b_), .val (.int gs), .unset, .unset, .unset, .unset, .unset, .unset] [(.long (1 : Int64))]) fun _ _ X _ k => XS.lconst X.here hx rfl (hb hby d0_168) k
        have A207 := A206.go (f' := mkF m 171 #[.val (.int p1), .val (.int p2), .val (.long qd), .second, .val (.int sel), .val (.long qr), .second, .val (.int s_), .val (.int t), .val (.int k_), .val (.ref xp), .unset, .unset, .val (.int a_), .val (.int b_), .val (.int gs), .val (.long (1 : Int64)), .second, .unset, .unset, .unset, .unset] []) fun _ _ X _ k => XS.lstore X.here hx rfl (hb hby d0_169) rfl (l' := #[.val (.int p1), .val (.int p2), .val (.long qd), .second, .val (.int sel), .val (.long qr), .second, .val (.int s_), .val (.int t), .val (.int k_), .val (.ref xp), .unset, .unset, .val (.int a_), .val (.int b_), .val (.int gs), .val (.long (1 : Int64)), .second, .unset, .unset, .unset, .unset]) rfl k
        have A208 := A207.go (f' := mkF m 211 #[.val (.int p1), .val (.int p2), .val (.long qd), .second, .val (.int sel), .val (.long qr), .second, .val (.int s_), .val (.int t), .val (.int k_), .val (.ref xp), .unset, .unset, .val (.int a_), .val (.int b_), .val (.int gs), .val (.long (1 : Int64)), .second, .unset, .unset, .unset, .unset] []) fun _ _ X _ k => XS.goto X.here hx rfl (pc0 := 171) (pc' := 211) rfl (hb hby d0_171) (by decide) (by decide) k
        simp only [if_pos q203]
        exact A208
      · skip
        have A209 := A202.go (f' := mkF m 174 #[.val (.int p1), .val (.int p2), .val (.long qd), .second, .val (.int sel), .val (.long qr), .second, .val (.int s_), .val (.int t), .val (.int k_), .val (.ref xp), .unset, .unset, .val (.int a_), .val (.int b_), .val (.int gs), .unset, .unset, .unset, .unset, .unset, .unset] []) fun _ _ X _ k => XS.ifYes X.here hx rfl (pc0 := 165) (pc' := 174) rfl (hb hby d0_165) rfl ((if0 _ _).trans (feq q203).2) (by decide) (by decide) k
        have A210 := A209.go (f' := mkF m 176 #[.val (.int p1), .val (.int p2), .val (.long qd), .second, .val (.int sel), .val (.long qr), .second, .val (.int s_), .val (.int t), .val (.int k_), .val (.ref xp), .unset, .unset, .val (.int a_), .val (.int b_), .val (.int gs), .unset, .unset, .unset, .unset, .unset, .unset] [(.int gs)]) fun _ _ X _ k => XS.iload X.here hx rfl (hb hby d0_174) rfl k
        have A211 := A210.go (f' := mkF m 177 #[.val (.int p1), .val (.int p2), .val (.long qd), .second, .val (.int sel), .val (.long qr), .second, .val (.int s_), .val (.int t), .val (.int k_), .val (.ref xp), .unset, .unset, .val (.int a_), .val (.int b_), .val (.int gs), .unset, .unset, .unset, .unset, .unset, .unset] [(.int (1 : Int32)), (.int gs)]) fun _ _ X _ k => XS.iconst X.here hx rfl (hb hby d0_176) k
        have A213 : own_R p l e room_1 s m #[(.int p1), (.int p2), (.long qd), (.int sel), (.long qr)] below meth c S0 n0 h98 1 10 (mkF m 211 #[.val (.int p1), .val (.int p2), .val (.long qd), .second, .val (.int sel), .val (.long qr), .second, .val (.int s_), .val (.int t), .val (.int k_), .val (.ref xp), .unset, .unset, .val (.int a_), .val (.int b_), .val (.int gs), .val (.long (if gs = (1 : Int32) then (t.toInt64) else (if gs = (2 : Int32) then (k_.toInt64) else ((t.toInt64) * (k_.toInt64))))), .second, .unset, .unset, .unset, .unset] []) := by
          by_cases q212 : gs = (1 : Int32)
          · skip
            have A214 := A211.go (f' := mkF m 180 #[.val (.int p1), .val (.int p2), .val (.long qd), .second, .val (.int sel), .val (.long qr), .second, .val (.int s_), .val (.int t), .val (.int k_), .val (.ref xp), .unset, .unset, .val (.int a_), .val (.int b_), .val (.int gs), .unset, .unset, .unset, .unset, .unset, .unset] []) fun _ _ X _ k => XS.icmpNo X.here hx rfl (hb hby d0_177) rfl ((teq q212).2) k
            have A215 := A214.go (f' := mkF m 182 #[.val (.int p1), .val (.int p2), .val (.long qd), .second, .val (.int sel), .val (.long qr), .second, .val (.int s_), .val (.int t), .val (.int k_), .val (.ref xp), .unset, .unset, .val (.int a_), .val (.int b_), .val (.int gs), .unset, .unset, .unset, .unset, .unset, .unset] [(.int t)]) fun _ _ X _ k => XS.iload X.here hx rfl (hb hby d0_180) rfl k
            have A216 := A215.go (f' := mkF m 183 #[.val (.int p1), .val (.int p2), .val (.long qd), .second, .val (.int sel), .val (.long qr), .second, .val (.int s_), .val (.int t), .val (.int k_), .val (.ref xp), .unset, .unset, .val (.int a_), .val (.int b_), .val (.int gs), .unset, .unset, .unset, .unset, .unset, .unset] [(.long (t.toInt64))]) fun _ _ X _ k => XS.i2l X.here hx rfl (hb hby d0_182) rfl k
            have A217 := A216.go (f' := mkF m 185 #[.val (.int p1), .val (.int p2), .val (.long qd), .second, .val (.int sel), .val (.long qr), .second, .val (.int s_), .val (.int t), .val (.int k_), .val (.ref xp), .unset, .unset, .val (.int a_), .val (.int b_), .val (.int gs), .val (.long (t.toInt64)), .second, .unset, .unset, .unset, .unset] []) fun _ _ X _ k => XS.lstore X.here hx rfl (hb hby d0_183) rfl (l' := #[.val (.int p1), .val (.int p2), .val (.long qd), .second, .val (.int sel), .val (.long qr), .second, .val (.int s_), .val (.int t), .val (.int k_), .val (.ref xp), .unset, .unset, .val (.int a_), .val (.int b_), .val (.int gs), .val (.long (t.toInt64)), .second, .unset, .unset, .unset, .unset]) rfl k
            have A218 := A217.go (f' := mkF m 211 #[.val (.int p1), .val (.int p2), .val (.long qd), .second, .val (.int sel), .val (.long qr), .second, .val (.int s_), .val (.int t), .val (.int k_), .val (.ref xp), .unset, .unset, .val (.int a_), .val (.int b_), .val (.int gs), .val (.long (t.toInt64)), .second, .unset, .unset, .unset, .unset] []) fun _ _ X _ k => XS.goto X.here hx rfl (pc0 := 185) (pc' := 211) rfl (hb hby d0_185) (by decide) (by decide) k
            simp only [if_pos q212]
            exact A218
          · skip
            have A219 := A211.go (f' := mkF m 188 #[.val (.int p1), .val (.int p2), .val (.long qd), .second, .val (.int sel), .val (.long qr), .second, .val (.int s_), .val (.int t), .val (.int k_), .val (.ref xp), .unset, .unset, .val (.int a_), .val (.int b_), .val (.int gs), .unset, .unset, .unset, .unset, .unset, .unset] []) fun _ _ X _ k => XS.icmpYes X.here hx rfl (pc0 := 177) (pc' := 188) rfl (hb hby d0_177) rfl ((feq q212).2) (by decide) (by decide) k
            have A220 := A219.go (f' := mkF m 190 #[.val (.int p1), .val (.int p2), .val (.long qd), .second, .val (.int sel), .val (.long qr), .second, .val (.int s_), .val (.int t), .val (.int k_), .val (.ref xp), .unset, .unset, .val (.int a_), .val (.int b_), .val (.int gs), .unset, .unset, .unset, .unset, .unset, .unset] [(.int gs)]) fun _ _ X _ k => XS.iload X.here hx rfl (hb hby d0_188) rfl k
            have A221 := A220.go (f' := mkF m 191 #[.val (.int p1), .val (.int p2), .val (.long qd), .second, .val (.int sel), .val (.long qr), .second, .val (.int s_), .val (.int t), .val (.int k_), .val (.ref xp), .unset, .unset, .val (.int a_), .val (.int b_), .val (.int gs), .unset, .unset, .unset, .unset, .unset, .unset] [(.int (2 : Int32)), (.int gs)]) fun _ _ X _ k => XS.iconst X.here hx rfl (hb hby d0_190) k
            have A223 : own_R p l e room_1 s m #[(.int p1), (.int p2), (.long qd), (.int sel), (.long qr)] below meth c S0 n0 h98 1 10 (mkF m 211 #[.val (.int p1), .val (.int p2), .val (.long qd), .second, .val (.int sel), .val (.long qr), .second, .val (.int s_), .val (.int t), .val (.int k_), .val (.ref xp), .unset, .unset, .val (.int a_), .val (.int b_), .val (.int gs), .val (.long (if gs = (2 : Int32) then (k_.toInt64) else ((t.toInt64) * (k_.toInt64)))), .second, .unset, .unset, .unset, .unset] []) := by
              by_cases q222 : gs = (2 : Int32)
              · skip
                have A224 := A221.go (f' := mkF m 194 #[.val (.int p1), .val (.int p2), .val (.long qd), .second, .val (.int sel), .val (.long qr), .second, .val (.int s_), .val (.int t), .val (.int k_), .val (.ref xp), .unset, .unset, .val (.int a_), .val (.int b_), .val (.int gs), .unset, .unset, .unset, .unset, .unset, .unset] []) fun _ _ X _ k => XS.icmpNo X.here hx rfl (hb hby d0_191) rfl ((teq q222).2) k
                have A225 := A224.go (f' := mkF m 196 #[.val (.int p1), .val (.int p2), .val (.long qd), .second, .val (.int sel), .val (.long qr), .second, .val (.int s_), .val (.int t), .val (.int k_), .val (.ref xp), .unset, .unset, .val (.int a_), .val (.int b_), .val (.int gs), .unset, .unset, .unset, .unset, .unset, .unset] [(.int k_)]) fun _ _ X _ k => XS.iload X.here hx rfl (hb hby d0_194) rfl k
                have A226 := A225.go (f' := mkF m 197 #[.val (.int p1), .val (.int p2), .val (.long qd), .second, .val (.int sel), .val (.long qr), .second, .val (.int s_), .val (.int t), .val (.int k_), .val (.ref xp), .unset, .unset, .val (.int a_), .val (.int b_), .val (.int gs), .unset, .unset, .unset, .unset, .unset, .unset] [(.long (k_.toInt64))]) fun _ _ X _ k => XS.i2l X.here hx rfl (hb hby d0_196) rfl k
                have A227 := A226.go (f' := mkF m 199 #[.val (.int p1), .val (.int p2), .val (.long qd), .second, .val (.int sel), .val (.long qr), .second, .val (.int s_), .val (.int t), .val (.int k_), .val (.ref xp), .unset, .unset, .val (.int a_), .val (.int b_), .val (.int gs), .val (.long (k_.toInt64)), .second, .unset, .unset, .unset, .unset] []) fun _ _ X _ k => XS.lstore X.here hx rfl (hb hby d0_197) rfl (l' := #[.val (.int p1), .val (.int p2), .val (.long qd), .second, .val (.int sel), .val (.long qr), .second, .val (.int s_), .val (.int t), .val (.int k_), .val (.ref xp), .unset, .unset, .val (.int a_), .val (.int b_), .val (.int gs), .val (.long (k_.toInt64)), .second, .unset, .unset, .unset, .unset]) rfl k
                have A228 := A227.go (f' := mkF m 211 #[.val (.int p1), .val (.int p2), .val (.long qd), .second, .val (.int sel), .val (.long qr), .second, .val (.int s_), .val (.int t), .val (.int k_), .val (.ref xp), .unset, .unset, .val (.int a_), .val (.int b_), .val (.int gs), .val (.long (k_.toInt64)), .second, .unset, .unset, .unset, .unset] []) fun _ _ X _ k => XS.goto X.here hx rfl (pc0 := 199) (pc' := 211) rfl (hb hby d0_199) (by decide) (by decide) k
                simp only [if_pos q222]
                exact A228
              · skip
                have A229 := A221.go (f' := mkF m 202 #[.val (.int p1), .val (.int p2), .val (.long qd), .second, .val (.int sel), .val (.long qr), .second, .val (.int s_), .val (.int t), .val (.int k_), .val (.ref xp), .unset, .unset, .val (.int a_), .val (.int b_), .val (.int gs), .unset, .unset, .unset, .unset, .unset, .unset] []) fun _ _ X _ k => XS.icmpYes X.here hx rfl (pc0 := 191) (pc' := 202) rfl (hb hby d0_191) rfl ((feq q222).2) (by decide) (by decide) k
                have A230 := A229.go (f' := mkF m 204 #[.val (.int p1), .val (.int p2), .val (.long qd), .second, .val (.int sel), .val (.long qr), .second, .val (.int s_), .val (.int t), .val (.int k_), .val (.ref xp), .unset, .unset, .val (.int a_), .val (.int b_), .val (.int gs), .unset, .unset, .unset, .unset, .unset, .unset] [(.int t)]) fun _ _ X _ k => XS.iload X.here hx rfl (hb hby d0_202) rfl k
                have A231 := A230.go (f' := mkF m 205 #[.val (.int p1), .val (.int p2), .val (.long qd), .second, .val (.int sel), .val (.long qr), .second, .val (.int s_), .val (.int t), .val (.int k_), .val (.ref xp), .unset, .unset, .val (.int a_), .val (.int b_), .val (.int gs), .unset, .unset, .unset, .unset, .unset, .unset] [(.long (t.toInt64))]) fun _ _ X _ k => XS.i2l X.here hx rfl (hb hby d0_204) rfl k
                have A232 := A231.go (f' := mkF m 207 #[.val (.int p1), .val (.int p2), .val (.long qd), .second, .val (.int sel), .val (.long qr), .second, .val (.int s_), .val (.int t), .val (.int k_), .val (.ref xp), .unset, .unset, .val (.int a_), .val (.int b_), .val (.int gs), .unset, .unset, .unset, .unset, .unset, .unset] [(.int k_), (.long (t.toInt64))]) fun _ _ X _ k => XS.iload X.here hx rfl (hb hby d0_205) rfl k
                have A233 := A232.go (f' := mkF m 208 #[.val (.int p1), .val (.int p2), .val (.long qd), .second, .val (.int sel), .val (.long qr), .second, .val (.int s_), .val (.int t), .val (.int k_), .val (.ref xp), .unset, .unset, .val (.int a_), .val (.int b_), .val (.int gs), .unset, .unset, .unset, .unset, .unset, .unset] [(.long (k_.toInt64)), (.long (t.toInt64))]) fun _ _ X _ k => XS.i2l X.here hx rfl (hb hby d0_207) rfl k
                have A234 := A233.go (f' := mkF m 209 #[.val (.int p1), .val (.int p2), .val (.long qd), .second, .val (.int sel), .val (.long qr), .second, .val (.int s_), .val (.int t), .val (.int k_), .val (.ref xp), .unset, .unset, .val (.int a_), .val (.int b_), .val (.int gs), .unset, .unset, .unset, .unset, .unset, .unset] [(.long ((t.toInt64) * (k_.toInt64)))]) fun _ _ X _ k => XS.lmul X.here hx rfl (hb hby d0_208) rfl k
                have A235 := A234.go (f' := mkF m 211 #[.val (.int p1), .val (.int p2), .val (.long qd), .second, .val (.int sel), .val (.long qr), .second, .val (.int s_), .val (.int t), .val (.int k_), .val (.ref xp), .unset, .unset, .val (.int a_), .val (.int b_), .val (.int gs), .val (.long ((t.toInt64) * (k_.toInt64))), .second, .unset, .unset, .unset, .unset] []) fun _ _ X _ k => XS.lstore X.here hx rfl (hb hby d0_209) rfl (l' := #[.val (.int p1), .val (.int p2), .val (.long qd), .second, .val (.int sel), .val (.long qr), .second, .val (.int s_), .val (.int t), .val (.int k_), .val (.ref xp), .unset, .unset, .val (.int a_), .val (.int b_), .val (.int gs), .val (.long ((t.toInt64) * (k_.toInt64))), .second, .unset, .unset, .unset, .unset]) rfl k
                simp only [if_neg q222]
                exact A235
            simp only [if_neg q212]
            exact A223
        simp only [if_neg q203]
        exact A213
    obtain ⟨g, hg⟩ : ∃ zq_, zq_ = (if gs = (0 : Int32) then (1 : Int64) else (if gs = (1 : Int32) then (t.toInt64) else (if gs = (2 : Int32) then (k_.toInt64) else ((t.toInt64) * (k_.toInt64))))) := ⟨_, rfl⟩
    rw [← hg] at A204
    have hG := own_gb hTK hg
    have A236 := A204.go (f' := mkF m 212 #[.val (.int p1), .val (.int p2), .val (.long qd), .second, .val (.int sel), .val (.long qr), .second, .val (.int s_), .val (.int t), .val (.int k_), .val (.ref xp), .unset, .unset, .val (.int a_), .val (.int b_), .val (.int gs), .val (.long g), .second, .unset, .unset, .unset, .unset] [(.long (1 : Int64))]) fun _ _ X _ k => XS.lconst X.here hx rfl (hb hby d0_211) k
    have A237 := A236.go (f' := mkF m 214 #[.val (.int p1), .val (.int p2), .val (.long qd), .second, .val (.int sel), .val (.long qr), .second, .val (.int s_), .val (.int t), .val (.int k_), .val (.ref xp), .unset, .unset, .val (.int a_), .val (.int b_), .val (.int gs), .val (.long g), .second, .unset, .unset, .unset, .unset] [(.int a_), (.long (1 : Int64))]) fun _ _ X _ k => XS.iload X.here hx rfl (hb hby d0_212) rfl k
    have A238 := A237.go (f' := mkF m 215 #[.val (.int p1), .val (.int p2), .val (.long qd), .second, .val (.int sel), .val (.long qr), .second, .val (.int s_), .val (.int t), .val (.int k_), .val (.ref xp), .unset, .unset, .val (.int a_), .val (.int b_), .val (.int gs), .val (.long g), .second, .unset, .unset, .unset, .unset] [(.long ((1 : Int64) <<< (a_ &&& 0x3f).toInt64))]) fun _ _ X _ k => XS.lshl X.here hx rfl (hb hby d0_214) rfl k
    have A239 := A238.go (f' := mkF m 217 #[.val (.int p1), .val (.int p2), .val (.long qd), .second, .val (.int sel), .val (.long qr), .second, .val (.int s_), .val (.int t), .val (.int k_), .val (.ref xp), .unset, .unset, .val (.int a_), .val (.int b_), .val (.int gs), .val (.long g), .second, .unset, .unset, .unset, .unset] [(.ref xp), (.long ((1 : Int64) <<< (a_ &&& 0x3f).toInt64))]) fun _ _ X _ k => XS.aload X.here hx rfl (hb hby d0_215) rfl rfl k
    have A240 := A239.go (f' := mkF m 219 #[.val (.int p1), .val (.int p2), .val (.long qd), .second, .val (.int sel), .val (.long qr), .second, .val (.int s_), .val (.int t), .val (.int k_), .val (.ref xp), .unset, .unset, .val (.int a_), .val (.int b_), .val (.int gs), .val (.long g), .second, .unset, .unset, .unset, .unset] [(.int b_), (.ref xp), (.long ((1 : Int64) <<< (a_ &&& 0x3f).toInt64))]) fun _ _ X _ k => XS.iload X.here hx rfl (hb hby d0_217) rfl k
    obtain ⟨hbn, z, hz, z1, z2⟩ := own_five hB
    have A241 : own_R p l e _ _ m _ below meth c S0 n0 h98 1 10 (mkF m 220 #[.val (.int p1), .val (.int p2), .val (.long qd), .second, .val (.int sel), .val (.long qr), .second, .val (.int s_), .val (.int t), .val (.int k_), .val (.ref xp), .unset, .unset, .val (.int a_), .val (.int b_), .val (.int gs), .val (.long g), .second, .unset, .unset, .unset, .unset] [(.long z), (.long ((1 : Int64) <<< (a_ &&& 0x3f).toInt64))]) := A240.ldL hx hZ (hb hby d0_219) V_xp hbn hz
    have A242 := A241.go (f' := mkF m 221 #[.val (.int p1), .val (.int p2), .val (.long qd), .second, .val (.int sel), .val (.long qr), .second, .val (.int s_), .val (.int t), .val (.int k_), .val (.ref xp), .unset, .unset, .val (.int a_), .val (.int b_), .val (.int gs), .val (.long g), .second, .unset, .unset, .unset, .unset] [(.long (((1 : Int64) <<< (a_ &&& 0x3f).toInt64) * z))]) fun _ _ X _ k => XS.lmul X.here hx rfl (hb hby d0_220) rfl k
    have A243 := A242.go (f' := mkF m 223 #[.val (.int p1), .val (.int p2), .val (.long qd), .second, .val (.int sel), .val (.long qr), .second, .val (.int s_), .val (.int t), .val (.int k_), .val (.ref xp), .unset, .unset, .val (.int a_), .val (.int b_), .val (.int gs), .val (.long g), .second, .unset, .unset, .unset, .unset] [(.long g), (.long (((1 : Int64) <<< (a_ &&& 0x3f).toInt64) * z))]) fun _ _ X _ k => XS.lload X.here hx rfl (hb hby d0_221) rfl k
    have A244 := A243.go (f' := mkF m 224 #[.val (.int p1), .val (.int p2), .val (.long qd), .second, .val (.int sel), .val (.long qr), .second, .val (.int s_), .val (.int t), .val (.int k_), .val (.ref xp), .unset, .unset, .val (.int a_), .val (.int b_), .val (.int gs), .val (.long g), .second, .unset, .unset, .unset, .unset] [(.long ((((1 : Int64) <<< (a_ &&& 0x3f).toInt64) * z) * g))]) fun _ _ X _ k => XS.lmul X.here hx rfl (hb hby d0_223) rfl k
    obtain ⟨d, hd⟩ : ∃ zq_, zq_ = ((((1 : Int64) <<< (a_ &&& 0x3f).toInt64) * z) * g) := ⟨_, rfl⟩
    rw [← hd] at A244
    have hD := own_dB hA z1 z2 hG.1 hG.2 hd
    have A245 := A244.go (f' := mkF m 226 #[.val (.int p1), .val (.int p2), .val (.long qd), .second, .val (.int sel), .val (.long qr), .second, .val (.int s_), .val (.int t), .val (.int k_), .val (.ref xp), .val (.long d), .second, .val (.int a_), .val (.int b_), .val (.int gs), .val (.long g), .second, .unset, .unset, .unset, .unset] []) fun _ _ X _ k => XS.lstore X.here hx rfl (hb hby d0_224) rfl (l' := #[.val (.int p1), .val (.int p2), .val (.long qd), .second, .val (.int sel), .val (.long qr), .second, .val (.int s_), .val (.int t), .val (.int k_), .val (.ref xp), .val (.long d), .second, .val (.int a_), .val (.int b_), .val (.int gs), .val (.long g), .second, .unset, .unset, .unset, .unset]) rfl k
    obtain ⟨h246, E247, E_x2, D_x2, A248⟩ := A245.newO hx hZ hown (hb hby d0_226) (hw _ (List.mem_of_getElem? (i := 16) rfl)) (hw _ (List.mem_of_getElem? (i := 17) rfl)) (hw _ (List.mem_of_getElem? (i := 18) rfl)) (by decide) (by decide)
    obtain ⟨x2, gx2⟩ : ∃ z, z = h98.size := ⟨_, rfl⟩
    rw [← gx2] at E_x2 D_x2 A248
    have ne_xp_x2 : xp ≠ x2 := by rw [gx2]; exact Nat.ne_of_lt V_xp.lt
    have ne_x2_xp := Ne.symm ne_xp_x2
    have g_x2 : n0 ≤ x2 := by rw [gx2]; exact Z0
    have V_xp : own_Ar Z h246 xp .long [(.long (1 : Int64)), (.long (5 : Int64)), (.long (25 : Int64)), (.long (125 : Int64)), (.long (625 : Int64)), (.long (3125 : Int64)), (.long (15625 : Int64)), (.long (78125 : Int64)), (.long (390625 : Int64)), (.long (1953125 : Int64))] := V_xp.ext E247
    have Z0 : n0 ≤ h246.size := Nat.le_trans Z0 E247.1
    have F_x2_keys : Fld Z h246 x2 "com/example/shardrule/shardrule/bench/RoutingBench$Result" "keys" "I" (.int (0 : Int32)) := D_x2 (Or.inr (hw _ (List.mem_of_getElem? (i := 31) rfl))) (ty := .int) (by decide)
    have F_x2_threads : Fld Z h246 x2 "com/example/shardrule/shardrule/bench/RoutingBench$Result" "threads" "I" (.int (0 : Int32)) := D_x2 (Or.inr (hw _ (List.mem_of_getElem? (i := 33) rfl))) (ty := .int) (by decide)
    have F_x2_routePassNanos : Fld Z h246 x2 "com/example/shardrule/shardrule/bench/RoutingBench$Result" "routePassNanos" "J" (.long (0 : Int64)) := D_x2 (Or.inr (hw _ (List.mem_of_getElem? (i := 35) rfl))) (ty := .long) (by decide)
    have F_x2_crcPassNanos : Fld Z h246 x2 "com/example/shardrule/shardrule/bench/RoutingBench$Result" "crcPassNanos" "J" (.long (0 : Int64)) := D_x2 (Or.inr (hw _ (List.mem_of_getElem? (i := 37) rfl))) (ty := .long) (by decide)
    have A249 : own_R p l e _ _ m _ below meth c S0 n0 h246 2 14 (mkF m 229 #[.val (.int p1), .val (.int p2), .val (.long qd), .second, .val (.int sel), .val (.long qr), .second, .val (.int s_), .val (.int t), .val (.int k_), .val (.ref xp), .val (.long d), .second, .val (.int a_), .val (.int b_), .val (.int gs), .val (.long g), .second, .unset, .unset, .unset, .unset] [(.ref x2)]) := A248
    have A250 := A249.go (f' := mkF m 230 #[.val (.int p1), .val (.int p2), .val (.long qd), .second, .val (.int sel), .val (.long qr), .second, .val (.int s_), .val (.int t), .val (.int k_), .val (.ref xp), .val (.long d), .second, .val (.int a_), .val (.int b_), .val (.int gs), .val (.long g), .second, .unset, .unset, .unset, .unset] [(.ref x2), (.ref x2)]) fun _ _ X _ k => XS.dup X.here hx rfl (hb hby d0_229) rfl rfl k
    have A251 := A250.go (f' := mkF m 232 #[.val (.int p1), .val (.int p2), .val (.long qd), .second, .val (.int sel), .val (.long qr), .second, .val (.int s_), .val (.int t), .val (.int k_), .val (.ref xp), .val (.long d), .second, .val (.int a_), .val (.int b_), .val (.int gs), .val (.long g), .second, .unset, .unset, .unset, .unset] [(.int k_), (.ref x2), (.ref x2)]) fun _ _ X _ k => XS.iload X.here hx rfl (hb hby d0_230) rfl k
    have A252 := A251.go (f' := mkF m 234 #[.val (.int p1), .val (.int p2), .val (.long qd), .second, .val (.int sel), .val (.long qr), .second, .val (.int s_), .val (.int t), .val (.int k_), .val (.ref xp), .val (.long d), .second, .val (.int a_), .val (.int b_), .val (.int gs), .val (.long g), .second, .unset, .unset, .unset, .unset] [(.int t), (.int k_), (.ref x2), (.ref x2)]) fun _ _ X _ k => XS.iload X.here hx rfl (hb hby d0_232) rfl k
    have A253 := A252.go (f' := mkF m 236 #[.val (.int p1), .val (.int p2), .val (.long qd), .second, .val (.int sel), .val (.long qr), .second, .val (.int s_), .val (.int t), .val (.int k_), .val (.ref xp), .val (.long d), .second, .val (.int a_), .val (.int b_), .val (.int gs), .val (.long g), .second, .unset, .unset, .unset, .unset] [(.long d), (.int t), (.int k_), (.ref x2), (.ref x2)]) fun _ _ X _ k => XS.lload X.here hx rfl (hb hby d0_234) rfl k
    have A254 := A253.go (f' := mkF m 238 #[.val (.int p1), .val (.int p2), .val (.long qd), .second, .val (.int sel), .val (.long qr), .second, .val (.int s_), .val (.int t), .val (.int k_), .val (.ref xp), .val (.long d), .second, .val (.int a_), .val (.int b_), .val (.int gs), .val (.long g), .second, .unset, .unset, .unset, .unset] [(.long qr), (.long d), (.int t), (.int k_), (.ref x2), (.ref x2)]) fun _ _ X _ k => XS.lload X.here hx rfl (hb hby d0_236) rfl k
    obtain ⟨vA255, hA255, ⟨rfl, KI, F_k, F_t, F_r⟩, A255⟩ := A254.callI (b := x2) (own_init l Z a0 hw x2 k_ t d qr h246 n0 Z0 E_x2 F_x2_keys F_x2_threads F_x2_routePassNanos F_x2_crcPassNanos g_x2) hx hZ hown (hb hby d0_238) rfl (hw _ (List.mem_of_getElem? (i := 19) rfl)) (hw _ (List.mem_of_getElem? (i := 20) rfl)) (hw _ (List.mem_of_getElem? (i := 21) rfl)) (hw _ (List.mem_of_getElem? (i := 18) rfl)) ⟨by decide, by decide⟩ (lenOf pd__28IIJJ_29V rfl) (argsL := [(.int k_), (.int t), (.long d), (.long qr)]) (rest := [(.ref x2)]) rfl rfl (by rw [hml]; rfl) (W := 1) (Nat.le_of_eq rfl) (by decide) (by decide) (by decide) (by decide)
    have V_xp : own_Ar Z hA255 xp .long [(.long (1 : Int64)), (.long (5 : Int64)), (.long (25 : Int64)), (.long (125 : Int64)), (.long (625 : Int64)), (.long (3125 : Int64)), (.long (15625 : Int64)), (.long (78125 : Int64)), (.long (390625 : Int64)), (.long (1953125 : Int64))] := V_xp.keep KI (ninS ne_xp_x2 nin0)
    have E_x2 : Exa Z hA255 x2 "com/example/shardrule/shardrule/bench/RoutingBench$Result" := E_x2.keep KI
    have Z0 : n0 ≤ hA255.size := Nat.le_trans Z0 KI.1
    have F_x2_keys := F_k
    have F_x2_threads := F_t
    have F_x2_routePassNanos := F_r
    have A256 : own_R p l e _ _ m _ below meth c S0 n0 hA255 2 14 (mkF m 241 #[.val (.int p1), .val (.int p2), .val (.long qd), .second, .val (.int sel), .val (.long qr), .second, .val (.int s_), .val (.int t), .val (.int k_), .val (.ref xp), .val (.long d), .second, .val (.int a_), .val (.int b_), .val (.int gs), .val (.long g), .second, .unset, .unset, .unset, .unset] [(.ref x2)]) := A255
    have A257 := A256.go (f' := mkF m 243 #[.val (.int p1), .val (.int p2), .val (.long qd), .second, .val (.int sel), .val (.long qr), .second, .val (.int s_), .val (.int t), .val (.int k_), .val (.ref xp), .val (.long d), .second, .val (.ref x2), .val (.int b_), .val (.int gs), .val (.long g), .second, .unset, .unset, .unset, .unset] []) fun _ _ X _ k => XS.astore X.here hx rfl (hb hby d0_241) rfl rfl (l' := #[.val (.int p1), .val (.int p2), .val (.long qd), .second, .val (.int sel), .val (.long qr), .second, .val (.int s_), .val (.int t), .val (.int k_), .val (.ref xp), .val (.long d), .second, .val (.ref x2), .val (.int b_), .val (.int gs), .val (.long g), .second, .unset, .unset, .unset, .unset]) rfl k
    have A258 := A257.go (f' := mkF m 245 #[.val (.int p1), .val (.int p2), .val (.long qd), .second, .val (.int sel), .val (.long qr), .second, .val (.int s_), .val (.int t), .val (.int k_), .val (.ref xp), .val (.long d), .second, .val (.ref x2), .val (.int b_), .val (.int gs), .val (.long g), .second, .unset, .unset, .unset, .unset] [(.ref x2)]) fun _ _ X _ k => XS.aload X.here hx rfl (hb hby d0_243) rfl rfl k
    have hnn := own_nn hTK hD
    obtain ⟨vA259, hA259, ⟨rfl, rfl⟩, A259⟩ := A258.callV (b := x2) (own_kps l Z a0 hw x2 k_ t d hA255 n0 Z0 F_x2_keys F_x2_threads F_x2_routePassNanos hnn.1 hnn.2.1 hnn.2.2) E_x2 hx hZ hown (hb hby d0_245) (hw _ (List.mem_of_getElem? (i := 38) rfl)) (hw _ (List.mem_of_getElem? (i := 39) rfl)) (hw _ (List.mem_of_getElem? (i := 41) rfl)) (hw _ (List.mem_of_getElem? (i := 40) rfl)) (hw _ (List.mem_of_getElem? (i := 42) rfl)) (hw _ (List.mem_of_getElem? (i := 18) rfl)) (fun _ q => notFace_of_selects (args := #[]) (mvT q (hw _ (List.mem_of_getElem? (i := 41) rfl)))) ⟨by decide, by decide⟩ (lenOf pd__28_29D rfl) (argsL := []) (rest := []) rfl rfl (by rw [hml]; rfl) (W := 0) (Nat.le_of_eq rfl) (by decide) (by decide) (by decide) (by decide)
    have A260 : own_R p l e _ _ m _ below meth c S0 n0 hA255 2 14 (mkF m 248 #[.val (.int p1), .val (.int p2), .val (.long qd), .second, .val (.int sel), .val (.long qr), .second, .val (.int s_), .val (.int t), .val (.int k_), .val (.ref xp), .val (.long d), .second, .val (.ref x2), .val (.int b_), .val (.int gs), .val (.long g), .second, .unset, .unset, .unset, .unset] [(.double (FP.ddiv (FP.dmul (FP.dmul (FP.i2d t) (FP.i2d k_)) (4741671816366391296 : UInt64)) (FP.l2d d)))]) := A259
    have A261 := A260.go (f' := mkF m 250 #[.val (.int p1), .val (.int p2), .val (.long qd), .second, .val (.int sel), .val (.long qr), .second, .val (.int s_), .val (.int t), .val (.int k_), .val (.ref xp), .val (.long d), .second, .val (.ref x2), .val (.double (FP.ddiv (FP.dmul (FP.dmul (FP.i2d t) (FP.i2d k_)) (4741671816366391296 : UInt64)) (FP.l2d d))), .second, .val (.long g), .second, .unset, .unset, .unset, .unset] []) fun _ _ X _ k => XS.dstore X.here hx rfl (hb hby d0_248) rfl (l' := #[.val (.int p1), .val (.int p2), .val (.long qd), .second, .val (.int sel), .val (.long qr), .second, .val (.int s_), .val (.int t), .val (.int k_), .val (.ref xp), .val (.long d), .second, .val (.ref x2), .val (.double (FP.ddiv (FP.dmul (FP.dmul (FP.i2d t) (FP.i2d k_)) (4741671816366391296 : UInt64)) (FP.l2d d))), .second, .val (.long g), .second, .unset, .unset, .unset, .unset]) rfl k
    have A262 := A261.go (f' := mkF m 252 #[.val (.int p1), .val (.int p2), .val (.long qd), .second, .val (.int sel), .val (.long qr), .second, .val (.int s_), .val (.int t), .val (.int k_), .val (.ref xp), .val (.long d), .second, .val (.ref x2), .val (.double (FP.ddiv (FP.dmul (FP.dmul (FP.i2d t) (FP.i2d k_)) (4741671816366391296 : UInt64)) (FP.l2d d))), .second, .val (.long g), .second, .unset, .unset, .unset, .unset] [(.int t)]) fun _ _ X _ k => XS.iload X.here hx rfl (hb hby d0_250) rfl k
    have A263 := A262.go (f' := mkF m 253 #[.val (.int p1), .val (.int p2), .val (.long qd), .second, .val (.int sel), .val (.long qr), .second, .val (.int s_), .val (.int t), .val (.int k_), .val (.ref xp), .val (.long d), .second, .val (.ref x2), .val (.double (FP.ddiv (FP.dmul (FP.dmul (FP.i2d t) (FP.i2d k_)) (4741671816366391296 : UInt64)) (FP.l2d d))), .second, .val (.long g), .second, .unset, .unset, .unset, .unset] [(.long (t.toInt64))]) fun _ _ X _ k => XS.i2l X.here hx rfl (hb hby d0_252) rfl k
    have A264 := A263.go (f' := mkF m 255 #[.val (.int p1), .val (.int p2), .val (.long qd), .second, .val (.int sel), .val (.long qr), .second, .val (.int s_), .val (.int t), .val (.int k_), .val (.ref xp), .val (.long d), .second, .val (.ref x2), .val (.double (FP.ddiv (FP.dmul (FP.dmul (FP.i2d t) (FP.i2d k_)) (4741671816366391296 : UInt64)) (FP.l2d d))), .second, .val (.long g), .second, .unset, .unset, .unset, .unset] [(.int k_), (.long (t.toInt64))]) fun _ _ X _ k => XS.iload X.here hx rfl (hb hby d0_253) rfl k
    have A265 := A264.go (f' := mkF m 256 #[.val (.int p1), .val (.int p2), .val (.long qd), .second, .val (.int sel), .val (.long qr), .second, .val (.int s_), .val (.int t), .val (.int k_), .val (.ref xp), .val (.long d), .second, .val (.ref x2), .val (.double (FP.ddiv (FP.dmul (FP.dmul (FP.i2d t) (FP.i2d k_)) (4741671816366391296 : UInt64)) (FP.l2d d))), .second, .val (.long g), .second, .unset, .unset, .unset, .unset] [(.long (k_.toInt64)), (.long (t.toInt64))]) fun _ _ X _ k => XS.i2l X.here hx rfl (hb hby d0_255) rfl k
    have A266 := A265.go (f' := mkF m 257 #[.val (.int p1), .val (.int p2), .val (.long qd), .second, .val (.int sel), .val (.long qr), .second, .val (.int s_), .val (.int t), .val (.int k_), .val (.ref xp), .val (.long d), .second, .val (.ref x2), .val (.double (FP.ddiv (FP.dmul (FP.dmul (FP.i2d t) (FP.i2d k_)) (4741671816366391296 : UInt64)) (FP.l2d d))), .second, .val (.long g), .second, .unset, .unset, .unset, .unset] [(.long ((t.toInt64) * (k_.toInt64)))]) fun _ _ X _ k => XS.lmul X.here hx rfl (hb hby d0_256) rfl k
    have A267 : own_R p l e _ _ m _ below meth c S0 n0 hA255 2 14 (mkF m 260 #[.val (.int p1), .val (.int p2), .val (.long qd), .second, .val (.int sel), .val (.long qr), .second, .val (.int s_), .val (.int t), .val (.int k_), .val (.ref xp), .val (.long d), .second, .val (.ref x2), .val (.double (FP.ddiv (FP.dmul (FP.dmul (FP.i2d t) (FP.i2d k_)) (4741671816366391296 : UInt64)) (FP.l2d d))), .second, .val (.long g), .second, .unset, .unset, .unset, .unset] [(.long (1000000000 : Int64)), (.long ((t.toInt64) * (k_.toInt64)))]) := A266.ldcL hx hZ hown (hb hby d0_257) (hw _ (List.mem_of_getElem? (i := 44) rfl))
    have A268 := A267.go (f' := mkF m 261 #[.val (.int p1), .val (.int p2), .val (.long qd), .second, .val (.int sel), .val (.long qr), .second, .val (.int s_), .val (.int t), .val (.int k_), .val (.ref xp), .val (.long d), .second, .val (.ref x2), .val (.double (FP.ddiv (FP.dmul (FP.dmul (FP.i2d t) (FP.i2d k_)) (4741671816366391296 : UInt64)) (FP.l2d d))), .second, .val (.long g), .second, .unset, .unset, .unset, .unset] [(.long (((t.toInt64) * (k_.toInt64)) * (1000000000 : Int64)))]) fun _ _ X _ k => XS.lmul X.here hx rfl (hb hby d0_260) rfl k
    obtain ⟨n, hn⟩ : ∃ zq_, zq_ = (((t.toInt64) * (k_.toInt64)) * (1000000000 : Int64)) := ⟨_, rfl⟩
    rw [← hn] at A268
    have A269 := A268.go (f' := mkF m 263 #[.val (.int p1), .val (.int p2), .val (.long qd), .second, .val (.int sel), .val (.long qr), .second, .val (.int s_), .val (.int t), .val (.int k_), .val (.ref xp), .val (.long d), .second, .val (.ref x2), .val (.double (FP.ddiv (FP.dmul (FP.dmul (FP.i2d t) (FP.i2d k_)) (4741671816366391296 : UInt64)) (FP.l2d d))), .second, .val (.long n), .second, .unset, .unset, .unset, .unset] []) fun _ _ X _ k => XS.lstore X.here hx rfl (hb hby d0_261) rfl (l' := #[.val (.int p1), .val (.int p2), .val (.long qd), .second, .val (.int sel), .val (.long qr), .second, .val (.int s_), .val (.int t), .val (.int k_), .val (.ref xp), .val (.long d), .second, .val (.ref x2), .val (.double (FP.ddiv (FP.dmul (FP.dmul (FP.i2d t) (FP.i2d k_)) (4741671816366391296 : UInt64)) (FP.l2d d))), .second, .val (.long n), .second, .unset, .unset, .unset, .unset]) rfl k
    have A270 := A269.go (f' := mkF m 265 #[.val (.int p1), .val (.int p2), .val (.long qd), .second, .val (.int sel), .val (.long qr), .second, .val (.int s_), .val (.int t), .val (.int k_), .val (.ref xp), .val (.long d), .second, .val (.ref x2), .val (.double (FP.ddiv (FP.dmul (FP.dmul (FP.i2d t) (FP.i2d k_)) (4741671816366391296 : UInt64)) (FP.l2d d))), .second, .val (.long n), .second, .unset, .unset, .unset, .unset] [(.long n)]) fun _ _ X _ k => XS.lload X.here hx rfl (hb hby d0_263) rfl k
    have A271 := A270.go (f' := mkF m 267 #[.val (.int p1), .val (.int p2), .val (.long qd), .second, .val (.int sel), .val (.long qr), .second, .val (.int s_), .val (.int t), .val (.int k_), .val (.ref xp), .val (.long d), .second, .val (.ref x2), .val (.double (FP.ddiv (FP.dmul (FP.dmul (FP.i2d t) (FP.i2d k_)) (4741671816366391296 : UInt64)) (FP.l2d d))), .second, .val (.long n), .second, .unset, .unset, .unset, .unset] [(.long d), (.long n)]) fun _ _ X _ k => XS.lload X.here hx rfl (hb hby d0_265) rfl k
    have A272 := A271.go (f' := mkF m 268 #[.val (.int p1), .val (.int p2), .val (.long qd), .second, .val (.int sel), .val (.long qr), .second, .val (.int s_), .val (.int t), .val (.int k_), .val (.ref xp), .val (.long d), .second, .val (.ref x2), .val (.double (FP.ddiv (FP.dmul (FP.dmul (FP.i2d t) (FP.i2d k_)) (4741671816366391296 : UInt64)) (FP.l2d d))), .second, .val (.long n), .second, .unset, .unset, .unset, .unset] [(.long (n / d))]) fun _ _ X _ k => XS.ldiv X.here hx rfl (hb hby d0_267) rfl (fun q => by have := hD.1; rw [q, own_c0] at this; omega) k
    obtain ⟨qq, hqq⟩ : ∃ zq_, zq_ = (n / d) := ⟨_, rfl⟩
    rw [← hqq] at A272
    have A273 := A272.go (f' := mkF m 270 #[.val (.int p1), .val (.int p2), .val (.long qd), .second, .val (.int sel), .val (.long qr), .second, .val (.int s_), .val (.int t), .val (.int k_), .val (.ref xp), .val (.long d), .second, .val (.ref x2), .val (.double (FP.ddiv (FP.dmul (FP.dmul (FP.i2d t) (FP.i2d k_)) (4741671816366391296 : UInt64)) (FP.l2d d))), .second, .val (.long n), .second, .val (.long qq), .second, .unset, .unset] []) fun _ _ X _ k => XS.lstore X.here hx rfl (hb hby d0_268) rfl (l' := #[.val (.int p1), .val (.int p2), .val (.long qd), .second, .val (.int sel), .val (.long qr), .second, .val (.int s_), .val (.int t), .val (.int k_), .val (.ref xp), .val (.long d), .second, .val (.ref x2), .val (.double (FP.ddiv (FP.dmul (FP.dmul (FP.i2d t) (FP.i2d k_)) (4741671816366391296 : UInt64)) (FP.l2d d))), .second, .val (.long n), .second, .val (.long qq), .second, .unset, .unset]) rfl k
    have A274 := A273.go (f' := mkF m 272 #[.val (.int p1), .val (.int p2), .val (.long qd), .second, .val (.int sel), .val (.long qr), .second, .val (.int s_), .val (.int t), .val (.int k_), .val (.ref xp), .val (.long d), .second, .val (.ref x2), .val (.double (FP.ddiv (FP.dmul (FP.dmul (FP.i2d t) (FP.i2d k_)) (4741671816366391296 : UInt64)) (FP.l2d d))), .second, .val (.long n), .second, .val (.long qq), .second, .unset, .unset] [(.long n)]) fun _ _ X _ k => XS.lload X.here hx rfl (hb hby d0_270) rfl k
    have A275 := A274.go (f' := mkF m 274 #[.val (.int p1), .val (.int p2), .val (.long qd), .second, .val (.int sel), .val (.long qr), .second, .val (.int s_), .val (.int t), .val (.int k_), .val (.ref xp), .val (.long d), .second, .val (.ref x2), .val (.double (FP.ddiv (FP.dmul (FP.dmul (FP.i2d t) (FP.i2d k_)) (4741671816366391296 : UInt64)) (FP.l2d d))), .second, .val (.long n), .second, .val (.long qq), .second, .unset, .unset] [(.long d), (.long n)]) fun _ _ X _ k => XS.lload X.here hx rfl (hb hby d0_272) rfl k
    have A276 := A275.go (f' := mkF m 275 #[.val (.int p1), .val (.int p2), .val (.long qd), .second, .val (.int sel), .val (.long qr), .second, .val (.int s_), .val (.int t), .val (.int k_), .val (.ref xp), .val (.long d), .second, .val (.ref x2), .val (.double (FP.ddiv (FP.dmul (FP.dmul (FP.i2d t) (FP.i2d k_)) (4741671816366391296 : UInt64)) (FP.l2d d))), .second, .val (.long n), .second, .val (.long qq), .second, .unset, .unset] [(.long (n - n / d * d))]) fun _ _ X _ k => XS.lrem X.here hx rfl (hb hby d0_274) rfl (fun q => by have := hD.1; rw [q, own_c0] at this; omega) k
    obtain ⟨rem, hrem⟩ : ∃ zq_, zq_ = (n - n / d * d) := ⟨_, rfl⟩
    rw [← hrem] at A276
    have A277 := A276.go (f' := mkF m 277 #[.val (.int p1), .val (.int p2), .val (.long qd), .second, .val (.int sel), .val (.long qr), .second, .val (.int s_), .val (.int t), .val (.int k_), .val (.ref xp), .val (.long d), .second, .val (.ref x2), .val (.double (FP.ddiv (FP.dmul (FP.dmul (FP.i2d t) (FP.i2d k_)) (4741671816366391296 : UInt64)) (FP.l2d d))), .second, .val (.long n), .second, .val (.long qq), .second, .val (.long rem), .second] []) fun _ _ X _ k => XS.lstore X.here hx rfl (hb hby d0_275) rfl (l' := #[.val (.int p1), .val (.int p2), .val (.long qd), .second, .val (.int sel), .val (.long qr), .second, .val (.int s_), .val (.int t), .val (.int k_), .val (.ref xp), .val (.long d), .second, .val (.ref x2), .val (.double (FP.ddiv (FP.dmul (FP.dmul (FP.i2d t) (FP.i2d k_)) (4741671816366391296 : UInt64)) (FP.l2d d))), .second, .val (.long n), .second, .val (.long qq), .second, .val (.long rem), .second]) rfl k
    have A278 := A277.go (f' := mkF m 279 #[.val (.int p1), .val (.int p2), .val (.long qd), .second, .val (.int sel), .val (.long qr), .second, .val (.int s_), .val (.int t), .val (.int k_), .val (.ref xp), .val (.long d), .second, .val (.ref x2), .val (.double (FP.ddiv (FP.dmul (FP.dmul (FP.i2d t) (FP.i2d k_)) (4741671816366391296 : UInt64)) (FP.l2d d))), .second, .val (.long n), .second, .val (.long qq), .second, .val (.long rem), .second] [(.long rem)]) fun _ _ X _ k => XS.lload X.here hx rfl (hb hby d0_277) rfl k
    have A279 := A278.go (f' := mkF m 280 #[.val (.int p1), .val (.int p2), .val (.long qd), .second, .val (.int sel), .val (.long qr), .second, .val (.int s_), .val (.int t), .val (.int k_), .val (.ref xp), .val (.long d), .second, .val (.ref x2), .val (.double (FP.ddiv (FP.dmul (FP.dmul (FP.i2d t) (FP.i2d k_)) (4741671816366391296 : UInt64)) (FP.l2d d))), .second, .val (.long n), .second, .val (.long qq), .second, .val (.long rem), .second] [(.long (0 : Int64)), (.long rem)]) fun _ _ X _ k => XS.lconst X.here hx rfl (hb hby d0_279) k
    have A280 := A279.go (f' := mkF m 281 #[.val (.int p1), .val (.int p2), .val (.long qd), .second, .val (.int sel), .val (.long qr), .second, .val (.int s_), .val (.int t), .val (.int k_), .val (.ref xp), .val (.long d), .second, .val (.ref x2), .val (.double (FP.ddiv (FP.dmul (FP.dmul (FP.i2d t) (FP.i2d k_)) (4741671816366391296 : UInt64)) (FP.l2d d))), .second, .val (.long n), .second, .val (.long qq), .second, .val (.long rem), .second] [(.int (lcmpW rem (0 : Int64)))]) fun _ _ X _ k => XS.lcmp X.here hx rfl (hb hby d0_280) rfl k
    by_cases q281 : (lcmpW rem (0 : Int64)) = (0 : Int32)
    · skip
      have A282 := A280.go (f' := mkF m 284 #[.val (.int p1), .val (.int p2), .val (.long qd), .second, .val (.int sel), .val (.long qr), .second, .val (.int s_), .val (.int t), .val (.int k_), .val (.ref xp), .val (.long d), .second, .val (.ref x2), .val (.double (FP.ddiv (FP.dmul (FP.dmul (FP.i2d t) (FP.i2d k_)) (4741671816366391296 : UInt64)) (FP.l2d d))), .second, .val (.long n), .second, .val (.long qq), .second, .val (.long rem), .second] []) fun _ _ X _ k => XS.ifNo X.here hx rfl (hb hby d0_281) rfl ((if0 _ _).trans (teq q281).2) k
      have A283 := A282.go (f' := mkF m 286 #[.val (.int p1), .val (.int p2), .val (.long qd), .second, .val (.int sel), .val (.long qr), .second, .val (.int s_), .val (.int t), .val (.int k_), .val (.ref xp), .val (.long d), .second, .val (.ref x2), .val (.double (FP.ddiv (FP.dmul (FP.dmul (FP.i2d t) (FP.i2d k_)) (4741671816366391296 : UInt64)) (FP.l2d d))), .second, .val (.long n), .second, .val (.long qq), .second, .val (.long rem), .second] [(.double (FP.ddiv (FP.dmul (FP.dmul (FP.i2d t) (FP.i2d k_)) (4741671816366391296 : UInt64)) (FP.l2d d)))]) fun _ _ X _ k => XS.dload X.here hx rfl (hb hby d0_284) rfl k
      have A284 := A283.go (f' := mkF m 288 #[.val (.int p1), .val (.int p2), .val (.long qd), .second, .val (.int sel), .val (.long qr), .second, .val (.int s_), .val (.int t), .val (.int k_), .val (.ref xp), .val (.long d), .second, .val (.ref x2), .val (.double (FP.ddiv (FP.dmul (FP.dmul (FP.i2d t) (FP.i2d k_)) (4741671816366391296 : UInt64)) (FP.l2d d))), .second, .val (.long n), .second, .val (.long qq), .second, .val (.long rem), .second] [(.long qq), (.double (FP.ddiv (FP.dmul (FP.dmul (FP.i2d t) (FP.i2d k_)) (4741671816366391296 : UInt64)) (FP.l2d d)))]) fun _ _ X _ k => XS.lload X.here hx rfl (hb hby d0_286) rfl k
      have A285 := A284.go (f' := mkF m 289 #[.val (.int p1), .val (.int p2), .val (.long qd), .second, .val (.int sel), .val (.long qr), .second, .val (.int s_), .val (.int t), .val (.int k_), .val (.ref xp), .val (.long d), .second, .val (.ref x2), .val (.double (FP.ddiv (FP.dmul (FP.dmul (FP.i2d t) (FP.i2d k_)) (4741671816366391296 : UInt64)) (FP.l2d d))), .second, .val (.long n), .second, .val (.long qq), .second, .val (.long rem), .second] [(.double (FP.l2d qq)), (.double (FP.ddiv (FP.dmul (FP.dmul (FP.i2d t) (FP.i2d k_)) (4741671816366391296 : UInt64)) (FP.l2d d)))]) fun _ _ X _ k => XS.l2dS X.here hx rfl (hb hby d0_288) rfl rfl k
      have A286 := A285.go (f' := mkF m 290 #[.val (.int p1), .val (.int p2), .val (.long qd), .second, .val (.int sel), .val (.long qr), .second, .val (.int s_), .val (.int t), .val (.int k_), .val (.ref xp), .val (.long d), .second, .val (.ref x2), .val (.double (FP.ddiv (FP.dmul (FP.dmul (FP.i2d t) (FP.i2d k_)) (4741671816366391296 : UInt64)) (FP.l2d d))), .second, .val (.long n), .second, .val (.long qq), .second, .val (.long rem), .second] [(.int (cmpValue (FP.dcmp (FP.ddiv (FP.dmul (FP.dmul (FP.i2d t) (FP.i2d k_)) (4741671816366391296 : UInt64)) (FP.l2d d)) (FP.l2d qq)) .l))]) fun _ _ X _ k => XS.dcmpS X.here hx rfl (hb hby d0_289) rfl rfl k
      have q287 : ((cmpValue (FP.dcmp (FP.ddiv (FP.dmul (FP.dmul (FP.i2d t) (FP.i2d k_)) (4741671816366391296 : UInt64)) (FP.l2d d)) (FP.l2d qq)) .l) = (0 : Int32)) := own_fin0 hTK hn hD hqq hrem ((lw_eq _ _).mp q281)
      have A288 := A286.go (f' := mkF m 293 #[.val (.int p1), .val (.int p2), .val (.long qd), .second, .val (.int sel), .val (.long qr), .second, .val (.int s_), .val (.int t), .val (.int k_), .val (.ref xp), .val (.long d), .second, .val (.ref x2), .val (.double (FP.ddiv (FP.dmul (FP.dmul (FP.i2d t) (FP.i2d k_)) (4741671816366391296 : UInt64)) (FP.l2d d))), .second, .val (.long n), .second, .val (.long qq), .second, .val (.long rem), .second] []) fun _ _ X _ k => XS.ifNo X.here hx rfl (hb hby d0_290) rfl ((if0 _ _).trans (teq q287).2) k
      have A289 := A288.go (f' := mkF m 294 #[.val (.int p1), .val (.int p2), .val (.long qd), .second, .val (.int sel), .val (.long qr), .second, .val (.int s_), .val (.int t), .val (.int k_), .val (.ref xp), .val (.long d), .second, .val (.ref x2), .val (.double (FP.ddiv (FP.dmul (FP.dmul (FP.i2d t) (FP.i2d k_)) (4741671816366391296 : UInt64)) (FP.l2d d))), .second, .val (.long n), .second, .val (.long qq), .second, .val (.long rem), .second] [(.int (1 : Int32))]) fun _ _ X _ k => XS.iconst X.here hx rfl (hb hby d0_293) k
      have A290 := A289.go (f' := mkF m 298 #[.val (.int p1), .val (.int p2), .val (.long qd), .second, .val (.int sel), .val (.long qr), .second, .val (.int s_), .val (.int t), .val (.int k_), .val (.ref xp), .val (.long d), .second, .val (.ref x2), .val (.double (FP.ddiv (FP.dmul (FP.dmul (FP.i2d t) (FP.i2d k_)) (4741671816366391296 : UInt64)) (FP.l2d d))), .second, .val (.long n), .second, .val (.long qq), .second, .val (.long rem), .second] [(.int (1 : Int32))]) fun _ _ X _ k => XS.goto X.here hx rfl (pc0 := 294) (pc' := 298) rfl (hb hby d0_294) (by decide) (by decide) k
      exact A290.ret hx hlk hret (hb hby d0_298) rfl (Or.inl ⟨rfl, by simp, _, rfl⟩) (by decide) (by decide) ⟨rfl, trivial⟩
    · skip
      have A291 := A280.go (f' := mkF m 299 #[.val (.int p1), .val (.int p2), .val (.long qd), .second, .val (.int sel), .val (.long qr), .second, .val (.int s_), .val (.int t), .val (.int k_), .val (.ref xp), .val (.long d), .second, .val (.ref x2), .val (.double (FP.ddiv (FP.dmul (FP.dmul (FP.i2d t) (FP.i2d k_)) (4741671816366391296 : UInt64)) (FP.l2d d))), .second, .val (.long n), .second, .val (.long qq), .second, .val (.long rem), .second] []) fun _ _ X _ k => XS.ifYes X.here hx rfl (pc0 := 281) (pc' := 299) rfl (hb hby d0_281) rfl ((if0 _ _).trans (feq q281).2) (by decide) (by decide) k
      have A292 := A291.go (f' := mkF m 301 #[.val (.int p1), .val (.int p2), .val (.long qd), .second, .val (.int sel), .val (.long qr), .second, .val (.int s_), .val (.int t), .val (.int k_), .val (.ref xp), .val (.long d), .second, .val (.ref x2), .val (.double (FP.ddiv (FP.dmul (FP.dmul (FP.i2d t) (FP.i2d k_)) (4741671816366391296 : UInt64)) (FP.l2d d))), .second, .val (.long n), .second, .val (.long qq), .second, .val (.long rem), .second] [(.long qq)]) fun _ _ X _ k => XS.lload X.here hx rfl (hb hby d0_299) rfl k
      have A293 := A292.go (f' := mkF m 302 #[.val (.int p1), .val (.int p2), .val (.long qd), .second, .val (.int sel), .val (.long qr), .second, .val (.int s_), .val (.int t), .val (.int k_), .val (.ref xp), .val (.long d), .second, .val (.ref x2), .val (.double (FP.ddiv (FP.dmul (FP.dmul (FP.i2d t) (FP.i2d k_)) (4741671816366391296 : UInt64)) (FP.l2d d))), .second, .val (.long n), .second, .val (.long qq), .second, .val (.long rem), .second] [(.double (FP.l2d qq))]) fun _ _ X _ k => XS.l2dS X.here hx rfl (hb hby d0_301) rfl rfl k
      have A294 := A293.go (f' := mkF m 304 #[.val (.int p1), .val (.int p2), .val (.long qd), .second, .val (.int sel), .val (.long qr), .second, .val (.int s_), .val (.int t), .val (.int k_), .val (.ref xp), .val (.long d), .second, .val (.ref x2), .val (.double (FP.ddiv (FP.dmul (FP.dmul (FP.i2d t) (FP.i2d k_)) (4741671816366391296 : UInt64)) (FP.l2d d))), .second, .val (.long n), .second, .val (.long qq), .second, .val (.long rem), .second] [(.double (FP.ddiv (FP.dmul (FP.dmul (FP.i2d t) (FP.i2d k_)) (4741671816366391296 : UInt64)) (FP.l2d d))), (.double (FP.l2d qq))]) fun _ _ X _ k => XS.dload X.here hx rfl (hb hby d0_302) rfl k
      have A295 := A294.go (f' := mkF m 305 #[.val (.int p1), .val (.int p2), .val (.long qd), .second, .val (.int sel), .val (.long qr), .second, .val (.int s_), .val (.int t), .val (.int k_), .val (.ref xp), .val (.long d), .second, .val (.ref x2), .val (.double (FP.ddiv (FP.dmul (FP.dmul (FP.i2d t) (FP.i2d k_)) (4741671816366391296 : UInt64)) (FP.l2d d))), .second, .val (.long n), .second, .val (.long qq), .second, .val (.long rem), .second] [(.int (cmpValue (FP.dcmp (FP.l2d qq) (FP.ddiv (FP.dmul (FP.dmul (FP.i2d t) (FP.i2d k_)) (4741671816366391296 : UInt64)) (FP.l2d d))) .g))]) fun _ _ X _ k => XS.dcmpS X.here hx rfl (hb hby d0_304) rfl rfl k
      have q296 : ¬ ((0 : Int32) < (cmpValue (FP.dcmp (FP.l2d qq) (FP.ddiv (FP.dmul (FP.dmul (FP.i2d t) (FP.i2d k_)) (4741671816366391296 : UInt64)) (FP.l2d d))) .g)) := own_fin1 hTK hn hD hqq hrem
      have A297 := A295.go (f' := mkF m 308 #[.val (.int p1), .val (.int p2), .val (.long qd), .second, .val (.int sel), .val (.long qr), .second, .val (.int s_), .val (.int t), .val (.int k_), .val (.ref xp), .val (.long d), .second, .val (.ref x2), .val (.double (FP.ddiv (FP.dmul (FP.dmul (FP.i2d t) (FP.i2d k_)) (4741671816366391296 : UInt64)) (FP.l2d d))), .second, .val (.long n), .second, .val (.long qq), .second, .val (.long rem), .second] []) fun _ _ X _ k => XS.ifNo X.here hx rfl (hb hby d0_305) rfl ((if0 _ _).trans (flt q296).2.2.1) k
      have A298 := A297.go (f' := mkF m 310 #[.val (.int p1), .val (.int p2), .val (.long qd), .second, .val (.int sel), .val (.long qr), .second, .val (.int s_), .val (.int t), .val (.int k_), .val (.ref xp), .val (.long d), .second, .val (.ref x2), .val (.double (FP.ddiv (FP.dmul (FP.dmul (FP.i2d t) (FP.i2d k_)) (4741671816366391296 : UInt64)) (FP.l2d d))), .second, .val (.long n), .second, .val (.long qq), .second, .val (.long rem), .second] [(.double (FP.ddiv (FP.dmul (FP.dmul (FP.i2d t) (FP.i2d k_)) (4741671816366391296 : UInt64)) (FP.l2d d)))]) fun _ _ X _ k => XS.dload X.here hx rfl (hb hby d0_308) rfl k
      have A299 := A298.go (f' := mkF m 312 #[.val (.int p1), .val (.int p2), .val (.long qd), .second, .val (.int sel), .val (.long qr), .second, .val (.int s_), .val (.int t), .val (.int k_), .val (.ref xp), .val (.long d), .second, .val (.ref x2), .val (.double (FP.ddiv (FP.dmul (FP.dmul (FP.i2d t) (FP.i2d k_)) (4741671816366391296 : UInt64)) (FP.l2d d))), .second, .val (.long n), .second, .val (.long qq), .second, .val (.long rem), .second] [(.long qq), (.double (FP.ddiv (FP.dmul (FP.dmul (FP.i2d t) (FP.i2d k_)) (4741671816366391296 : UInt64)) (FP.l2d d)))]) fun _ _ X _ k => XS.lload X.here hx rfl (hb hby d0_310) rfl k
      have A300 := A299.go (f' := mkF m 313 #[.val (.int p1), .val (.int p2), .val (.long qd), .second, .val (.int sel), .val (.long qr), .second, .val (.int s_), .val (.int t), .val (.int k_), .val (.ref xp), .val (.long d), .second, .val (.ref x2), .val (.double (FP.ddiv (FP.dmul (FP.dmul (FP.i2d t) (FP.i2d k_)) (4741671816366391296 : UInt64)) (FP.l2d d))), .second, .val (.long n), .second, .val (.long qq), .second, .val (.long rem), .second] [(.long (1 : Int64)), (.long qq), (.double (FP.ddiv (FP.dmul (FP.dmul (FP.i2d t) (FP.i2d k_)) (4741671816366391296 : UInt64)) (FP.l2d d)))]) fun _ _ X _ k => XS.lconst X.here hx rfl (hb hby d0_312) k
      have A301 := A300.go (f' := mkF m 314 #[.val (.int p1), .val (.int p2), .val (.long qd), .second, .val (.int sel), .val (.long qr), .second, .val (.int s_), .val (.int t), .val (.int k_), .val (.ref xp), .val (.long d), .second, .val (.ref x2), .val (.double (FP.ddiv (FP.dmul (FP.dmul (FP.i2d t) (FP.i2d k_)) (4741671816366391296 : UInt64)) (FP.l2d d))), .second, .val (.long n), .second, .val (.long qq), .second, .val (.long rem), .second] [(.long (qq + (1 : Int64))), (.double (FP.ddiv (FP.dmul (FP.dmul (FP.i2d t) (FP.i2d k_)) (4741671816366391296 : UInt64)) (FP.l2d d)))]) fun _ _ X _ k => XS.ladd X.here hx rfl (hb hby d0_313) rfl k
      have A302 := A301.go (f' := mkF m 315 #[.val (.int p1), .val (.int p2), .val (.long qd), .second, .val (.int sel), .val (.long qr), .second, .val (.int s_), .val (.int t), .val (.int k_), .val (.ref xp), .val (.long d), .second, .val (.ref x2), .val (.double (FP.ddiv (FP.dmul (FP.dmul (FP.i2d t) (FP.i2d k_)) (4741671816366391296 : UInt64)) (FP.l2d d))), .second, .val (.long n), .second, .val (.long qq), .second, .val (.long rem), .second] [(.double (FP.l2d (qq + (1 : Int64)))), (.double (FP.ddiv (FP.dmul (FP.dmul (FP.i2d t) (FP.i2d k_)) (4741671816366391296 : UInt64)) (FP.l2d d)))]) fun _ _ X _ k => XS.l2dS X.here hx rfl (hb hby d0_314) rfl rfl k
      have A303 := A302.go (f' := mkF m 316 #[.val (.int p1), .val (.int p2), .val (.long qd), .second, .val (.int sel), .val (.long qr), .second, .val (.int s_), .val (.int t), .val (.int k_), .val (.ref xp), .val (.long d), .second, .val (.ref x2), .val (.double (FP.ddiv (FP.dmul (FP.dmul (FP.i2d t) (FP.i2d k_)) (4741671816366391296 : UInt64)) (FP.l2d d))), .second, .val (.long n), .second, .val (.long qq), .second, .val (.long rem), .second] [(.int (cmpValue (FP.dcmp (FP.ddiv (FP.dmul (FP.dmul (FP.i2d t) (FP.i2d k_)) (4741671816366391296 : UInt64)) (FP.l2d d)) (FP.l2d (qq + (1 : Int64)))) .g))]) fun _ _ X _ k => XS.dcmpS X.here hx rfl (hb hby d0_315) rfl rfl k
      have q304 : ¬ ((0 : Int32) < (cmpValue (FP.dcmp (FP.ddiv (FP.dmul (FP.dmul (FP.i2d t) (FP.i2d k_)) (4741671816366391296 : UInt64)) (FP.l2d d)) (FP.l2d (qq + (1 : Int64)))) .g)) := own_fin2 hTK hn hD hqq hrem
      have A305 := A303.go (f' := mkF m 319 #[.val (.int p1), .val (.int p2), .val (.long qd), .second, .val (.int sel), .val (.long qr), .second, .val (.int s_), .val (.int t), .val (.int k_), .val (.ref xp), .val (.long d), .second, .val (.ref x2), .val (.double (FP.ddiv (FP.dmul (FP.dmul (FP.i2d t) (FP.i2d k_)) (4741671816366391296 : UInt64)) (FP.l2d d))), .second, .val (.long n), .second, .val (.long qq), .second, .val (.long rem), .second] []) fun _ _ X _ k => XS.ifNo X.here hx rfl (hb hby d0_316) rfl ((if0 _ _).trans (flt q304).2.2.1) k
      have A306 := A305.go (f' := mkF m 320 #[.val (.int p1), .val (.int p2), .val (.long qd), .second, .val (.int sel), .val (.long qr), .second, .val (.int s_), .val (.int t), .val (.int k_), .val (.ref xp), .val (.long d), .second, .val (.ref x2), .val (.double (FP.ddiv (FP.dmul (FP.dmul (FP.i2d t) (FP.i2d k_)) (4741671816366391296 : UInt64)) (FP.l2d d))), .second, .val (.long n), .second, .val (.long qq), .second, .val (.long rem), .second] [(.int (1 : Int32))]) fun _ _ X _ k => XS.iconst X.here hx rfl (hb hby d0_319) k
      have A307 := A306.go (f' := mkF m 324 #[.val (.int p1), .val (.int p2), .val (.long qd), .second, .val (.int sel), .val (.long qr), .second, .val (.int s_), .val (.int t), .val (.int k_), .val (.ref xp), .val (.long d), .second, .val (.ref x2), .val (.double (FP.ddiv (FP.dmul (FP.dmul (FP.i2d t) (FP.i2d k_)) (4741671816366391296 : UInt64)) (FP.l2d d))), .second, .val (.long n), .second, .val (.long qq), .second, .val (.long rem), .second] [(.int (1 : Int32))]) fun _ _ X _ k => XS.goto X.here hx rfl (pc0 := 320) (pc' := 324) rfl (hb hby d0_320) (by decide) (by decide) k
      exact A307.ret hx hlk hret (hb hby d0_324) rfl (Or.inl ⟨rfl, by simp, _, rfl⟩) (by decide) (by decide) ⟨rfl, trivial⟩
set_option maxRecDepth 65536 in
set_option maxHeartbeats 40000000 in
theorem comes_1 {Post : Tables → Env → Array Value → State → Outcome → State → Prop} (hpost : ∀ tb e args s v u, (limb_1_1.after args s (.returned v) u = true ∧ limb_1_2.after args s (.returned v) u = true ∧ True) → FrameEnd s (.returned v) u (Jvm.fieldLocs frame_1_writes args s ++ Jvm.arrayLocs frame_1_arrays args s ++ Jvm.staticLocs frame_1_statics s) 16 128 → Post tb e args s (.returned v) u) :
    ArmFor flags0 classFile x code maxLocals ret World_1 tables_1 room_1 Calls_1 rest_1 Pre_1 Post := by
  intro l hfl _ _ p e ha hc hk s m args below hf hA hF happ hP
  obtain ⟨hcalls, hrest, hpre⟩ := hP
  obtain ⟨-, -, -, hnamed, -, -, -, hat⟩ := (Spec.applies_iff hf).mp happ
  obtain ⟨hg, hn⟩ := and_e (Cond.before_iff.mp (show (Jvm.Cond.and given_1 narrow_1).before args s = true from hpre))
  obtain ⟨h1, g0⟩ := and_e hg
  obtain ⟨w0, w1, w2, w3, w4, rfl⟩ : ∃ w0 w1 w2 w3 w4 : Value, args = #[w0, w1, w2, w3, w4] := by
    have hs : args.size = 5 := by simpa [Cond.value, given_1] using h1
    obtain ⟨L⟩ := args
    match L, hs with
    | [w0, w1, w2, w3, w4], _ => exact ⟨w0, w1, w2, w3, w4, rfl⟩
  have hw := fun d (hd : d ∈ tables_1) => atoms_spec (ws := Jvm.Cond.code x code maxLocals ret :: tables_1) hat d (List.mem_cons_of_mem _ hd)
  have hfit : Fit s := fun {y c} hc i hi => by
    obtain ⟨ha, rfl⟩ := Array.getElem?_eq_some_iff.mp hc
    have q := List.all_eq_true.mp ((Array.all_eq_true_iff_forall_mem.mp hF) _ (Array.getElem_mem ha)) i (List.mem_range.mpr hi)
    simpa [Array.getElem?_eq_getElem hi] using q
  obtain ⟨k0, g1⟩ := and_e g0
  obtain ⟨i0, e0⟩ := is_v k0
  obtain rfl : w0 = (.int i0) := Option.some.inj e0
  obtain ⟨k1, g2⟩ := and_e g1
  obtain ⟨i1, e1⟩ := is_v k1
  obtain rfl : w1 = (.int i1) := Option.some.inj e1
  obtain ⟨k2, g3⟩ := and_e g2
  obtain ⟨i2, e2⟩ := isL_v k2
  obtain rfl : w2 = (.long i2) := Option.some.inj e2
  obtain ⟨k3, g4⟩ := and_e g3
  obtain ⟨i3, e3⟩ := is_v k3
  obtain rfl : w3 = (.int i3) := Option.some.inj e3
  obtain ⟨i4, e4⟩ := isL_v g4
  obtain rfl : w4 = (.long i4) := Option.some.inj e4
  obtain ⟨n, o, h1, h2, h3, _, L, rfl, ⟨⟨rfl, -⟩, N⟩, hq⟩ := (own_law l s _ hw i0 i1 i2 i3 i4 s.heap s.heap.size (Nat.le_refl _)) p e ha hc hk s m _ below hf ((Spec.applies_iff_loose hf).mp happ).1 ⟨rfl, State.Warmed39.refl s, rfl⟩ trivial
  refine ⟨n, _, h1, h2, h3, hpost _ _ _ _ _ _ ⟨Cond.after_iff.mpr rfl, Cond.after_iff.mpr (eq_i res_at (Term.int_eval (1)) rfl), trivial⟩ ⟨hq.1, hq.2.1, (hq.2.2.sift fun y hy => Or.inr (N y hy)).mono (by decide) (by decide)⟩⟩
theorem main_1_1 : Claimed_1_1 := comes_1 fun _ _ _ _ _ _ h hF => ⟨h.1, hF⟩
theorem main_1_2 : Claimed_1_2 := comes_1 fun _ _ _ _ _ _ h hF => ⟨h.2.1, hF⟩
end Jvm.Pilot.@@N@@
namespace Jvm.Pilot.@@N@@
open Jvm Jvm.ClassFile Sem Op Lib Jvm.Free Jvm.Stand Jvm.Pilot.@@N@@.Jvm.D
/-! MADE BY PROGRAM (witnessworld.py) out of the Statement's table words and the real class files: 13 classes; the members and pool entries that the words name. The judged class is class 1, her method 1. -/
namespace start1
open Jvm.ClassFile
def u (s : String) : CpInfo := .utf8 (stringToUtf16 s)
/-- a pool by its gaps: so many unusable entries, then the entry; so many at the end -/
def gap : Nat → List CpInfo → List CpInfo
  | 0, r => r
  | n + 1, r => .unusable :: gap n r
def poolList (es : List (Nat × CpInfo)) (last : Nat) : List CpInfo := es.foldr (fun e r => gap e.1 (e.2 :: r)) (gap last [])
def pool (es : List (Nat × CpInfo)) (last : Nat) : Array CpInfo := ⟨poolList es last⟩
def fileOf (pool : Array CpInfo) (this : Nat) (attrs : Array Attribute := #[]) (ms : Array MethodInfo := #[]) (fl : Nat := 33) (sup : Nat := 0) (ifs : Array Nat := #[]) (fds : Array FieldInfo := #[]) : ClassFile where
  minorVersion := 0
  majorVersion := 65
  constantPool := pool
  accessFlags := fl
  thisClass := this
  superClass := sup
  interfaces := ifs
  fields := fds
  methods := ms
  attributes := attrs
def plain (name : String) (sup : Option ClassId) : Class where
  name := name
  kind := .ordinary
  loader := none
  accessFlags := 33
  super := sup
  interfaces := #[]
  cf := none
  fields := #[]
  methods := #[]
  instanceTypes := #[]
  staticTypes := #[]
  resolved := #[]
  callSites := []
  init := .initialized
  statics := none
  mirror := none

def pool0 : Array CpInfo := pool [(5, u "<init>"), (0, u "()V"), (1, .class_ 10), (1, u "java/lang/Object")] 113

def k0c0 : Code := { maxStack := 0, maxLocals := 1, code := object_method_1_code, exceptionTable := #[], attributes := #[] }
def k0m0 : Method := { name := "<init>", desc := "()V", sig := { parameters := [], returnType := none }, accessFlags := 1, code := some k0c0 }
/-- java/lang/Object -/
def k0 : Class := { plain "java/lang/Object" none with
  accessFlags := 33
  interfaces := #[]
  cf := some (fileOf pool0 8 #[] #[{ accessFlags := 1, nameIndex := 5, descriptorIndex := 6, attributes := #[] }] 33 0 #[] #[])
  fields := #[]
  methods := #[k0m0]
  instanceTypes := #[]
  staticTypes := #[]
  resolved := Array.replicate 124 none
  statics := none }

def pool1 : Array CpInfo := pool [(2, .class_ 4), (1, u "java/lang/Object"), (0, u "<init>"), (0, u "()V"), (0, .integer 2147483647), (0, .methodref 9 10), (0, .class_ 11), (0, .nameAndType 12 13), (0, u "java/lang/Math"), (0, u "max"), (0, u "(II)I"), (0, .long 5), (1, .long 25), (1, .long 125), (1, .long 625), (1, .long 3125), (1, .long 15625), (1, .long 78125), (1, .long 390625), (1, .long 1953125), (1, .long 9007199254740991), (1, .class_ 35), (0, u "com/example/shardrule/shardrule/bench/RoutingBench$Result"), (0, .methodref 34 37), (0, .nameAndType 5 38), (0, u "(IIJJ)V"), (0, .methodref 34 40), (0, .nameAndType 41 42), (0, u "keysPerSecond"), (0, u "()D"), (0, .long 1000000000), (1, .class_ 46), (0, u "com/example/shardrule/shardrule/bench/ResultKeysPerSecondPinLaw"), (2, u "law"), (0, u "(IIJIJ)Z")] 9

def k1m0 : Method := { name := "<init>", desc := "()V", sig := { parameters := [], returnType := none }, accessFlags := 2, code := none }
def k1c1 : Code := { maxStack := 8, maxLocals := 22, code := code, exceptionTable := #[], attributes := #[] }
def k1m1 : Method := { name := "law", desc := "(IIJIJ)Z", sig := { parameters := [.int, .int, .long, .int, .long], returnType := some .boolean }, accessFlags := 9, code := some k1c1 }
/-- com/example/shardrule/shardrule/bench/ResultKeysPerSecondPinLaw -/
def k1 : Class := { plain "com/example/shardrule/shardrule/bench/ResultKeysPerSecondPinLaw" (some 0) with
  accessFlags := 49
  interfaces := #[]
  cf := some (fileOf pool1 45 #[] #[{ accessFlags := 2, nameIndex := 5, descriptorIndex := 6, attributes := #[] }, { accessFlags := 9, nameIndex := 49, descriptorIndex := 50, attributes := #[] }] 49 2 #[] #[])
  fields := #[]
  methods := #[k1m0, k1m1]
  instanceTypes := #[]
  staticTypes := #[]
  resolved := Array.replicate 60 none
  statics := none }

def pool2 : Array CpInfo := pool [(1, .class_ 2), (0, u "java/lang/Math"), (1, .class_ 6), (1, u "java/lang/Object"), (0, u "<init>"), (0, u "()V"), (89, .class_ 100), (1, u "java/lang/Math$RandomNumberGeneratorHolder"), (71, u "negativeZeroFloatBits"), (0, u "J"), (2, u "negativeZeroDoubleBits"), (21, u "max"), (46, u "$assertionsDisabled"), (0, u "Z"), (88, u "(II)I"), (2, u "twoToTheDoubleScaleDown"), (0, u "D"), (4, u "twoToTheDoubleScaleUp"), (9, u "E"), (3, u "PI"), (2, u "TAU"), (2, u "DEGREES_TO_RADIANS"), (0, u "RADIANS_TO_DEGREES")] 94

def k2m0 : Method := { name := "<init>", desc := "()V", sig := { parameters := [], returnType := none }, accessFlags := 2, code := none }
def k2c1 : Code := { maxStack := 2, maxLocals := 2, code := jdk_29_method_65_code, exceptionTable := #[], attributes := #[] }
def k2m1 : Method := { name := "max", desc := "(II)I", sig := { parameters := [.int, .int], returnType := some .int }, accessFlags := 9, code := some k2c1 }
/-- java/lang/Math -/
def k2 : Class := { plain "java/lang/Math" (some 0) with
  accessFlags := 49
  interfaces := #[]
  cf := some (fileOf pool2 1 #[.nestMembers #[98]] #[{ accessFlags := 2, nameIndex := 7, descriptorIndex := 8, attributes := #[] }, { accessFlags := 9, nameIndex := 198, descriptorIndex := 335, attributes := #[] }] 49 4 #[] #[{ accessFlags := 25, nameIndex := 354, descriptorIndex := 339, attributes := #[] }, { accessFlags := 25, nameIndex := 358, descriptorIndex := 339, attributes := #[] }, { accessFlags := 25, nameIndex := 361, descriptorIndex := 339, attributes := #[] }, { accessFlags := 26, nameIndex := 364, descriptorIndex := 339, attributes := #[] }, { accessFlags := 26, nameIndex := 365, descriptorIndex := 339, attributes := #[] }, { accessFlags := 26, nameIndex := 172, descriptorIndex := 173, attributes := #[] }, { accessFlags := 26, nameIndex := 176, descriptorIndex := 173, attributes := #[] }, { accessFlags := 8, nameIndex := 344, descriptorIndex := 339, attributes := #[] }, { accessFlags := 8, nameIndex := 338, descriptorIndex := 339, attributes := #[] }, { accessFlags := 4120, nameIndex := 245, descriptorIndex := 246, attributes := #[] }])
  fields := #[{ name := "E", type := .double, accessFlags := 25, slot := 0, constantValue := 0 }, { name := "PI", type := .double, accessFlags := 25, slot := 1, constantValue := 0 }, { name := "TAU", type := .double, accessFlags := 25, slot := 2, constantValue := 0 }, { name := "DEGREES_TO_RADIANS", type := .double, accessFlags := 26, slot := 3, constantValue := 0 }, { name := "RADIANS_TO_DEGREES", type := .double, accessFlags := 26, slot := 4, constantValue := 0 }, { name := "negativeZeroFloatBits", type := .long, accessFlags := 26, slot := 5, constantValue := 0 }, { name := "negativeZeroDoubleBits", type := .long, accessFlags := 26, slot := 6, constantValue := 0 }, { name := "twoToTheDoubleScaleUp", type := .double, accessFlags := 8, slot := 7, constantValue := 0 }, { name := "twoToTheDoubleScaleDown", type := .double, accessFlags := 8, slot := 8, constantValue := 0 }, { name := "$assertionsDisabled", type := .boolean, accessFlags := 4120, slot := 9, constantValue := 0 }]
  methods := #[k2m0, k2m1]
  instanceTypes := #[]
  staticTypes := #[.double, .double, .double, .double, .double, .long, .long, .double, .double, .boolean]
  resolved := Array.replicate 460 none
  statics := none }

def pool3 : Array CpInfo := pool [(1, .methodref 2 3), (0, .class_ 4), (0, .nameAndType 5 6), (0, u "java/lang/Object"), (0, u "<init>"), (0, u "()V"), (0, .class_ 8), (0, u "java/lang/Record")] 13

def k3c0 : Code := { maxStack := 1, maxLocals := 1, code := jdk_30_method_1_code, exceptionTable := #[], attributes := #[] }
def k3m0 : Method := { name := "<init>", desc := "()V", sig := { parameters := [], returnType := none }, accessFlags := 4, code := some k3c0 }
/-- java/lang/Record -/
def k3 : Class := { plain "java/lang/Record" (some 0) with
  accessFlags := 1057
  interfaces := #[]
  cf := some (fileOf pool3 7 #[] #[{ accessFlags := 4, nameIndex := 5, descriptorIndex := 6, attributes := #[] }] 1057 2 #[] #[])
  fields := #[]
  methods := #[k3m0]
  instanceTypes := #[]
  staticTypes := #[]
  resolved := Array.replicate 22 none
  statics := none }

def pool4 : Array CpInfo := pool [(1, .methodref 2 3), (0, .class_ 4), (0, .nameAndType 5 6), (0, u "java/lang/Record"), (0, u "<init>"), (0, u "()V"), (0, .fieldref 8 9), (0, .class_ 10), (0, .nameAndType 11 12), (0, u "com/example/shardrule/shardrule/bench/RoutingBench$Result"), (0, u "keys"), (0, u "I"), (0, .fieldref 8 14), (0, .nameAndType 15 12), (0, u "threads"), (0, .fieldref 8 17), (0, .nameAndType 18 19), (0, u "routePassNanos"), (0, u "J"), (0, .fieldref 8 21), (0, .nameAndType 22 19), (0, u "crcPassNanos"), (3, u "()D"), (3, .double 4741671816366391296), (13, u "(IIJJ)V"), (4, u "keysPerSecond"), (7, .class_ 58), (0, u "com/example/shardrule/shardrule/bench/RoutingBench")] 22

def k4c0 : Code := { maxStack := 3, maxLocals := 7, code := prog_17_method_1_code, exceptionTable := #[], attributes := #[] }
def k4m0 : Method := { name := "<init>", desc := "(IIJJ)V", sig := { parameters := [.int, .int, .long, .long], returnType := none }, accessFlags := 1, code := some k4c0 }
def k4c1 : Code := { maxStack := 4, maxLocals := 1, code := prog_17_method_5_code, exceptionTable := #[], attributes := #[] }
def k4m1 : Method := { name := "keysPerSecond", desc := "()D", sig := { parameters := [], returnType := some .double }, accessFlags := 1, code := some k4c1 }
/-- com/example/shardrule/shardrule/bench/RoutingBench$Result -/
def k4 : Class := { plain "com/example/shardrule/shardrule/bench/RoutingBench$Result" (some 3) with
  accessFlags := 49
  interfaces := #[]
  cf := some (fileOf pool4 8 #[.nestHost 57] #[{ accessFlags := 1, nameIndex := 5, descriptorIndex := 44, attributes := #[] }, { accessFlags := 1, nameIndex := 49, descriptorIndex := 26, attributes := #[] }] 49 2 #[] #[{ accessFlags := 18, nameIndex := 11, descriptorIndex := 12, attributes := #[] }, { accessFlags := 18, nameIndex := 15, descriptorIndex := 12, attributes := #[] }, { accessFlags := 18, nameIndex := 18, descriptorIndex := 19, attributes := #[] }, { accessFlags := 18, nameIndex := 22, descriptorIndex := 19, attributes := #[] }])
  fields := #[{ name := "keys", type := .int, accessFlags := 18, slot := 0, constantValue := 0 }, { name := "threads", type := .int, accessFlags := 18, slot := 1, constantValue := 0 }, { name := "routePassNanos", type := .long, accessFlags := 18, slot := 2, constantValue := 0 }, { name := "crcPassNanos", type := .long, accessFlags := 18, slot := 3, constantValue := 0 }]
  methods := #[k4m0, k4m1]
  instanceTypes := #[.int, .int, .long, .long]
  staticTypes := #[]
  resolved := Array.replicate 81 none
  statics := none }

def pool5 : Array CpInfo := pool [(1, u "java/lang/Cloneable"), (0, .class_ 1), (0, u "java/lang/Object"), (0, .class_ 3)] 3

/-- java/lang/Cloneable -/
def k5 : Class := { plain "java/lang/Cloneable" (some 0) with
  accessFlags := 1537
  interfaces := #[]
  cf := some (fileOf pool5 2 #[] #[] 1537 4 #[] #[])
  fields := #[]
  methods := #[]
  instanceTypes := #[]
  staticTypes := #[]
  resolved := Array.replicate 8 none
  statics := none }

def pool6 : Array CpInfo := pool [(1, u "java/io/Serializable"), (0, .class_ 1), (0, u "java/lang/Object"), (0, .class_ 3)] 3

/-- java/io/Serializable -/
def k6 : Class := { plain "java/io/Serializable" (some 0) with
  accessFlags := 1537
  interfaces := #[]
  cf := some (fileOf pool6 2 #[] #[] 1537 4 #[] #[])
  fields := #[]
  methods := #[]
  instanceTypes := #[]
  staticTypes := #[]
  resolved := Array.replicate 8 none
  statics := none }

/-- the primitive byte -/
def k7 : Class := { plain "byte" none with kind := .primitive 'B', accessFlags := 0x411 }
/-- [B -/
def k8 : Class := { plain "[B" (some 0) with kind := .array 7 .byte, interfaces := #[5, 6], accessFlags := 1041 }

/-- the primitive int -/
def k9 : Class := { plain "int" none with kind := .primitive 'I', accessFlags := 0x411 }
/-- [I -/
def k10 : Class := { plain "[I" (some 0) with kind := .array 9 .int, interfaces := #[5, 6], accessFlags := 1041 }

/-- the primitive long -/
def k11 : Class := { plain "long" none with kind := .primitive 'J', accessFlags := 0x411 }
/-- [J -/
def k12 : Class := { plain "[J" (some 0) with kind := .array 11 .long, interfaces := #[5, 6], accessFlags := 1041 }

def heap : Heap := #[]
def classes : Array Class := #[k0, k1, k2, k3, k4, k5, k6, k7, k8, k9, k10, k11, k12]
def interned : List (Array UInt16 × Addr) := []
def slotsUsed : Nat := 0
def theMethod : MethodId := ⟨1, 1⟩
def args0 : Array Value := #[.int 1, .int 2, .long 3, .int 4, .long 5]
def aboutOver (below : List Frame) : State where
  vm := { classes := classes, interned := interned.toArray }
  heap := heap
  slotsUsed := slotsUsed
  threads := #[{ frames := .invoking theMethod args0 :: below }]
def below0 : List Frame := [.native { method := ⟨0, 0⟩, args := #[] }]
def about1 : State := aboutOver below0
def p0 : Program := .bare "" "" ""
def e0 : Env := launch0.env 0 0 0
theorem w_frames : about1.frames = Frame.invoking theMethod args0 :: below0 := rfl
set_option maxRecDepth 65536 in
theorem w_args : argsFit about1.vm theMethod args0 = true := by decide +kernel
set_option maxRecDepth 65536 in
theorem w_heap : heapFits about1 = true := by decide +kernel
set_option maxRecDepth 65536 in
theorem w_runnable : about1.curStatus? = some .runnable := by decide +kernel
set_option maxRecDepth 65536 in
theorem w_alone : about1.alone = true := by decide +kernel
set_option maxRecDepth 65536 in
theorem w_named : about1.methodNamed? x = some theMethod := by decide +kernel
set_option maxRecDepth 65536 in
theorem w_hears : about1.hears theMethod below0 = true := by decide +kernel
set_option maxRecDepth 65536 in
theorem w_ripe : about1.ripe theMethod args0 below0 = true := by decide +kernel
theorem w_running : about1.status = .running := rfl
set_option maxRecDepth 65536 in
theorem w_room : about1.hasRoom e0.platform room_1 = true :=
  launch0.hasRoom_least _ room_1 (by decide +kernel) (by decide +kernel) (by decide +kernel) (by decide +kernel) (by decide +kernel) (by decide +kernel)
theorem allAtoms_all (ts : List Jvm.Cond) (a : Array Jvm.Value) (st : Jvm.State) : (allAtoms ts).before a st = ts.all (fun c => c.before a st) := by
  induction ts with
  | nil => rfl
  | cons c t ih =>
    show (Jvm.Cond.and c (allAtoms t)).before a st = _
    rw [Jvm.Cond.before_and, ih, List.all_cons]
def words1 : List Jvm.Cond := Jvm.Cond.code x code maxLocals ret :: tables_1
/-- a 'code' word, met by the world's own term for the bytes: nothing is compared byte by byte -/
theorem code_word {y : MethodName} {bytes : ByteArray} {mx : Nat} {rt : Option FieldType} {a : Array Value} {s : State} {m : MethodId} {meth : Method} {c : Code} (h1 : s.methodNamed? y = some m) (h2 : s.vm.method? m = some meth) (h3 : meth.code = some c) (h4 : c.code = bytes)
    (h5 : (c.maxLocals == mx && c.exceptionTable.isEmpty && decide (c.maxStack ≤ mostOperands) && decide (meth.sig.returnType = rt) && !meth.locks && decide (parseMethodDescriptor y.desc = some meth.sig)) = true) : (Jvm.Cond.code y bytes mx rt).before a s = true := by
  simp only [Bool.and_eq_true, beq_iff_eq, Bool.not_eq_true', decide_eq_true_eq] at h5
  obtain ⟨⟨⟨⟨⟨g1, g2⟩, g3⟩, g4⟩, g5⟩, g6⟩ := h5
  simp [Cond.before, Cond.holds, Cond.value, h1, h2, h3, h4, g1, g2, g3, g4, g5, g6]
def isCode : Jvm.Cond → Bool
  | .code _ _ _ _ => true
  | _ => false
theorem all_split {L : List Jvm.Cond} {P : Jvm.Cond → Bool} (h1 : L.all (fun c => isCode c || P c) = true) (h2 : ∀ c ∈ L.filter isCode, P c = true) : L.all P = true := by
  refine List.all_eq_true.mpr fun c hc => ?_
  have h := List.all_eq_true.mp h1 c hc
  rcases Bool.eq_false_or_eq_true (isCode c) with hi | hi
  · exact h2 c (List.mem_filter.mpr ⟨hc, hi⟩)
  · simpa [hi] using h
set_option maxRecDepth 65536 in
theorem w_c0 : (Jvm.Cond.code x code maxLocals ret).before args0 about1 = true := code_word (m := ⟨1, 1⟩) (meth := k1m1) (c := k1c1) (by decide +kernel) rfl rfl rfl (by decide +kernel)
set_option maxRecDepth 65536 in
theorem w_c1 : (Jvm.Cond.code ({ cls := "java/lang/Math", name := "max", desc := "(II)I" } : Jvm.MethodName) jdk_29_method_65_code (2 : Nat) (Option.some Jvm.ClassFile.FieldType.int)).before args0 about1 = true := code_word (m := ⟨2, 1⟩) (meth := k2m1) (c := k2c1) (by decide +kernel) rfl rfl rfl (by decide +kernel)
set_option maxRecDepth 65536 in
theorem w_c2 : (Jvm.Cond.code ({ cls := "com/example/shardrule/shardrule/bench/RoutingBench$Result", name := "<init>", desc := "(IIJJ)V" } : Jvm.MethodName) prog_17_method_1_code (7 : Nat) (Option.none : Option Jvm.ClassFile.FieldType)).before args0 about1 = true := code_word (m := ⟨4, 0⟩) (meth := k4m0) (c := k4c0) (by decide +kernel) rfl rfl rfl (by decide +kernel)
set_option maxRecDepth 65536 in
theorem w_c3 : (Jvm.Cond.code ({ cls := "java/lang/Record", name := "<init>", desc := "()V" } : Jvm.MethodName) jdk_30_method_1_code (1 : Nat) (Option.none : Option Jvm.ClassFile.FieldType)).before args0 about1 = true := code_word (m := ⟨3, 0⟩) (meth := k3m0) (c := k3c0) (by decide +kernel) rfl rfl rfl (by decide +kernel)
set_option maxRecDepth 65536 in
theorem w_c4 : (Jvm.Cond.code ({ cls := "java/lang/Object", name := "<init>", desc := "()V" } : Jvm.MethodName) object_method_1_code (1 : Nat) (Option.none : Option Jvm.ClassFile.FieldType)).before args0 about1 = true := code_word (m := ⟨0, 0⟩) (meth := k0m0) (c := k0c0) (by decide +kernel) rfl rfl rfl (by decide +kernel)
set_option maxRecDepth 65536 in
theorem w_c5 : (Jvm.Cond.code ({ cls := "com/example/shardrule/shardrule/bench/RoutingBench$Result", name := "keysPerSecond", desc := "()D" } : Jvm.MethodName) prog_17_method_5_code (1 : Nat) (Option.some Jvm.ClassFile.FieldType.double)).before args0 about1 = true := code_word (m := ⟨4, 1⟩) (meth := k4m1) (c := k4c1) (by decide +kernel) rfl rfl rfl (by decide +kernel)
def codes1 : List Jvm.Cond := [Jvm.Cond.code x code maxLocals ret, Jvm.Cond.code ({ cls := "java/lang/Math", name := "max", desc := "(II)I" } : Jvm.MethodName) jdk_29_method_65_code (2 : Nat) (Option.some Jvm.ClassFile.FieldType.int), Jvm.Cond.code ({ cls := "com/example/shardrule/shardrule/bench/RoutingBench$Result", name := "<init>", desc := "(IIJJ)V" } : Jvm.MethodName) prog_17_method_1_code (7 : Nat) (Option.none : Option Jvm.ClassFile.FieldType), Jvm.Cond.code ({ cls := "java/lang/Record", name := "<init>", desc := "()V" } : Jvm.MethodName) jdk_30_method_1_code (1 : Nat) (Option.none : Option Jvm.ClassFile.FieldType), Jvm.Cond.code ({ cls := "java/lang/Object", name := "<init>", desc := "()V" } : Jvm.MethodName) object_method_1_code (1 : Nat) (Option.none : Option Jvm.ClassFile.FieldType), Jvm.Cond.code ({ cls := "com/example/shardrule/shardrule/bench/RoutingBench$Result", name := "keysPerSecond", desc := "()D" } : Jvm.MethodName) prog_17_method_5_code (1 : Nat) (Option.some Jvm.ClassFile.FieldType.double)]
set_option maxRecDepth 65536 in
theorem codes_eq : words1.filter isCode = codes1 := rfl
theorem w_codes : ∀ c ∈ words1.filter isCode, c.before args0 about1 = true := by
  rw [codes_eq]
  intro c hc
  simp only [codes1, List.mem_cons, List.not_mem_nil, or_false] at hc
  rcases hc with rfl | rfl | rfl | rfl | rfl | rfl
  · exact w_c0
  · exact w_c1
  · exact w_c2
  · exact w_c3
  · exact w_c4
  · exact w_c5
set_option maxRecDepth 65536 in
theorem w_t1 : (words1.take 24).all (fun c => isCode c || c.before args0 about1) = true := by decide +kernel
set_option maxRecDepth 65536 in
theorem w_t2 : (words1.drop 24).all (fun c => isCode c || c.before args0 about1) = true := by decide +kernel
theorem w_tables : (allAtoms (Jvm.Cond.code x code maxLocals ret :: tables_1)).before args0 about1 = true := by
  rw [allAtoms_all]
  show words1.all (fun c => c.before args0 about1) = true
  refine all_split ?_ w_codes
  rw [← List.take_append_drop 24 words1, List.all_append, w_t1, w_t2]
  rfl
set_option maxRecDepth 65536 in
theorem w_case : (Jvm.Cond.and given_1 narrow_1).before args0 about1 = true := by decide +kernel
theorem w_applies : (headSpec (Jvm.Cond.code x code maxLocals ret :: tables_1) room_1).applies x e0.platform about1 = true :=
  (Spec.applies_iff w_frames).mpr ⟨w_running, w_runnable, w_alone, w_named, w_hears, w_ripe, w_room, w_tables⟩
theorem atStart : AtStart classFile x code maxLocals ret World_1 tables_1 room_1 Calls_1 rest_1 Pre_1 launch0 p0 e0 about1 theMethod args0 below0 :=
  ⟨lists_1, trivial, launch0.admits_env _ _ _, launch0.least_env, fairChoices_fair.cas, fairChoices_fair.clock, w_frames, w_args, w_heap, w_applies, trivial, trivial, w_case⟩
end start1
theorem witness_1 : WitnessClaimed_1 := ⟨start1.p0, start1.e0, start1.about1, start1.theMethod, start1.args0, start1.below0, start1.atStart⟩
end Jvm.Pilot.@@N@@
