import JvmDerived
import JvmDerived.Pilot.@@N@@Statement
import JvmDerived.Pilot.@@N@@Code
set_option linter.unusedVariables false
set_option linter.unusedSimpArgs false
@@BLOCK:NumsL.lean.txt@@
namespace Jvm.Pilot.@@N@@
open Jvm Jvm.ClassFile Sem Op Lib Jvm.Free Jvm.Stand Jvm.LawKit Jvm.RoadKit Bundle Jvm.Pilot.@@N@@.Jvm.D

section Own
variable {p : Program} {l : Launch} {e : Env} {R : Room} {s : State} {m : MethodId} {args : Array Value} {below : List Frame} {meth : Method} {c : Code} {S0 : State} {n0 : Nat} {h h' : Heap} {ce sl ce' sl' : Nat} {f f' : JFrame} {Z : State} {a0 : Array Value}
/-- the walk stands at the frame f over the heap h; it has made ce cells and sl slots; what it wrote lies at or above n0 -/
def own_R (p : Program) (l : Launch) (e : Env) (R : Room) (s : State) (m : MethodId) (args : Array Value) (below : List Frame) (meth : Method) (c : Code) (S0 : State) (n0 : Nat) (h : Heap) (ce sl : Nat) (f : JFrame) : Prop :=
  ∃ T L, Stand p l e R s m args below meth c T L ce sl ∧ T.heap = h ∧ Fr n0 L ∧ Steps p.tables e below S0 (T.setTop f)
/-- the walk has returned, and Q holds of what it returned and of the heap -/
def own_E (p : Program) (e : Env) (R : Room) (s : State) (below : List Frame) (S0 : State) (n0 : Nat) (Q : Option Value → Heap → Prop) : Prop :=
  ∃ s₂ v L, Steps p.tables e below S0 s₂ ∧ s₂.status = .running ∧ Ended s₂ below (.returned v) ∧ (Q v s₂.heap ∧ Fr n0 L) ∧ FrameEnd s (.returned v) s₂ L R.cells R.slots
/-- a body's contract -/
def own_M (l : Launch) (Z : State) (y : MethodName) (bytes : ByteArray) (maxL : Nat) (ret : Option FieldType) (ws : List Cond) (rm : Room) (as : Array Value) (h0 : Heap) (n0 : Nat) (Q : Option Value → Heap → Prop) : Prop :=
  MetFree l y (head1 (Cond.code y bytes maxL ret :: ws) rm) (fun a U => a = as ∧ Z.Warmed39 U.vm ∧ U.heap = h0) (fun _ _ _ _ _ => True) (fun _ U o U' => ∃ v L, o = .returned v ∧ (Q v U'.heap ∧ Fr n0 L) ∧ FrameEnd U o U' L rm.cells rm.slots)
theorem own_M.of {y : MethodName} {bytes : ByteArray} {maxL : Nat} {ret : Option FieldType} {ws : List Cond} {rm : Room} {as : Array Value} {h0 : Heap} {Q : Option Value → Heap → Prop} (pn : plainFor y = true)
    (body : ∀ (p : Program) (e : Env) (s : State) (m : MethodId) (below : List Frame) (meth : Method) (c : Code) (S0 : State), p.tables.exec = Jvm.exec → c.code = bytes → c.maxLocals = maxL → s.vm.findClass y.cls = some m.cls → meth.name = y.name → meth.sig.returnType = ret → meth.locks = false → Z.Warmed39 s.vm →
      own_R p l e rm s m as below meth c S0 n0 h0 0 0 (entryFrame m as maxL) → own_E p e rm s below S0 n0 Q) :
    own_M l Z y bytes maxL ret ws rm as h0 n0 Q := by
  refine MetFree.of_bodySF pn hisR ?_
  intro p e s m args below meth c s₁ Bd hml0 hP hK
  obtain ⟨rfl, hZ, hh⟩ := hP
  have e0 : s₁.heap = h0 := by rw [← hh, Bd.state]; rfl
  obtain ⟨s₂, v, L, k, hrun, hend, hq, hF⟩ := body p e s m below meth c _ Bd.exec Bd.bytes hml0 (findClass_of_methodNamed Bd.named) (name_of_methodNamed Bd.named Bd.method).1 Bd.returns Bd.notSynchronized hZ ⟨s₁, [], Stand.of_body Bd, e0, Fr.nil n0, Steps.refl _⟩
  exact ⟨s₂, _, k, hrun, hend, v, L, rfl, hq, hF⟩
theorem own_R.cast (A : own_R p l e R s m args below meth c S0 n0 h ce sl f) (q : f = f') : own_R p l e R s m args below meth c S0 n0 h ce sl f' := q ▸ A
theorem own_R.go (A : own_R p l e R s m args below meth c S0 n0 h ce sl f)
    (st : ∀ T L, Stand p l e R s m args below meth c T L ce sl → ∀ target, Steps p.tables e below (T.setTop f') target → Steps p.tables e below (T.setTop f) target) :
    own_R p l e R s m args below meth c S0 n0 h ce sl f' := by
  obtain ⟨T, L, X, eT, N, k⟩ := A
  exact ⟨T, L, X, eT, N, k.trans (st T L X _ (Steps.refl _))⟩
theorem own_R.law (A : own_R p l e R s m args below meth c S0 n0 h ce sl f)
    (st : ∀ T L, Stand p l e R s m args below meth c T L ce sl → T.heap = h → Fr n0 L → ∃ T' L', Stand p l e R s m args below meth c T' L' ce' sl' ∧ T'.heap = h' ∧ Fr n0 L' ∧ ∀ target, Steps p.tables e below (T'.setTop f') target → Steps p.tables e below (T.setTop f) target) :
    own_R p l e R s m args below meth c S0 n0 h' ce' sl' f' := by
  obtain ⟨T, L, X, eT, N, k⟩ := A
  obtain ⟨T', L', X', e', N', k'⟩ := st T L X eT N
  exact ⟨T', L', X', e', N', k.trans (k' _ (Steps.refl _))⟩
theorem own_R.getF {pc : Nat} {Ls : Array Slot} {rest : List Value} {a : Addr} {v : Value} {own R0 O n d : String} {index : Nat}
    (A : own_R p l e R s m args below meth c S0 n0 h ce sl (mkF m pc Ls (.ref a :: rest))) (hx : p.tables.exec = Jvm.exec) (hZ : Z.Warmed39 s.vm) (hown : s.vm.findClass own = some m.cls)
    (hd : decode c.code pc = .ok (.getfield index, 3)) (w : (Cond.fieldLink own index R0 n d).before a0 Z = true) (via : Via Z R0 O n d) (F : Fld Z h a O n d v) :
    own_R p l e R s m args below meth c S0 n0 h ce sl (mkF m (pc + 3) Ls (v :: rest)) := A.law fun T L X eT N => by
  obtain ⟨T', X', e', st⟩ := RoadKit.getF X hx hZ hown (host := "") (Or.inl w) via eT F (g := mkF m pc Ls (.ref a :: rest)) rfl rfl hd
  exact ⟨T', L, X', e', N, st⟩
theorem own_R.getS {pc : Nat} {Ls : Array Slot} {st : List Value} {v : Value} {own R0 O n d : String} {index : Nat}
    (A : own_R p l e R s m args below meth c S0 n0 h ce sl (mkF m pc Ls st)) (hx : p.tables.exec = Jvm.exec) (hZ : Z.Warmed39 s.vm) (hown : s.vm.findClass own = some m.cls)
    (hd : decode c.code pc = .ok (.getstatic index, 3)) (w : (Cond.fieldLink own index R0 n d).before a0 Z = true) (via : Via Z R0 O n d) (F : Sta Z h O n d v) :
    own_R p l e R s m args below meth c S0 n0 h ce sl (mkF m (pc + 3) Ls (v :: st)) := A.law fun T L X eT N => by
  obtain ⟨T', X', e', k⟩ := RoadKit.getS X hx hZ hown (host := "") w via eT F (g := mkF m pc Ls st) rfl hd
  exact ⟨T', L, X', e', N, k⟩
theorem own_R.ldcI {pc : Nat} {Ls : Array Slot} {st : List Value} {v : Int32} {own : String} {index : Nat}
    (A : own_R p l e R s m args below meth c S0 n0 h ce sl (mkF m pc Ls st)) (hx : p.tables.exec = Jvm.exec) (hZ : Z.Warmed39 s.vm) (hown : s.vm.findClass own = some m.cls)
    (hd : decode c.code pc = .ok (.ldc index, 2)) (w : (Cond.constant own index v).before a0 Z = true) :
    own_R p l e R s m args below meth c S0 n0 h ce sl (mkF m (pc + 2) Ls (.int v :: st)) := A.go fun T L X t k =>
  X.ldcInt hx hown (mvT hZ w) (g := mkF m pc Ls st) rfl hd t k
theorem own_R.ldcL {pc : Nat} {Ls : Array Slot} {st : List Value} {v : Int64} {own : String} {index : Nat}
    (A : own_R p l e R s m args below meth c S0 n0 h ce sl (mkF m pc Ls st)) (hx : p.tables.exec = Jvm.exec) (hZ : Z.Warmed39 s.vm) (hown : s.vm.findClass own = some m.cls)
    (hd : decode c.code pc = .ok (.ldc2_w index, 3)) (w : (Cond.constantLong own index v).before a0 Z = true) :
    own_R p l e R s m args below meth c S0 n0 h ce sl (mkF m (pc + 3) Ls (.long v :: st)) := A.go fun T L X t k =>
  X.ldc2Long hx hown (mvT hZ w) (g := mkF m pc Ls st) rfl hd t k
theorem own_R.ldcD {pc : Nat} {Ls : Array Slot} {st : List Value} {v : UInt64} {own : String} {index : Nat}
    (A : own_R p l e R s m args below meth c S0 n0 h ce sl (mkF m pc Ls st)) (hx : p.tables.exec = Jvm.exec) (hZ : Z.Warmed39 s.vm) (hown : s.vm.findClass own = some m.cls)
    (hd : decode c.code pc = .ok (.ldc2_w index, 3)) (w : (Cond.constantDouble own index v).before a0 Z = true) :
    own_R p l e R s m args below meth c S0 n0 h ce sl (mkF m (pc + 3) Ls (.double v :: st)) := A.go fun T L X t k =>
  X.ldc2DoubleC hx hown (mvT hZ w) (g := mkF m pc Ls st) rfl hd t k
theorem own_R.callS {pc : Nat} {Ls : Array Slot} {st : List Value} {own : String} {index W : Nat} {y : MethodName} {bytes : ByteArray} {maxL : Nat} {ret : Option FieldType} {rm : Room} {as : Array Value} {Q : Option Value → Heap → Prop} {argsL rest : List Value}
    (A : own_R p l e R s m args below meth c S0 n0 h ce sl (mkF m pc Ls st)) (M : own_M l Z y bytes maxL ret [] rm as h n0 Q) (hx : p.tables.exec = Jvm.exec) (hZ : Z.Warmed39 s.vm) (hown : s.vm.findClass own = some m.cls)
    (hd : decode c.code pc = .ok (.invokestatic index, 3)) (w1 : (Cond.methodLink own index y).before a0 Z = true) (w2 : (Cond.static y).before a0 Z = true) (w3 : (Cond.initialized y.cls).before a0 Z = true) (w4 : (Cond.code y bytes maxL ret).before a0 Z = true)
    (hy : y.cls ≠ "java/lang/invoke/MethodHandle" ∧ y.cls ≠ "java/lang/invoke/VarHandle") (hlen : ∀ sig, parseMethodDescriptor y.desc = some sig → argsL.length = sig.parameters.length) (hst : st = argsL.reverse ++ rest) (has : argsL.toArray = as)
    (hsz : Ls.size = c.maxLocals) (hW : (rest.map fun v => v.category).sum ≤ W) (hf : rm.frames + 1 ≤ R.frames) (hl : W + (maxL + 11) + rm.locals ≤ R.locals) (hc : ce + rm.cells ≤ R.cells) (hs : sl + rm.slots ≤ R.slots) :
    ∃ v h', Q v h' ∧ own_R p l e R s m args below meth c S0 n0 h' (ce + rm.cells) (sl + rm.slots) (mkF m (pc + 3) Ls (v.toList ++ rest)) := by
  obtain ⟨T, L, X, eT, N, k⟩ := A
  obtain ⟨v, vm₁, ⟨T', L', k', n'⟩, -, X', ⟨Lc, hQ, l1, l2, l3⟩, sT⟩ := Jvm.LawKit.callS X hx (y := y) hown (mvT hZ w1) (mvT hZ w2) (mvT hZ w3) (mvT hZ w4) hy (backOf (W := W) (Q := fun v h' L => Q v h' ∧ Fr n0 L) M hZ w4 w3 hf hl) (g := mkF m pc Ls st) rfl hsz (argsL := argsL) (rest := rest) hlen hst (by show 2 * 0 + _ ≤ _; omega) hd (fun _ _ => ⟨has, eT, hc, hs⟩)
  dsimp only [Pt.U, Pt.locs, Pt.cells, Pt.slots] at X' l1 l2 l3 sT hQ
  subst l1 l2 l3
  exact ⟨v, _, hQ.1, T', _, X', rfl, Fr.app N hQ.2, k.trans (sT _ (Steps.refl _))⟩
theorem own_R.callV {pc : Nat} {Ls : Array Slot} {st : List Value} {own C : String} {index W : Nat} {y z : MethodName} {bytes : ByteArray} {maxL : Nat} {ret : Option FieldType} {rm : Room} {as : Array Value} {Q : Option Value → Heap → Prop} {b : Addr} {argsL rest : List Value}
    (A : own_R p l e R s m args below meth c S0 n0 h ce sl (mkF m pc Ls st)) (M : own_M l Z z bytes maxL ret [] rm as h n0 Q) (E : Exa Z h b C) (hx : p.tables.exec = Jvm.exec) (hZ : Z.Warmed39 s.vm) (hown : s.vm.findClass own = some m.cls)
    (hd : decode c.code pc = .ok (.invokevirtual index, 3)) (w1 : (Cond.methodLink own index y).before a0 Z = true) (w2 : (Cond.declares y).before a0 Z = true) (w3 : (Cond.selects C y z).before a0 Z = true) (w4 : (Cond.instanceMethod z).before a0 Z = true) (w5 : (Cond.code z bytes maxL ret).before a0 Z = true) (w6 : (Cond.initialized z.cls).before a0 Z = true) (hnf : ∀ s' : State, Z.Warmed39 s'.vm → NotFace s' y)
    (hy : y.cls ≠ "java/lang/invoke/MethodHandle" ∧ y.cls ≠ "java/lang/invoke/VarHandle") (hlen : ∀ sig, parseMethodDescriptor y.desc = some sig → argsL.length = sig.parameters.length) (hst : st = argsL.reverse ++ .ref b :: rest) (has : (Value.ref b :: argsL).toArray = as)
    (hsz : Ls.size = c.maxLocals) (hW : (rest.map fun v => v.category).sum ≤ W) (hf : rm.frames + 1 ≤ R.frames) (hl : W + (maxL + 11) + rm.locals ≤ R.locals) (hc : ce + rm.cells ≤ R.cells) (hs : sl + rm.slots ≤ R.slots) :
    ∃ v h', Q v h' ∧ own_R p l e R s m args below meth c S0 n0 h' (ce + rm.cells) (sl + rm.slots) (mkF m (pc + 3) Ls (v.toList ++ rest)) := by
  obtain ⟨T, L, X, eT, N, k⟩ := A
  obtain ⟨cq, kq, qa, qb, qc⟩ := isOf hZ eT E
  obtain ⟨v, vm₁, ⟨T', L', k', n'⟩, -, X', ⟨Lc, hQ, l1, l2, l3⟩, sT⟩ := X.virtualBack hx (y := y) (z := z) hown (mvT hZ w1) (mvT hZ w2) (hnf s hZ) (mvT hZ w3) (mvT hZ w4) hy (backOf (W := W) (Q := fun v h' L => Q v h' ∧ Fr n0 L) M hZ w5 w6 hf hl) qa qc (g := mkF m pc Ls st) rfl hsz (Steps.refl _) (argsL := argsL) (rest := rest) hlen hst (by show 2 * 0 + _ ≤ _; omega) hd (fun _ _ => ⟨has, eT, hc, hs⟩)
  dsimp only [Pt.U, Pt.locs, Pt.cells, Pt.slots] at X' l1 l2 l3 sT hQ
  subst l1 l2 l3
  exact ⟨v, _, hQ.1, T', _, X', rfl, Fr.app N hQ.2, k.trans sT⟩
theorem own_R.callI {pc : Nat} {Ls : Array Slot} {st : List Value} {own : String} {index W : Nat} {y : MethodName} {bytes : ByteArray} {maxL : Nat} {rm : Room} {as : Array Value} {Q : Option Value → Heap → Prop} {b : Addr} {argsL rest : List Value}
    (A : own_R p l e R s m args below meth c S0 n0 h ce sl (mkF m pc Ls st)) (M : own_M l Z y bytes maxL none [] rm as h n0 Q) (hx : p.tables.exec = Jvm.exec) (hZ : Z.Warmed39 s.vm) (hown : s.vm.findClass own = some m.cls)
    (hd : decode c.code pc = .ok (.invokespecial index, 3)) (hy1 : y.name = "<init>") (w1 : (Cond.methodLink own index y).before a0 Z = true) (w2 : (Cond.instanceMethod y).before a0 Z = true) (w3 : (Cond.code y bytes maxL none).before a0 Z = true) (w4 : (Cond.initialized y.cls).before a0 Z = true)
    (hy : y.cls ≠ "java/lang/invoke/MethodHandle" ∧ y.cls ≠ "java/lang/invoke/VarHandle") (hlen : ∀ sig, parseMethodDescriptor y.desc = some sig → argsL.length = sig.parameters.length) (hst : st = argsL.reverse ++ .ref b :: rest) (has : (Value.ref b :: argsL).toArray = as)
    (hsz : Ls.size = c.maxLocals) (hW : (rest.map fun v => v.category).sum ≤ W) (hf : rm.frames + 1 ≤ R.frames) (hl : W + (maxL + 11) + rm.locals ≤ R.locals) (hc : ce + rm.cells ≤ R.cells) (hs : sl + rm.slots ≤ R.slots) :
    ∃ v h', Q v h' ∧ own_R p l e R s m args below meth c S0 n0 h' (ce + rm.cells) (sl + rm.slots) (mkF m (pc + 3) Ls (v.toList ++ rest)) := by
  obtain ⟨T, L, X, eT, N, k⟩ := A
  obtain ⟨v, vm₁, ⟨T', L', k', n'⟩, -, X', ⟨Lc, hQ, l1, l2, l3⟩, sT⟩ := X.specialBack hx (y := y) hy1 hown (mvT hZ w1) (mvT hZ w2) (mvT hZ w3) hy (backOf (W := W) (Q := fun v h' L => Q v h' ∧ Fr n0 L) M hZ w3 w4 hf hl) (g := mkF m pc Ls st) rfl hsz (Steps.refl _) (a := b) (argsL := argsL) (rest := rest) hlen hst (by show 2 * 0 + _ ≤ _; omega) hd (fun _ _ => ⟨has, eT, hc, hs⟩)
  dsimp only [Pt.U, Pt.locs, Pt.cells, Pt.slots] at X' l1 l2 l3 sT hQ
  subst l1 l2 l3
  exact ⟨v, _, hQ.1, T', _, X', rfl, Fr.app N hQ.2, k.trans sT⟩
theorem own_R.ret {pc : Nat} {Ls : Array Slot} {rest : List Value} {w : Value} {t : FieldType} {i : Instr} {Q : Option Value → Heap → Prop}
    (A : own_R p l e R s m args below meth c S0 n0 h ce sl (mkF m pc Ls (w :: rest))) (hx : p.tables.exec = Jvm.exec) (hlk : meth.locks = false) (hret : meth.sig.returnType = some t) (hd : decode c.code pc = .ok (i, 1)) (hn : narrow t w = w)
    (hi : (i = .ireturn ∧ (t = .int ∨ t = .boolean ∨ t = .byte ∨ t = .char ∨ t = .short) ∧ ∃ z, w = .int z) ∨ (i = .lreturn ∧ t = .long ∧ ∃ z, w = .long z) ∨ (i = .dreturn ∧ t = .double ∧ ∃ z, w = .double z) ∨ (i = .freturn ∧ t = .float ∧ ∃ z, w = .float z) ∨ (i = .areturn ∧ t.isReference = true ∧ w.isRef = true))
    (hc : ce ≤ R.cells) (hs : sl ≤ R.slots) (q : Q (some w) h) : own_E p e R s below S0 n0 Q := by
  obtain ⟨T, L, X, eT, N, k⟩ := A
  obtain ⟨fs, hr, hrun, hended, hW, hsame⟩ := X.leave (v := some w) (fun h => by rw [hret] at h; cases h) hlk
  refine ⟨_, _, _, k.trans (retOut X hx hret hn hi hd hr), hrun, hended, ⟨?_, N⟩, ⟨_, rfl⟩, hW, hsame.mono hc hs⟩
  show Q _ T.heap
  rw [eT]; exact q
theorem own_R.retV {pc : Nat} {Ls : Array Slot} {Q : Option Value → Heap → Prop}
    (A : own_R p l e R s m args below meth c S0 n0 h ce sl (mkF m pc Ls [])) (hx : p.tables.exec = Jvm.exec) (hlk : meth.locks = false) (hret : meth.sig.returnType = none) (hd : decode c.code pc = .ok (.return_, 1))
    (hc : ce ≤ R.cells) (hs : sl ≤ R.slots) (q : Q none h) : own_E p e R s below S0 n0 Q := by
  obtain ⟨T, L, X, eT, N, k⟩ := A
  obtain ⟨fs, hr, hrun, hended, hW, hsame⟩ := X.leave (v := none) (fun _ => rfl) hlk
  refine ⟨_, _, _, k.trans (X.returnOut hx hret hd hr), hrun, hended, ⟨?_, N⟩, ⟨_, rfl⟩, hW, hsame.mono hc hs⟩
  show Q _ T.heap
  rw [eT]; exact q
end Own
section Own2
variable {p : Program} {l : Launch} {e : Env} {R : Room} {s : State} {m : MethodId} {args : Array Value} {below : List Frame} {meth : Method} {c : Code} {S0 : State} {n0 : Nat} {h h' : Heap} {ce sl : Nat} {Z : State} {a0 : Array Value} {pc : Nat} {Ls : Array Slot} {rest : List Value} {a b : Addr} {ty : FieldType} {vs : List Value} {ws : List Addr} {v : Value} {i : Nat}
/-- an array whose components are listed -/
def own_Ar (Z : State) (h : Heap) (a : Addr) (ty : FieldType) (vs : List Value) : Prop := ∃ cl : Cell, Arr Z h a cl ty ∧ cl.slots.toList = vs
theorem own_Ar.ext (F : own_Ar Z h a ty vs) (E : Ext h h') : own_Ar Z h' a ty vs := by obtain ⟨cl, A, q⟩ := F; exact ⟨cl, A.ext E, q⟩
theorem own_Ar.other (F : own_Ar Z h a ty vs) (W : Wr h h' b i v) (q : a ≠ b) : own_Ar Z h' a ty vs := by obtain ⟨cl, A, r⟩ := F; exact ⟨cl, A.other W q, r⟩
theorem own_Ar.same (F : own_Ar Z h a ty vs) (W : Wr h h' a i v) : own_Ar Z h' a ty (vs.set i v) := by
  obtain ⟨cl, A, rfl⟩ := F
  exact ⟨_, A.same W, by simp [Cell.setSlot, Array.toList_setIfInBounds]⟩
theorem own_Ar.keep (F : own_Ar Z h a ty vs) (K : Keep h h' ws) (q : a ∉ ws) : own_Ar Z h' a ty vs := by obtain ⟨cl, A, r⟩ := F; exact ⟨cl, ⟨K.2.1 a cl A.1 q, A.2⟩, r⟩
theorem own_Ar.lt (F : own_Ar Z h a ty vs) : a < h.size := by obtain ⟨cl, A, -⟩ := F; exact A.lt
theorem own_R.newP {n : Int32} {aty : ArrayType} {cap : Nat} (A : own_R p l e R s m args below meth c S0 n0 h ce sl (mkF m pc Ls (.int n :: rest))) (hx : p.tables.exec = Jvm.exec) (hZ : Z.Warmed39 s.vm)
    (hd : decode c.code pc = .ok (.newarray aty, 2)) (w : (Cond.arrayClass (newarray.typeOf aty)).before a0 Z = true) (hn : ¬ n < 0) (hcap : n.toNatClampNeg ≤ cap) (hb : cap * 8 ≤ 536870912) (hc : ce + 1 ≤ R.cells) (hl : sl + cap ≤ R.slots) :
    ∃ h', Ext h h' ∧ own_Ar Z h' h.size (newarray.typeOf aty) (List.replicate n.toNatClampNeg (defaultValue (newarray.typeOf aty))) ∧ own_R p l e R s m args below meth c S0 n0 h' (ce + 1) (sl + cap) (mkF m (pc + 2) Ls (.ref h.size :: rest)) := by
  obtain ⟨T, L, X, eT, N, k⟩ := A
  obtain ⟨T', h', cA, X', e', E, AA, st⟩ := RoadKit.newP X hx hZ w eT (g := mkF m pc Ls (.int n :: rest)) rfl hd rfl hn hcap hb hc hl
  exact ⟨h', E, ⟨_, AA, by simp [newA]⟩, T', L, X', e', N, k.trans (st _ (Steps.refl _))⟩
theorem own_R.newO {own C : String} {index n : Nat} (A : own_R p l e R s m args below meth c S0 n0 h ce sl (mkF m pc Ls rest)) (hx : p.tables.exec = Jvm.exec) (hZ : Z.Warmed39 s.vm) (hown : s.vm.findClass own = some m.cls)
    (hd : decode c.code pc = .ok (.new index, 3)) (w : (Cond.classLink own index C).before a0 Z = true) (wi : (Cond.instantiable C n).before a0 Z = true) (wz : (Cond.initialized C).before a0 Z = true) (hc : ce + 1 ≤ R.cells) (hl : sl + n ≤ R.slots) :
    ∃ h', Ext h h' ∧ Exa Z h' h.size C ∧ (∀ {O nm d : String} {ty : FieldType}, Laid Z a0 C O nm d → parseFieldDescriptor d = some ty → Fld Z h' h.size O nm d (defaultValue ty)) ∧ own_R p l e R s m args below meth c S0 n0 h' (ce + 1) (sl + n) (mkF m (pc + 3) Ls (.ref h.size :: rest)) := by
  obtain ⟨T, L, X, eT, N, k⟩ := A
  obtain ⟨T', h', X', e', E, AA, D, -, st⟩ := RoadKit.newO X hx hZ hown w wi wz eT (g := mkF m pc Ls rest) rfl hd hc hl
  exact ⟨h', E, AA, D, T', L, X', e', N, k.trans (st _ (Steps.refl _))⟩
theorem own_R.putF {own O n d C : String} {index kk : Nat} {v old : Value} (A : own_R p l e R s m args below meth c S0 n0 h ce sl (mkF m pc Ls (v :: .ref a :: rest))) (hx : p.tables.exec = Jvm.exec) (hZ : Z.Warmed39 s.vm) (hown : s.vm.findClass own = some m.cls)
    (hd : decode c.code pc = .ok (.putfield index, 3)) (w : (Cond.fieldLink own index O n d).before a0 Z = true) (F : Fld Z h a O n d old) (E : Exa Z h a C) (L : (Cond.lays C O n d).before a0 Z = true ∨ ((Cond.laysFinal C O n d).before a0 Z = true ∧ own = O ∧ meth.name = "<init>")) (wi : (Cond.instantiable C kk).before a0 Z = true)
    (hty : parseFieldDescriptor d = some ty) (hn : narrow ty v = v) (hf : fits ty v = true) (q : n0 ≤ a) :
    ∃ h', Wr h h' a (RoadKit.slotOf Z O n d) v ∧ own_R p l e R s m args below meth c S0 n0 h' ce sl (mkF m (pc + 3) Ls rest) := by
  obtain ⟨T, Lc, X, eT, N, k⟩ := A
  obtain ⟨T', h', X', e', W, st⟩ := RoadKit.putF X hx hZ hown (host := "") (Or.inl w) Via.refl eT F E L wi hty hn hf (g := mkF m pc Ls (v :: .ref a :: rest)) rfl rfl hd
  exact ⟨h', W, T', _, X', e', Fr.snoc X' N q, k.trans (st _ (Steps.refl _))⟩
theorem own_R.initO {own : String} {idx W : Nat} (A : own_R p l e R s m args below meth c S0 n0 h ce sl (mkF m pc Ls (.ref a :: rest))) (hx : p.tables.exec = Jvm.exec) (hZ : Z.Warmed39 s.vm) (hown : s.vm.findClass own = some m.cls)
    (hd : decode c.code pc = .ok (.invokespecial idx, 3)) (w1 : (Cond.methodLink own idx Lib.objectInit).before a0 Z = true) (w2 : (Cond.instanceMethod Lib.objectInit).before a0 Z = true) (w3 : (Cond.code Lib.objectInit ⟨#[0xb1]⟩ 1 none).before a0 Z = true)
    (hsz : Ls.size = c.maxLocals) (hW : (rest.map fun v => v.category).sum ≤ W) (hf : 1 ≤ R.frames) (hl : W + 12 ≤ R.locals) : own_R p l e R s m args below meth c S0 n0 h ce sl (mkF m (pc + 3) Ls rest) := A.law fun T L X eT N => by
  obtain ⟨T', X', e', st⟩ := RoadKit.initO X hx hZ hown w1 w2 w3 eT (g := mkF m pc Ls (.ref a :: rest)) rfl hsz rfl hd hf (by show 2 * 0 + _ ≤ _; exact (Nat.zero_add _).symm ▸ hW) hl
  exact ⟨T', L, X', e', N, st⟩
theorem own_R.stI {j x : Int32} (A : own_R p l e R s m args below meth c S0 n0 h ce sl (mkF m pc Ls (.int x :: .int j :: .ref a :: rest))) (hx : p.tables.exec = Jvm.exec) (hZ : Z.Warmed39 s.vm)
    (hd : decode c.code pc = .ok (.iastore, 1)) (F : own_Ar Z h a .int vs) (hj : ¬ j < 0) (hi : j.toNatClampNeg < vs.length) (q : n0 ≤ a) :
    ∃ h', Wr h h' a j.toNatClampNeg (.int x) ∧ own_R p l e R s m args below meth c S0 n0 h' ce sl (mkF m (pc + 1) Ls rest) := by
  obtain ⟨cl, F, rfl⟩ := F
  obtain ⟨T, Lc, X, eT, N, k⟩ := A
  obtain ⟨T', h', X', e', W, st⟩ := RoadKit.stI X hx hZ eT F (j := j) (fun z => z.elim hj fun u => by rw [Array.length_toList] at hi; omega) (g := mkF m pc Ls (.int x :: .int j :: .ref a :: rest)) rfl rfl hd
  exact ⟨h', W, T', _, X', e', Fr.snoc X' N q, k.trans (st _ (Steps.refl _))⟩
theorem own_R.stB {j x : Int32} (A : own_R p l e R s m args below meth c S0 n0 h ce sl (mkF m pc Ls (.int x :: .int j :: .ref a :: rest))) (hx : p.tables.exec = Jvm.exec) (hZ : Z.Warmed39 s.vm)
    (hd : decode c.code pc = .ok (.bastore, 1)) (F : own_Ar Z h a .byte vs) (hj : ¬ j < 0) (hi : j.toNatClampNeg < vs.length) (q : n0 ≤ a) :
    ∃ h', Wr h h' a j.toNatClampNeg (.int (nar .byte x)) ∧ own_R p l e R s m args below meth c S0 n0 h' ce sl (mkF m (pc + 1) Ls rest) := by
  obtain ⟨cl, F, rfl⟩ := F
  obtain ⟨T, Lc, X, eT, N, k⟩ := A
  obtain ⟨T', h', X', e', W, st⟩ := RoadKit.stB X hx hZ eT F (j := j) (fun z => z.elim hj fun u => by rw [Array.length_toList] at hi; omega) (g := mkF m pc Ls (.int x :: .int j :: .ref a :: rest)) rfl rfl hd
  exact ⟨h', W, T', _, X', e', Fr.snoc X' N q, k.trans (st _ (Steps.refl _))⟩
theorem own_R.ldI {j : Int32} (A : own_R p l e R s m args below meth c S0 n0 h ce sl (mkF m pc Ls (.int j :: .ref a :: rest))) (hx : p.tables.exec = Jvm.exec) (hZ : Z.Warmed39 s.vm)
    (hd : decode c.code pc = .ok (.iaload, 1)) (F : own_Ar Z h a .int vs) (hj : ¬ j < 0) (hv : vs[j.toNatClampNeg]? = some v) :
    own_R p l e R s m args below meth c S0 n0 h ce sl (mkF m (pc + 1) Ls (v :: rest)) := A.law fun T L X eT N => by
  obtain ⟨cl, F, rfl⟩ := F
  rw [Array.getElem?_toList] at hv
  have hlt := (Array.getElem?_eq_some_iff.mp hv).1
  exact ⟨T, L, X, eT, N, fun t k => X.iaload hx (j := j) (v := v) (by rw [eT]; exact F.1) (State.isArrayOf_alike hZ.alike F.2.1) F.2.2 (fun z => z.elim hj fun u => by omega) hv (g := mkF m pc Ls (.int j :: .ref a :: rest)) rfl rfl hd t k⟩
theorem own_R.ldB {j : Int32} (A : own_R p l e R s m args below meth c S0 n0 h ce sl (mkF m pc Ls (.int j :: .ref a :: rest))) (hx : p.tables.exec = Jvm.exec) (hZ : Z.Warmed39 s.vm)
    (hd : decode c.code pc = .ok (.baload, 1)) (F : own_Ar Z h a .byte vs) (hj : ¬ j < 0) (hv : vs[j.toNatClampNeg]? = some v) :
    own_R p l e R s m args below meth c S0 n0 h ce sl (mkF m (pc + 1) Ls (v :: rest)) := A.law fun T L X eT N => by
  obtain ⟨cl, F, rfl⟩ := F
  rw [Array.getElem?_toList] at hv
  have hlt := (Array.getElem?_eq_some_iff.mp hv).1
  exact ⟨T, L, X, eT, N, fun t k => X.baloadBytes hx (j := j) (v := v) (by rw [eT]; exact F.1) (State.isArrayOf_alike hZ.alike F.2.1) F.2.2 (fun z => z.elim hj fun u => by omega) hv (g := mkF m pc Ls (.int j :: .ref a :: rest)) rfl rfl hd t k⟩
theorem own_R.stD {j : Int32} {x : UInt64} (A : own_R p l e R s m args below meth c S0 n0 h ce sl (mkF m pc Ls (.double x :: .int j :: .ref a :: rest))) (hx : p.tables.exec = Jvm.exec) (hZ : Z.Warmed39 s.vm)
    (hd : decode c.code pc = .ok (.dastore, 1)) (F : own_Ar Z h a .double vs) (hj : ¬ j < 0) (hi : j.toNatClampNeg < vs.length) (q : n0 ≤ a) :
    ∃ h', Wr h h' a j.toNatClampNeg (.double x) ∧ own_R p l e R s m args below meth c S0 n0 h' ce sl (mkF m (pc + 1) Ls rest) := by
  obtain ⟨cl, F, rfl⟩ := F
  obtain ⟨T, Lc, X, eT, N, k⟩ := A
  obtain ⟨T', h', X', e', W, st⟩ := RoadKit.stD X hx hZ eT F (j := j) (fun z => z.elim hj fun u => by rw [Array.length_toList] at hi; omega) (g := mkF m pc Ls (.double x :: .int j :: .ref a :: rest)) rfl rfl hd
  exact ⟨h', W, T', _, X', e', Fr.snoc X' N q, k.trans (st _ (Steps.refl _))⟩
theorem own_R.stC {j : Int32} {x : Int32} (A : own_R p l e R s m args below meth c S0 n0 h ce sl (mkF m pc Ls (.int x :: .int j :: .ref a :: rest))) (hx : p.tables.exec = Jvm.exec) (hZ : Z.Warmed39 s.vm)
    (hd : decode c.code pc = .ok (.castore, 1)) (F : own_Ar Z h a .char vs) (hj : ¬ j < 0) (hi : j.toNatClampNeg < vs.length) (q : n0 ≤ a) :
    ∃ h', Wr h h' a j.toNatClampNeg (.int (nar .char x)) ∧ own_R p l e R s m args below meth c S0 n0 h' ce sl (mkF m (pc + 1) Ls rest) := by
  obtain ⟨cl, F, rfl⟩ := F
  obtain ⟨T, Lc, X, eT, N, k⟩ := A
  obtain ⟨T', h', X', e', W, st⟩ := RoadKit.stC X hx hZ eT F (j := j) (fun z => z.elim hj fun u => by rw [Array.length_toList] at hi; omega) (g := mkF m pc Ls (.int x :: .int j :: .ref a :: rest)) rfl rfl hd
  exact ⟨h', W, T', _, X', e', Fr.snoc X' N q, k.trans (st _ (Steps.refl _))⟩
theorem own_R.stL {j : Int32} {x : Int64} (A : own_R p l e R s m args below meth c S0 n0 h ce sl (mkF m pc Ls (.long x :: .int j :: .ref a :: rest))) (hx : p.tables.exec = Jvm.exec) (hZ : Z.Warmed39 s.vm)
    (hd : decode c.code pc = .ok (.lastore, 1)) (F : own_Ar Z h a .long vs) (hj : ¬ j < 0) (hi : j.toNatClampNeg < vs.length) (q : n0 ≤ a) :
    ∃ h', Wr h h' a j.toNatClampNeg (.long x) ∧ own_R p l e R s m args below meth c S0 n0 h' ce sl (mkF m (pc + 1) Ls rest) := by
  obtain ⟨cl, F, rfl⟩ := F
  obtain ⟨T, Lc, X, eT, N, k⟩ := A
  obtain ⟨T', h', X', e', W, st⟩ := RoadKit.stJ X hx hZ eT F (j := j) (fun z => z.elim hj fun u => by rw [Array.length_toList] at hi; omega) (g := mkF m pc Ls (.long x :: .int j :: .ref a :: rest)) rfl rfl hd
  exact ⟨h', W, T', _, X', e', Fr.snoc X' N q, k.trans (st _ (Steps.refl _))⟩
theorem own_R.ldD {j : Int32} (A : own_R p l e R s m args below meth c S0 n0 h ce sl (mkF m pc Ls (.int j :: .ref a :: rest))) (hx : p.tables.exec = Jvm.exec) (hZ : Z.Warmed39 s.vm)
    (hd : decode c.code pc = .ok (.daload, 1)) (F : own_Ar Z h a .double vs) (hj : ¬ j < 0) (hv : vs[j.toNatClampNeg]? = some v) :
    own_R p l e R s m args below meth c S0 n0 h ce sl (mkF m (pc + 1) Ls (v :: rest)) := A.law fun T L X eT N => by
  obtain ⟨cl, F, rfl⟩ := F
  rw [Array.getElem?_toList] at hv
  have hlt := (Array.getElem?_eq_some_iff.mp hv).1
  exact ⟨T, L, X, eT, N, fun t k => X.daload hx (j := j) (v := v) (by rw [eT]; exact F.1) (State.isArrayOf_alike hZ.alike F.2.1) F.2.2 (fun z => z.elim hj fun u => by omega) hv (g := mkF m pc Ls (.int j :: .ref a :: rest)) rfl rfl hd t k⟩
theorem own_R.ldC {j : Int32} (A : own_R p l e R s m args below meth c S0 n0 h ce sl (mkF m pc Ls (.int j :: .ref a :: rest))) (hx : p.tables.exec = Jvm.exec) (hZ : Z.Warmed39 s.vm)
    (hd : decode c.code pc = .ok (.caload, 1)) (F : own_Ar Z h a .char vs) (hj : ¬ j < 0) (hv : vs[j.toNatClampNeg]? = some v) :
    own_R p l e R s m args below meth c S0 n0 h ce sl (mkF m (pc + 1) Ls (v :: rest)) := A.law fun T L X eT N => by
  obtain ⟨cl, F, rfl⟩ := F
  rw [Array.getElem?_toList] at hv
  have hlt := (Array.getElem?_eq_some_iff.mp hv).1
  exact ⟨T, L, X, eT, N, fun t k => X.caload hx (j := j) (v := v) (by rw [eT]; exact F.1) (State.isArrayOf_alike hZ.alike F.2.1) F.2.2 (fun z => z.elim hj fun u => by omega) hv (g := mkF m pc Ls (.int j :: .ref a :: rest)) rfl rfl hd t k⟩
theorem own_R.ldL {j : Int32} (A : own_R p l e R s m args below meth c S0 n0 h ce sl (mkF m pc Ls (.int j :: .ref a :: rest))) (hx : p.tables.exec = Jvm.exec) (hZ : Z.Warmed39 s.vm)
    (hd : decode c.code pc = .ok (.laload, 1)) (F : own_Ar Z h a .long vs) (hj : ¬ j < 0) (hv : vs[j.toNatClampNeg]? = some v) :
    own_R p l e R s m args below meth c S0 n0 h ce sl (mkF m (pc + 1) Ls (v :: rest)) := A.law fun T L X eT N => by
  obtain ⟨cl, F, rfl⟩ := F
  rw [Array.getElem?_toList] at hv
  have hlt := (Array.getElem?_eq_some_iff.mp hv).1
  exact ⟨T, L, X, eT, N, fun t k => X.laload hx (j := j) (v := v) (by rw [eT]; exact F.1) (State.isArrayOf_alike hZ.alike F.2.1) F.2.2 (fun z => z.elim hj fun u => by omega) hv (g := mkF m pc Ls (.int j :: .ref a :: rest)) rfl rfl hd t k⟩
theorem own_R.len (A : own_R p l e R s m args below meth c S0 n0 h ce sl (mkF m pc Ls (.ref a :: rest))) (hx : p.tables.exec = Jvm.exec) (hZ : Z.Warmed39 s.vm)
    (hd : decode c.code pc = .ok (.arraylength, 1)) (F : own_Ar Z h a ty vs) :
    own_R p l e R s m args below meth c S0 n0 h ce sl (mkF m (pc + 1) Ls (.int vs.length.toInt32 :: rest)) := A.law fun T L X eT N => by
  obtain ⟨cl, F, rfl⟩ := F
  exact ⟨T, L, X, eT, N, fun t k => X.arraylength hx (by rw [eT]; exact F.1) (State.isArrayOf_alike hZ.alike F.2.1) (g := mkF m pc Ls (.ref a :: rest)) rfl rfl hd t (by rw [Array.length_toList] at k; exact k)⟩
end Own2
section Own2b
variable {p : Program} {l : Launch} {e : Env} {R : Room} {s : State} {m : MethodId} {args : Array Value} {below : List Frame} {meth : Method} {c : Code} {S0 : State} {n0 : Nat} {h h' : Heap} {ce sl : Nat} {Z : State} {a0 : Array Value} {pc : Nat} {Ls : Array Slot} {rest : List Value} {a : Addr}
theorem own_R.instY {own K : String} {index : Nat} (A : own_R p l e R s m args below meth c S0 n0 h ce sl (mkF m pc Ls (.ref a :: rest))) (hx : p.tables.exec = Jvm.exec) (hZ : Z.Warmed39 s.vm) (hown : s.vm.findClass own = some m.cls)
    (hd : decode c.code pc = .ok (.instanceof index, 3)) (w : (Cond.classLink own index K).before a0 Z = true) (F : Ins Z h a K true) : own_R p l e R s m args below meth c S0 n0 h ce sl (mkF m (pc + 3) Ls (.int 1 :: rest)) := A.law fun T L X eT N => by
  obtain ⟨T', X', e', st⟩ := RoadKit.instY X hx hZ hown w eT F (g := mkF m pc Ls (.ref a :: rest)) rfl rfl hd
  exact ⟨T', L, X', e', N, st⟩
theorem own_R.castY {own K : String} {index : Nat} (A : own_R p l e R s m args below meth c S0 n0 h ce sl (mkF m pc Ls (.ref a :: rest))) (hx : p.tables.exec = Jvm.exec) (hZ : Z.Warmed39 s.vm) (hown : s.vm.findClass own = some m.cls)
    (hd : decode c.code pc = .ok (.checkcast index, 3)) (w : (Cond.classLink own index K).before a0 Z = true) (F : Ins Z h a K true) : own_R p l e R s m args below meth c S0 n0 h ce sl (mkF m (pc + 3) Ls (.ref a :: rest)) := A.law fun T L X eT N => by
  obtain ⟨T', X', e', st⟩ := RoadKit.castY X hx hZ hown w eT F (g := mkF m pc Ls (.ref a :: rest)) rfl rfl hd
  exact ⟨T', L, X', e', N, st⟩
theorem own_eqI {args : Array Value} {t : Term} {k : Int32} (h : (Cond.eq t (.int k)).value args Z none Z [] = some true) : t.eval args Z none [] Z = some (.int k) := by
  simp only [Cond.value, Term.int_eval] at h
  cases hv : t.eval args Z none [] Z with
  | none => rw [hv] at h; cases h
  | some w =>
    rw [hv] at h
    cases w <;> simp at h
    rw [h]
theorem own_Ar.start3 {args : Array Value} {t : Term} {x y z : Int32} (ev : t.eval args Z none [] Z = some (.ref a)) (hA : (Cond.arrayOf t .byte).value args Z none Z [] = some true) (hL : (Cond.eq (.length t) (.int 3)).value args Z none Z [] = some true)
    (h0 : (Cond.eq (.elem t (.int 0)) (.int x)).value args Z none Z [] = some true) (h1 : (Cond.eq (.elem t (.int 1)) (.int y)).value args Z none Z [] = some true) (h2 : (Cond.eq (.elem t (.int 2)) (.int z)).value args Z none Z [] = some true) : own_Ar Z Z.heap a .byte [.int x, .int y, .int z] := by
  obtain ⟨cl, A⟩ := Arr.start ev hA
  have e0 := (elem_in (own_eqI h0) ev (Term.int_eval _) A.1).2
  have e1 := (elem_in (own_eqI h1) ev (Term.int_eval _) A.1).2
  have e2 := (elem_in (own_eqI h2) ev (Term.int_eval _) A.1).2
  have q0 : (0 : Int32).toNatClampNeg = 0 := by decide
  have q1 : (1 : Int32).toNatClampNeg = 1 := by decide
  have q2 : (2 : Int32).toNatClampNeg = 2 := by decide
  rw [q0] at e0
  rw [q1] at e1
  rw [q2] at e2
  have ha : Z.arrayAt? a = some cl := Arr.fin (U := Z) (State.Warmed39.refl Z).alike A
  have hl := own_eqI hL
  simp only [Term.eval, ev, ha, Option.bind_eq_bind, Option.bind_some, Option.pure_def] at hl
  have hsz : cl.slots.size = 3 := by
    split at hl
    · rename_i hlt
      have e3 : cl.slots.size.toInt32 = 3 := by simpa using hl
      have e4 := len_toInt hlt
      rw [e3] at e4
      have e5 : (3 : Int32).toInt = 3 := by decide
      omega
    · cases hl
  refine ⟨cl, A, ?_⟩
  apply List.ext_getElem?
  intro i
  rw [Array.getElem?_toList]
  match i with
  | 0 => exact e0
  | 1 => exact e1
  | 2 => exact e2
  | n + 3 => rw [Array.getElem?_eq_none (by omega)]; rfl
end Own2b

theorem drec_0 : decode jdk_30_method_1_code 0 = .ok (.aload_n 0, 1) := by decide +kernel
theorem drec_1 : decode jdk_30_method_1_code 1 = .ok (.invokespecial 1, 3) := by decide +kernel
theorem drec_4 : decode jdk_30_method_1_code 4 = .ok (.return_, 1) := by decide +kernel
theorem efrec (m : MethodId) (a1 : Addr) : entryFrame m #[(.ref a1)] 1 = mkF m 0 #[.val (.ref a1)] [] := by first | (simp [entryFrame, mkF, argsToLocals, Value.category, maxLocals]; done) | rfl
set_option maxRecDepth 65536 in
set_option maxHeartbeats 40000000 in
theorem own_rec (l : Launch) (Z : State) (a0 : Array Value) (hw : ∀ d ∈ tables_1, d.before a0 Z = true) (a1 : Addr) (h0 : Heap) (n0 : Nat) (Z0 : n0 ≤ h0.size)  :
    own_M l Z (⟨"java/lang/Record", "<init>", "()V"⟩ : MethodName) jdk_30_method_1_code 1 none [] ({ frames := 1, cells := 0, slots := 0, locals := 12 } : Room) #[(.ref a1)] h0 n0 (fun v h => v = none ∧ h0 = h) := by
  refine own_M.of (plainFor_of_name (by first | (simp [plainName, overriddenIn]; done) | decide +kernel)) ?_
  intro p e s m below meth c S0 hx hby hml hown hnm hret hlk hZ A00
  have A0 := A00.cast (efrec m a1)
  have A1 := A0.go (f' := mkF m 1 #[.val (.ref a1)] [(.ref a1)]) fun _ _ X _ k => XS.aloadN X.here hx rfl (hb hby drec_0) rfl rfl k
  have A2 : own_R p l e _ _ m _ below meth c S0 n0 h0 0 0 (mkF m 4 #[.val (.ref a1)] []) := A1.initO hx hZ hown (hb hby drec_1) (hw _ (List.mem_of_getElem? (i := 11) rfl)) (hw _ (List.mem_of_getElem? (i := 12) rfl)) (hw _ (List.mem_of_getElem? (i := 13) rfl)) (by rw [hml]; rfl) (W := 0) (Nat.le_of_eq rfl) (by decide) (by decide)
  exact A2.retV hx hlk hret (hb hby drec_4) (by decide) (by decide) ⟨rfl, rfl⟩
theorem pd__28_29V : parseMethodDescriptor "()V" = some ⟨[], none⟩ := by decide +kernel
theorem dini_0 : decode prog_17_method_1_code 0 = .ok (.aload_n 0, 1) := by decide +kernel
theorem dini_1 : decode prog_17_method_1_code 1 = .ok (.invokespecial 1, 3) := by decide +kernel
theorem dini_4 : decode prog_17_method_1_code 4 = .ok (.aload_n 0, 1) := by decide +kernel
theorem dini_5 : decode prog_17_method_1_code 5 = .ok (.iload_n 1, 1) := by decide +kernel
theorem dini_6 : decode prog_17_method_1_code 6 = .ok (.putfield 7, 3) := by decide +kernel
theorem dini_9 : decode prog_17_method_1_code 9 = .ok (.aload_n 0, 1) := by decide +kernel
theorem dini_10 : decode prog_17_method_1_code 10 = .ok (.iload_n 2, 1) := by decide +kernel
theorem dini_11 : decode prog_17_method_1_code 11 = .ok (.putfield 13, 3) := by decide +kernel
theorem dini_14 : decode prog_17_method_1_code 14 = .ok (.aload_n 0, 1) := by decide +kernel
theorem dini_15 : decode prog_17_method_1_code 15 = .ok (.lload_n 3, 1) := by decide +kernel
theorem dini_16 : decode prog_17_method_1_code 16 = .ok (.putfield 16, 3) := by decide +kernel
theorem dini_19 : decode prog_17_method_1_code 19 = .ok (.aload_n 0, 1) := by decide +kernel
theorem dini_20 : decode prog_17_method_1_code 20 = .ok (.lload 5, 2) := by decide +kernel
theorem dini_22 : decode prog_17_method_1_code 22 = .ok (.putfield 20, 3) := by decide +kernel
theorem dini_25 : decode prog_17_method_1_code 25 = .ok (.return_, 1) := by decide +kernel
theorem efini (m : MethodId) (a1 : Addr) (p2 : Int32) (p3 : Int32) (q4 : Int64) (q5 : Int64) : entryFrame m #[(.ref a1), (.int p2), (.int p3), (.long q4), (.long q5)] 7 = mkF m 0 #[.val (.ref a1), .val (.int p2), .val (.int p3), .val (.long q4), .second, .val (.long q5), .second] [] := by first | (simp [entryFrame, mkF, argsToLocals, Value.category, maxLocals]; done) | rfl
set_option maxRecDepth 65536 in
set_option maxHeartbeats 40000000 in
theorem own_init (l : Launch) (Z : State) (a0 : Array Value) (hw : ∀ d ∈ tables_1, d.before a0 Z = true) (a1 : Addr) (p2 p3 : Int32) (q4 q5 : Int64) (h0 : Heap) (n0 : Nat) (Z0 : n0 ≤ h0.size) (E_a1 : Exa Z h0 a1 "com/example/shardrule/shardrule/bench/RoutingBench$Result") (F_a1_keys : Fld Z h0 a1 "com/example/shardrule/shardrule/bench/RoutingBench$Result" "keys" "I" (.int (0 : Int32))) (F_a1_threads : Fld Z h0 a1 "com/example/shardrule/shardrule/bench/RoutingBench$Result" "threads" "I" (.int (0 : Int32))) (F_a1_routePassNanos : Fld Z h0 a1 "com/example/shardrule/shardrule/bench/RoutingBench$Result" "routePassNanos" "J" (.long (0 : Int64))) (F_a1_crcPassNanos : Fld Z h0 a1 "com/example/shardrule/shardrule/bench/RoutingBench$Result" "crcPassNanos" "J" (.long (0 : Int64))) (g_a1 : n0 ≤ a1) :
    own_M l Z (⟨"com/example/shardrule/shardrule/bench/RoutingBench$Result", "<init>", "(IIJJ)V"⟩ : MethodName) prog_17_method_1_code 7 none [] ({ frames := 2, cells := 0, slots := 0, locals := 24 } : Room) #[(.ref a1), (.int p2), (.int p3), (.long q4), (.long q5)] h0 n0 (fun v h => v = none ∧ Keep h0 h [a1] ∧ Fld Z h a1 "com/example/shardrule/shardrule/bench/RoutingBench$Result" "keys" "I" (.int p2) ∧ Fld Z h a1 "com/example/shardrule/shardrule/bench/RoutingBench$Result" "threads" "I" (.int p3) ∧ Fld Z h a1 "com/example/shardrule/shardrule/bench/RoutingBench$Result" "routePassNanos" "J" (.long q4)) := by
  refine own_M.of (plainFor_of_name (by first | (simp [plainName, overriddenIn]; done) | decide +kernel)) ?_
  intro p e s m below meth c S0 hx hby hml hown hnm hret hlk hZ A00
  have A0 := A00.cast (efini m a1 p2 p3 q4 q5)
  have KK := Keep.refl h0 [a1]
  have A1 := A0.go (f' := mkF m 1 #[.val (.ref a1), .val (.int p2), .val (.int p3), .val (.long q4), .second, .val (.long q5), .second] [(.ref a1)]) fun _ _ X _ k => XS.aloadN X.here hx rfl (hb hby dini_0) rfl rfl k
  obtain ⟨vA2, hA2, ⟨rfl, rfl⟩, A2⟩ := A1.callI (b := a1) (own_rec l Z a0 hw a1 h0 n0 Z0) hx hZ hown (hb hby dini_1) rfl (hw _ (List.mem_of_getElem? (i := 6) rfl)) (hw _ (List.mem_of_getElem? (i := 7) rfl)) (hw _ (List.mem_of_getElem? (i := 10) rfl)) (hw _ (List.mem_of_getElem? (i := 9) rfl)) ⟨by decide, by decide⟩ (lenOf pd__28_29V rfl) (argsL := []) (rest := []) rfl rfl (by rw [hml]; rfl) (W := 0) (Nat.le_of_eq rfl) (by decide) (by decide) (by decide) (by decide)
  have A3 : own_R p l e _ _ m _ below meth c S0 n0 h0 0 0 (mkF m 4 #[.val (.ref a1), .val (.int p2), .val (.int p3), .val (.long q4), .second, .val (.long q5), .second] []) := A2
  have A4 := A3.go (f' := mkF m 5 #[.val (.ref a1), .val (.int p2), .val (.int p3), .val (.long q4), .second, .val (.long q5), .second] [(.ref a1)]) fun _ _ X _ k => XS.aloadN X.here hx rfl (hb hby dini_4) rfl rfl k
  have A5 := A4.go (f' := mkF m 6 #[.val (.ref a1), .val (.int p2), .val (.int p3), .val (.long q4), .second, .val (.long q5), .second] [(.int p2), (.ref a1)]) fun _ _ X _ k => XS.iloadN X.here hx rfl (hb hby dini_5) rfl k
  obtain ⟨h6, W7, A8⟩ := A5.putF hx hZ hown (hb hby dini_6) (hw _ (List.mem_of_getElem? (i := 14) rfl)) F_a1_keys E_a1 (Or.inr ⟨(hw _ (List.mem_of_getElem? (i := 15) rfl)), rfl, hnm⟩) (hw _ (List.mem_of_getElem? (i := 1) rfl)) (ty := .int) (by decide) rfl rfl g_a1
  have E_a1 : Exa Z h6 a1 "com/example/shardrule/shardrule/bench/RoutingBench$Result" := E_a1.wr W7
  have F_a1_keys : Fld Z h6 a1 "com/example/shardrule/shardrule/bench/RoutingBench$Result" "keys" "I" (.int p2) := F_a1_keys.same W7
  have F_a1_threads : Fld Z h6 a1 "com/example/shardrule/shardrule/bench/RoutingBench$Result" "threads" "I" (.int (0 : Int32)) := F_a1_threads.other W7 (Or.inr (slot_ne (Or.inr (hw _ (List.mem_of_getElem? (i := 17) rfl))) (Or.inr (hw _ (List.mem_of_getElem? (i := 15) rfl))) (by decide) (t := .int) (t' := .int) (by decide) (by decide)))
  have F_a1_routePassNanos : Fld Z h6 a1 "com/example/shardrule/shardrule/bench/RoutingBench$Result" "routePassNanos" "J" (.long (0 : Int64)) := F_a1_routePassNanos.other W7 (Or.inr (slot_ne (Or.inr (hw _ (List.mem_of_getElem? (i := 19) rfl))) (Or.inr (hw _ (List.mem_of_getElem? (i := 15) rfl))) (by decide) (t := .long) (t' := .int) (by decide) (by decide)))
  have F_a1_crcPassNanos : Fld Z h6 a1 "com/example/shardrule/shardrule/bench/RoutingBench$Result" "crcPassNanos" "J" (.long (0 : Int64)) := F_a1_crcPassNanos.other W7 (Or.inr (slot_ne (Or.inr (hw _ (List.mem_of_getElem? (i := 21) rfl))) (Or.inr (hw _ (List.mem_of_getElem? (i := 15) rfl))) (by decide) (t := .long) (t' := .int) (by decide) (by decide)))
  have Z0 : n0 ≤ h6.size := by rw [W7.size]; exact Z0
  have KK : Keep h0 h6 [a1] := KK.wr W7 (Or.inl (by simp))
  have A9 : own_R p l e _ _ m _ below meth c S0 n0 h6 0 0 (mkF m 9 #[.val (.ref a1), .val (.int p2), .val (.int p3), .val (.long q4), .second, .val (.long q5), .second] []) := A8
  have A10 := A9.go (f' := mkF m 10 #[.val (.ref a1), .val (.int p2), .val (.int p3), .val (.long q4), .second, .val (.long q5), .second] [(.ref a1)]) fun _ _ X _ k => XS.aloadN X.here hx rfl (hb hby dini_9) rfl rfl k
  have A11 := A10.go (f' := mkF m 11 #[.val (.ref a1), .val (.int p2), .val (.int p3), .val (.long q4), .second, .val (.long q5), .second] [(.int p3), (.ref a1)]) fun _ _ X _ k => XS.iloadN X.here hx rfl (hb hby dini_10) rfl k
  obtain ⟨h12, W13, A14⟩ := A11.putF hx hZ hown (hb hby dini_11) (hw _ (List.mem_of_getElem? (i := 16) rfl)) F_a1_threads E_a1 (Or.inr ⟨(hw _ (List.mem_of_getElem? (i := 17) rfl)), rfl, hnm⟩) (hw _ (List.mem_of_getElem? (i := 1) rfl)) (ty := .int) (by decide) rfl rfl g_a1
  have E_a1 : Exa Z h12 a1 "com/example/shardrule/shardrule/bench/RoutingBench$Result" := E_a1.wr W13
  have F_a1_keys : Fld Z h12 a1 "com/example/shardrule/shardrule/bench/RoutingBench$Result" "keys" "I" (.int p2) := F_a1_keys.other W13 (Or.inr (slot_ne (Or.inr (hw _ (List.mem_of_getElem? (i := 15) rfl))) (Or.inr (hw _ (List.mem_of_getElem? (i := 17) rfl))) (by decide) (t := .int) (t' := .int) (by decide) (by decide)))
  have F_a1_threads : Fld Z h12 a1 "com/example/shardrule/shardrule/bench/RoutingBench$Result" "threads" "I" (.int p3) := F_a1_threads.same W13
  have F_a1_routePassNanos : Fld Z h12 a1 "com/example/shardrule/shardrule/bench/RoutingBench$Result" "routePassNanos" "J" (.long (0 : Int64)) := F_a1_routePassNanos.other W13 (Or.inr (slot_ne (Or.inr (hw _ (List.mem_of_getElem? (i := 19) rfl))) (Or.inr (hw _ (List.mem_of_getElem? (i := 17) rfl))) (by decide) (t := .long) (t' := .int) (by decide) (by decide)))
  have F_a1_crcPassNanos : Fld Z h12 a1 "com/example/shardrule/shardrule/bench/RoutingBench$Result" "crcPassNanos" "J" (.long (0 : Int64)) := F_a1_crcPassNanos.other W13 (Or.inr (slot_ne (Or.inr (hw _ (List.mem_of_getElem? (i := 21) rfl))) (Or.inr (hw _ (List.mem_of_getElem? (i := 17) rfl))) (by decide) (t := .long) (t' := .int) (by decide) (by decide)))
  have Z0 : n0 ≤ h12.size := by rw [W13.size]; exact Z0
  have KK : Keep h0 h12 [a1] := KK.wr W13 (Or.inl (by simp))
  have A15 : own_R p l e _ _ m _ below meth c S0 n0 h12 0 0 (mkF m 14 #[.val (.ref a1), .val (.int p2), .val (.int p3), .val (.long q4), .second, .val (.long q5), .second] []) := A14
  have A16 := A15.go (f' := mkF m 15 #[.val (.ref a1), .val (.int p2), .val (.int p3), .val (.long q4), .second, .val (.long q5), .second] [(.ref a1)]) fun _ _ X _ k => XS.aloadN X.here hx rfl (hb hby dini_14) rfl rfl k
  have A17 := A16.go (f' := mkF m 16 #[.val (.ref a1), .val (.int p2), .val (.int p3), .val (.long q4), .second, .val (.long q5), .second] [(.long q4), (.ref a1)]) fun _ _ X _ k => XS.lloadN X.here hx rfl (hb hby dini_15) rfl k
  obtain ⟨h18, W19, A20⟩ := A17.putF hx hZ hown (hb hby dini_16) (hw _ (List.mem_of_getElem? (i := 18) rfl)) F_a1_routePassNanos E_a1 (Or.inr ⟨(hw _ (List.mem_of_getElem? (i := 19) rfl)), rfl, hnm⟩) (hw _ (List.mem_of_getElem? (i := 1) rfl)) (ty := .long) (by decide) rfl rfl g_a1
  have E_a1 : Exa Z h18 a1 "com/example/shardrule/shardrule/bench/RoutingBench$Result" := E_a1.wr W19
  have F_a1_keys : Fld Z h18 a1 "com/example/shardrule/shardrule/bench/RoutingBench$Result" "keys" "I" (.int p2) := F_a1_keys.other W19 (Or.inr (slot_ne (Or.inr (hw _ (List.mem_of_getElem? (i := 15) rfl))) (Or.inr (hw _ (List.mem_of_getElem? (i := 19) rfl))) (by decide) (t := .int) (t' := .long) (by decide) (by decide)))
  have F_a1_threads : Fld Z h18 a1 "com/example/shardrule/shardrule/bench/RoutingBench$Result" "threads" "I" (.int p3) := F_a1_threads.other W19 (Or.inr (slot_ne (Or.inr (hw _ (List.mem_of_getElem? (i := 17) rfl))) (Or.inr (hw _ (List.mem_of_getElem? (i := 19) rfl))) (by decide) (t := .int) (t' := .long) (by decide) (by decide)))
  have F_a1_routePassNanos : Fld Z h18 a1 "com/example/shardrule/shardrule/bench/RoutingBench$Result" "routePassNanos" "J" (.long q4) := F_a1_routePassNanos.same W19
  have F_a1_crcPassNanos : Fld Z h18 a1 "com/example/shardrule/shardrule/bench/RoutingBench$Result" "crcPassNanos" "J" (.long (0 : Int64)) := F_a1_crcPassNanos.other W19 (Or.inr (slot_ne (Or.inr (hw _ (List.mem_of_getElem? (i := 21) rfl))) (Or.inr (hw _ (List.mem_of_getElem? (i := 19) rfl))) (by decide) (t := .long) (t' := .long) (by decide) (by decide)))
  have Z0 : n0 ≤ h18.size := by rw [W19.size]; exact Z0
  have KK : Keep h0 h18 [a1] := KK.wr W19 (Or.inl (by simp))
  have A21 : own_R p l e _ _ m _ below meth c S0 n0 h18 0 0 (mkF m 19 #[.val (.ref a1), .val (.int p2), .val (.int p3), .val (.long q4), .second, .val (.long q5), .second] []) := A20
  have A22 := A21.go (f' := mkF m 20 #[.val (.ref a1), .val (.int p2), .val (.int p3), .val (.long q4), .second, .val (.long q5), .second] [(.ref a1)]) fun _ _ X _ k => XS.aloadN X.here hx rfl (hb hby dini_19) rfl rfl k
  have A23 := A22.go (f' := mkF m 22 #[.val (.ref a1), .val (.int p2), .val (.int p3), .val (.long q4), .second, .val (.long q5), .second] [(.long q5), (.ref a1)]) fun _ _ X _ k => XS.lload X.here hx rfl (hb hby dini_20) rfl k
  obtain ⟨h24, W25, A26⟩ := A23.putF hx hZ hown (hb hby dini_22) (hw _ (List.mem_of_getElem? (i := 20) rfl)) F_a1_crcPassNanos E_a1 (Or.inr ⟨(hw _ (List.mem_of_getElem? (i := 21) rfl)), rfl, hnm⟩) (hw _ (List.mem_of_getElem? (i := 1) rfl)) (ty := .long) (by decide) rfl rfl g_a1
  have E_a1 : Exa Z h24 a1 "com/example/shardrule/shardrule/bench/RoutingBench$Result" := E_a1.wr W25
  have F_a1_keys : Fld Z h24 a1 "com/example/shardrule/shardrule/bench/RoutingBench$Result" "keys" "I" (.int p2) := F_a1_keys.other W25 (Or.inr (slot_ne (Or.inr (hw _ (List.mem_of_getElem? (i := 15) rfl))) (Or.inr (hw _ (List.mem_of_getElem? (i := 21) rfl))) (by decide) (t := .int) (t' := .long) (by decide) (by decide)))
  have F_a1_threads : Fld Z h24 a1 "com/example/shardrule/shardrule/bench/RoutingBench$Result" "threads" "I" (.int p3) := F_a1_threads.other W25 (Or.inr (slot_ne (Or.inr (hw _ (List.mem_of_getElem? (i := 17) rfl))) (Or.inr (hw _ (List.mem_of_getElem? (i := 21) rfl))) (by decide) (t := .int) (t' := .long) (by decide) (by decide)))
  have F_a1_routePassNanos : Fld Z h24 a1 "com/example/shardrule/shardrule/bench/RoutingBench$Result" "routePassNanos" "J" (.long q4) := F_a1_routePassNanos.other W25 (Or.inr (slot_ne (Or.inr (hw _ (List.mem_of_getElem? (i := 19) rfl))) (Or.inr (hw _ (List.mem_of_getElem? (i := 21) rfl))) (by decide) (t := .long) (t' := .long) (by decide) (by decide)))
  have F_a1_crcPassNanos : Fld Z h24 a1 "com/example/shardrule/shardrule/bench/RoutingBench$Result" "crcPassNanos" "J" (.long q5) := F_a1_crcPassNanos.same W25
  have Z0 : n0 ≤ h24.size := by rw [W25.size]; exact Z0
  have KK : Keep h0 h24 [a1] := KK.wr W25 (Or.inl (by simp))
  have A27 : own_R p l e _ _ m _ below meth c S0 n0 h24 0 0 (mkF m 25 #[.val (.ref a1), .val (.int p2), .val (.int p3), .val (.long q4), .second, .val (.long q5), .second] []) := A26
  exact A27.retV hx hlk hret (hb hby dini_25) (by decide) (by decide) ⟨rfl, KK, F_a1_keys, F_a1_threads, F_a1_routePassNanos⟩
theorem drn_0 : decode prog_17_method_2_code 0 = .ok (.aload_n 0, 1) := by decide +kernel
theorem drn_1 : decode prog_17_method_2_code 1 = .ok (.getfield 16, 3) := by decide +kernel
theorem drn_4 : decode prog_17_method_2_code 4 = .ok (.l2d, 1) := by decide +kernel
theorem drn_5 : decode prog_17_method_2_code 5 = .ok (.aload_n 0, 1) := by decide +kernel
theorem drn_6 : decode prog_17_method_2_code 6 = .ok (.getfield 13, 3) := by decide +kernel
theorem drn_9 : decode prog_17_method_2_code 9 = .ok (.i2d, 1) := by decide +kernel
theorem drn_10 : decode prog_17_method_2_code 10 = .ok (.aload_n 0, 1) := by decide +kernel
theorem drn_11 : decode prog_17_method_2_code 11 = .ok (.getfield 7, 3) := by decide +kernel
theorem drn_14 : decode prog_17_method_2_code 14 = .ok (.i2d, 1) := by decide +kernel
theorem drn_15 : decode prog_17_method_2_code 15 = .ok (.dmul, 1) := by decide +kernel
theorem drn_16 : decode prog_17_method_2_code 16 = .ok (.ddiv, 1) := by decide +kernel
theorem drn_17 : decode prog_17_method_2_code 17 = .ok (.dreturn, 1) := by decide +kernel
theorem efrn (m : MethodId) (a1 : Addr) : entryFrame m #[(.ref a1)] 1 = mkF m 0 #[.val (.ref a1)] [] := by first | (simp [entryFrame, mkF, argsToLocals, Value.category, maxLocals]; done) | rfl
set_option maxRecDepth 65536 in
set_option maxHeartbeats 40000000 in
theorem own_rnpk (l : Launch) (Z : State) (a0 : Array Value) (hw : ∀ d ∈ tables_1, d.before a0 Z = true) (a1 : Addr) (kk tt : Int32) (rr : Int64) (h0 : Heap) (n0 : Nat) (Z0 : n0 ≤ h0.size) (Fk : Fld Z h0 a1 "com/example/shardrule/shardrule/bench/RoutingBench$Result" "keys" "I" (.int kk)) (Ft : Fld Z h0 a1 "com/example/shardrule/shardrule/bench/RoutingBench$Result" "threads" "I" (.int tt)) (Fr : Fld Z h0 a1 "com/example/shardrule/shardrule/bench/RoutingBench$Result" "routePassNanos" "J" (.long rr)) (hn1 : Jvm.Free.Fl.NoNaN64 (FP.dmul (FP.i2d tt) (FP.i2d kk))) (hn2 : Jvm.Free.Fl.NoNaN64 (FP.ddiv (FP.l2d rr) (FP.dmul (FP.i2d tt) (FP.i2d kk)))) :
    own_M l Z (⟨"com/example/shardrule/shardrule/bench/RoutingBench$Result", "routeNanosPerKey", "()D"⟩ : MethodName) prog_17_method_2_code 1 (some .double) [] ({ frames := 0, cells := 0, slots := 0, locals := 0 } : Room) #[(.ref a1)] h0 n0 (fun v h => v = some (.double (FP.ddiv (FP.l2d rr) (FP.dmul (FP.i2d tt) (FP.i2d kk)))) ∧ h0 = h) := by
  refine own_M.of (plainFor_of_name (by first | (simp [plainName, overriddenIn]; done) | decide +kernel)) ?_
  intro p e s m below meth c S0 hx hby hml hown hnm hret hlk hZ A00
  have A0 := A00.cast (efrn m a1)
  have A1 := A0.go (f' := mkF m 1 #[.val (.ref a1)] [(.ref a1)]) fun _ _ X _ k => XS.aloadN X.here hx rfl (hb hby drn_0) rfl rfl k
  have A2 : own_R p l e _ _ m _ below meth c S0 n0 h0 0 0 (mkF m 4 #[.val (.ref a1)] [(.long rr)]) := A1.getF hx hZ hown (hb hby drn_1) (hw _ (List.mem_of_getElem? (i := 18) rfl)) Via.refl Fr
  have A3 := A2.go (f' := mkF m 5 #[.val (.ref a1)] [(.double (FP.l2d rr))]) fun _ _ X _ k => XS.l2dS X.here hx rfl (hb hby drn_4) rfl rfl k
  have A4 := A3.go (f' := mkF m 6 #[.val (.ref a1)] [(.ref a1), (.double (FP.l2d rr))]) fun _ _ X _ k => XS.aloadN X.here hx rfl (hb hby drn_5) rfl rfl k
  have A5 : own_R p l e _ _ m _ below meth c S0 n0 h0 0 0 (mkF m 9 #[.val (.ref a1)] [(.int tt), (.double (FP.l2d rr))]) := A4.getF hx hZ hown (hb hby drn_6) (hw _ (List.mem_of_getElem? (i := 16) rfl)) Via.refl Ft
  have A6 := A5.go (f' := mkF m 10 #[.val (.ref a1)] [(.double (FP.i2d tt)), (.double (FP.l2d rr))]) fun _ _ X _ k => XS.i2dS X.here hx rfl (hb hby drn_9) rfl rfl k
  have A7 := A6.go (f' := mkF m 11 #[.val (.ref a1)] [(.ref a1), (.double (FP.i2d tt)), (.double (FP.l2d rr))]) fun _ _ X _ k => XS.aloadN X.here hx rfl (hb hby drn_10) rfl rfl k
  have A8 : own_R p l e _ _ m _ below meth c S0 n0 h0 0 0 (mkF m 14 #[.val (.ref a1)] [(.int kk), (.double (FP.i2d tt)), (.double (FP.l2d rr))]) := A7.getF hx hZ hown (hb hby drn_11) (hw _ (List.mem_of_getElem? (i := 14) rfl)) Via.refl Fk
  have A9 := A8.go (f' := mkF m 15 #[.val (.ref a1)] [(.double (FP.i2d kk)), (.double (FP.i2d tt)), (.double (FP.l2d rr))]) fun _ _ X _ k => XS.i2dS X.here hx rfl (hb hby drn_14) rfl rfl k
  have A10 := A9.go (f' := mkF m 16 #[.val (.ref a1)] [(.double (FP.dmul (FP.i2d tt) (FP.i2d kk))), (.double (FP.l2d rr))]) fun _ _ X _ k => XS.dmulS X.here hx rfl (hb hby drn_15) rfl hn1 rfl k
  have A11 := A10.go (f' := mkF m 17 #[.val (.ref a1)] [(.double (FP.ddiv (FP.l2d rr) (FP.dmul (FP.i2d tt) (FP.i2d kk))))]) fun _ _ X _ k => XS.ddivS X.here hx rfl (hb hby drn_16) rfl hn2 rfl k
  exact A11.ret hx hlk hret (hb hby drn_17) rfl (Or.inr (Or.inr (Or.inl ⟨rfl, rfl, _, rfl⟩))) (by decide) (by decide) ⟨rfl, rfl⟩
/-- the quotient of two whole numbers that are held exactly is the ratio, rounded once -/
theorem own_div {a b : Int64} (wa : FP.Core.Whole a.toInt (FP.Core.val64 (FP.l2d a))) (wb : FP.Core.Whole b.toInt (FP.Core.val64 (FP.l2d b))) (h0 : 0 ≤ a.toInt) (h1 : 0 < b.toInt) :
    FP.Core.val64 (FP.ddiv (FP.l2d a) (FP.l2d b)) = FP.Core.roundRatio FP.Core.b64 false a.toInt.natAbs b.toInt.natAbs 0 := by
  obtain ⟨c, q, ea⟩ := FP.Core.l2d_shape a
  obtain ⟨d, r, eb⟩ := FP.Core.l2d_shape b
  have ea' : FP.Core.val64 (FP.l2d a) = .fin (decide (a.toInt < 0)) c q := ea
  have eb' : FP.Core.val64 (FP.l2d b) = .fin (decide (b.toInt < 0)) d r := eb
  have sa : decide (a.toInt < 0) = false := by simp; omega
  have sb : decide (b.toInt < 0) = false := by simp; omega
  rw [ea'] at wa
  rw [eb'] at wb
  have na := FP.Core.whole_natAbs wa
  have nb := FP.Core.whole_natAbs wb
  have hd : d ≠ 0 := fun hd => by
    have := (FP.Core.whole_zero wb).mp hd
    omega
  have hb : 0 < b.toInt.natAbs := by omega
  show FP.Core.val64 (FP.Core.ddiv _ _) = _
  rw [FP.Core.val64_ddiv, ea', eb', sa, sb]
  show (if d = 0 then (if c = 0 then FP.Core.Datum.nan else .inf (false != false)) else FP.Core.roundRatio FP.Core.b64 (false != false) c d (q - r)) = _
  rw [if_neg hd]
  show FP.Core.roundRatio FP.Core.b64 false c d (q - r) = _
  refine FP.Core.roundRatio_congr (Nat.pos_of_ne_zero hd) hb ?_
  generalize a.toInt.natAbs = A at na
  generalize b.toInt.natAbs = B at nb
  have hm : (2 : Nat) ^ (q.toNat + (-r).toNat - (q - r - 0).toNat) * 2 ^ (q - r - 0).toNat = 2 ^ q.toNat * 2 ^ (-r).toNat := by
    rw [← Nat.pow_add, ← Nat.pow_add]
    congr 1
    omega
  have hm' : (2 : Nat) ^ (q.toNat + (-r).toNat - (q - r - 0).toNat) * 2 ^ (0 - (q - r)).toNat = 2 ^ (-q).toNat * 2 ^ r.toNat := by
    rw [← Nat.pow_add, ← Nat.pow_add]
    congr 1
    omega
  have hp := Nat.two_pow_pos (q.toNat + (-r).toNat - (q - r - 0).toNat)
  refine Nat.eq_of_mul_eq_mul_left hp ?_
  calc 2 ^ (q.toNat + (-r).toNat - (q - r - 0).toNat) * (c * B * 2 ^ (q - r - 0).toNat)
      = c * B * (2 ^ (q.toNat + (-r).toNat - (q - r - 0).toNat) * 2 ^ (q - r - 0).toNat) := by ac_rfl
    _ = c * B * (2 ^ q.toNat * 2 ^ (-r).toNat) := by rw [hm]
    _ = (c * 2 ^ q.toNat) * (B * 2 ^ (-r).toNat) := by ac_rfl
    _ = (A * 2 ^ (-q).toNat) * (d * 2 ^ r.toNat) := by rw [na, nb]
    _ = A * d * (2 ^ (-q).toNat * 2 ^ r.toNat) := by ac_rfl
    _ = A * d * (2 ^ (q.toNat + (-r).toNat - (q - r - 0).toNat) * 2 ^ (0 - (q - r)).toNat) := by rw [hm']
    _ = 2 ^ (q.toNat + (-r).toNat - (q - r - 0).toNat) * (A * d * 2 ^ (0 - (q - r)).toNat) := by ac_rfl
theorem own_div_nn {a b : Int64} (wa : FP.Core.Whole a.toInt (FP.Core.val64 (FP.l2d a))) (wb : FP.Core.Whole b.toInt (FP.Core.val64 (FP.l2d b))) (h0 : 0 ≤ a.toInt) (h1 : 0 < b.toInt) :
    FP.Core.val64 (FP.ddiv (FP.l2d a) (FP.l2d b)) ≠ .nan := by
  rw [own_div wa wb h0 h1]
  exact FP.Core.roundRatio_ne_nan _ _ _ _ _
theorem own_zr {A B : Nat} : FP.Core.zval FP.Core.b64 (FP.Core.roundRatio FP.Core.b64 false A B 0) = (FP.Core.zmag FP.Core.b64 (FP.Core.roundRatio FP.Core.b64 false A B 0) : Int) := by
  unfold FP.Core.zval
  rw [FP.Core.sgn_roundRatio]
  rfl
theorem own_qm : (0 - FP.Core.b64.qmin).toNat = 1074 ∧ FP.Core.b64.qmin ≤ 0 := by decide +kernel
/-- an upper bound that the format holds -/
theorem own_up {A B : Nat} {V : UInt64} (hB : 0 < B) (hV : FP.Core.val64 V ≠ .nan) (h : A * 2 ^ 1074 ≤ FP.Core.zmag FP.Core.b64 (FP.Core.val64 V) * B) :
    FP.Core.zmag FP.Core.b64 (FP.Core.roundRatio FP.Core.b64 false A B 0) ≤ FP.Core.zmag FP.Core.b64 (FP.Core.val64 V) := by
  refine FP.Core.zmag_roundRatio_le FP.Core.good_b64 (e0 := FP.Core.b64.qmin) hB (FP.Core.val64_fits V) hV (Int.le_refl _) own_qm.2 ?_
  unfold FP.Core.inUnits
  rw [own_qm.1, Int.sub_self, Int.toNat_zero, Nat.pow_zero, Nat.mul_one]
  exact h
/-- a lower bound that the format holds -/
theorem own_dn {A B : Nat} {V : UInt64} (hB : 0 < B) (h : FP.Core.zmag FP.Core.b64 (FP.Core.val64 V) * B ≤ A * 2 ^ 1074) :
    FP.Core.zmag FP.Core.b64 (FP.Core.val64 V) ≤ FP.Core.zmag FP.Core.b64 (FP.Core.roundRatio FP.Core.b64 false A B 0) := by
  refine FP.Core.zmag_roundRatio_ge FP.Core.good_b64 (e0 := FP.Core.b64.qmin) hB (FP.Core.val64_fits V) (Int.le_refl _) own_qm.2 ?_
  unfold FP.Core.inUnits
  rw [own_qm.1, Int.sub_self, Int.toNat_zero, Nat.pow_zero, Nat.mul_one]
  exact h
theorem own_cmpz {x y : UInt64} (hx : FP.Core.val64 x ≠ .nan) (hy : FP.Core.val64 y ≠ .nan) : FP.dcmp x y = some (compare (FP.Core.zval FP.Core.b64 (FP.Core.val64 x)) (FP.Core.zval FP.Core.b64 (FP.Core.val64 y))) := FP.Core.dcmp_zval hx hy
theorem own_cmp0 {x y : UInt64} (hx : FP.Core.val64 x ≠ .nan) (hy : FP.Core.val64 y ≠ .nan) (h : FP.Core.zval FP.Core.b64 (FP.Core.val64 x) = FP.Core.zval FP.Core.b64 (FP.Core.val64 y)) (o : CmpOp) : cmpValue (FP.dcmp x y) o = (0 : Int32) := by
  rw [own_cmpz hx hy, h]
  have e : ∀ z : Int, compare z z = .eq := fun z => by simp [compare, compareOfLessAndEq]
  rw [e]
  cases o <;> rfl
theorem own_cmpL {x y : UInt64} (hx : FP.Core.val64 x ≠ .nan) (hy : FP.Core.val64 y ≠ .nan) (h : FP.Core.zval FP.Core.b64 (FP.Core.val64 x) < FP.Core.zval FP.Core.b64 (FP.Core.val64 y)) (o : CmpOp) : cmpValue (FP.dcmp x y) o = (-1 : Int32) := by
  rw [own_cmpz hx hy]
  have e : compare (FP.Core.zval FP.Core.b64 (FP.Core.val64 x)) (FP.Core.zval FP.Core.b64 (FP.Core.val64 y)) = .lt := by simp [compare, compareOfLessAndEq, h]
  rw [e]
  cases o <;> rfl
theorem own_cmpG {x y : UInt64} (hx : FP.Core.val64 x ≠ .nan) (hy : FP.Core.val64 y ≠ .nan) (h : FP.Core.zval FP.Core.b64 (FP.Core.val64 y) < FP.Core.zval FP.Core.b64 (FP.Core.val64 x)) (o : CmpOp) : cmpValue (FP.dcmp x y) o = (1 : Int32) := by
  rw [own_cmpz hx hy]
  have e : compare (FP.Core.zval FP.Core.b64 (FP.Core.val64 x)) (FP.Core.zval FP.Core.b64 (FP.Core.val64 y)) = .gt := by
    have h1 : ¬ FP.Core.zval FP.Core.b64 (FP.Core.val64 x) < FP.Core.zval FP.Core.b64 (FP.Core.val64 y) := by omega
    have h2 : ¬ FP.Core.zval FP.Core.b64 (FP.Core.val64 x) = FP.Core.zval FP.Core.b64 (FP.Core.val64 y) := by omega
    simp [compare, compareOfLessAndEq, h1, h2]
  rw [e]
  cases o <;> rfl
theorem own_zv {t : Int64} (h : B53 t) : FP.Core.zval FP.Core.b64 (FP.Core.val64 (FP.l2d t)) = t.toInt * (FP.Core.one64 : Int) :=
  FP.Core.DInt_zval (FP.Core.l2d_whole (sm h))
theorem own_zm {t : Int64} (h : B53 t) (h0 : 0 ≤ t.toInt) : FP.Core.zmag FP.Core.b64 (FP.Core.val64 (FP.l2d t)) = t.toInt.natAbs * 2 ^ 1074 := by
  have e := congrArg Int.natAbs (own_zv h)
  unfold FP.Core.zval at e
  rw [FP.Core.natAbs_signed, Int.natAbs_mul, Int.natAbs_natCast] at e
  exact e
theorem own_ac1 (N B r P M : Nat) : (N * B + r) * (M * P) = M * (N * B * P) + M * (r * P) := by
  rw [Nat.add_mul]
  congr 1
  · ac_rfl
  · ac_rfl
theorem own_ac2 (N B P M : Nat) : N * (M * P) * B = M * (N * B * P) := by ac_rfl
theorem own_ac3 (N B P M : Nat) : (N * M + 1) * P * B = M * (N * B * P) + B * P := by
  rw [Nat.add_mul, Nat.add_mul, Nat.one_mul]
  congr 1
  · ac_rfl
  · ac_rfl
theorem own_ac4 (N B P M : Nat) : (N + 1) * (M * P) * B = M * (N * B * P) + M * (B * P) := by
  rw [Nat.add_mul, Nat.add_mul, Nat.one_mul]
  congr 1
  · ac_rfl
  · ac_rfl
theorem own_ac5 (N B P M K : Nat) : (N * M + K) * P * B = M * (N * B * P) + K * (B * P) := by
  rw [Nat.add_mul, Nat.add_mul]
  congr 1
  · ac_rfl
  · ac_rfl
theorem own_ac6 (A B P : Nat) : A * B * P = A * P * B := by ac_rfl
theorem own_ac7 (K A B P : Nat) : K * (A * P) * B = K * (A * B * P) := by ac_rfl
theorem own_finA (d : Int64) : (cmpValue (FP.dcmp (FP.ddiv (FP.l2d d) (FP.dmul (FP.i2d (1 : Int32)) (FP.i2d (1 : Int32)))) (FP.l2d d)) .l) = (0 : Int32) := by
  have e1 : FP.dmul (FP.i2d (1 : Int32)) (FP.i2d (1 : Int32)) = FP.Core.dconst1 := by decide +kernel
  have e2 : FP.ddiv (FP.l2d d) FP.Core.dconst1 = FP.l2d d := FP.Core.ddiv_one (FP.Core.l2d_fin d).ne_nan
  rw [e1, e2]
  exact dcmpV_self (nn_w rfl) .l
theorem own_nnA (d : Int64) : Jvm.Free.Fl.NoNaN64 (FP.dmul (FP.i2d (1 : Int32)) (FP.i2d (1 : Int32))) ∧ Jvm.Free.Fl.NoNaN64 (FP.ddiv (FP.l2d d) (FP.dmul (FP.i2d (1 : Int32)) (FP.i2d (1 : Int32)))) := by
  have e1 : FP.dmul (FP.i2d (1 : Int32)) (FP.i2d (1 : Int32)) = FP.Core.dconst1 := by decide +kernel
  have e2 : FP.ddiv (FP.l2d d) FP.Core.dconst1 = FP.l2d d := FP.Core.ddiv_one (FP.Core.l2d_fin d).ne_nan
  rw [e1, e2]
  exact ⟨Jvm.Free.Fl.val64_no.mpr (by decide +kernel), nn_w rfl⟩
def own_OB (t k tk n rem pass : Int64) : Prop := 1 ≤ t.toInt ∧ t.toInt ≤ 1048576 ∧ 1 ≤ k.toInt ∧ k.toInt ≤ 1048576 ∧ tk.toInt = t.toInt * k.toInt ∧ tk = t * k ∧ 1 ≤ tk.toInt ∧ tk.toInt ≤ 1099511627776 ∧ 0 ≤ n.toInt ∧ n.toInt ≤ 1023 ∧ 0 ≤ rem.toInt ∧ rem.toInt < tk.toInt ∧ pass.toInt = n.toInt * tk.toInt + rem.toInt ∧ 0 ≤ n.toInt * tk.toInt ∧ n.toInt * tk.toInt ≤ 1124800395214848
theorem own_t1 {q t : Int64} (h : t = ((q &&& (1048575 : Int64)) + (1 : Int64))) : 1 ≤ t.toInt ∧ t.toInt ≤ 1048576 := by
  have e := Jvm.Kit.i64_mask q 1048575 (k := 20) (by decide) (by decide)
  have e1 : (1 : Int64).toInt = 1 := by decide
  rw [h, Jvm.Kit.i64_add (by omega) (by omega), e, e1]
  omega
theorem own_mulb {a b A B : Int} (h1 : 1 ≤ a) (h2 : a ≤ A) (h3 : 1 ≤ b) (h4 : b ≤ B) : 1 ≤ a * b ∧ a * b ≤ A * B :=
  ⟨Int.mul_le_mul h1 h3 (by decide) (by omega), Int.mul_le_mul h2 h4 (by omega) (by omega)⟩
theorem own_tkb {qa qb t k tk : Int64} (ht : t = ((qa &&& (1048575 : Int64)) + (1 : Int64))) (hk : k = ((qb &&& (1048575 : Int64)) + (1 : Int64))) (htk : tk = (t * k)) : tk.toInt = t.toInt * k.toInt ∧ 1 ≤ tk.toInt ∧ tk.toInt ≤ 1099511627776 := by
  have a := own_t1 ht
  have b := own_t1 hk
  have c := own_mulb a.1 a.2 b.1 b.2
  have e : tk.toInt = t.toInt * k.toInt := by rw [htk, Jvm.Kit.i64_mul (by omega) (by omega)]
  exact ⟨e, by omega, by omega⟩
theorem own_tk0 {qa qb t k tk : Int64} (ht : t = ((qa &&& (1048575 : Int64)) + (1 : Int64))) (hk : k = ((qb &&& (1048575 : Int64)) + (1 : Int64))) (htk : tk = (t * k)) : tk ≠ 0 := by
  intro q
  have h := own_tkb ht hk htk
  rw [q] at h
  have : (0 : Int64).toInt = 0 := by decide
  omega
theorem own_bounds {qa qb qc qd t k tk n rem pass : Int64} (ht : t = ((qa &&& (1048575 : Int64)) + (1 : Int64))) (hk : k = ((qb &&& (1048575 : Int64)) + (1 : Int64))) (htk : tk = (t * k)) (hn : n = (qc &&& (1023 : Int64)))
    (hrem : rem = ((qd &&& (9223372036854775807 : Int64)) - (qd &&& (9223372036854775807 : Int64)) / tk * tk)) (hpass : pass = ((n * tk) + rem)) : own_OB t k tk n rem pass := by
  have a := own_t1 ht
  have b := own_t1 hk
  obtain ⟨c1, c2, c3⟩ := own_tkb ht hk htk
  have e1 := Jvm.Kit.i64_mask qc 1023 (k := 10) (by decide) (by decide)
  have e2 := Jvm.Kit.i64_mask qd 9223372036854775807 (k := 63) (by decide) (by decide)
  rw [← hn] at e1
  have n0 : 0 ≤ n.toInt := by omega
  have n1 : n.toInt ≤ 1023 := by omega
  have r : rem.toInt = (qd &&& (9223372036854775807 : Int64)).toInt % tk.toInt := by rw [hrem, Jvm.Kit.i64_rem_nonneg (by omega)]
  have r0 : 0 ≤ rem.toInt := by rw [r]; exact Int.emod_nonneg _ (by omega)
  have r1 : rem.toInt < tk.toInt := by rw [r]; exact Int.emod_lt_of_pos _ (by omega)
  have m0 : 0 ≤ n.toInt * tk.toInt := Int.mul_nonneg n0 (by omega)
  have m1 : n.toInt * tk.toInt ≤ 1124800395214848 := by
    have : n.toInt * tk.toInt ≤ 1023 * 1099511627776 := Int.mul_le_mul n1 c3 (by omega) (by decide)
    omega
  have p1 : (n * tk).toInt = n.toInt * tk.toInt := Jvm.Kit.i64_mul (by omega) (by omega)
  have p2 : pass.toInt = n.toInt * tk.toInt + rem.toInt := by rw [hpass, Jvm.Kit.i64_add (by omega) (by omega), p1]
  exact ⟨a.1, a.2, b.1, b.2, c1, htk, c2, c3, n0, n1, r0, r1, p2, m0, m1⟩
theorem own_den {t k tk n rem pass : Int64} (hb : own_OB t k tk n rem pass) : FP.dmul (FP.i2d t.toInt32) (FP.i2d k.toInt32) = FP.l2d tk := by
  obtain ⟨a1, a2, b1, b2, c1, c0, c2, c3, -⟩ := hb
  have e1 : t.toInt32.toInt64 = t := Int64.toInt_inj.mp (by rw [Int32.toInt_toInt64, Jvm.Kit.i32_of_i64 (by omega) (by omega)])
  have e2 : k.toInt32.toInt64 = k := Int64.toInt_inj.mp (by rw [Int32.toInt_toInt64, Jvm.Kit.i32_of_i64 (by omega) (by omega)])
  have z : (0 : Int64).toInt = 0 := by decide
  rw [i2d_w, i2d_w, e1, e2, dmul_w ⟨by omega, by omega⟩ ⟨by omega, by omega⟩ (fun q => by rw [q] at a1; omega) (fun q => by rw [q] at b1; omega) (by omega) (by omega), c0]
theorem own_OB.w {t k tk n rem pass : Int64} (hb : own_OB t k tk n rem pass) : B53 pass ∧ B53 tk ∧ B53 n ∧ 0 ≤ pass.toInt ∧ 0 < tk.toInt := by
  obtain ⟨a1, a2, b1, b2, c1, c0, c2, c3, n0, n1, r0, r1, p2, m0, m1⟩ := hb
  exact ⟨⟨by omega, by omega⟩, ⟨by omega, by omega⟩, ⟨by omega, by omega⟩, by omega, by omega⟩
theorem own_val {t k tk n rem pass : Int64} (hb : own_OB t k tk n rem pass) : FP.Core.val64 (FP.ddiv (FP.l2d pass) (FP.dmul (FP.i2d t.toInt32) (FP.i2d k.toInt32))) = FP.Core.roundRatio FP.Core.b64 false pass.toInt.natAbs tk.toInt.natAbs 0 := by
  obtain ⟨w1, w2, w3, w4, w5⟩ := hb.w
  rw [own_den hb]
  exact own_div (FP.Core.l2d_whole (sm w1)) (FP.Core.l2d_whole (sm w2)) w4 w5
theorem own_nnB {t k tk n rem pass : Int64} (hb : own_OB t k tk n rem pass) : Jvm.Free.Fl.NoNaN64 (FP.dmul (FP.i2d t.toInt32) (FP.i2d k.toInt32)) ∧ Jvm.Free.Fl.NoNaN64 (FP.ddiv (FP.l2d pass) (FP.dmul (FP.i2d t.toInt32) (FP.i2d k.toInt32))) := by
  refine ⟨?_, Jvm.Free.Fl.val64_no.mpr ?_⟩
  · rw [own_den hb]
    exact nn_w rfl
  · rw [own_val hb]
    exact FP.Core.roundRatio_ne_nan _ _ _ _ _
theorem own_ne {t k tk n rem pass : Int64} (hb : own_OB t k tk n rem pass) : FP.Core.val64 (FP.ddiv (FP.l2d pass) (FP.dmul (FP.i2d t.toInt32) (FP.i2d k.toInt32))) ≠ .nan := Jvm.Free.Fl.val64_no.mp (own_nnB hb).2
theorem own_natab {t k tk n rem pass : Int64} (hb : own_OB t k tk n rem pass) : pass.toInt.natAbs = n.toInt.natAbs * tk.toInt.natAbs + rem.toInt.natAbs ∧ 0 < tk.toInt.natAbs ∧ rem.toInt.natAbs < tk.toInt.natAbs ∧ n.toInt.natAbs ≤ 1023 ∧ tk.toInt.natAbs ≤ 1099511627776 := by
  obtain ⟨a1, a2, b1, b2, c1, c0, c2, c3, n0, n1, r0, r1, p2, m0, m1⟩ := hb
  have e : (n.toInt * tk.toInt).natAbs = n.toInt.natAbs * tk.toInt.natAbs := Int.natAbs_mul _ _
  refine ⟨?_, by omega, by omega, by omega, by omega⟩
  rw [← e]
  omega
theorem own_finB0 {t k tk n rem pass : Int64} (hb : own_OB t k tk n rem pass) (hr : rem = (0 : Int64)) : (cmpValue (FP.dcmp (FP.ddiv (FP.l2d pass) (FP.dmul (FP.i2d (t.toInt32)) (FP.i2d (k.toInt32)))) (FP.l2d n)) .l) = (0 : Int32) := by
  obtain ⟨w1, w2, w3, w4, w5⟩ := hb.w
  obtain ⟨e1, e2, e3, e4, e5⟩ := own_natab hb
  have hr0 : rem.toInt.natAbs = 0 := by rw [hr]; decide
  have n0 : 0 ≤ n.toInt := hb.2.2.2.2.2.2.2.2.1
  refine own_cmp0 (own_ne hb) (FP.Core.l2d_fin n).ne_nan ?_ .l
  have hm := own_zm w3 n0
  have ha : pass.toInt.natAbs * 2 ^ 1074 = FP.Core.zmag FP.Core.b64 (FP.Core.val64 (FP.l2d n)) * tk.toInt.natAbs := by
    rw [hm, e1, hr0, Nat.add_zero]
    exact own_ac6 _ _ _
  have u := own_up (V := FP.l2d n) e2 (FP.Core.l2d_fin n).ne_nan (Nat.le_of_eq ha)
  have d := own_dn (V := FP.l2d n) e2 (Nat.le_of_eq ha.symm)
  rw [own_val hb, own_zr, own_zv w3]
  have e : FP.Core.zmag FP.Core.b64 (FP.Core.roundRatio FP.Core.b64 false pass.toInt.natAbs tk.toInt.natAbs 0) = n.toInt.natAbs * 2 ^ 1074 := by omega
  rw [e]
  have : (n.toInt.natAbs : Int) = n.toInt := by omega
  rw [Int.natCast_mul, this]
  rfl
theorem own_pw : (2 : Nat) ^ 1074 = 8796093022208 * 2 ^ 1031 := by decide +kernel
theorem own_top : 1024 * 2 ^ 1074 < FP.Core.b64.tails * 2 ^ (FP.Core.b64.exps - 2) := by decide +kernel
theorem own_q43 : FP.Core.b64.qmin ≤ -43 ∧ (-43 - FP.Core.b64.qmin).toNat = 1031 ∧ FP.Core.b64.p = 53 := by decide +kernel
/-- the rounded ratio isn't N where a number of the format lies nearer -/
theorem own_not {A B N c' : Nat} (hB : 0 < B) (hc' : c' < 2 ^ 53) (hN : N ≤ 1024) (hz : FP.Core.zmag FP.Core.b64 (FP.Core.roundRatio FP.Core.b64 false A B 0) = N * 2 ^ 1074)
    (hd : (((A * 2 ^ 1074 : Nat) : Int) - ((c' * 2 ^ 1031 : Nat) : Int) * (B : Int)).natAbs < (((A * 2 ^ 1074 : Nat) : Int) - ((N * 2 ^ 1074 : Nat) : Int) * (B : Int)).natAbs) : False := by
  cases hr : FP.Core.roundRatio FP.Core.b64 false A B 0 with
  | nan => exact FP.Core.roundRatio_ne_nan _ _ _ _ _ hr
  | inf s =>
    rw [hr] at hz
    have h1 : FP.Core.b64.tails * 2 ^ (FP.Core.b64.exps - 2) = N * 2 ^ 1074 := hz
    have h2 := own_top
    rw [h1] at h2
    exact absurd h2 (Nat.not_lt.mpr (Nat.mul_le_mul_right _ hN))
  | fin s c q =>
    rw [hr] at hz
    have h1 := FP.Core.roundRatio_nearest FP.Core.good_b64 (c' := c') (q' := -43) (e0 := FP.Core.b64.qmin) hB hr (by rw [own_q43.2.2]; exact hc') own_q43.1 (Int.le_refl _) own_qm.2
    unfold FP.Core.distance at h1
    have e1 : FP.Core.inUnits A 0 FP.Core.b64.qmin = A * 2 ^ 1074 := by unfold FP.Core.inUnits; rw [own_qm.1]
    have e2 : FP.Core.inUnits c' (-43) FP.Core.b64.qmin = c' * 2 ^ 1031 := by unfold FP.Core.inUnits; rw [own_q43.2.1]
    have e3 : FP.Core.inUnits c q FP.Core.b64.qmin = N * 2 ^ 1074 := hz
    rw [e1, e2, e3] at h1
    exact absurd hd (Nat.not_lt.mpr h1)
theorem own_finB1 {t k tk n rem pass : Int64} (hb : own_OB t k tk n rem pass) (hr : ¬ rem = (0 : Int64)) : (0 : Int32) < (cmpValue (FP.dcmp (FP.ddiv (FP.l2d pass) (FP.dmul (FP.i2d (t.toInt32)) (FP.i2d (k.toInt32)))) (FP.l2d n)) .l) := by
  obtain ⟨w1, w2, w3, w4, w5⟩ := hb.w
  obtain ⟨e1, e2, e3, e4, e5⟩ := own_natab hb
  have n0 : 0 ≤ n.toInt := hb.2.2.2.2.2.2.2.2.1
  have r0 : 1 ≤ rem.toInt.natAbs := by
    have : rem.toInt ≠ 0 := fun q => hr (Int64.toInt_inj.mp (q.trans (by decide)))
    omega
  have hm := own_zm w3 n0
  generalize rem.toInt.natAbs = r at *
  generalize hB : tk.toInt.natAbs = B at *
  generalize hN : n.toInt.natAbs = N at *
  generalize hA : pass.toInt.natAbs = A at *
  generalize hP : (2 : Nat) ^ 1031 = P at *
  have hP0 : 0 < P := by rw [← hP]; exact Nat.two_pow_pos _
  have pw : (2 : Nat) ^ 1074 = 8796093022208 * P := by rw [← hP]; exact own_pw
  have hA1 : A * 2 ^ 1074 = 8796093022208 * (N * B * P) + 8796093022208 * (r * P) := by
    rw [e1, pw]
    exact own_ac1 _ _ _ _ _
  have hNB : N * 2 ^ 1074 * B = 8796093022208 * (N * B * P) := by rw [pw]; exact own_ac2 _ _ _ _
  have hd := own_dn (A := A) (B := B) (V := FP.l2d n) e2 (by rw [hm, hNB, hA1]; omega)
  rw [hm] at hd
  have hrP : P ≤ r * P := Nat.le_mul_of_pos_left P r0
  have hBP : B * P ≤ 1099511627776 * P := Nat.mul_le_mul_right P e5
  have hBP0 : 0 < B * P := Nat.mul_pos e2 hP0
  have hne : FP.Core.zmag FP.Core.b64 (FP.Core.roundRatio FP.Core.b64 false A B 0) ≠ N * 2 ^ 1074 := fun hz => by
    refine own_not (c' := N * 8796093022208 + 1) e2 (by omega) (by omega) hz ?_
    rw [hP]
    have k1 : (N * 8796093022208 + 1) * P * B = 8796093022208 * (N * B * P) + B * P := own_ac3 _ _ _ _
    rw [← Int.natCast_mul, ← Int.natCast_mul, k1, hNB, hA1]
    omega
  have e : cmpValue (FP.dcmp (FP.ddiv (FP.l2d pass) (FP.dmul (FP.i2d (t.toInt32)) (FP.i2d (k.toInt32)))) (FP.l2d n)) .l = (1 : Int32) := by
    refine own_cmpG (own_ne hb) (FP.Core.l2d_fin n).ne_nan ?_ .l
    rw [own_val hb, own_zr, own_zv w3, hA, hB]
    have : n.toInt * (FP.Core.one64 : Int) = ((N * 2 ^ 1074 : Nat) : Int) := by
      rw [Int.natCast_mul, ← hN]
      have : (n.toInt.natAbs : Int) = n.toInt := by omega
      rw [this]
      rfl
    rw [this]
    omega
  rw [e]
  decide
theorem own_finB2 {t k tk n rem pass : Int64} (hb : own_OB t k tk n rem pass) (hr : ¬ rem = (0 : Int64)) : (cmpValue (FP.dcmp (FP.ddiv (FP.l2d pass) (FP.dmul (FP.i2d (t.toInt32)) (FP.i2d (k.toInt32)))) (FP.l2d (n + (1 : Int64)))) .g) < (0 : Int32) := by
  obtain ⟨w1, w2, w3, w4, w5⟩ := hb.w
  obtain ⟨e1, e2, e3, e4, e5⟩ := own_natab hb
  have n0 : 0 ≤ n.toInt := hb.2.2.2.2.2.2.2.2.1
  have n1 : n.toInt ≤ 1023 := hb.2.2.2.2.2.2.2.2.2.1
  have c1 : (1 : Int64).toInt = 1 := by decide
  have hn1 : (n + (1 : Int64)).toInt = n.toInt + 1 := by rw [Jvm.Kit.i64_add (by omega) (by omega), c1]
  have w6 : B53 (n + (1 : Int64)) := ⟨by omega, by omega⟩
  have hm := own_zm w6 (by omega)
  have hab : (n + (1 : Int64)).toInt.natAbs = n.toInt.natAbs + 1 := by omega
  rw [hab] at hm
  generalize rem.toInt.natAbs = r at *
  generalize hB : tk.toInt.natAbs = B at *
  generalize hN : n.toInt.natAbs = N at *
  generalize hA : pass.toInt.natAbs = A at *
  generalize hP : (2 : Nat) ^ 1031 = P at *
  have hP0 : 0 < P := by rw [← hP]; exact Nat.two_pow_pos _
  have pw : (2 : Nat) ^ 1074 = 8796093022208 * P := by rw [← hP]; exact own_pw
  have hA1 : A * 2 ^ 1074 = 8796093022208 * (N * B * P) + 8796093022208 * (r * P) := by
    rw [e1, pw]
    exact own_ac1 _ _ _ _ _
  have hNB : (N + 1) * 2 ^ 1074 * B = 8796093022208 * (N * B * P) + 8796093022208 * (B * P) := by
    rw [pw]
    exact own_ac4 _ _ _ _
  have hrB : r * P + P ≤ B * P := by
    have := Nat.mul_le_mul_right P (show r + 1 ≤ B by omega)
    rw [Nat.add_mul, Nat.one_mul] at this
    exact this
  have hu := own_up (A := A) (B := B) (V := FP.l2d (n + (1 : Int64))) e2 (FP.Core.l2d_fin _).ne_nan (by rw [hm, hNB, hA1]; omega)
  rw [hm] at hu
  have hBP : B * P ≤ 1099511627776 * P := Nat.mul_le_mul_right P e5
  have hne : FP.Core.zmag FP.Core.b64 (FP.Core.roundRatio FP.Core.b64 false A B 0) ≠ (N + 1) * 2 ^ 1074 := fun hz => by
    refine own_not (c' := N * 8796093022208 + 8796093022207) e2 (by omega) (by omega) hz ?_
    rw [hP]
    have k1 : (N * 8796093022208 + 8796093022207) * P * B = 8796093022208 * (N * B * P) + 8796093022207 * (B * P) := own_ac5 _ _ _ _ _
    rw [← Int.natCast_mul, ← Int.natCast_mul, k1, hNB, hA1]
    omega
  have e : cmpValue (FP.dcmp (FP.ddiv (FP.l2d pass) (FP.dmul (FP.i2d (t.toInt32)) (FP.i2d (k.toInt32)))) (FP.l2d (n + (1 : Int64)))) .g = (-1 : Int32) := by
    refine own_cmpL (own_ne hb) (FP.Core.l2d_fin _).ne_nan ?_ .g
    rw [own_val hb, own_zr, own_zv w6, hA, hB]
    have : (n + (1 : Int64)).toInt * (FP.Core.one64 : Int) = (((N + 1) * 2 ^ 1074 : Nat) : Int) := by
      rw [Int.natCast_mul, ← hN, hn1]
      have : ((n.toInt.natAbs + 1 : Nat) : Int) = n.toInt + 1 := by omega
      rw [this]
      rfl
    rw [this]
    omega
  rw [e]
  decide

theorem pd__28_29D : parseMethodDescriptor "()D" = some ⟨[], some .double⟩ := by decide +kernel
theorem pd__28IIJJ_29V : parseMethodDescriptor "(IIJJ)V" = some ⟨[.int, .int, .long, .long], none⟩ := by decide +kernel
theorem d0_0 : decode code 0 = .ok (.iload 10, 2) := at_0
theorem d0_2 : decode code 2 = .ok (.iconst 1, 1) := at_2
theorem d0_3 : decode code 3 = .ok (.iand, 1) := at_3
theorem d0_4 : decode code 4 = .ok (.ifCond .ne 36, 3) := at_4
theorem d0_7 : decode code 7 = .ok (.new 7, 3) := at_7
theorem d0_10 : decode code 10 = .ok (.dup, 1) := at_10
theorem d0_11 : decode code 11 = .ok (.iconst 1, 1) := at_11
theorem d0_12 : decode code 12 = .ok (.iconst 1, 1) := at_12
theorem d0_13 : decode code 13 = .ok (.lload 6, 2) := at_13
theorem d0_15 : decode code 15 = .ok (.lload 8, 2) := at_15
theorem d0_17 : decode code 17 = .ok (.invokespecial 9, 3) := at_17
theorem d0_20 : decode code 20 = .ok (.astore 11, 2) := at_20
theorem d0_22 : decode code 22 = .ok (.aload 11, 2) := at_22
theorem d0_24 : decode code 24 = .ok (.invokevirtual 12, 3) := at_24
theorem d0_27 : decode code 27 = .ok (.lload 6, 2) := at_27
theorem d0_29 : decode code 29 = .ok (.l2d, 1) := at_29
theorem d0_30 : decode code 30 = .ok (.dcmp .l, 1) := at_30
theorem d0_31 : decode code 31 = .ok (.ifCond .ne 7, 3) := at_31
theorem d0_34 : decode code 34 = .ok (.iconst 1, 1) := at_34
theorem d0_35 : decode code 35 = .ok (.goto 4, 3) := at_35
theorem d0_39 : decode code 39 = .ok (.ireturn, 1) := at_39
theorem d0_40 : decode code 40 = .ok (.lload_n 0, 1) := at_40
theorem d0_41 : decode code 41 = .ok (.ldc2_w 16, 3) := at_41
theorem d0_44 : decode code 44 = .ok (.land, 1) := at_44
theorem d0_45 : decode code 45 = .ok (.lconst 1, 1) := at_45
theorem d0_46 : decode code 46 = .ok (.ladd, 1) := at_46
theorem d0_47 : decode code 47 = .ok (.lstore 11, 2) := at_47
theorem d0_49 : decode code 49 = .ok (.lload_n 2, 1) := at_49
theorem d0_50 : decode code 50 = .ok (.ldc2_w 16, 3) := at_50
theorem d0_53 : decode code 53 = .ok (.land, 1) := at_53
theorem d0_54 : decode code 54 = .ok (.lconst 1, 1) := at_54
theorem d0_55 : decode code 55 = .ok (.ladd, 1) := at_55
theorem d0_56 : decode code 56 = .ok (.lstore 13, 2) := at_56
theorem d0_58 : decode code 58 = .ok (.lload 11, 2) := at_58
theorem d0_60 : decode code 60 = .ok (.lload 13, 2) := at_60
theorem d0_62 : decode code 62 = .ok (.lmul, 1) := at_62
theorem d0_63 : decode code 63 = .ok (.lstore 15, 2) := at_63
theorem d0_65 : decode code 65 = .ok (.lload 4, 2) := at_65
theorem d0_67 : decode code 67 = .ok (.ldc2_w 18, 3) := at_67
theorem d0_70 : decode code 70 = .ok (.land, 1) := at_70
theorem d0_71 : decode code 71 = .ok (.lstore 17, 2) := at_71
theorem d0_73 : decode code 73 = .ok (.lload 6, 2) := at_73
theorem d0_75 : decode code 75 = .ok (.ldc2_w 20, 3) := at_75
theorem d0_78 : decode code 78 = .ok (.land, 1) := at_78
theorem d0_79 : decode code 79 = .ok (.lload 15, 2) := at_79
theorem d0_81 : decode code 81 = .ok (.lrem, 1) := at_81
theorem d0_82 : decode code 82 = .ok (.lstore 19, 2) := at_82
theorem d0_84 : decode code 84 = .ok (.lload 17, 2) := at_84
theorem d0_86 : decode code 86 = .ok (.lload 15, 2) := at_86
theorem d0_88 : decode code 88 = .ok (.lmul, 1) := at_88
theorem d0_89 : decode code 89 = .ok (.lload 19, 2) := at_89
theorem d0_91 : decode code 91 = .ok (.ladd, 1) := at_91
theorem d0_92 : decode code 92 = .ok (.lstore 21, 2) := at_92
theorem d0_94 : decode code 94 = .ok (.new 7, 3) := at_94
theorem d0_97 : decode code 97 = .ok (.dup, 1) := at_97
theorem d0_98 : decode code 98 = .ok (.lload 13, 2) := at_98
theorem d0_100 : decode code 100 = .ok (.l2i, 1) := at_100
theorem d0_101 : decode code 101 = .ok (.lload 11, 2) := at_101
theorem d0_103 : decode code 103 = .ok (.l2i, 1) := at_103
theorem d0_104 : decode code 104 = .ok (.lload 21, 2) := at_104
theorem d0_106 : decode code 106 = .ok (.lload 8, 2) := at_106
theorem d0_108 : decode code 108 = .ok (.invokespecial 9, 3) := at_108
theorem d0_111 : decode code 111 = .ok (.astore 23, 2) := at_111
theorem d0_113 : decode code 113 = .ok (.aload 23, 2) := at_113
theorem d0_115 : decode code 115 = .ok (.invokevirtual 12, 3) := at_115
theorem d0_118 : decode code 118 = .ok (.dstore 24, 2) := at_118
theorem d0_120 : decode code 120 = .ok (.lload 19, 2) := at_120
theorem d0_122 : decode code 122 = .ok (.lconst 0, 1) := at_122
theorem d0_123 : decode code 123 = .ok (.lcmp, 1) := at_123
theorem d0_124 : decode code 124 = .ok (.ifCond .ne 18, 3) := at_124
theorem d0_127 : decode code 127 = .ok (.dload 24, 2) := at_127
theorem d0_129 : decode code 129 = .ok (.lload 17, 2) := at_129
theorem d0_131 : decode code 131 = .ok (.l2d, 1) := at_131
theorem d0_132 : decode code 132 = .ok (.dcmp .l, 1) := at_132
theorem d0_133 : decode code 133 = .ok (.ifCond .ne 7, 3) := at_133
theorem d0_136 : decode code 136 = .ok (.iconst 1, 1) := at_136
theorem d0_137 : decode code 137 = .ok (.goto 4, 3) := at_137
theorem d0_141 : decode code 141 = .ok (.ireturn, 1) := at_141
theorem d0_142 : decode code 142 = .ok (.dload 24, 2) := at_142
theorem d0_144 : decode code 144 = .ok (.lload 17, 2) := at_144
theorem d0_146 : decode code 146 = .ok (.l2d, 1) := at_146
theorem d0_147 : decode code 147 = .ok (.dcmp .l, 1) := at_147
theorem d0_148 : decode code 148 = .ok (.ifCond .le 18, 3) := at_148
theorem d0_151 : decode code 151 = .ok (.dload 24, 2) := at_151
theorem d0_153 : decode code 153 = .ok (.lload 17, 2) := at_153
theorem d0_155 : decode code 155 = .ok (.lconst 1, 1) := at_155
theorem d0_156 : decode code 156 = .ok (.ladd, 1) := at_156
theorem d0_157 : decode code 157 = .ok (.l2d, 1) := at_157
theorem d0_158 : decode code 158 = .ok (.dcmp .g, 1) := at_158
theorem d0_159 : decode code 159 = .ok (.ifCond .ge 7, 3) := at_159
theorem d0_162 : decode code 162 = .ok (.iconst 1, 1) := at_162
theorem d0_163 : decode code 163 = .ok (.goto 4, 3) := at_163
theorem d0_167 : decode code 167 = .ok (.ireturn, 1) := at_167
theorem ef0 (m : MethodId) (qa : Int64) (qb : Int64) (qc : Int64) (qd : Int64) (qr : Int64) (pm : Int32) : entryFrame m #[(.long qa), (.long qb), (.long qc), (.long qd), (.long qr), (.int pm)] maxLocals = mkF m 0 #[.val (.long qa), .second, .val (.long qb), .second, .val (.long qc), .second, .val (.long qd), .second, .val (.long qr), .second, .val (.int pm), .unset, .unset, .unset, .unset, .unset, .unset, .unset, .unset, .unset, .unset, .unset, .unset, .unset, .unset, .unset] [] := by first | (simp [entryFrame, mkF, argsToLocals, Value.category, maxLocals]; done) | rfl
set_option maxRecDepth 65536 in
set_option maxHeartbeats 40000000 in
theorem own_law (l : Launch) (Z : State) (a0 : Array Value) (hw : ∀ d ∈ tables_1, d.before a0 Z = true) (qa qb qc qd qr : Int64) (pm : Int32) (h0 : Heap) (n0 : Nat) (Z0 : n0 ≤ h0.size)  :
    own_M l Z x code maxLocals ret tables_1 room_1 #[(.long qa), (.long qb), (.long qc), (.long qd), (.long qr), (.int pm)] h0 n0 (fun v h => v = some (.int 1) ∧ True) := by
  refine own_M.of (plainFor_of_name (by first | (simp [plainName, overriddenIn]; done) | decide +kernel)) ?_
  intro p e s m below meth c S0 hx hby hml hown hnm hret hlk hZ A00
  have A0 := A00.cast (ef0 m qa qb qc qd qr pm)
  have A1 := A0.go (f' := mkF m 2 #[.val (.long qa), .second, .val (.long qb), .second, .val (.long qc), .second, .val (.long qd), .second, .val (.long qr), .second, .val (.int pm), .unset, .unset, .unset, .unset, .unset, .unset, .unset, .unset, .unset, .unset, .unset, .unset, .unset, .unset, .unset] [(.int pm)]) fun _ _ X _ k => XS.iload X.here hx rfl (hb hby d0_0) rfl k
  have A2 := A1.go (f' := mkF m 3 #[.val (.long qa), .second, .val (.long qb), .second, .val (.long qc), .second, .val (.long qd), .second, .val (.long qr), .second, .val (.int pm), .unset, .unset, .unset, .unset, .unset, .unset, .unset, .unset, .unset, .unset, .unset, .unset, .unset, .unset, .unset] [(.int (1 : Int32)), (.int pm)]) fun _ _ X _ k => XS.iconst X.here hx rfl (hb hby d0_2) k
  have A3 := A2.go (f' := mkF m 4 #[.val (.long qa), .second, .val (.long qb), .second, .val (.long qc), .second, .val (.long qd), .second, .val (.long qr), .second, .val (.int pm), .unset, .unset, .unset, .unset, .unset, .unset, .unset, .unset, .unset, .unset, .unset, .unset, .unset, .unset, .unset] [(.int (pm &&& (1 : Int32)))]) fun _ _ X _ k => XS.iand X.here hx rfl (hb hby d0_3) rfl k
  by_cases q4 : (pm &&& (1 : Int32)) = (0 : Int32)
  · skip
    have A5 := A3.go (f' := mkF m 7 #[.val (.long qa), .second, .val (.long qb), .second, .val (.long qc), .second, .val (.long qd), .second, .val (.long qr), .second, .val (.int pm), .unset, .unset, .unset, .unset, .unset, .unset, .unset, .unset, .unset, .unset, .unset, .unset, .unset, .unset, .unset] []) fun _ _ X _ k => XS.ifNo X.here hx rfl (hb hby d0_4) rfl ((if0 _ _).trans (teq q4).2) k
    obtain ⟨h6, E7, E_x1, D_x1, A8⟩ := A5.newO hx hZ hown (hb hby d0_7) (hw _ (List.mem_of_getElem? (i := 0) rfl)) (hw _ (List.mem_of_getElem? (i := 1) rfl)) (hw _ (List.mem_of_getElem? (i := 2) rfl)) (by decide) (by decide)
    obtain ⟨x1, gx1⟩ : ∃ z, z = h0.size := ⟨_, rfl⟩
    rw [← gx1] at E_x1 D_x1 A8
    have g_x1 : n0 ≤ x1 := by rw [gx1]; exact Z0
    have Z0 : n0 ≤ h6.size := Nat.le_trans Z0 E7.1
    have F_x1_keys : Fld Z h6 x1 "com/example/shardrule/shardrule/bench/RoutingBench$Result" "keys" "I" (.int (0 : Int32)) := D_x1 (Or.inr (hw _ (List.mem_of_getElem? (i := 15) rfl))) (ty := .int) (by decide)
    have F_x1_threads : Fld Z h6 x1 "com/example/shardrule/shardrule/bench/RoutingBench$Result" "threads" "I" (.int (0 : Int32)) := D_x1 (Or.inr (hw _ (List.mem_of_getElem? (i := 17) rfl))) (ty := .int) (by decide)
    have F_x1_routePassNanos : Fld Z h6 x1 "com/example/shardrule/shardrule/bench/RoutingBench$Result" "routePassNanos" "J" (.long (0 : Int64)) := D_x1 (Or.inr (hw _ (List.mem_of_getElem? (i := 19) rfl))) (ty := .long) (by decide)
    have F_x1_crcPassNanos : Fld Z h6 x1 "com/example/shardrule/shardrule/bench/RoutingBench$Result" "crcPassNanos" "J" (.long (0 : Int64)) := D_x1 (Or.inr (hw _ (List.mem_of_getElem? (i := 21) rfl))) (ty := .long) (by decide)
    have A9 : own_R p l e _ _ m _ below meth c S0 n0 h6 1 4 (mkF m 10 #[.val (.long qa), .second, .val (.long qb), .second, .val (.long qc), .second, .val (.long qd), .second, .val (.long qr), .second, .val (.int pm), .unset, .unset, .unset, .unset, .unset, .unset, .unset, .unset, .unset, .unset, .unset, .unset, .unset, .unset, .unset] [(.ref x1)]) := A8
    have A10 := A9.go (f' := mkF m 11 #[.val (.long qa), .second, .val (.long qb), .second, .val (.long qc), .second, .val (.long qd), .second, .val (.long qr), .second, .val (.int pm), .unset, .unset, .unset, .unset, .unset, .unset, .unset, .unset, .unset, .unset, .unset, .unset, .unset, .unset, .unset] [(.ref x1), (.ref x1)]) fun _ _ X _ k => XS.dup X.here hx rfl (hb hby d0_10) rfl rfl k
    have A11 := A10.go (f' := mkF m 12 #[.val (.long qa), .second, .val (.long qb), .second, .val (.long qc), .second, .val (.long qd), .second, .val (.long qr), .second, .val (.int pm), .unset, .unset, .unset, .unset, .unset, .unset, .unset, .unset, .unset, .unset, .unset, .unset, .unset, .unset, .unset] [(.int (1 : Int32)), (.ref x1), (.ref x1)]) fun _ _ X _ k => XS.iconst X.here hx rfl (hb hby d0_11) k
    have A12 := A11.go (f' := mkF m 13 #[.val (.long qa), .second, .val (.long qb), .second, .val (.long qc), .second, .val (.long qd), .second, .val (.long qr), .second, .val (.int pm), .unset, .unset, .unset, .unset, .unset, .unset, .unset, .unset, .unset, .unset, .unset, .unset, .unset, .unset, .unset] [(.int (1 : Int32)), (.int (1 : Int32)), (.ref x1), (.ref x1)]) fun _ _ X _ k => XS.iconst X.here hx rfl (hb hby d0_12) k
    have A13 := A12.go (f' := mkF m 15 #[.val (.long qa), .second, .val (.long qb), .second, .val (.long qc), .second, .val (.long qd), .second, .val (.long qr), .second, .val (.int pm), .unset, .unset, .unset, .unset, .unset, .unset, .unset, .unset, .unset, .unset, .unset, .unset, .unset, .unset, .unset] [(.long qd), (.int (1 : Int32)), (.int (1 : Int32)), (.ref x1), (.ref x1)]) fun _ _ X _ k => XS.lload X.here hx rfl (hb hby d0_13) rfl k
    have A14 := A13.go (f' := mkF m 17 #[.val (.long qa), .second, .val (.long qb), .second, .val (.long qc), .second, .val (.long qd), .second, .val (.long qr), .second, .val (.int pm), .unset, .unset, .unset, .unset, .unset, .unset, .unset, .unset, .unset, .unset, .unset, .unset, .unset, .unset, .unset] [(.long qr), (.long qd), (.int (1 : Int32)), (.int (1 : Int32)), (.ref x1), (.ref x1)]) fun _ _ X _ k => XS.lload X.here hx rfl (hb hby d0_15) rfl k
    obtain ⟨vA15, hA15, ⟨rfl, KI, F_k, F_t, F_r⟩, A15⟩ := A14.callI (b := x1) (own_init l Z a0 hw x1 (1 : Int32) (1 : Int32) qd qr h6 n0 Z0 E_x1 F_x1_keys F_x1_threads F_x1_routePassNanos F_x1_crcPassNanos g_x1) hx hZ hown (hb hby d0_17) rfl (hw _ (List.mem_of_getElem? (i := 3) rfl)) (hw _ (List.mem_of_getElem? (i := 4) rfl)) (hw _ (List.mem_of_getElem? (i := 5) rfl)) (hw _ (List.mem_of_getElem? (i := 2) rfl)) ⟨by decide, by decide⟩ (lenOf pd__28IIJJ_29V rfl) (argsL := [(.int (1 : Int32)), (.int (1 : Int32)), (.long qd), (.long qr)]) (rest := [(.ref x1)]) rfl rfl (by rw [hml]; rfl) (W := 1) (Nat.le_of_eq rfl) (by decide) (by decide) (by decide) (by decide)
    have E_x1 : Exa Z hA15 x1 "com/example/shardrule/shardrule/bench/RoutingBench$Result" := E_x1.keep KI
    have Z0 : n0 ≤ hA15.size := Nat.le_trans Z0 KI.1
    have F_x1_keys := F_k
    have F_x1_threads := F_t
    have F_x1_routePassNanos := F_r
    have A16 : own_R p l e _ _ m _ below meth c S0 n0 hA15 1 4 (mkF m 20 #[.val (.long qa), .second, .val (.long qb), .second, .val (.long qc), .second, .val (.long qd), .second, .val (.long qr), .second, .val (.int pm), .unset, .unset, .unset, .unset, .unset, .unset, .unset, .unset, .unset, .unset, .unset, .unset, .unset, .unset, .unset] [(.ref x1)]) := A15
    have A17 := A16.go (f' := mkF m 22 #[.val (.long qa), .second, .val (.long qb), .second, .val (.long qc), .second, .val (.long qd), .second, .val (.long qr), .second, .val (.int pm), .val (.ref x1), .unset, .unset, .unset, .unset, .unset, .unset, .unset, .unset, .unset, .unset, .unset, .unset, .unset, .unset] []) fun _ _ X _ k => XS.astore X.here hx rfl (hb hby d0_20) rfl rfl (l' := #[.val (.long qa), .second, .val (.long qb), .second, .val (.long qc), .second, .val (.long qd), .second, .val (.long qr), .second, .val (.int pm), .val (.ref x1), .unset, .unset, .unset, .unset, .unset, .unset, .unset, .unset, .unset, .unset, .unset, .unset, .unset, .unset]) rfl k
    have A18 := A17.go (f' := mkF m 24 #[.val (.long qa), .second, .val (.long qb), .second, .val (.long qc), .second, .val (.long qd), .second, .val (.long qr), .second, .val (.int pm), .val (.ref x1), .unset, .unset, .unset, .unset, .unset, .unset, .unset, .unset, .unset, .unset, .unset, .unset, .unset, .unset] [(.ref x1)]) fun _ _ X _ k => XS.aload X.here hx rfl (hb hby d0_22) rfl rfl k
    have hnn := own_nnA qd
    obtain ⟨vA19, hA19, ⟨rfl, rfl⟩, A19⟩ := A18.callV (b := x1) (own_rnpk l Z a0 hw x1 (1 : Int32) (1 : Int32) qd hA15 n0 Z0 F_x1_keys F_x1_threads F_x1_routePassNanos hnn.1 hnn.2) E_x1 hx hZ hown (hb hby d0_24) (hw _ (List.mem_of_getElem? (i := 22) rfl)) (hw _ (List.mem_of_getElem? (i := 23) rfl)) (hw _ (List.mem_of_getElem? (i := 25) rfl)) (hw _ (List.mem_of_getElem? (i := 24) rfl)) (hw _ (List.mem_of_getElem? (i := 26) rfl)) (hw _ (List.mem_of_getElem? (i := 2) rfl)) (fun _ q => notFace_of_selects (args := #[]) (mvT q (hw _ (List.mem_of_getElem? (i := 25) rfl)))) ⟨by decide, by decide⟩ (lenOf pd__28_29D rfl) (argsL := []) (rest := []) rfl rfl (by rw [hml]; rfl) (W := 0) (Nat.le_of_eq rfl) (by decide) (by decide) (by decide) (by decide)
    have A20 : own_R p l e _ _ m _ below meth c S0 n0 hA15 1 4 (mkF m 27 #[.val (.long qa), .second, .val (.long qb), .second, .val (.long qc), .second, .val (.long qd), .second, .val (.long qr), .second, .val (.int pm), .val (.ref x1), .unset, .unset, .unset, .unset, .unset, .unset, .unset, .unset, .unset, .unset, .unset, .unset, .unset, .unset] [(.double (FP.ddiv (FP.l2d qd) (FP.dmul (FP.i2d (1 : Int32)) (FP.i2d (1 : Int32)))))]) := A19
    have A21 := A20.go (f' := mkF m 29 #[.val (.long qa), .second, .val (.long qb), .second, .val (.long qc), .second, .val (.long qd), .second, .val (.long qr), .second, .val (.int pm), .val (.ref x1), .unset, .unset, .unset, .unset, .unset, .unset, .unset, .unset, .unset, .unset, .unset, .unset, .unset, .unset] [(.long qd), (.double (FP.ddiv (FP.l2d qd) (FP.dmul (FP.i2d (1 : Int32)) (FP.i2d (1 : Int32)))))]) fun _ _ X _ k => XS.lload X.here hx rfl (hb hby d0_27) rfl k
    have A22 := A21.go (f' := mkF m 30 #[.val (.long qa), .second, .val (.long qb), .second, .val (.long qc), .second, .val (.long qd), .second, .val (.long qr), .second, .val (.int pm), .val (.ref x1), .unset, .unset, .unset, .unset, .unset, .unset, .unset, .unset, .unset, .unset, .unset, .unset, .unset, .unset] [(.double (FP.l2d qd)), (.double (FP.ddiv (FP.l2d qd) (FP.dmul (FP.i2d (1 : Int32)) (FP.i2d (1 : Int32)))))]) fun _ _ X _ k => XS.l2dS X.here hx rfl (hb hby d0_29) rfl rfl k
    have A23 := A22.go (f' := mkF m 31 #[.val (.long qa), .second, .val (.long qb), .second, .val (.long qc), .second, .val (.long qd), .second, .val (.long qr), .second, .val (.int pm), .val (.ref x1), .unset, .unset, .unset, .unset, .unset, .unset, .unset, .unset, .unset, .unset, .unset, .unset, .unset, .unset] [(.int (cmpValue (FP.dcmp (FP.ddiv (FP.l2d qd) (FP.dmul (FP.i2d (1 : Int32)) (FP.i2d (1 : Int32)))) (FP.l2d qd)) .l))]) fun _ _ X _ k => XS.dcmpS X.here hx rfl (hb hby d0_30) rfl rfl k
    have q24 : ((cmpValue (FP.dcmp (FP.ddiv (FP.l2d qd) (FP.dmul (FP.i2d (1 : Int32)) (FP.i2d (1 : Int32)))) (FP.l2d qd)) .l) = (0 : Int32)) := own_finA qd
    have A25 := A23.go (f' := mkF m 34 #[.val (.long qa), .second, .val (.long qb), .second, .val (.long qc), .second, .val (.long qd), .second, .val (.long qr), .second, .val (.int pm), .val (.ref x1), .unset, .unset, .unset, .unset, .unset, .unset, .unset, .unset, .unset, .unset, .unset, .unset, .unset, .unset] []) fun _ _ X _ k => XS.ifNo X.here hx rfl (hb hby d0_31) rfl ((if0 _ _).trans (teq q24).2) k
    have A26 := A25.go (f' := mkF m 35 #[.val (.long qa), .second, .val (.long qb), .second, .val (.long qc), .second, .val (.long qd), .second, .val (.long qr), .second, .val (.int pm), .val (.ref x1), .unset, .unset, .unset, .unset, .unset, .unset, .unset, .unset, .unset, .unset, .unset, .unset, .unset, .unset] [(.int (1 : Int32))]) fun _ _ X _ k => XS.iconst X.here hx rfl (hb hby d0_34) k
    have A27 := A26.go (f' := mkF m 39 #[.val (.long qa), .second, .val (.long qb), .second, .val (.long qc), .second, .val (.long qd), .second, .val (.long qr), .second, .val (.int pm), .val (.ref x1), .unset, .unset, .unset, .unset, .unset, .unset, .unset, .unset, .unset, .unset, .unset, .unset, .unset, .unset] [(.int (1 : Int32))]) fun _ _ X _ k => XS.goto X.here hx rfl (pc0 := 35) (pc' := 39) rfl (hb hby d0_35) (by decide) (by decide) k
    exact A27.ret hx hlk hret (hb hby d0_39) rfl (Or.inl ⟨rfl, by simp, _, rfl⟩) (by decide) (by decide) ⟨rfl, trivial⟩
  · skip
    have A28 := A3.go (f' := mkF m 40 #[.val (.long qa), .second, .val (.long qb), .second, .val (.long qc), .second, .val (.long qd), .second, .val (.long qr), .second, .val (.int pm), .unset, .unset, .unset, .unset, .unset, .unset, .unset, .unset, .unset, .unset, .unset, .unset, .unset, .unset, .unset] []) fun _ _ X _ k => XS.ifYes X.here hx rfl (pc0 := 4) (pc' := 40) rfl (hb hby d0_4) rfl ((if0 _ _).trans (feq q4).2) (by decide) (by decide) k
    have A29 := A28.go (f' := mkF m 41 #[.val (.long qa), .second, .val (.long qb), .second, .val (.long qc), .second, .val (.long qd), .second, .val (.long qr), .second, .val (.int pm), .unset, .unset, .unset, .unset, .unset, .unset, .unset, .unset, .unset, .unset, .unset, .unset, .unset, .unset, .unset] [(.long qa)]) fun _ _ X _ k => XS.lloadN X.here hx rfl (hb hby d0_40) rfl k
    have A30 : own_R p l e _ _ m _ below meth c S0 n0 h0 0 0 (mkF m 44 #[.val (.long qa), .second, .val (.long qb), .second, .val (.long qc), .second, .val (.long qd), .second, .val (.long qr), .second, .val (.int pm), .unset, .unset, .unset, .unset, .unset, .unset, .unset, .unset, .unset, .unset, .unset, .unset, .unset, .unset, .unset] [(.long (1048575 : Int64)), (.long qa)]) := A29.ldcL hx hZ hown (hb hby d0_41) (hw _ (List.mem_of_getElem? (i := 27) rfl))
    have A31 := A30.go (f' := mkF m 45 #[.val (.long qa), .second, .val (.long qb), .second, .val (.long qc), .second, .val (.long qd), .second, .val (.long qr), .second, .val (.int pm), .unset, .unset, .unset, .unset, .unset, .unset, .unset, .unset, .unset, .unset, .unset, .unset, .unset, .unset, .unset] [(.long (qa &&& (1048575 : Int64)))]) fun _ _ X _ k => XS.land X.here hx rfl (hb hby d0_44) rfl k
    have A32 := A31.go (f' := mkF m 46 #[.val (.long qa), .second, .val (.long qb), .second, .val (.long qc), .second, .val (.long qd), .second, .val (.long qr), .second, .val (.int pm), .unset, .unset, .unset, .unset, .unset, .unset, .unset, .unset, .unset, .unset, .unset, .unset, .unset, .unset, .unset] [(.long (1 : Int64)), (.long (qa &&& (1048575 : Int64)))]) fun _ _ X _ k => XS.lconst X.here hx rfl (hb hby d0_45) k
    have A33 := A32.go (f' := mkF m 47 #[.val (.long qa), .second, .val (.long qb), .second, .val (.long qc), .second, .val (.long qd), .second, .val (.long qr), .second, .val (.int pm), .unset, .unset, .unset, .unset, .unset, .unset, .unset, .unset, .unset, .unset, .unset, .unset, .unset, .unset, .unset] [(.long ((qa &&& (1048575 : Int64)) + (1 : Int64)))]) fun _ _ X _ k => XS.ladd X.here hx rfl (hb hby d0_46) rfl k
    obtain ⟨t, ht⟩ : ∃ zq_, zq_ = ((qa &&& (1048575 : Int64)) + (1 : Int64)) := ⟨_, rfl⟩
    rw [← ht] at A33
    have A34 := A33.go (f' := mkF m 49 #[.val (.long qa), .second, .val (.long qb), .second, .val (.long qc), .second, .val (.long qd), .second, .val (.long qr), .second, .val (.int pm), .val (.long t), .second, .unset, .unset, .unset, .unset, .unset, .unset, .unset, .unset, .unset, .unset, .unset, .unset, .unset] []) fun _ _ X _ k => XS.lstore X.here hx rfl (hb hby d0_47) rfl (l' := #[.val (.long qa), .second, .val (.long qb), .second, .val (.long qc), .second, .val (.long qd), .second, .val (.long qr), .second, .val (.int pm), .val (.long t), .second, .unset, .unset, .unset, .unset, .unset, .unset, .unset, .unset, .unset, .unset, .unset, .unset, .unset]) rfl k
    have A35 := A34.go (f' := mkF m 50 #[.val (.long qa), .second, .val (.long qb), .second, .val (.long qc), .second, .val (.long qd), .second, .val (.long qr), .second, .val (.int pm), .val (.long t), .second, .unset, .unset, .unset, .unset, .unset, .unset, .unset, .unset, .unset, .unset, .unset, .unset, .unset] [(.long qb)]) fun _ _ X _ k => XS.lloadN X.here hx rfl (hb hby d0_49) rfl k
    have A36 : own_R p l e _ _ m _ below meth c S0 n0 h0 0 0 (mkF m 53 #[.val (.long qa), .second, .val (.long qb), .second, .val (.long qc), .second, .val (.long qd), .second, .val (.long qr), .second, .val (.int pm), .val (.long t), .second, .unset, .unset, .unset, .unset, .unset, .unset, .unset, .unset, .unset, .unset, .unset, .unset, .unset] [(.long (1048575 : Int64)), (.long qb)]) := A35.ldcL hx hZ hown (hb hby d0_50) (hw _ (List.mem_of_getElem? (i := 27) rfl))
    have A37 := A36.go (f' := mkF m 54 #[.val (.long qa), .second, .val (.long qb), .second, .val (.long qc), .second, .val (.long qd), .second, .val (.long qr), .second, .val (.int pm), .val (.long t), .second, .unset, .unset, .unset, .unset, .unset, .unset, .unset, .unset, .unset, .unset, .unset, .unset, .unset] [(.long (qb &&& (1048575 : Int64)))]) fun _ _ X _ k => XS.land X.here hx rfl (hb hby d0_53) rfl k
    have A38 := A37.go (f' := mkF m 55 #[.val (.long qa), .second, .val (.long qb), .second, .val (.long qc), .second, .val (.long qd), .second, .val (.long qr), .second, .val (.int pm), .val (.long t), .second, .unset, .unset, .unset, .unset, .unset, .unset, .unset, .unset, .unset, .unset, .unset, .unset, .unset] [(.long (1 : Int64)), (.long (qb &&& (1048575 : Int64)))]) fun _ _ X _ k => XS.lconst X.here hx rfl (hb hby d0_54) k
    have A39 := A38.go (f' := mkF m 56 #[.val (.long qa), .second, .val (.long qb), .second, .val (.long qc), .second, .val (.long qd), .second, .val (.long qr), .second, .val (.int pm), .val (.long t), .second, .unset, .unset, .unset, .unset, .unset, .unset, .unset, .unset, .unset, .unset, .unset, .unset, .unset] [(.long ((qb &&& (1048575 : Int64)) + (1 : Int64)))]) fun _ _ X _ k => XS.ladd X.here hx rfl (hb hby d0_55) rfl k
    obtain ⟨k_, hk_⟩ : ∃ zq_, zq_ = ((qb &&& (1048575 : Int64)) + (1 : Int64)) := ⟨_, rfl⟩
    rw [← hk_] at A39
    have A40 := A39.go (f' := mkF m 58 #[.val (.long qa), .second, .val (.long qb), .second, .val (.long qc), .second, .val (.long qd), .second, .val (.long qr), .second, .val (.int pm), .val (.long t), .second, .val (.long k_), .second, .unset, .unset, .unset, .unset, .unset, .unset, .unset, .unset, .unset, .unset, .unset] []) fun _ _ X _ k => XS.lstore X.here hx rfl (hb hby d0_56) rfl (l' := #[.val (.long qa), .second, .val (.long qb), .second, .val (.long qc), .second, .val (.long qd), .second, .val (.long qr), .second, .val (.int pm), .val (.long t), .second, .val (.long k_), .second, .unset, .unset, .unset, .unset, .unset, .unset, .unset, .unset, .unset, .unset, .unset]) rfl k
    have A41 := A40.go (f' := mkF m 60 #[.val (.long qa), .second, .val (.long qb), .second, .val (.long qc), .second, .val (.long qd), .second, .val (.long qr), .second, .val (.int pm), .val (.long t), .second, .val (.long k_), .second, .unset, .unset, .unset, .unset, .unset, .unset, .unset, .unset, .unset, .unset, .unset] [(.long t)]) fun _ _ X _ k => XS.lload X.here hx rfl (hb hby d0_58) rfl k
    have A42 := A41.go (f' := mkF m 62 #[.val (.long qa), .second, .val (.long qb), .second, .val (.long qc), .second, .val (.long qd), .second, .val (.long qr), .second, .val (.int pm), .val (.long t), .second, .val (.long k_), .second, .unset, .unset, .unset, .unset, .unset, .unset, .unset, .unset, .unset, .unset, .unset] [(.long k_), (.long t)]) fun _ _ X _ k => XS.lload X.here hx rfl (hb hby d0_60) rfl k
    have A43 := A42.go (f' := mkF m 63 #[.val (.long qa), .second, .val (.long qb), .second, .val (.long qc), .second, .val (.long qd), .second, .val (.long qr), .second, .val (.int pm), .val (.long t), .second, .val (.long k_), .second, .unset, .unset, .unset, .unset, .unset, .unset, .unset, .unset, .unset, .unset, .unset] [(.long (t * k_))]) fun _ _ X _ k => XS.lmul X.here hx rfl (hb hby d0_62) rfl k
    obtain ⟨tk, htk⟩ : ∃ zq_, zq_ = (t * k_) := ⟨_, rfl⟩
    rw [← htk] at A43
    have A44 := A43.go (f' := mkF m 65 #[.val (.long qa), .second, .val (.long qb), .second, .val (.long qc), .second, .val (.long qd), .second, .val (.long qr), .second, .val (.int pm), .val (.long t), .second, .val (.long k_), .second, .val (.long tk), .second, .unset, .unset, .unset, .unset, .unset, .unset, .unset, .unset, .unset] []) fun _ _ X _ k => XS.lstore X.here hx rfl (hb hby d0_63) rfl (l' := #[.val (.long qa), .second, .val (.long qb), .second, .val (.long qc), .second, .val (.long qd), .second, .val (.long qr), .second, .val (.int pm), .val (.long t), .second, .val (.long k_), .second, .val (.long tk), .second, .unset, .unset, .unset, .unset, .unset, .unset, .unset, .unset, .unset]) rfl k
    have A45 := A44.go (f' := mkF m 67 #[.val (.long qa), .second, .val (.long qb), .second, .val (.long qc), .second, .val (.long qd), .second, .val (.long qr), .second, .val (.int pm), .val (.long t), .second, .val (.long k_), .second, .val (.long tk), .second, .unset, .unset, .unset, .unset, .unset, .unset, .unset, .unset, .unset] [(.long qc)]) fun _ _ X _ k => XS.lload X.here hx rfl (hb hby d0_65) rfl k
    have A46 : own_R p l e _ _ m _ below meth c S0 n0 h0 0 0 (mkF m 70 #[.val (.long qa), .second, .val (.long qb), .second, .val (.long qc), .second, .val (.long qd), .second, .val (.long qr), .second, .val (.int pm), .val (.long t), .second, .val (.long k_), .second, .val (.long tk), .second, .unset, .unset, .unset, .unset, .unset, .unset, .unset, .unset, .unset] [(.long (1023 : Int64)), (.long qc)]) := A45.ldcL hx hZ hown (hb hby d0_67) (hw _ (List.mem_of_getElem? (i := 28) rfl))
    have A47 := A46.go (f' := mkF m 71 #[.val (.long qa), .second, .val (.long qb), .second, .val (.long qc), .second, .val (.long qd), .second, .val (.long qr), .second, .val (.int pm), .val (.long t), .second, .val (.long k_), .second, .val (.long tk), .second, .unset, .unset, .unset, .unset, .unset, .unset, .unset, .unset, .unset] [(.long (qc &&& (1023 : Int64)))]) fun _ _ X _ k => XS.land X.here hx rfl (hb hby d0_70) rfl k
    obtain ⟨n, hn⟩ : ∃ zq_, zq_ = (qc &&& (1023 : Int64)) := ⟨_, rfl⟩
    rw [← hn] at A47
    have A48 := A47.go (f' := mkF m 73 #[.val (.long qa), .second, .val (.long qb), .second, .val (.long qc), .second, .val (.long qd), .second, .val (.long qr), .second, .val (.int pm), .val (.long t), .second, .val (.long k_), .second, .val (.long tk), .second, .val (.long n), .second, .unset, .unset, .unset, .unset, .unset, .unset, .unset] []) fun _ _ X _ k => XS.lstore X.here hx rfl (hb hby d0_71) rfl (l' := #[.val (.long qa), .second, .val (.long qb), .second, .val (.long qc), .second, .val (.long qd), .second, .val (.long qr), .second, .val (.int pm), .val (.long t), .second, .val (.long k_), .second, .val (.long tk), .second, .val (.long n), .second, .unset, .unset, .unset, .unset, .unset, .unset, .unset]) rfl k
    have A49 := A48.go (f' := mkF m 75 #[.val (.long qa), .second, .val (.long qb), .second, .val (.long qc), .second, .val (.long qd), .second, .val (.long qr), .second, .val (.int pm), .val (.long t), .second, .val (.long k_), .second, .val (.long tk), .second, .val (.long n), .second, .unset, .unset, .unset, .unset, .unset, .unset, .unset] [(.long qd)]) fun _ _ X _ k => XS.lload X.here hx rfl (hb hby d0_73) rfl k
    have A50 : own_R p l e _ _ m _ below meth c S0 n0 h0 0 0 (mkF m 78 #[.val (.long qa), .second, .val (.long qb), .second, .val (.long qc), .second, .val (.long qd), .second, .val (.long qr), .second, .val (.int pm), .val (.long t), .second, .val (.long k_), .second, .val (.long tk), .second, .val (.long n), .second, .unset, .unset, .unset, .unset, .unset, .unset, .unset] [(.long (9223372036854775807 : Int64)), (.long qd)]) := A49.ldcL hx hZ hown (hb hby d0_75) (hw _ (List.mem_of_getElem? (i := 29) rfl))
    have A51 := A50.go (f' := mkF m 79 #[.val (.long qa), .second, .val (.long qb), .second, .val (.long qc), .second, .val (.long qd), .second, .val (.long qr), .second, .val (.int pm), .val (.long t), .second, .val (.long k_), .second, .val (.long tk), .second, .val (.long n), .second, .unset, .unset, .unset, .unset, .unset, .unset, .unset] [(.long (qd &&& (9223372036854775807 : Int64)))]) fun _ _ X _ k => XS.land X.here hx rfl (hb hby d0_78) rfl k
    have A52 := A51.go (f' := mkF m 81 #[.val (.long qa), .second, .val (.long qb), .second, .val (.long qc), .second, .val (.long qd), .second, .val (.long qr), .second, .val (.int pm), .val (.long t), .second, .val (.long k_), .second, .val (.long tk), .second, .val (.long n), .second, .unset, .unset, .unset, .unset, .unset, .unset, .unset] [(.long tk), (.long (qd &&& (9223372036854775807 : Int64)))]) fun _ _ X _ k => XS.lload X.here hx rfl (hb hby d0_79) rfl k
    have A53 := A52.go (f' := mkF m 82 #[.val (.long qa), .second, .val (.long qb), .second, .val (.long qc), .second, .val (.long qd), .second, .val (.long qr), .second, .val (.int pm), .val (.long t), .second, .val (.long k_), .second, .val (.long tk), .second, .val (.long n), .second, .unset, .unset, .unset, .unset, .unset, .unset, .unset] [(.long ((qd &&& (9223372036854775807 : Int64)) - (qd &&& (9223372036854775807 : Int64)) / tk * tk))]) fun _ _ X _ k => XS.lrem X.here hx rfl (hb hby d0_81) rfl (own_tk0 ht hk_ htk) k
    obtain ⟨rem, hrem⟩ : ∃ zq_, zq_ = ((qd &&& (9223372036854775807 : Int64)) - (qd &&& (9223372036854775807 : Int64)) / tk * tk) := ⟨_, rfl⟩
    rw [← hrem] at A53
    have A54 := A53.go (f' := mkF m 84 #[.val (.long qa), .second, .val (.long qb), .second, .val (.long qc), .second, .val (.long qd), .second, .val (.long qr), .second, .val (.int pm), .val (.long t), .second, .val (.long k_), .second, .val (.long tk), .second, .val (.long n), .second, .val (.long rem), .second, .unset, .unset, .unset, .unset, .unset] []) fun _ _ X _ k => XS.lstore X.here hx rfl (hb hby d0_82) rfl (l' := #[.val (.long qa), .second, .val (.long qb), .second, .val (.long qc), .second, .val (.long qd), .second, .val (.long qr), .second, .val (.int pm), .val (.long t), .second, .val (.long k_), .second, .val (.long tk), .second, .val (.long n), .second, .val (.long rem), .second, .unset, .unset, .unset, .unset, .unset]) rfl k
    have A55 := A54.go (f' := mkF m 86 #[.val (.long qa), .second, .val (.long qb), .second, .val (.long qc), .second, .val (.long qd), .second, .val (.long qr), .second, .val (.int pm), .val (.long t), .second, .val (.long k_), .second, .val (.long tk), .second, .val (.long n), .second, .val (.long rem), .second, .unset, .unset, .unset, .unset, .unset] [(.long n)]) fun _ _ X _ k => XS.lload X.here hx rfl (hb hby d0_84) rfl k
    have A56 := A55.go (f' := mkF m 88 #[.val (.long qa), .second, .val (.long qb), .second, .val (.long qc), .second, .val (.long qd), .second, .val (.long qr), .second, .val (.int pm), .val (.long t), .second, .val (.long k_), .second, .val (.long tk), .second, .val (.long n), .second, .val (.long rem), .second, .unset, .unset, .unset, .unset, .unset] [(.long tk), (.long n)]) fun _ _ X _ k => XS.lload X.here hx rfl (hb hby d0_86) rfl k
    have A57 := A56.go (f' := mkF m 89 #[.val (.long qa), .second, .val (.long qb), .second, .val (.long qc), .second, .val (.long qd), .second, .val (.long qr), .second, .val (.int pm), .val (.long t), .second, .val (.long k_), .second, .val (.long tk), .second, .val (.long n), .second, .val (.long rem), .second, .unset, .unset, .unset, .unset, .unset] [(.long (n * tk))]) fun _ _ X _ k => XS.lmul X.here hx rfl (hb hby d0_88) rfl k
    have A58 := A57.go (f' := mkF m 91 #[.val (.long qa), .second, .val (.long qb), .second, .val (.long qc), .second, .val (.long qd), .second, .val (.long qr), .second, .val (.int pm), .val (.long t), .second, .val (.long k_), .second, .val (.long tk), .second, .val (.long n), .second, .val (.long rem), .second, .unset, .unset, .unset, .unset, .unset] [(.long rem), (.long (n * tk))]) fun _ _ X _ k => XS.lload X.here hx rfl (hb hby d0_89) rfl k
    have A59 := A58.go (f' := mkF m 92 #[.val (.long qa), .second, .val (.long qb), .second, .val (.long qc), .second, .val (.long qd), .second, .val (.long qr), .second, .val (.int pm), .val (.long t), .second, .val (.long k_), .second, .val (.long tk), .second, .val (.long n), .second, .val (.long rem), .second, .unset, .unset, .unset, .unset, .unset] [(.long ((n * tk) + rem))]) fun _ _ X _ k => XS.ladd X.here hx rfl (hb hby d0_91) rfl k
    obtain ⟨pass, hpass⟩ : ∃ zq_, zq_ = ((n * tk) + rem) := ⟨_, rfl⟩
    rw [← hpass] at A59
    have A60 := A59.go (f' := mkF m 94 #[.val (.long qa), .second, .val (.long qb), .second, .val (.long qc), .second, .val (.long qd), .second, .val (.long qr), .second, .val (.int pm), .val (.long t), .second, .val (.long k_), .second, .val (.long tk), .second, .val (.long n), .second, .val (.long rem), .second, .val (.long pass), .second, .unset, .unset, .unset] []) fun _ _ X _ k => XS.lstore X.here hx rfl (hb hby d0_92) rfl (l' := #[.val (.long qa), .second, .val (.long qb), .second, .val (.long qc), .second, .val (.long qd), .second, .val (.long qr), .second, .val (.int pm), .val (.long t), .second, .val (.long k_), .second, .val (.long tk), .second, .val (.long n), .second, .val (.long rem), .second, .val (.long pass), .second, .unset, .unset, .unset]) rfl k
    have hOB := own_bounds ht hk_ htk hn hrem hpass
    obtain ⟨h61, E62, E_x2, D_x2, A63⟩ := A60.newO hx hZ hown (hb hby d0_94) (hw _ (List.mem_of_getElem? (i := 0) rfl)) (hw _ (List.mem_of_getElem? (i := 1) rfl)) (hw _ (List.mem_of_getElem? (i := 2) rfl)) (by decide) (by decide)
    obtain ⟨x2, gx2⟩ : ∃ z, z = h0.size := ⟨_, rfl⟩
    rw [← gx2] at E_x2 D_x2 A63
    have g_x2 : n0 ≤ x2 := by rw [gx2]; exact Z0
    have Z0 : n0 ≤ h61.size := Nat.le_trans Z0 E62.1
    have F_x2_keys : Fld Z h61 x2 "com/example/shardrule/shardrule/bench/RoutingBench$Result" "keys" "I" (.int (0 : Int32)) := D_x2 (Or.inr (hw _ (List.mem_of_getElem? (i := 15) rfl))) (ty := .int) (by decide)
    have F_x2_threads : Fld Z h61 x2 "com/example/shardrule/shardrule/bench/RoutingBench$Result" "threads" "I" (.int (0 : Int32)) := D_x2 (Or.inr (hw _ (List.mem_of_getElem? (i := 17) rfl))) (ty := .int) (by decide)
    have F_x2_routePassNanos : Fld Z h61 x2 "com/example/shardrule/shardrule/bench/RoutingBench$Result" "routePassNanos" "J" (.long (0 : Int64)) := D_x2 (Or.inr (hw _ (List.mem_of_getElem? (i := 19) rfl))) (ty := .long) (by decide)
    have F_x2_crcPassNanos : Fld Z h61 x2 "com/example/shardrule/shardrule/bench/RoutingBench$Result" "crcPassNanos" "J" (.long (0 : Int64)) := D_x2 (Or.inr (hw _ (List.mem_of_getElem? (i := 21) rfl))) (ty := .long) (by decide)
    have A64 : own_R p l e _ _ m _ below meth c S0 n0 h61 1 4 (mkF m 97 #[.val (.long qa), .second, .val (.long qb), .second, .val (.long qc), .second, .val (.long qd), .second, .val (.long qr), .second, .val (.int pm), .val (.long t), .second, .val (.long k_), .second, .val (.long tk), .second, .val (.long n), .second, .val (.long rem), .second, .val (.long pass), .second, .unset, .unset, .unset] [(.ref x2)]) := A63
    have A65 := A64.go (f' := mkF m 98 #[.val (.long qa), .second, .val (.long qb), .second, .val (.long qc), .second, .val (.long qd), .second, .val (.long qr), .second, .val (.int pm), .val (.long t), .second, .val (.long k_), .second, .val (.long tk), .second, .val (.long n), .second, .val (.long rem), .second, .val (.long pass), .second, .unset, .unset, .unset] [(.ref x2), (.ref x2)]) fun _ _ X _ k => XS.dup X.here hx rfl (hb hby d0_97) rfl rfl k
    have A66 := A65.go (f' := mkF m 100 #[.val (.long qa), .second, .val (.long qb), .second, .val (.long qc), .second, .val (.long qd), .second, .val (.long qr), .second, .val (.int pm), .val (.long t), .second, .val (.long k_), .second, .val (.long tk), .second, .val (.long n), .second, .val (.long rem), .second, .val (.long pass), .second, .unset, .unset, .unset] [(.long k_), (.ref x2), (.ref x2)]) fun _ _ X _ k => XS.lload X.here hx rfl (hb hby d0_98) rfl k
    have A67 := A66.go (f' := mkF m 101 #[.val (.long qa), .second, .val (.long qb), .second, .val (.long qc), .second, .val (.long qd), .second, .val (.long qr), .second, .val (.int pm), .val (.long t), .second, .val (.long k_), .second, .val (.long tk), .second, .val (.long n), .second, .val (.long rem), .second, .val (.long pass), .second, .unset, .unset, .unset] [(.int (k_.toInt32)), (.ref x2), (.ref x2)]) fun _ _ X _ k => XS.l2i X.here hx rfl (hb hby d0_100) rfl k
    have A68 := A67.go (f' := mkF m 103 #[.val (.long qa), .second, .val (.long qb), .second, .val (.long qc), .second, .val (.long qd), .second, .val (.long qr), .second, .val (.int pm), .val (.long t), .second, .val (.long k_), .second, .val (.long tk), .second, .val (.long n), .second, .val (.long rem), .second, .val (.long pass), .second, .unset, .unset, .unset] [(.long t), (.int (k_.toInt32)), (.ref x2), (.ref x2)]) fun _ _ X _ k => XS.lload X.here hx rfl (hb hby d0_101) rfl k
    have A69 := A68.go (f' := mkF m 104 #[.val (.long qa), .second, .val (.long qb), .second, .val (.long qc), .second, .val (.long qd), .second, .val (.long qr), .second, .val (.int pm), .val (.long t), .second, .val (.long k_), .second, .val (.long tk), .second, .val (.long n), .second, .val (.long rem), .second, .val (.long pass), .second, .unset, .unset, .unset] [(.int (t.toInt32)), (.int (k_.toInt32)), (.ref x2), (.ref x2)]) fun _ _ X _ k => XS.l2i X.here hx rfl (hb hby d0_103) rfl k
    have A70 := A69.go (f' := mkF m 106 #[.val (.long qa), .second, .val (.long qb), .second, .val (.long qc), .second, .val (.long qd), .second, .val (.long qr), .second, .val (.int pm), .val (.long t), .second, .val (.long k_), .second, .val (.long tk), .second, .val (.long n), .second, .val (.long rem), .second, .val (.long pass), .second, .unset, .unset, .unset] [(.long pass), (.int (t.toInt32)), (.int (k_.toInt32)), (.ref x2), (.ref x2)]) fun _ _ X _ k => XS.lload X.here hx rfl (hb hby d0_104) rfl k
    have A71 := A70.go (f' := mkF m 108 #[.val (.long qa), .second, .val (.long qb), .second, .val (.long qc), .second, .val (.long qd), .second, .val (.long qr), .second, .val (.int pm), .val (.long t), .second, .val (.long k_), .second, .val (.long tk), .second, .val (.long n), .second, .val (.long rem), .second, .val (.long pass), .second, .unset, .unset, .unset] [(.long qr), (.long pass), (.int (t.toInt32)), (.int (k_.toInt32)), (.ref x2), (.ref x2)]) fun _ _ X _ k => XS.lload X.here hx rfl (hb hby d0_106) rfl k
    obtain ⟨vA72, hA72, ⟨rfl, KI, F_k, F_t, F_r⟩, A72⟩ := A71.callI (b := x2) (own_init l Z a0 hw x2 (k_.toInt32) (t.toInt32) pass qr h61 n0 Z0 E_x2 F_x2_keys F_x2_threads F_x2_routePassNanos F_x2_crcPassNanos g_x2) hx hZ hown (hb hby d0_108) rfl (hw _ (List.mem_of_getElem? (i := 3) rfl)) (hw _ (List.mem_of_getElem? (i := 4) rfl)) (hw _ (List.mem_of_getElem? (i := 5) rfl)) (hw _ (List.mem_of_getElem? (i := 2) rfl)) ⟨by decide, by decide⟩ (lenOf pd__28IIJJ_29V rfl) (argsL := [(.int (k_.toInt32)), (.int (t.toInt32)), (.long pass), (.long qr)]) (rest := [(.ref x2)]) rfl rfl (by rw [hml]; rfl) (W := 1) (Nat.le_of_eq rfl) (by decide) (by decide) (by decide) (by decide)
    have E_x2 : Exa Z hA72 x2 "com/example/shardrule/shardrule/bench/RoutingBench$Result" := E_x2.keep KI
    have Z0 : n0 ≤ hA72.size := Nat.le_trans Z0 KI.1
    have F_x2_keys := F_k
    have F_x2_threads := F_t
    have F_x2_routePassNanos := F_r
    have A73 : own_R p l e _ _ m _ below meth c S0 n0 hA72 1 4 (mkF m 111 #[.val (.long qa), .second, .val (.long qb), .second, .val (.long qc), .second, .val (.long qd), .second, .val (.long qr), .second, .val (.int pm), .val (.long t), .second, .val (.long k_), .second, .val (.long tk), .second, .val (.long n), .second, .val (.long rem), .second, .val (.long pass), .second, .unset, .unset, .unset] [(.ref x2)]) := A72
    have A74 := A73.go (f' := mkF m 113 #[.val (.long qa), .second, .val (.long qb), .second, .val (.long qc), .second, .val (.long qd), .second, .val (.long qr), .second, .val (.int pm), .val (.long t), .second, .val (.long k_), .second, .val (.long tk), .second, .val (.long n), .second, .val (.long rem), .second, .val (.long pass), .second, .val (.ref x2), .unset, .unset] []) fun _ _ X _ k => XS.astore X.here hx rfl (hb hby d0_111) rfl rfl (l' := #[.val (.long qa), .second, .val (.long qb), .second, .val (.long qc), .second, .val (.long qd), .second, .val (.long qr), .second, .val (.int pm), .val (.long t), .second, .val (.long k_), .second, .val (.long tk), .second, .val (.long n), .second, .val (.long rem), .second, .val (.long pass), .second, .val (.ref x2), .unset, .unset]) rfl k
    have A75 := A74.go (f' := mkF m 115 #[.val (.long qa), .second, .val (.long qb), .second, .val (.long qc), .second, .val (.long qd), .second, .val (.long qr), .second, .val (.int pm), .val (.long t), .second, .val (.long k_), .second, .val (.long tk), .second, .val (.long n), .second, .val (.long rem), .second, .val (.long pass), .second, .val (.ref x2), .unset, .unset] [(.ref x2)]) fun _ _ X _ k => XS.aload X.here hx rfl (hb hby d0_113) rfl rfl k
    have hnn := own_nnB hOB
    obtain ⟨vA76, hA76, ⟨rfl, rfl⟩, A76⟩ := A75.callV (b := x2) (own_rnpk l Z a0 hw x2 (k_.toInt32) (t.toInt32) pass hA72 n0 Z0 F_x2_keys F_x2_threads F_x2_routePassNanos hnn.1 hnn.2) E_x2 hx hZ hown (hb hby d0_115) (hw _ (List.mem_of_getElem? (i := 22) rfl)) (hw _ (List.mem_of_getElem? (i := 23) rfl)) (hw _ (List.mem_of_getElem? (i := 25) rfl)) (hw _ (List.mem_of_getElem? (i := 24) rfl)) (hw _ (List.mem_of_getElem? (i := 26) rfl)) (hw _ (List.mem_of_getElem? (i := 2) rfl)) (fun _ q => notFace_of_selects (args := #[]) (mvT q (hw _ (List.mem_of_getElem? (i := 25) rfl)))) ⟨by decide, by decide⟩ (lenOf pd__28_29D rfl) (argsL := []) (rest := []) rfl rfl (by rw [hml]; rfl) (W := 0) (Nat.le_of_eq rfl) (by decide) (by decide) (by decide) (by decide)
    have A77 : own_R p l e _ _ m _ below meth c S0 n0 hA72 1 4 (mkF m 118 #[.val (.long qa), .second, .val (.long qb), .second, .val (.long qc), .second, .val (.long qd), .second, .val (.long qr), .second, .val (.int pm), .val (.long t), .second, .val (.long k_), .second, .val (.long tk), .second, .val (.long n), .second, .val (.long rem), .second, .val (.long pass), .second, .val (.ref x2), .unset, .unset] [(.double (FP.ddiv (FP.l2d pass) (FP.dmul (FP.i2d (t.toInt32)) (FP.i2d (k_.toInt32)))))]) := A76
    have A78 := A77.go (f' := mkF m 120 #[.val (.long qa), .second, .val (.long qb), .second, .val (.long qc), .second, .val (.long qd), .second, .val (.long qr), .second, .val (.int pm), .val (.long t), .second, .val (.long k_), .second, .val (.long tk), .second, .val (.long n), .second, .val (.long rem), .second, .val (.long pass), .second, .val (.ref x2), .val (.double (FP.ddiv (FP.l2d pass) (FP.dmul (FP.i2d (t.toInt32)) (FP.i2d (k_.toInt32))))), .second] []) fun _ _ X _ k => XS.dstore X.here hx rfl (hb hby d0_118) rfl (l' := #[.val (.long qa), .second, .val (.long qb), .second, .val (.long qc), .second, .val (.long qd), .second, .val (.long qr), .second, .val (.int pm), .val (.long t), .second, .val (.long k_), .second, .val (.long tk), .second, .val (.long n), .second, .val (.long rem), .second, .val (.long pass), .second, .val (.ref x2), .val (.double (FP.ddiv (FP.l2d pass) (FP.dmul (FP.i2d (t.toInt32)) (FP.i2d (k_.toInt32))))), .second]) rfl k
    have A79 := A78.go (f' := mkF m 122 #[.val (.long qa), .second, .val (.long qb), .second, .val (.long qc), .second, .val (.long qd), .second, .val (.long qr), .second, .val (.int pm), .val (.long t), .second, .val (.long k_), .second, .val (.long tk), .second, .val (.long n), .second, .val (.long rem), .second, .val (.long pass), .second, .val (.ref x2), .val (.double (FP.ddiv (FP.l2d pass) (FP.dmul (FP.i2d (t.toInt32)) (FP.i2d (k_.toInt32))))), .second] [(.long rem)]) fun _ _ X _ k => XS.lload X.here hx rfl (hb hby d0_120) rfl k
    have A80 := A79.go (f' := mkF m 123 #[.val (.long qa), .second, .val (.long qb), .second, .val (.long qc), .second, .val (.long qd), .second, .val (.long qr), .second, .val (.int pm), .val (.long t), .second, .val (.long k_), .second, .val (.long tk), .second, .val (.long n), .second, .val (.long rem), .second, .val (.long pass), .second, .val (.ref x2), .val (.double (FP.ddiv (FP.l2d pass) (FP.dmul (FP.i2d (t.toInt32)) (FP.i2d (k_.toInt32))))), .second] [(.long (0 : Int64)), (.long rem)]) fun _ _ X _ k => XS.lconst X.here hx rfl (hb hby d0_122) k
    have A81 := A80.go (f' := mkF m 124 #[.val (.long qa), .second, .val (.long qb), .second, .val (.long qc), .second, .val (.long qd), .second, .val (.long qr), .second, .val (.int pm), .val (.long t), .second, .val (.long k_), .second, .val (.long tk), .second, .val (.long n), .second, .val (.long rem), .second, .val (.long pass), .second, .val (.ref x2), .val (.double (FP.ddiv (FP.l2d pass) (FP.dmul (FP.i2d (t.toInt32)) (FP.i2d (k_.toInt32))))), .second] [(.int (lcmpW rem (0 : Int64)))]) fun _ _ X _ k => XS.lcmp X.here hx rfl (hb hby d0_123) rfl k
    by_cases q82 : (lcmpW rem (0 : Int64)) = (0 : Int32)
    · skip
      have A83 := A81.go (f' := mkF m 127 #[.val (.long qa), .second, .val (.long qb), .second, .val (.long qc), .second, .val (.long qd), .second, .val (.long qr), .second, .val (.int pm), .val (.long t), .second, .val (.long k_), .second, .val (.long tk), .second, .val (.long n), .second, .val (.long rem), .second, .val (.long pass), .second, .val (.ref x2), .val (.double (FP.ddiv (FP.l2d pass) (FP.dmul (FP.i2d (t.toInt32)) (FP.i2d (k_.toInt32))))), .second] []) fun _ _ X _ k => XS.ifNo X.here hx rfl (hb hby d0_124) rfl ((if0 _ _).trans (teq q82).2) k
      have A84 := A83.go (f' := mkF m 129 #[.val (.long qa), .second, .val (.long qb), .second, .val (.long qc), .second, .val (.long qd), .second, .val (.long qr), .second, .val (.int pm), .val (.long t), .second, .val (.long k_), .second, .val (.long tk), .second, .val (.long n), .second, .val (.long rem), .second, .val (.long pass), .second, .val (.ref x2), .val (.double (FP.ddiv (FP.l2d pass) (FP.dmul (FP.i2d (t.toInt32)) (FP.i2d (k_.toInt32))))), .second] [(.double (FP.ddiv (FP.l2d pass) (FP.dmul (FP.i2d (t.toInt32)) (FP.i2d (k_.toInt32)))))]) fun _ _ X _ k => XS.dload X.here hx rfl (hb hby d0_127) rfl k
      have A85 := A84.go (f' := mkF m 131 #[.val (.long qa), .second, .val (.long qb), .second, .val (.long qc), .second, .val (.long qd), .second, .val (.long qr), .second, .val (.int pm), .val (.long t), .second, .val (.long k_), .second, .val (.long tk), .second, .val (.long n), .second, .val (.long rem), .second, .val (.long pass), .second, .val (.ref x2), .val (.double (FP.ddiv (FP.l2d pass) (FP.dmul (FP.i2d (t.toInt32)) (FP.i2d (k_.toInt32))))), .second] [(.long n), (.double (FP.ddiv (FP.l2d pass) (FP.dmul (FP.i2d (t.toInt32)) (FP.i2d (k_.toInt32)))))]) fun _ _ X _ k => XS.lload X.here hx rfl (hb hby d0_129) rfl k
      have A86 := A85.go (f' := mkF m 132 #[.val (.long qa), .second, .val (.long qb), .second, .val (.long qc), .second, .val (.long qd), .second, .val (.long qr), .second, .val (.int pm), .val (.long t), .second, .val (.long k_), .second, .val (.long tk), .second, .val (.long n), .second, .val (.long rem), .second, .val (.long pass), .second, .val (.ref x2), .val (.double (FP.ddiv (FP.l2d pass) (FP.dmul (FP.i2d (t.toInt32)) (FP.i2d (k_.toInt32))))), .second] [(.double (FP.l2d n)), (.double (FP.ddiv (FP.l2d pass) (FP.dmul (FP.i2d (t.toInt32)) (FP.i2d (k_.toInt32)))))]) fun _ _ X _ k => XS.l2dS X.here hx rfl (hb hby d0_131) rfl rfl k
      have A87 := A86.go (f' := mkF m 133 #[.val (.long qa), .second, .val (.long qb), .second, .val (.long qc), .second, .val (.long qd), .second, .val (.long qr), .second, .val (.int pm), .val (.long t), .second, .val (.long k_), .second, .val (.long tk), .second, .val (.long n), .second, .val (.long rem), .second, .val (.long pass), .second, .val (.ref x2), .val (.double (FP.ddiv (FP.l2d pass) (FP.dmul (FP.i2d (t.toInt32)) (FP.i2d (k_.toInt32))))), .second] [(.int (cmpValue (FP.dcmp (FP.ddiv (FP.l2d pass) (FP.dmul (FP.i2d (t.toInt32)) (FP.i2d (k_.toInt32)))) (FP.l2d n)) .l))]) fun _ _ X _ k => XS.dcmpS X.here hx rfl (hb hby d0_132) rfl rfl k
      have q88 : ((cmpValue (FP.dcmp (FP.ddiv (FP.l2d pass) (FP.dmul (FP.i2d (t.toInt32)) (FP.i2d (k_.toInt32)))) (FP.l2d n)) .l) = (0 : Int32)) := own_finB0 hOB ((lw_eq _ _).mp q82)
      have A89 := A87.go (f' := mkF m 136 #[.val (.long qa), .second, .val (.long qb), .second, .val (.long qc), .second, .val (.long qd), .second, .val (.long qr), .second, .val (.int pm), .val (.long t), .second, .val (.long k_), .second, .val (.long tk), .second, .val (.long n), .second, .val (.long rem), .second, .val (.long pass), .second, .val (.ref x2), .val (.double (FP.ddiv (FP.l2d pass) (FP.dmul (FP.i2d (t.toInt32)) (FP.i2d (k_.toInt32))))), .second] []) fun _ _ X _ k => XS.ifNo X.here hx rfl (hb hby d0_133) rfl ((if0 _ _).trans (teq q88).2) k
      have A90 := A89.go (f' := mkF m 137 #[.val (.long qa), .second, .val (.long qb), .second, .val (.long qc), .second, .val (.long qd), .second, .val (.long qr), .second, .val (.int pm), .val (.long t), .second, .val (.long k_), .second, .val (.long tk), .second, .val (.long n), .second, .val (.long rem), .second, .val (.long pass), .second, .val (.ref x2), .val (.double (FP.ddiv (FP.l2d pass) (FP.dmul (FP.i2d (t.toInt32)) (FP.i2d (k_.toInt32))))), .second] [(.int (1 : Int32))]) fun _ _ X _ k => XS.iconst X.here hx rfl (hb hby d0_136) k
      have A91 := A90.go (f' := mkF m 141 #[.val (.long qa), .second, .val (.long qb), .second, .val (.long qc), .second, .val (.long qd), .second, .val (.long qr), .second, .val (.int pm), .val (.long t), .second, .val (.long k_), .second, .val (.long tk), .second, .val (.long n), .second, .val (.long rem), .second, .val (.long pass), .second, .val (.ref x2), .val (.double (FP.ddiv (FP.l2d pass) (FP.dmul (FP.i2d (t.toInt32)) (FP.i2d (k_.toInt32))))), .second] [(.int (1 : Int32))]) fun _ _ X _ k => XS.goto X.here hx rfl (pc0 := 137) (pc' := 141) rfl (hb hby d0_137) (by decide) (by decide) k
      exact A91.ret hx hlk hret (hb hby d0_141) rfl (Or.inl ⟨rfl, by simp, _, rfl⟩) (by decide) (by decide) ⟨rfl, trivial⟩
    · skip
      have A92 := A81.go (f' := mkF m 142 #[.val (.long qa), .second, .val (.long qb), .second, .val (.long qc), .second, .val (.long qd), .second, .val (.long qr), .second, .val (.int pm), .val (.long t), .second, .val (.long k_), .second, .val (.long tk), .second, .val (.long n), .second, .val (.long rem), .second, .val (.long pass), .second, .val (.ref x2), .val (.double (FP.ddiv (FP.l2d pass) (FP.dmul (FP.i2d (t.toInt32)) (FP.i2d (k_.toInt32))))), .second] []) fun _ _ X _ k => XS.ifYes X.here hx rfl (pc0 := 124) (pc' := 142) rfl (hb hby d0_124) rfl ((if0 _ _).trans (feq q82).2) (by decide) (by decide) k
      have A93 := A92.go (f' := mkF m 144 #[.val (.long qa), .second, .val (.long qb), .second, .val (.long qc), .second, .val (.long qd), .second, .val (.long qr), .second, .val (.int pm), .val (.long t), .second, .val (.long k_), .second, .val (.long tk), .second, .val (.long n), .second, .val (.long rem), .second, .val (.long pass), .second, .val (.ref x2), .val (.double (FP.ddiv (FP.l2d pass) (FP.dmul (FP.i2d (t.toInt32)) (FP.i2d (k_.toInt32))))), .second] [(.double (FP.ddiv (FP.l2d pass) (FP.dmul (FP.i2d (t.toInt32)) (FP.i2d (k_.toInt32)))))]) fun _ _ X _ k => XS.dload X.here hx rfl (hb hby d0_142) rfl k
      have A94 := A93.go (f' := mkF m 146 #[.val (.long qa), .second, .val (.long qb), .second, .val (.long qc), .second, .val (.long qd), .second, .val (.long qr), .second, .val (.int pm), .val (.long t), .second, .val (.long k_), .second, .val (.long tk), .second, .val (.long n), .second, .val (.long rem), .second, .val (.long pass), .second, .val (.ref x2), .val (.double (FP.ddiv (FP.l2d pass) (FP.dmul (FP.i2d (t.toInt32)) (FP.i2d (k_.toInt32))))), .second] [(.long n), (.double (FP.ddiv (FP.l2d pass) (FP.dmul (FP.i2d (t.toInt32)) (FP.i2d (k_.toInt32)))))]) fun _ _ X _ k => XS.lload X.here hx rfl (hb hby d0_144) rfl k
      have A95 := A94.go (f' := mkF m 147 #[.val (.long qa), .second, .val (.long qb), .second, .val (.long qc), .second, .val (.long qd), .second, .val (.long qr), .second, .val (.int pm), .val (.long t), .second, .val (.long k_), .second, .val (.long tk), .second, .val (.long n), .second, .val (.long rem), .second, .val (.long pass), .second, .val (.ref x2), .val (.double (FP.ddiv (FP.l2d pass) (FP.dmul (FP.i2d (t.toInt32)) (FP.i2d (k_.toInt32))))), .second] [(.double (FP.l2d n)), (.double (FP.ddiv (FP.l2d pass) (FP.dmul (FP.i2d (t.toInt32)) (FP.i2d (k_.toInt32)))))]) fun _ _ X _ k => XS.l2dS X.here hx rfl (hb hby d0_146) rfl rfl k
      have A96 := A95.go (f' := mkF m 148 #[.val (.long qa), .second, .val (.long qb), .second, .val (.long qc), .second, .val (.long qd), .second, .val (.long qr), .second, .val (.int pm), .val (.long t), .second, .val (.long k_), .second, .val (.long tk), .second, .val (.long n), .second, .val (.long rem), .second, .val (.long pass), .second, .val (.ref x2), .val (.double (FP.ddiv (FP.l2d pass) (FP.dmul (FP.i2d (t.toInt32)) (FP.i2d (k_.toInt32))))), .second] [(.int (cmpValue (FP.dcmp (FP.ddiv (FP.l2d pass) (FP.dmul (FP.i2d (t.toInt32)) (FP.i2d (k_.toInt32)))) (FP.l2d n)) .l))]) fun _ _ X _ k => XS.dcmpS X.here hx rfl (hb hby d0_147) rfl rfl k
      have q97 : ((0 : Int32) < (cmpValue (FP.dcmp (FP.ddiv (FP.l2d pass) (FP.dmul (FP.i2d (t.toInt32)) (FP.i2d (k_.toInt32)))) (FP.l2d n)) .l)) := own_finB1 hOB (fun q => q82 ((lw_eq _ _).mpr q))
      have A98 := A96.go (f' := mkF m 151 #[.val (.long qa), .second, .val (.long qb), .second, .val (.long qc), .second, .val (.long qd), .second, .val (.long qr), .second, .val (.int pm), .val (.long t), .second, .val (.long k_), .second, .val (.long tk), .second, .val (.long n), .second, .val (.long rem), .second, .val (.long pass), .second, .val (.ref x2), .val (.double (FP.ddiv (FP.l2d pass) (FP.dmul (FP.i2d (t.toInt32)) (FP.i2d (k_.toInt32))))), .second] []) fun _ _ X _ k => XS.ifNo X.here hx rfl (hb hby d0_148) rfl ((if0 _ _).trans (tlt q97).2.2.2) k
      have A99 := A98.go (f' := mkF m 153 #[.val (.long qa), .second, .val (.long qb), .second, .val (.long qc), .second, .val (.long qd), .second, .val (.long qr), .second, .val (.int pm), .val (.long t), .second, .val (.long k_), .second, .val (.long tk), .second, .val (.long n), .second, .val (.long rem), .second, .val (.long pass), .second, .val (.ref x2), .val (.double (FP.ddiv (FP.l2d pass) (FP.dmul (FP.i2d (t.toInt32)) (FP.i2d (k_.toInt32))))), .second] [(.double (FP.ddiv (FP.l2d pass) (FP.dmul (FP.i2d (t.toInt32)) (FP.i2d (k_.toInt32)))))]) fun _ _ X _ k => XS.dload X.here hx rfl (hb hby d0_151) rfl k
      have A100 := A99.go (f' := mkF m 155 #[.val (.long qa), .second, .val (.long qb), .second, .val (.long qc), .second, .val (.long qd), .second, .val (.long qr), .second, .val (.int pm), .val (.long t), .second, .val (.long k_), .second, .val (.long tk), .second, .val (.long n), .second, .val (.long rem), .second, .val (.long pass), .second, .val (.ref x2), .val (.double (FP.ddiv (FP.l2d pass) (FP.dmul (FP.i2d (t.toInt32)) (FP.i2d (k_.toInt32))))), .second] [(.long n), (.double (FP.ddiv (FP.l2d pass) (FP.dmul (FP.i2d (t.toInt32)) (FP.i2d (k_.toInt32)))))]) fun _ _ X _ k => XS.lload X.here hx rfl (hb hby d0_153) rfl k
      have A101 := A100.go (f' := mkF m 156 #[.val (.long qa), .second, .val (.long qb), .second, .val (.long qc), .second, .val (.long qd), .second, .val (.long qr), .second, .val (.int pm), .val (.long t), .second, .val (.long k_), .second, .val (.long tk), .second, .val (.long n), .second, .val (.long rem), .second, .val (.long pass), .second, .val (.ref x2), .val (.double (FP.ddiv (FP.l2d pass) (FP.dmul (FP.i2d (t.toInt32)) (FP.i2d (k_.toInt32))))), .second] [(.long (1 : Int64)), (.long n), (.double (FP.ddiv (FP.l2d pass) (FP.dmul (FP.i2d (t.toInt32)) (FP.i2d (k_.toInt32)))))]) fun _ _ X _ k => XS.lconst X.here hx rfl (hb hby d0_155) k
      have A102 := A101.go (f' := mkF m 157 #[.val (.long qa), .second, .val (.long qb), .second, .val (.long qc), .second, .val (.long qd), .second, .val (.long qr), .second, .val (.int pm), .val (.long t), .second, .val (.long k_), .second, .val (.long tk), .second, .val (.long n), .second, .val (.long rem), .second, .val (.long pass), .second, .val (.ref x2), .val (.double (FP.ddiv (FP.l2d pass) (FP.dmul (FP.i2d (t.toInt32)) (FP.i2d (k_.toInt32))))), .second] [(.long (n + (1 : Int64))), (.double (FP.ddiv (FP.l2d pass) (FP.dmul (FP.i2d (t.toInt32)) (FP.i2d (k_.toInt32)))))]) fun _ _ X _ k => XS.ladd X.here hx rfl (hb hby d0_156) rfl k
      have A103 := A102.go (f' := mkF m 158 #[.val (.long qa), .second, .val (.long qb), .second, .val (.long qc), .second, .val (.long qd), .second, .val (.long qr), .second, .val (.int pm), .val (.long t), .second, .val (.long k_), .second, .val (.long tk), .second, .val (.long n), .second, .val (.long rem), .second, .val (.long pass), .second, .val (.ref x2), .val (.double (FP.ddiv (FP.l2d pass) (FP.dmul (FP.i2d (t.toInt32)) (FP.i2d (k_.toInt32))))), .second] [(.double (FP.l2d (n + (1 : Int64)))), (.double (FP.ddiv (FP.l2d pass) (FP.dmul (FP.i2d (t.toInt32)) (FP.i2d (k_.toInt32)))))]) fun _ _ X _ k => XS.l2dS X.here hx rfl (hb hby d0_157) rfl rfl k
      have A104 := A103.go (f' := mkF m 159 #[.val (.long qa), .second, .val (.long qb), .second, .val (.long qc), .second, .val (.long qd), .second, .val (.long qr), .second, .val (.int pm), .val (.long t), .second, .val (.long k_), .second, .val (.long tk), .second, .val (.long n), .second, .val (.long rem), .second, .val (.long pass), .second, .val (.ref x2), .val (.double (FP.ddiv (FP.l2d pass) (FP.dmul (FP.i2d (t.toInt32)) (FP.i2d (k_.toInt32))))), .second] [(.int (cmpValue (FP.dcmp (FP.ddiv (FP.l2d pass) (FP.dmul (FP.i2d (t.toInt32)) (FP.i2d (k_.toInt32)))) (FP.l2d (n + (1 : Int64)))) .g))]) fun _ _ X _ k => XS.dcmpS X.here hx rfl (hb hby d0_158) rfl rfl k
      have q105 : ((cmpValue (FP.dcmp (FP.ddiv (FP.l2d pass) (FP.dmul (FP.i2d (t.toInt32)) (FP.i2d (k_.toInt32)))) (FP.l2d (n + (1 : Int64)))) .g) < (0 : Int32)) := own_finB2 hOB (fun q => q82 ((lw_eq _ _).mpr q))
      have A106 := A104.go (f' := mkF m 162 #[.val (.long qa), .second, .val (.long qb), .second, .val (.long qc), .second, .val (.long qd), .second, .val (.long qr), .second, .val (.int pm), .val (.long t), .second, .val (.long k_), .second, .val (.long tk), .second, .val (.long n), .second, .val (.long rem), .second, .val (.long pass), .second, .val (.ref x2), .val (.double (FP.ddiv (FP.l2d pass) (FP.dmul (FP.i2d (t.toInt32)) (FP.i2d (k_.toInt32))))), .second] []) fun _ _ X _ k => XS.ifNo X.here hx rfl (hb hby d0_159) rfl ((if0 _ _).trans (tlt q105).2.1) k
      have A107 := A106.go (f' := mkF m 163 #[.val (.long qa), .second, .val (.long qb), .second, .val (.long qc), .second, .val (.long qd), .second, .val (.long qr), .second, .val (.int pm), .val (.long t), .second, .val (.long k_), .second, .val (.long tk), .second, .val (.long n), .second, .val (.long rem), .second, .val (.long pass), .second, .val (.ref x2), .val (.double (FP.ddiv (FP.l2d pass) (FP.dmul (FP.i2d (t.toInt32)) (FP.i2d (k_.toInt32))))), .second] [(.int (1 : Int32))]) fun _ _ X _ k => XS.iconst X.here hx rfl (hb hby d0_162) k
      have A108 := A107.go (f' := mkF m 167 #[.val (.long qa), .second, .val (.long qb), .second, .val (.long qc), .second, .val (.long qd), .second, .val (.long qr), .second, .val (.int pm), .val (.long t), .second, .val (.long k_), .second, .val (.long tk), .second, .val (.long n), .second, .val (.long rem), .second, .val (.long pass), .second, .val (.ref x2), .val (.double (FP.ddiv (FP.l2d pass) (FP.dmul (FP.i2d (t.toInt32)) (FP.i2d (k_.toInt32))))), .second] [(.int (1 : Int32))]) fun _ _ X _ k => XS.goto X.here hx rfl (pc0 := 163) (pc' := 167) rfl (hb hby d0_163) (by decide) (by decide) k
      exact A108.ret hx hlk hret (hb hby d0_167) rfl (Or.inl ⟨rfl, by simp, _, rfl⟩) (by decide) (by decide) ⟨rfl, trivial⟩
set_option maxRecDepth 65536 in
set_option maxHeartbeats 40000000 in
theorem comes_1 {Post : Tables → Env → Array Value → State → Outcome → State → Prop} (hpost : ∀ tb e args s v u, (limb_1_1.after args s (.returned v) u = true ∧ limb_1_2.after args s (.returned v) u = true ∧ True) → FrameEnd s (.returned v) u (Jvm.fieldLocs frame_1_writes args s ++ Jvm.arrayLocs frame_1_arrays args s ++ Jvm.staticLocs frame_1_statics s) 16 128 → Post tb e args s (.returned v) u) :
    ArmFor flags0 classFile x code maxLocals ret World_1 tables_1 room_1 Calls_1 rest_1 Pre_1 Post := by
  intro l hfl _ _ p e ha hc hk s m args below hf hA hF happ hP
  obtain ⟨hcalls, hrest, hpre⟩ := hP
  obtain ⟨-, -, -, hnamed, -, -, -, hat⟩ := (Spec.applies_iff hf).mp happ
  obtain ⟨hg, hn⟩ := and_e (Cond.before_iff.mp (show (Jvm.Cond.and given_1 narrow_1).before args s = true from hpre))
  obtain ⟨h1, g0⟩ := and_e hg
  obtain ⟨w0, w1, w2, w3, w4, w5, rfl⟩ : ∃ w0 w1 w2 w3 w4 w5 : Value, args = #[w0, w1, w2, w3, w4, w5] := by
    have hs : args.size = 6 := by simpa [Cond.value, given_1] using h1
    obtain ⟨L⟩ := args
    match L, hs with
    | [w0, w1, w2, w3, w4, w5], _ => exact ⟨w0, w1, w2, w3, w4, w5, rfl⟩
  have hw := fun d (hd : d ∈ tables_1) => atoms_spec (ws := Jvm.Cond.code x code maxLocals ret :: tables_1) hat d (List.mem_cons_of_mem _ hd)
  have hfit : Fit s := fun {y c} hc i hi => by
    obtain ⟨ha, rfl⟩ := Array.getElem?_eq_some_iff.mp hc
    have q := List.all_eq_true.mp ((Array.all_eq_true_iff_forall_mem.mp hF) _ (Array.getElem_mem ha)) i (List.mem_range.mpr hi)
    simpa [Array.getElem?_eq_getElem hi] using q
  obtain ⟨k0, g1⟩ := and_e g0
  obtain ⟨i0, e0⟩ := isL_v k0
  obtain rfl : w0 = (.long i0) := Option.some.inj e0
  obtain ⟨k1, g2⟩ := and_e g1
  obtain ⟨i1, e1⟩ := isL_v k1
  obtain rfl : w1 = (.long i1) := Option.some.inj e1
  obtain ⟨k2, g3⟩ := and_e g2
  obtain ⟨i2, e2⟩ := isL_v k2
  obtain rfl : w2 = (.long i2) := Option.some.inj e2
  obtain ⟨k3, g4⟩ := and_e g3
  obtain ⟨i3, e3⟩ := isL_v k3
  obtain rfl : w3 = (.long i3) := Option.some.inj e3
  obtain ⟨k4, g5⟩ := and_e g4
  obtain ⟨i4, e4⟩ := isL_v k4
  obtain rfl : w4 = (.long i4) := Option.some.inj e4
  obtain ⟨i5, e5⟩ := is_v g5
  obtain rfl : w5 = (.int i5) := Option.some.inj e5
  obtain ⟨n, o, h1, h2, h3, _, L, rfl, ⟨⟨rfl, -⟩, N⟩, hq⟩ := (own_law l s _ hw i0 i1 i2 i3 i4 i5 s.heap s.heap.size (Nat.le_refl _)) p e ha hc hk s m _ below hf ((Spec.applies_iff_loose hf).mp happ).1 ⟨rfl, State.Warmed39.refl s, rfl⟩ trivial
  refine ⟨n, _, h1, h2, h3, hpost _ _ _ _ _ _ ⟨Cond.after_iff.mpr rfl, Cond.after_iff.mpr (eq_i res_at (Term.int_eval (1)) rfl), trivial⟩ ⟨hq.1, hq.2.1, (hq.2.2.sift fun y hy => Or.inr (N y hy)).mono (by decide) (by decide)⟩⟩
theorem main_1_1 : Claimed_1_1 := comes_1 fun _ _ _ _ _ _ h hF => ⟨h.1, hF⟩
theorem main_1_2 : Claimed_1_2 := comes_1 fun _ _ _ _ _ _ h hF => ⟨h.2.1, hF⟩
end Jvm.Pilot.@@N@@
namespace Jvm.Pilot.@@N@@
open Jvm Jvm.ClassFile Sem Op Lib Jvm.Free Jvm.Stand Jvm.Pilot.@@N@@.Jvm.D
/-! MADE BY PROGRAM (witnessworld.py) out of the Statement's table words and the real class files: 10 classes; the members and pool entries that the words name. The judged class is class 1, her method 1. -/
namespace start1
open Jvm.ClassFile
def u (s : String) : CpInfo := .utf8 (stringToUtf16 s)
/-- a pool by its gaps: so many unusable entries, then the entry; so many at the end -/
def gap : Nat → List CpInfo → List CpInfo
  | 0, r => r
  | n + 1, r => .unusable :: gap n r
def poolList (es : List (Nat × CpInfo)) (last : Nat) : List CpInfo := es.foldr (fun e r => gap e.1 (e.2 :: r)) (gap last [])
def pool (es : List (Nat × CpInfo)) (last : Nat) : Array CpInfo := ⟨poolList es last⟩
def fileOf (pool : Array CpInfo) (this : Nat) (attrs : Array Attribute := #[]) (ms : Array MethodInfo := #[]) (fl : Nat := 33) (sup : Nat := 0) (ifs : Array Nat := #[]) (fds : Array FieldInfo := #[]) : ClassFile where
  minorVersion := 0
  majorVersion := 65
  constantPool := pool
  accessFlags := fl
  thisClass := this
  superClass := sup
  interfaces := ifs
  fields := fds
  methods := ms
  attributes := attrs
def plain (name : String) (sup : Option ClassId) : Class where
  name := name
  kind := .ordinary
  loader := none
  accessFlags := 33
  super := sup
  interfaces := #[]
  cf := none
  fields := #[]
  methods := #[]
  instanceTypes := #[]
  staticTypes := #[]
  resolved := #[]
  callSites := []
  init := .initialized
  statics := none
  mirror := none

def pool0 : Array CpInfo := pool [(5, u "<init>"), (0, u "()V"), (1, .class_ 10), (1, u "java/lang/Object")] 113

def k0c0 : Code := { maxStack := 0, maxLocals := 1, code := object_method_1_code, exceptionTable := #[], attributes := #[] }
def k0m0 : Method := { name := "<init>", desc := "()V", sig := { parameters := [], returnType := none }, accessFlags := 1, code := some k0c0 }
/-- java/lang/Object -/
def k0 : Class := { plain "java/lang/Object" none with
  accessFlags := 33
  interfaces := #[]
  cf := some (fileOf pool0 8 #[] #[{ accessFlags := 1, nameIndex := 5, descriptorIndex := 6, attributes := #[] }] 33 0 #[] #[])
  fields := #[]
  methods := #[k0m0]
  instanceTypes := #[]
  staticTypes := #[]
  resolved := Array.replicate 124 none
  statics := none }

def pool1 : Array CpInfo := pool [(2, .class_ 4), (1, u "java/lang/Object"), (0, u "<init>"), (0, u "()V"), (0, .class_ 8), (0, u "com/example/shardrule/shardrule/bench/RoutingBench$Result"), (0, .methodref 7 10), (0, .nameAndType 5 11), (0, u "(IIJJ)V"), (0, .methodref 7 13), (0, .nameAndType 14 15), (0, u "routeNanosPerKey"), (0, u "()D"), (0, .long 1048575), (1, .long 1023), (1, .long 9223372036854775807), (1, .class_ 23), (0, u "com/example/shardrule/shardrule/bench/ResultRouteNanosPerKeyPinLaw"), (2, u "law"), (0, u "(JJJJJI)Z")] 7

def k1m0 : Method := { name := "<init>", desc := "()V", sig := { parameters := [], returnType := none }, accessFlags := 1, code := none }
def k1c1 : Code := { maxStack := 8, maxLocals := 26, code := code, exceptionTable := #[], attributes := #[] }
def k1m1 : Method := { name := "law", desc := "(JJJJJI)Z", sig := { parameters := [.long, .long, .long, .long, .long, .int], returnType := some .boolean }, accessFlags := 9, code := some k1c1 }
/-- com/example/shardrule/shardrule/bench/ResultRouteNanosPerKeyPinLaw -/
def k1 : Class := { plain "com/example/shardrule/shardrule/bench/ResultRouteNanosPerKeyPinLaw" (some 0) with
  accessFlags := 49
  interfaces := #[]
  cf := some (fileOf pool1 22 #[] #[{ accessFlags := 1, nameIndex := 5, descriptorIndex := 6, attributes := #[] }, { accessFlags := 9, nameIndex := 26, descriptorIndex := 27, attributes := #[] }] 49 2 #[] #[])
  fields := #[]
  methods := #[k1m0, k1m1]
  instanceTypes := #[]
  staticTypes := #[]
  resolved := Array.replicate 35 none
  statics := none }

def pool2 : Array CpInfo := pool [(1, .methodref 2 3), (0, .class_ 4), (0, .nameAndType 5 6), (0, u "java/lang/Object"), (0, u "<init>"), (0, u "()V"), (0, .class_ 8), (0, u "java/lang/Record")] 13

def k2c0 : Code := { maxStack := 1, maxLocals := 1, code := jdk_30_method_1_code, exceptionTable := #[], attributes := #[] }
def k2m0 : Method := { name := "<init>", desc := "()V", sig := { parameters := [], returnType := none }, accessFlags := 4, code := some k2c0 }
/-- java/lang/Record -/
def k2 : Class := { plain "java/lang/Record" (some 0) with
  accessFlags := 1057
  interfaces := #[]
  cf := some (fileOf pool2 7 #[] #[{ accessFlags := 4, nameIndex := 5, descriptorIndex := 6, attributes := #[] }] 1057 2 #[] #[])
  fields := #[]
  methods := #[k2m0]
  instanceTypes := #[]
  staticTypes := #[]
  resolved := Array.replicate 22 none
  statics := none }

def pool3 : Array CpInfo := pool [(1, .methodref 2 3), (0, .class_ 4), (0, .nameAndType 5 6), (0, u "java/lang/Record"), (0, u "<init>"), (0, u "()V"), (0, .fieldref 8 9), (0, .class_ 10), (0, .nameAndType 11 12), (0, u "com/example/shardrule/shardrule/bench/RoutingBench$Result"), (0, u "keys"), (0, u "I"), (0, .fieldref 8 14), (0, .nameAndType 15 12), (0, u "threads"), (0, .fieldref 8 17), (0, .nameAndType 18 19), (0, u "routePassNanos"), (0, u "J"), (0, .fieldref 8 21), (0, .nameAndType 22 19), (0, u "crcPassNanos"), (2, u "routeNanosPerKey"), (0, u "()D"), (17, u "(IIJJ)V"), (12, .class_ 58), (0, u "com/example/shardrule/shardrule/bench/RoutingBench")] 22

def k3c0 : Code := { maxStack := 3, maxLocals := 7, code := prog_17_method_1_code, exceptionTable := #[], attributes := #[] }
def k3m0 : Method := { name := "<init>", desc := "(IIJJ)V", sig := { parameters := [.int, .int, .long, .long], returnType := none }, accessFlags := 1, code := some k3c0 }
def k3c1 : Code := { maxStack := 6, maxLocals := 1, code := prog_17_method_2_code, exceptionTable := #[], attributes := #[] }
def k3m1 : Method := { name := "routeNanosPerKey", desc := "()D", sig := { parameters := [], returnType := some .double }, accessFlags := 1, code := some k3c1 }
/-- com/example/shardrule/shardrule/bench/RoutingBench$Result -/
def k3 : Class := { plain "com/example/shardrule/shardrule/bench/RoutingBench$Result" (some 2) with
  accessFlags := 49
  interfaces := #[]
  cf := some (fileOf pool3 8 #[.nestHost 57] #[{ accessFlags := 1, nameIndex := 5, descriptorIndex := 44, attributes := #[] }, { accessFlags := 1, nameIndex := 25, descriptorIndex := 26, attributes := #[] }] 49 2 #[] #[{ accessFlags := 18, nameIndex := 11, descriptorIndex := 12, attributes := #[] }, { accessFlags := 18, nameIndex := 15, descriptorIndex := 12, attributes := #[] }, { accessFlags := 18, nameIndex := 18, descriptorIndex := 19, attributes := #[] }, { accessFlags := 18, nameIndex := 22, descriptorIndex := 19, attributes := #[] }])
  fields := #[{ name := "keys", type := .int, accessFlags := 18, slot := 0, constantValue := 0 }, { name := "threads", type := .int, accessFlags := 18, slot := 1, constantValue := 0 }, { name := "routePassNanos", type := .long, accessFlags := 18, slot := 2, constantValue := 0 }, { name := "crcPassNanos", type := .long, accessFlags := 18, slot := 3, constantValue := 0 }]
  methods := #[k3m0, k3m1]
  instanceTypes := #[.int, .int, .long, .long]
  staticTypes := #[]
  resolved := Array.replicate 81 none
  statics := none }

def pool4 : Array CpInfo := pool [(1, u "java/lang/Cloneable"), (0, .class_ 1), (0, u "java/lang/Object"), (0, .class_ 3)] 3

/-- java/lang/Cloneable -/
def k4 : Class := { plain "java/lang/Cloneable" (some 0) with
  accessFlags := 1537
  interfaces := #[]
  cf := some (fileOf pool4 2 #[] #[] 1537 4 #[] #[])
  fields := #[]
  methods := #[]
  instanceTypes := #[]
  staticTypes := #[]
  resolved := Array.replicate 8 none
  statics := none }

def pool5 : Array CpInfo := pool [(1, u "java/io/Serializable"), (0, .class_ 1), (0, u "java/lang/Object"), (0, .class_ 3)] 3

/-- java/io/Serializable -/
def k5 : Class := { plain "java/io/Serializable" (some 0) with
  accessFlags := 1537
  interfaces := #[]
  cf := some (fileOf pool5 2 #[] #[] 1537 4 #[] #[])
  fields := #[]
  methods := #[]
  instanceTypes := #[]
  staticTypes := #[]
  resolved := Array.replicate 8 none
  statics := none }

/-- the primitive byte -/
def k6 : Class := { plain "byte" none with kind := .primitive 'B', accessFlags := 0x411 }
/-- [B -/
def k7 : Class := { plain "[B" (some 0) with kind := .array 6 .byte, interfaces := #[4, 5], accessFlags := 1041 }

/-- the primitive int -/
def k8 : Class := { plain "int" none with kind := .primitive 'I', accessFlags := 0x411 }
/-- [I -/
def k9 : Class := { plain "[I" (some 0) with kind := .array 8 .int, interfaces := #[4, 5], accessFlags := 1041 }

def heap : Heap := #[]
def classes : Array Class := #[k0, k1, k2, k3, k4, k5, k6, k7, k8, k9]
def interned : List (Array UInt16 × Addr) := []
def slotsUsed : Nat := 0
def theMethod : MethodId := ⟨1, 1⟩
def args0 : Array Value := #[.long 1, .long 2, .long 3, .long 4, .long 5, .int 6]
def aboutOver (below : List Frame) : State where
  vm := { classes := classes, interned := interned.toArray }
  heap := heap
  slotsUsed := slotsUsed
  threads := #[{ frames := .invoking theMethod args0 :: below }]
def below0 : List Frame := [.native { method := ⟨0, 0⟩, args := #[] }]
def about1 : State := aboutOver below0
def p0 : Program := .bare "" "" ""
def e0 : Env := launch0.env 0 0 0
theorem w_frames : about1.frames = Frame.invoking theMethod args0 :: below0 := rfl
set_option maxRecDepth 65536 in
theorem w_args : argsFit about1.vm theMethod args0 = true := by decide +kernel
set_option maxRecDepth 65536 in
theorem w_heap : heapFits about1 = true := by decide +kernel
set_option maxRecDepth 65536 in
theorem w_runnable : about1.curStatus? = some .runnable := by decide +kernel
set_option maxRecDepth 65536 in
theorem w_alone : about1.alone = true := by decide +kernel
set_option maxRecDepth 65536 in
theorem w_named : about1.methodNamed? x = some theMethod := by decide +kernel
set_option maxRecDepth 65536 in
theorem w_hears : about1.hears theMethod below0 = true := by decide +kernel
set_option maxRecDepth 65536 in
theorem w_ripe : about1.ripe theMethod args0 below0 = true := by decide +kernel
theorem w_running : about1.status = .running := rfl
set_option maxRecDepth 65536 in
theorem w_room : about1.hasRoom e0.platform room_1 = true :=
  launch0.hasRoom_least _ room_1 (by decide +kernel) (by decide +kernel) (by decide +kernel) (by decide +kernel) (by decide +kernel) (by decide +kernel)
theorem allAtoms_all (ts : List Jvm.Cond) (a : Array Jvm.Value) (st : Jvm.State) : (allAtoms ts).before a st = ts.all (fun c => c.before a st) := by
  induction ts with
  | nil => rfl
  | cons c t ih =>
    show (Jvm.Cond.and c (allAtoms t)).before a st = _
    rw [Jvm.Cond.before_and, ih, List.all_cons]
def words1 : List Jvm.Cond := Jvm.Cond.code x code maxLocals ret :: tables_1
/-- a 'code' word, met by the world's own term for the bytes: nothing is compared byte by byte -/
theorem code_word {y : MethodName} {bytes : ByteArray} {mx : Nat} {rt : Option FieldType} {a : Array Value} {s : State} {m : MethodId} {meth : Method} {c : Code} (h1 : s.methodNamed? y = some m) (h2 : s.vm.method? m = some meth) (h3 : meth.code = some c) (h4 : c.code = bytes)
    (h5 : (c.maxLocals == mx && c.exceptionTable.isEmpty && decide (c.maxStack ≤ mostOperands) && decide (meth.sig.returnType = rt) && !meth.locks && decide (parseMethodDescriptor y.desc = some meth.sig)) = true) : (Jvm.Cond.code y bytes mx rt).before a s = true := by
  simp only [Bool.and_eq_true, beq_iff_eq, Bool.not_eq_true', decide_eq_true_eq] at h5
  obtain ⟨⟨⟨⟨⟨g1, g2⟩, g3⟩, g4⟩, g5⟩, g6⟩ := h5
  simp [Cond.before, Cond.holds, Cond.value, h1, h2, h3, h4, g1, g2, g3, g4, g5, g6]
def isCode : Jvm.Cond → Bool
  | .code _ _ _ _ => true
  | _ => false
theorem all_split {L : List Jvm.Cond} {P : Jvm.Cond → Bool} (h1 : L.all (fun c => isCode c || P c) = true) (h2 : ∀ c ∈ L.filter isCode, P c = true) : L.all P = true := by
  refine List.all_eq_true.mpr fun c hc => ?_
  have h := List.all_eq_true.mp h1 c hc
  rcases Bool.eq_false_or_eq_true (isCode c) with hi | hi
  · exact h2 c (List.mem_filter.mpr ⟨hc, hi⟩)
  · simpa [hi] using h
set_option maxRecDepth 65536 in
theorem w_c0 : (Jvm.Cond.code x code maxLocals ret).before args0 about1 = true := code_word (m := ⟨1, 1⟩) (meth := k1m1) (c := k1c1) (by decide +kernel) rfl rfl rfl (by decide +kernel)
set_option maxRecDepth 65536 in
theorem w_c1 : (Jvm.Cond.code ({ cls := "com/example/shardrule/shardrule/bench/RoutingBench$Result", name := "<init>", desc := "(IIJJ)V" } : Jvm.MethodName) prog_17_method_1_code (7 : Nat) (Option.none : Option Jvm.ClassFile.FieldType)).before args0 about1 = true := code_word (m := ⟨3, 0⟩) (meth := k3m0) (c := k3c0) (by decide +kernel) rfl rfl rfl (by decide +kernel)
set_option maxRecDepth 65536 in
theorem w_c2 : (Jvm.Cond.code ({ cls := "java/lang/Record", name := "<init>", desc := "()V" } : Jvm.MethodName) jdk_30_method_1_code (1 : Nat) (Option.none : Option Jvm.ClassFile.FieldType)).before args0 about1 = true := code_word (m := ⟨2, 0⟩) (meth := k2m0) (c := k2c0) (by decide +kernel) rfl rfl rfl (by decide +kernel)
set_option maxRecDepth 65536 in
theorem w_c3 : (Jvm.Cond.code ({ cls := "java/lang/Object", name := "<init>", desc := "()V" } : Jvm.MethodName) object_method_1_code (1 : Nat) (Option.none : Option Jvm.ClassFile.FieldType)).before args0 about1 = true := code_word (m := ⟨0, 0⟩) (meth := k0m0) (c := k0c0) (by decide +kernel) rfl rfl rfl (by decide +kernel)
set_option maxRecDepth 65536 in
theorem w_c4 : (Jvm.Cond.code ({ cls := "com/example/shardrule/shardrule/bench/RoutingBench$Result", name := "routeNanosPerKey", desc := "()D" } : Jvm.MethodName) prog_17_method_2_code (1 : Nat) (Option.some Jvm.ClassFile.FieldType.double)).before args0 about1 = true := code_word (m := ⟨3, 1⟩) (meth := k3m1) (c := k3c1) (by decide +kernel) rfl rfl rfl (by decide +kernel)
def codes1 : List Jvm.Cond := [Jvm.Cond.code x code maxLocals ret, Jvm.Cond.code ({ cls := "com/example/shardrule/shardrule/bench/RoutingBench$Result", name := "<init>", desc := "(IIJJ)V" } : Jvm.MethodName) prog_17_method_1_code (7 : Nat) (Option.none : Option Jvm.ClassFile.FieldType), Jvm.Cond.code ({ cls := "java/lang/Record", name := "<init>", desc := "()V" } : Jvm.MethodName) jdk_30_method_1_code (1 : Nat) (Option.none : Option Jvm.ClassFile.FieldType), Jvm.Cond.code ({ cls := "java/lang/Object", name := "<init>", desc := "()V" } : Jvm.MethodName) object_method_1_code (1 : Nat) (Option.none : Option Jvm.ClassFile.FieldType), Jvm.Cond.code ({ cls := "com/example/shardrule/shardrule/bench/RoutingBench$Result", name := "routeNanosPerKey", desc := "()D" } : Jvm.MethodName) prog_17_method_2_code (1 : Nat) (Option.some Jvm.ClassFile.FieldType.double)]
set_option maxRecDepth 65536 in
theorem codes_eq : words1.filter isCode = codes1 := rfl
theorem w_codes : ∀ c ∈ words1.filter isCode, c.before args0 about1 = true := by
  rw [codes_eq]
  intro c hc
  simp only [codes1, List.mem_cons, List.not_mem_nil, or_false] at hc
  rcases hc with rfl | rfl | rfl | rfl | rfl
  · exact w_c0
  · exact w_c1
  · exact w_c2
  · exact w_c3
  · exact w_c4
set_option maxRecDepth 65536 in
theorem w_t1 : (words1.take 24).all (fun c => isCode c || c.before args0 about1) = true := by decide +kernel
set_option maxRecDepth 65536 in
theorem w_t2 : (words1.drop 24).all (fun c => isCode c || c.before args0 about1) = true := by decide +kernel
theorem w_tables : (allAtoms (Jvm.Cond.code x code maxLocals ret :: tables_1)).before args0 about1 = true := by
  rw [allAtoms_all]
  show words1.all (fun c => c.before args0 about1) = true
  refine all_split ?_ w_codes
  rw [← List.take_append_drop 24 words1, List.all_append, w_t1, w_t2]
  rfl
set_option maxRecDepth 65536 in
theorem w_case : (Jvm.Cond.and given_1 narrow_1).before args0 about1 = true := by decide +kernel
theorem w_applies : (headSpec (Jvm.Cond.code x code maxLocals ret :: tables_1) room_1).applies x e0.platform about1 = true :=
  (Spec.applies_iff w_frames).mpr ⟨w_running, w_runnable, w_alone, w_named, w_hears, w_ripe, w_room, w_tables⟩
theorem atStart : AtStart classFile x code maxLocals ret World_1 tables_1 room_1 Calls_1 rest_1 Pre_1 launch0 p0 e0 about1 theMethod args0 below0 :=
  ⟨lists_1, trivial, launch0.admits_env _ _ _, launch0.least_env, fairChoices_fair.cas, fairChoices_fair.clock, w_frames, w_args, w_heap, w_applies, trivial, trivial, w_case⟩
end start1
theorem witness_1 : WitnessClaimed_1 := ⟨start1.p0, start1.e0, start1.about1, start1.theMethod, start1.args0, start1.below0, start1.atStart⟩
end Jvm.Pilot.@@N@@
