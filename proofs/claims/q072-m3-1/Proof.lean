import JvmDerived
import JvmDerived.Pilot.@@N@@Statement
import JvmDerived.Pilot.@@N@@Code
set_option linter.unusedVariables false
set_option linter.unusedSimpArgs false
@@BLOCK:NumsL.lean.txt@@
namespace Jvm.Pilot.@@N@@
open Jvm Jvm.ClassFile Sem Op Lib Jvm.Free Jvm.Stand Jvm.LawKit Jvm.RoadKit Bundle Jvm.Pilot.@@N@@.Jvm.D

section Own
variable {p : Program} {l : Launch} {e : Env} {R : Room} {s : State} {m : MethodId} {args : Array Value} {below : List Frame} {meth : Method} {c : Code} {S0 : State} {n0 : Nat} {h h' : Heap} {ce sl ce' sl' : Nat} {f f' : JFrame} {Z : State} {a0 : Array Value}
/-- the walk stands at the frame f over the heap h; it has made ce cells and sl slots; what it wrote lies at or above n0 -/
def own_R (p : Program) (l : Launch) (e : Env) (R : Room) (s : State) (m : MethodId) (args : Array Value) (below : List Frame) (meth : Method) (c : Code) (S0 : State) (n0 : Nat) (h : Heap) (ce sl : Nat) (f : JFrame) : Prop :=
  ∃ T L, Stand p l e R s m args below meth c T L ce sl ∧ T.heap = h ∧ Fr n0 L ∧ Steps p.tables e below S0 (T.setTop f)
/-- the walk has returned, and Q holds of what it returned and of the heap -/
def own_E (p : Program) (e : Env) (R : Room) (s : State) (below : List Frame) (S0 : State) (n0 : Nat) (Q : Option Value → Heap → Prop) : Prop :=
  ∃ s₂ v L, Steps p.tables e below S0 s₂ ∧ s₂.status = .running ∧ Ended s₂ below (.returned v) ∧ (Q v s₂.heap ∧ Fr n0 L) ∧ FrameEnd s (.returned v) s₂ L R.cells R.slots
/-- a body's contract -/
def own_M (l : Launch) (Z : State) (y : MethodName) (bytes : ByteArray) (maxL : Nat) (ret : Option FieldType) (ws : List Cond) (rm : Room) (as : Array Value) (h0 : Heap) (n0 : Nat) (Q : Option Value → Heap → Prop) : Prop :=
  MetFree l y (head1 (Cond.code y bytes maxL ret :: ws) rm) (fun a U => a = as ∧ Z.Warmed39 U.vm ∧ U.heap = h0) (fun _ _ _ _ _ => True) (fun _ U o U' => ∃ v L, o = .returned v ∧ (Q v U'.heap ∧ Fr n0 L) ∧ FrameEnd U o U' L rm.cells rm.slots)
theorem own_M.of {y : MethodName} {bytes : ByteArray} {maxL : Nat} {ret : Option FieldType} {ws : List Cond} {rm : Room} {as : Array Value} {h0 : Heap} {Q : Option Value → Heap → Prop} (pn : plainFor y = true)
    (body : ∀ (p : Program) (e : Env) (s : State) (m : MethodId) (below : List Frame) (meth : Method) (c : Code) (S0 : State), p.tables.exec = Jvm.exec → c.code = bytes → c.maxLocals = maxL → s.vm.findClass y.cls = some m.cls → meth.name = y.name → meth.sig.returnType = ret → meth.locks = false → Z.Warmed39 s.vm →
      own_R p l e rm s m as below meth c S0 n0 h0 0 0 (entryFrame m as maxL) → own_E p e rm s below S0 n0 Q) :
    own_M l Z y bytes maxL ret ws rm as h0 n0 Q := by
  refine MetFree.of_bodySF pn hisR ?_
  intro p e s m args below meth c s₁ Bd hml0 hP hK
  obtain ⟨rfl, hZ, hh⟩ := hP
  have e0 : s₁.heap = h0 := by rw [← hh, Bd.state]; rfl
  obtain ⟨s₂, v, L, k, hrun, hend, hq, hF⟩ := body p e s m below meth c _ Bd.exec Bd.bytes hml0 (findClass_of_methodNamed Bd.named) (name_of_methodNamed Bd.named Bd.method).1 Bd.returns Bd.notSynchronized hZ ⟨s₁, [], Stand.of_body Bd, e0, Fr.nil n0, Steps.refl _⟩
  exact ⟨s₂, _, k, hrun, hend, v, L, rfl, hq, hF⟩
theorem own_R.cast (A : own_R p l e R s m args below meth c S0 n0 h ce sl f) (q : f = f') : own_R p l e R s m args below meth c S0 n0 h ce sl f' := q ▸ A
theorem own_R.go (A : own_R p l e R s m args below meth c S0 n0 h ce sl f)
    (st : ∀ T L, Stand p l e R s m args below meth c T L ce sl → ∀ target, Steps p.tables e below (T.setTop f') target → Steps p.tables e below (T.setTop f) target) :
    own_R p l e R s m args below meth c S0 n0 h ce sl f' := by
  obtain ⟨T, L, X, eT, N, k⟩ := A
  exact ⟨T, L, X, eT, N, k.trans (st T L X _ (Steps.refl _))⟩
theorem own_R.law (A : own_R p l e R s m args below meth c S0 n0 h ce sl f)
    (st : ∀ T L, Stand p l e R s m args below meth c T L ce sl → T.heap = h → Fr n0 L → ∃ T' L', Stand p l e R s m args below meth c T' L' ce' sl' ∧ T'.heap = h' ∧ Fr n0 L' ∧ ∀ target, Steps p.tables e below (T'.setTop f') target → Steps p.tables e below (T.setTop f) target) :
    own_R p l e R s m args below meth c S0 n0 h' ce' sl' f' := by
  obtain ⟨T, L, X, eT, N, k⟩ := A
  obtain ⟨T', L', X', e', N', k'⟩ := st T L X eT N
  exact ⟨T', L', X', e', N', k.trans (k' _ (Steps.refl _))⟩
theorem own_R.getF {pc : Nat} {Ls : Array Slot} {rest : List Value} {a : Addr} {v : Value} {own R0 O n d : String} {index : Nat}
    (A : own_R p l e R s m args below meth c S0 n0 h ce sl (mkF m pc Ls (.ref a :: rest))) (hx : p.tables.exec = Jvm.exec) (hZ : Z.Warmed39 s.vm) (hown : s.vm.findClass own = some m.cls)
    (hd : decode c.code pc = .ok (.getfield index, 3)) (w : (Cond.fieldLink own index R0 n d).before a0 Z = true) (via : Via Z R0 O n d) (F : Fld Z h a O n d v) :
    own_R p l e R s m args below meth c S0 n0 h ce sl (mkF m (pc + 3) Ls (v :: rest)) := A.law fun T L X eT N => by
  obtain ⟨T', X', e', st⟩ := RoadKit.getF X hx hZ hown (host := "") (Or.inl w) via eT F (g := mkF m pc Ls (.ref a :: rest)) rfl rfl hd
  exact ⟨T', L, X', e', N, st⟩
theorem own_R.getS {pc : Nat} {Ls : Array Slot} {st : List Value} {v : Value} {own R0 O n d : String} {index : Nat}
    (A : own_R p l e R s m args below meth c S0 n0 h ce sl (mkF m pc Ls st)) (hx : p.tables.exec = Jvm.exec) (hZ : Z.Warmed39 s.vm) (hown : s.vm.findClass own = some m.cls)
    (hd : decode c.code pc = .ok (.getstatic index, 3)) (w : (Cond.fieldLink own index R0 n d).before a0 Z = true) (via : Via Z R0 O n d) (F : Sta Z h O n d v) :
    own_R p l e R s m args below meth c S0 n0 h ce sl (mkF m (pc + 3) Ls (v :: st)) := A.law fun T L X eT N => by
  obtain ⟨T', X', e', k⟩ := RoadKit.getS X hx hZ hown (host := "") w via eT F (g := mkF m pc Ls st) rfl hd
  exact ⟨T', L, X', e', N, k⟩
theorem own_R.ldcI {pc : Nat} {Ls : Array Slot} {st : List Value} {v : Int32} {own : String} {index : Nat}
    (A : own_R p l e R s m args below meth c S0 n0 h ce sl (mkF m pc Ls st)) (hx : p.tables.exec = Jvm.exec) (hZ : Z.Warmed39 s.vm) (hown : s.vm.findClass own = some m.cls)
    (hd : decode c.code pc = .ok (.ldc index, 2)) (w : (Cond.constant own index v).before a0 Z = true) :
    own_R p l e R s m args below meth c S0 n0 h ce sl (mkF m (pc + 2) Ls (.int v :: st)) := A.go fun T L X t k =>
  X.ldcInt hx hown (mvT hZ w) (g := mkF m pc Ls st) rfl hd t k
theorem own_R.ldcL {pc : Nat} {Ls : Array Slot} {st : List Value} {v : Int64} {own : String} {index : Nat}
    (A : own_R p l e R s m args below meth c S0 n0 h ce sl (mkF m pc Ls st)) (hx : p.tables.exec = Jvm.exec) (hZ : Z.Warmed39 s.vm) (hown : s.vm.findClass own = some m.cls)
    (hd : decode c.code pc = .ok (.ldc2_w index, 3)) (w : (Cond.constantLong own index v).before a0 Z = true) :
    own_R p l e R s m args below meth c S0 n0 h ce sl (mkF m (pc + 3) Ls (.long v :: st)) := A.go fun T L X t k =>
  X.ldc2Long hx hown (mvT hZ w) (g := mkF m pc Ls st) rfl hd t k
theorem own_R.ldcD {pc : Nat} {Ls : Array Slot} {st : List Value} {v : UInt64} {own : String} {index : Nat}
    (A : own_R p l e R s m args below meth c S0 n0 h ce sl (mkF m pc Ls st)) (hx : p.tables.exec = Jvm.exec) (hZ : Z.Warmed39 s.vm) (hown : s.vm.findClass own = some m.cls)
    (hd : decode c.code pc = .ok (.ldc2_w index, 3)) (w : (Cond.constantDouble own index v).before a0 Z = true) :
    own_R p l e R s m args below meth c S0 n0 h ce sl (mkF m (pc + 3) Ls (.double v :: st)) := A.go fun T L X t k =>
  X.ldc2DoubleC hx hown (mvT hZ w) (g := mkF m pc Ls st) rfl hd t k
theorem own_R.callS {pc : Nat} {Ls : Array Slot} {st : List Value} {own : String} {index W : Nat} {y : MethodName} {bytes : ByteArray} {maxL : Nat} {ret : Option FieldType} {rm : Room} {as : Array Value} {Q : Option Value → Heap → Prop} {argsL rest : List Value}
    (A : own_R p l e R s m args below meth c S0 n0 h ce sl (mkF m pc Ls st)) (M : own_M l Z y bytes maxL ret [] rm as h n0 Q) (hx : p.tables.exec = Jvm.exec) (hZ : Z.Warmed39 s.vm) (hown : s.vm.findClass own = some m.cls)
    (hd : decode c.code pc = .ok (.invokestatic index, 3)) (w1 : (Cond.methodLink own index y).before a0 Z = true) (w2 : (Cond.static y).before a0 Z = true) (w3 : (Cond.initialized y.cls).before a0 Z = true) (w4 : (Cond.code y bytes maxL ret).before a0 Z = true)
    (hy : y.cls ≠ "java/lang/invoke/MethodHandle" ∧ y.cls ≠ "java/lang/invoke/VarHandle") (hlen : ∀ sig, parseMethodDescriptor y.desc = some sig → argsL.length = sig.parameters.length) (hst : st = argsL.reverse ++ rest) (has : argsL.toArray = as)
    (hsz : Ls.size = c.maxLocals) (hW : (rest.map fun v => v.category).sum ≤ W) (hf : rm.frames + 1 ≤ R.frames) (hl : W + (maxL + 11) + rm.locals ≤ R.locals) (hc : ce + rm.cells ≤ R.cells) (hs : sl + rm.slots ≤ R.slots) :
    ∃ v h', Q v h' ∧ own_R p l e R s m args below meth c S0 n0 h' (ce + rm.cells) (sl + rm.slots) (mkF m (pc + 3) Ls (v.toList ++ rest)) := by
  obtain ⟨T, L, X, eT, N, k⟩ := A
  obtain ⟨v, vm₁, ⟨T', L', k', n'⟩, -, X', ⟨Lc, hQ, l1, l2, l3⟩, sT⟩ := Jvm.LawKit.callS X hx (y := y) hown (mvT hZ w1) (mvT hZ w2) (mvT hZ w3) (mvT hZ w4) hy (backOf (W := W) (Q := fun v h' L => Q v h' ∧ Fr n0 L) M hZ w4 w3 hf hl) (g := mkF m pc Ls st) rfl hsz (argsL := argsL) (rest := rest) hlen hst (by show 2 * 0 + _ ≤ _; omega) hd (fun _ _ => ⟨has, eT, hc, hs⟩)
  dsimp only [Pt.U, Pt.locs, Pt.cells, Pt.slots] at X' l1 l2 l3 sT hQ
  subst l1 l2 l3
  exact ⟨v, _, hQ.1, T', _, X', rfl, Fr.app N hQ.2, k.trans (sT _ (Steps.refl _))⟩
theorem own_R.callV {pc : Nat} {Ls : Array Slot} {st : List Value} {own C : String} {index W : Nat} {y z : MethodName} {bytes : ByteArray} {maxL : Nat} {ret : Option FieldType} {rm : Room} {as : Array Value} {Q : Option Value → Heap → Prop} {b : Addr} {argsL rest : List Value}
    (A : own_R p l e R s m args below meth c S0 n0 h ce sl (mkF m pc Ls st)) (M : own_M l Z z bytes maxL ret [] rm as h n0 Q) (E : Exa Z h b C) (hx : p.tables.exec = Jvm.exec) (hZ : Z.Warmed39 s.vm) (hown : s.vm.findClass own = some m.cls)
    (hd : decode c.code pc = .ok (.invokevirtual index, 3)) (w1 : (Cond.methodLink own index y).before a0 Z = true) (w2 : (Cond.declares y).before a0 Z = true) (w3 : (Cond.selects C y z).before a0 Z = true) (w4 : (Cond.instanceMethod z).before a0 Z = true) (w5 : (Cond.code z bytes maxL ret).before a0 Z = true) (w6 : (Cond.initialized z.cls).before a0 Z = true) (hnf : ∀ s' : State, Z.Warmed39 s'.vm → NotFace s' y)
    (hy : y.cls ≠ "java/lang/invoke/MethodHandle" ∧ y.cls ≠ "java/lang/invoke/VarHandle") (hlen : ∀ sig, parseMethodDescriptor y.desc = some sig → argsL.length = sig.parameters.length) (hst : st = argsL.reverse ++ .ref b :: rest) (has : (Value.ref b :: argsL).toArray = as)
    (hsz : Ls.size = c.maxLocals) (hW : (rest.map fun v => v.category).sum ≤ W) (hf : rm.frames + 1 ≤ R.frames) (hl : W + (maxL + 11) + rm.locals ≤ R.locals) (hc : ce + rm.cells ≤ R.cells) (hs : sl + rm.slots ≤ R.slots) :
    ∃ v h', Q v h' ∧ own_R p l e R s m args below meth c S0 n0 h' (ce + rm.cells) (sl + rm.slots) (mkF m (pc + 3) Ls (v.toList ++ rest)) := by
  obtain ⟨T, L, X, eT, N, k⟩ := A
  obtain ⟨cq, kq, qa, qb, qc⟩ := isOf hZ eT E
  obtain ⟨v, vm₁, ⟨T', L', k', n'⟩, -, X', ⟨Lc, hQ, l1, l2, l3⟩, sT⟩ := X.virtualBack hx (y := y) (z := z) hown (mvT hZ w1) (mvT hZ w2) (hnf s hZ) (mvT hZ w3) (mvT hZ w4) hy (backOf (W := W) (Q := fun v h' L => Q v h' ∧ Fr n0 L) M hZ w5 w6 hf hl) qa qc (g := mkF m pc Ls st) rfl hsz (Steps.refl _) (argsL := argsL) (rest := rest) hlen hst (by show 2 * 0 + _ ≤ _; omega) hd (fun _ _ => ⟨has, eT, hc, hs⟩)
  dsimp only [Pt.U, Pt.locs, Pt.cells, Pt.slots] at X' l1 l2 l3 sT hQ
  subst l1 l2 l3
  exact ⟨v, _, hQ.1, T', _, X', rfl, Fr.app N hQ.2, k.trans sT⟩
theorem own_R.callI {pc : Nat} {Ls : Array Slot} {st : List Value} {own : String} {index W : Nat} {y : MethodName} {bytes : ByteArray} {maxL : Nat} {rm : Room} {as : Array Value} {Q : Option Value → Heap → Prop} {b : Addr} {argsL rest : List Value}
    (A : own_R p l e R s m args below meth c S0 n0 h ce sl (mkF m pc Ls st)) (M : own_M l Z y bytes maxL none [] rm as h n0 Q) (hx : p.tables.exec = Jvm.exec) (hZ : Z.Warmed39 s.vm) (hown : s.vm.findClass own = some m.cls)
    (hd : decode c.code pc = .ok (.invokespecial index, 3)) (hy1 : y.name = "<init>") (w1 : (Cond.methodLink own index y).before a0 Z = true) (w2 : (Cond.instanceMethod y).before a0 Z = true) (w3 : (Cond.code y bytes maxL none).before a0 Z = true) (w4 : (Cond.initialized y.cls).before a0 Z = true)
    (hy : y.cls ≠ "java/lang/invoke/MethodHandle" ∧ y.cls ≠ "java/lang/invoke/VarHandle") (hlen : ∀ sig, parseMethodDescriptor y.desc = some sig → argsL.length = sig.parameters.length) (hst : st = argsL.reverse ++ .ref b :: rest) (has : (Value.ref b :: argsL).toArray = as)
    (hsz : Ls.size = c.maxLocals) (hW : (rest.map fun v => v.category).sum ≤ W) (hf : rm.frames + 1 ≤ R.frames) (hl : W + (maxL + 11) + rm.locals ≤ R.locals) (hc : ce + rm.cells ≤ R.cells) (hs : sl + rm.slots ≤ R.slots) :
    ∃ v h', Q v h' ∧ own_R p l e R s m args below meth c S0 n0 h' (ce + rm.cells) (sl + rm.slots) (mkF m (pc + 3) Ls (v.toList ++ rest)) := by
  obtain ⟨T, L, X, eT, N, k⟩ := A
  obtain ⟨v, vm₁, ⟨T', L', k', n'⟩, -, X', ⟨Lc, hQ, l1, l2, l3⟩, sT⟩ := X.specialBack hx (y := y) hy1 hown (mvT hZ w1) (mvT hZ w2) (mvT hZ w3) hy (backOf (W := W) (Q := fun v h' L => Q v h' ∧ Fr n0 L) M hZ w3 w4 hf hl) (g := mkF m pc Ls st) rfl hsz (Steps.refl _) (a := b) (argsL := argsL) (rest := rest) hlen hst (by show 2 * 0 + _ ≤ _; omega) hd (fun _ _ => ⟨has, eT, hc, hs⟩)
  dsimp only [Pt.U, Pt.locs, Pt.cells, Pt.slots] at X' l1 l2 l3 sT hQ
  subst l1 l2 l3
  exact ⟨v, _, hQ.1, T', _, X', rfl, Fr.app N hQ.2, k.trans sT⟩
theorem own_R.ret {pc : Nat} {Ls : Array Slot} {rest : List Value} {w : Value} {t : FieldType} {i : Instr} {Q : Option Value → Heap → Prop}
    (A : own_R p l e R s m args below meth c S0 n0 h ce sl (mkF m pc Ls (w :: rest))) (hx : p.tables.exec = Jvm.exec) (hlk : meth.locks = false) (hret : meth.sig.returnType = some t) (hd : decode c.code pc = .ok (i, 1)) (hn : narrow t w = w)
    (hi : (i = .ireturn ∧ (t = .int ∨ t = .boolean ∨ t = .byte ∨ t = .char ∨ t = .short) ∧ ∃ z, w = .int z) ∨ (i = .lreturn ∧ t = .long ∧ ∃ z, w = .long z) ∨ (i = .dreturn ∧ t = .double ∧ ∃ z, w = .double z) ∨ (i = .freturn ∧ t = .float ∧ ∃ z, w = .float z) ∨ (i = .areturn ∧ t.isReference = true ∧ w.isRef = true))
    (hc : ce ≤ R.cells) (hs : sl ≤ R.slots) (q : Q (some w) h) : own_E p e R s below S0 n0 Q := by
  obtain ⟨T, L, X, eT, N, k⟩ := A
  obtain ⟨fs, hr, hrun, hended, hW, hsame⟩ := X.leave (v := some w) (fun h => by rw [hret] at h; cases h) hlk
  refine ⟨_, _, _, k.trans (retOut X hx hret hn hi hd hr), hrun, hended, ⟨?_, N⟩, ⟨_, rfl⟩, hW, hsame.mono hc hs⟩
  show Q _ T.heap
  rw [eT]; exact q
theorem own_R.retV {pc : Nat} {Ls : Array Slot} {Q : Option Value → Heap → Prop}
    (A : own_R p l e R s m args below meth c S0 n0 h ce sl (mkF m pc Ls [])) (hx : p.tables.exec = Jvm.exec) (hlk : meth.locks = false) (hret : meth.sig.returnType = none) (hd : decode c.code pc = .ok (.return_, 1))
    (hc : ce ≤ R.cells) (hs : sl ≤ R.slots) (q : Q none h) : own_E p e R s below S0 n0 Q := by
  obtain ⟨T, L, X, eT, N, k⟩ := A
  obtain ⟨fs, hr, hrun, hended, hW, hsame⟩ := X.leave (v := none) (fun _ => rfl) hlk
  refine ⟨_, _, _, k.trans (X.returnOut hx hret hd hr), hrun, hended, ⟨?_, N⟩, ⟨_, rfl⟩, hW, hsame.mono hc hs⟩
  show Q _ T.heap
  rw [eT]; exact q
end Own
section Own2
variable {p : Program} {l : Launch} {e : Env} {R : Room} {s : State} {m : MethodId} {args : Array Value} {below : List Frame} {meth : Method} {c : Code} {S0 : State} {n0 : Nat} {h h' : Heap} {ce sl : Nat} {Z : State} {a0 : Array Value} {pc : Nat} {Ls : Array Slot} {rest : List Value} {a b : Addr} {ty : FieldType} {vs : List Value} {ws : List Addr} {v : Value} {i : Nat}
/-- an array whose components are listed -/
def own_Ar (Z : State) (h : Heap) (a : Addr) (ty : FieldType) (vs : List Value) : Prop := ∃ cl : Cell, Arr Z h a cl ty ∧ cl.slots.toList = vs
theorem own_Ar.ext (F : own_Ar Z h a ty vs) (E : Ext h h') : own_Ar Z h' a ty vs := by obtain ⟨cl, A, q⟩ := F; exact ⟨cl, A.ext E, q⟩
theorem own_Ar.other (F : own_Ar Z h a ty vs) (W : Wr h h' b i v) (q : a ≠ b) : own_Ar Z h' a ty vs := by obtain ⟨cl, A, r⟩ := F; exact ⟨cl, A.other W q, r⟩
theorem own_Ar.same (F : own_Ar Z h a ty vs) (W : Wr h h' a i v) : own_Ar Z h' a ty (vs.set i v) := by
  obtain ⟨cl, A, rfl⟩ := F
  exact ⟨_, A.same W, by simp [Cell.setSlot, Array.toList_setIfInBounds]⟩
theorem own_Ar.keep (F : own_Ar Z h a ty vs) (K : Keep h h' ws) (q : a ∉ ws) : own_Ar Z h' a ty vs := by obtain ⟨cl, A, r⟩ := F; exact ⟨cl, ⟨K.2.1 a cl A.1 q, A.2⟩, r⟩
theorem own_Ar.lt (F : own_Ar Z h a ty vs) : a < h.size := by obtain ⟨cl, A, -⟩ := F; exact A.lt
theorem own_R.newP {n : Int32} {aty : ArrayType} {cap : Nat} (A : own_R p l e R s m args below meth c S0 n0 h ce sl (mkF m pc Ls (.int n :: rest))) (hx : p.tables.exec = Jvm.exec) (hZ : Z.Warmed39 s.vm)
    (hd : decode c.code pc = .ok (.newarray aty, 2)) (w : (Cond.arrayClass (newarray.typeOf aty)).before a0 Z = true) (hn : ¬ n < 0) (hcap : n.toNatClampNeg ≤ cap) (hb : cap * 8 ≤ 536870912) (hc : ce + 1 ≤ R.cells) (hl : sl + cap ≤ R.slots) :
    ∃ h', Ext h h' ∧ own_Ar Z h' h.size (newarray.typeOf aty) (List.replicate n.toNatClampNeg (defaultValue (newarray.typeOf aty))) ∧ own_R p l e R s m args below meth c S0 n0 h' (ce + 1) (sl + cap) (mkF m (pc + 2) Ls (.ref h.size :: rest)) := by
  obtain ⟨T, L, X, eT, N, k⟩ := A
  obtain ⟨T', h', cA, X', e', E, AA, st⟩ := RoadKit.newP X hx hZ w eT (g := mkF m pc Ls (.int n :: rest)) rfl hd rfl hn hcap hb hc hl
  exact ⟨h', E, ⟨_, AA, by simp [newA]⟩, T', L, X', e', N, k.trans (st _ (Steps.refl _))⟩
theorem own_R.newO {own C : String} {index n : Nat} (A : own_R p l e R s m args below meth c S0 n0 h ce sl (mkF m pc Ls rest)) (hx : p.tables.exec = Jvm.exec) (hZ : Z.Warmed39 s.vm) (hown : s.vm.findClass own = some m.cls)
    (hd : decode c.code pc = .ok (.new index, 3)) (w : (Cond.classLink own index C).before a0 Z = true) (wi : (Cond.instantiable C n).before a0 Z = true) (wz : (Cond.initialized C).before a0 Z = true) (hc : ce + 1 ≤ R.cells) (hl : sl + n ≤ R.slots) :
    ∃ h', Ext h h' ∧ Exa Z h' h.size C ∧ (∀ {O nm d : String} {ty : FieldType}, Laid Z a0 C O nm d → parseFieldDescriptor d = some ty → Fld Z h' h.size O nm d (defaultValue ty)) ∧ own_R p l e R s m args below meth c S0 n0 h' (ce + 1) (sl + n) (mkF m (pc + 3) Ls (.ref h.size :: rest)) := by
  obtain ⟨T, L, X, eT, N, k⟩ := A
  obtain ⟨T', h', X', e', E, AA, D, -, st⟩ := RoadKit.newO X hx hZ hown w wi wz eT (g := mkF m pc Ls rest) rfl hd hc hl
  exact ⟨h', E, AA, D, T', L, X', e', N, k.trans (st _ (Steps.refl _))⟩
theorem own_R.putF {own O n d C : String} {index kk : Nat} {v old : Value} (A : own_R p l e R s m args below meth c S0 n0 h ce sl (mkF m pc Ls (v :: .ref a :: rest))) (hx : p.tables.exec = Jvm.exec) (hZ : Z.Warmed39 s.vm) (hown : s.vm.findClass own = some m.cls)
    (hd : decode c.code pc = .ok (.putfield index, 3)) (w : (Cond.fieldLink own index O n d).before a0 Z = true) (F : Fld Z h a O n d old) (E : Exa Z h a C) (L : (Cond.lays C O n d).before a0 Z = true ∨ ((Cond.laysFinal C O n d).before a0 Z = true ∧ own = O ∧ meth.name = "<init>")) (wi : (Cond.instantiable C kk).before a0 Z = true)
    (hty : parseFieldDescriptor d = some ty) (hn : narrow ty v = v) (hf : fits ty v = true) (q : n0 ≤ a) :
    ∃ h', Wr h h' a (RoadKit.slotOf Z O n d) v ∧ own_R p l e R s m args below meth c S0 n0 h' ce sl (mkF m (pc + 3) Ls rest) := by
  obtain ⟨T, Lc, X, eT, N, k⟩ := A
  obtain ⟨T', h', X', e', W, st⟩ := RoadKit.putF X hx hZ hown (host := "") (Or.inl w) Via.refl eT F E L wi hty hn hf (g := mkF m pc Ls (v :: .ref a :: rest)) rfl rfl hd
  exact ⟨h', W, T', _, X', e', Fr.snoc X' N q, k.trans (st _ (Steps.refl _))⟩
theorem own_R.initO {own : String} {idx W : Nat} (A : own_R p l e R s m args below meth c S0 n0 h ce sl (mkF m pc Ls (.ref a :: rest))) (hx : p.tables.exec = Jvm.exec) (hZ : Z.Warmed39 s.vm) (hown : s.vm.findClass own = some m.cls)
    (hd : decode c.code pc = .ok (.invokespecial idx, 3)) (w1 : (Cond.methodLink own idx Lib.objectInit).before a0 Z = true) (w2 : (Cond.instanceMethod Lib.objectInit).before a0 Z = true) (w3 : (Cond.code Lib.objectInit ⟨#[0xb1]⟩ 1 none).before a0 Z = true)
    (hsz : Ls.size = c.maxLocals) (hW : (rest.map fun v => v.category).sum ≤ W) (hf : 1 ≤ R.frames) (hl : W + 12 ≤ R.locals) : own_R p l e R s m args below meth c S0 n0 h ce sl (mkF m (pc + 3) Ls rest) := A.law fun T L X eT N => by
  obtain ⟨T', X', e', st⟩ := RoadKit.initO X hx hZ hown w1 w2 w3 eT (g := mkF m pc Ls (.ref a :: rest)) rfl hsz rfl hd hf (by show 2 * 0 + _ ≤ _; exact (Nat.zero_add _).symm ▸ hW) hl
  exact ⟨T', L, X', e', N, st⟩
theorem own_R.stI {j x : Int32} (A : own_R p l e R s m args below meth c S0 n0 h ce sl (mkF m pc Ls (.int x :: .int j :: .ref a :: rest))) (hx : p.tables.exec = Jvm.exec) (hZ : Z.Warmed39 s.vm)
    (hd : decode c.code pc = .ok (.iastore, 1)) (F : own_Ar Z h a .int vs) (hj : ¬ j < 0) (hi : j.toNatClampNeg < vs.length) (q : n0 ≤ a) :
    ∃ h', Wr h h' a j.toNatClampNeg (.int x) ∧ own_R p l e R s m args below meth c S0 n0 h' ce sl (mkF m (pc + 1) Ls rest) := by
  obtain ⟨cl, F, rfl⟩ := F
  obtain ⟨T, Lc, X, eT, N, k⟩ := A
  obtain ⟨T', h', X', e', W, st⟩ := RoadKit.stI X hx hZ eT F (j := j) (fun z => z.elim hj fun u => by rw [Array.length_toList] at hi; omega) (g := mkF m pc Ls (.int x :: .int j :: .ref a :: rest)) rfl rfl hd
  exact ⟨h', W, T', _, X', e', Fr.snoc X' N q, k.trans (st _ (Steps.refl _))⟩
theorem own_R.stB {j x : Int32} (A : own_R p l e R s m args below meth c S0 n0 h ce sl (mkF m pc Ls (.int x :: .int j :: .ref a :: rest))) (hx : p.tables.exec = Jvm.exec) (hZ : Z.Warmed39 s.vm)
    (hd : decode c.code pc = .ok (.bastore, 1)) (F : own_Ar Z h a .byte vs) (hj : ¬ j < 0) (hi : j.toNatClampNeg < vs.length) (q : n0 ≤ a) :
    ∃ h', Wr h h' a j.toNatClampNeg (.int (nar .byte x)) ∧ own_R p l e R s m args below meth c S0 n0 h' ce sl (mkF m (pc + 1) Ls rest) := by
  obtain ⟨cl, F, rfl⟩ := F
  obtain ⟨T, Lc, X, eT, N, k⟩ := A
  obtain ⟨T', h', X', e', W, st⟩ := RoadKit.stB X hx hZ eT F (j := j) (fun z => z.elim hj fun u => by rw [Array.length_toList] at hi; omega) (g := mkF m pc Ls (.int x :: .int j :: .ref a :: rest)) rfl rfl hd
  exact ⟨h', W, T', _, X', e', Fr.snoc X' N q, k.trans (st _ (Steps.refl _))⟩
theorem own_R.ldI {j : Int32} (A : own_R p l e R s m args below meth c S0 n0 h ce sl (mkF m pc Ls (.int j :: .ref a :: rest))) (hx : p.tables.exec = Jvm.exec) (hZ : Z.Warmed39 s.vm)
    (hd : decode c.code pc = .ok (.iaload, 1)) (F : own_Ar Z h a .int vs) (hj : ¬ j < 0) (hv : vs[j.toNatClampNeg]? = some v) :
    own_R p l e R s m args below meth c S0 n0 h ce sl (mkF m (pc + 1) Ls (v :: rest)) := A.law fun T L X eT N => by
  obtain ⟨cl, F, rfl⟩ := F
  rw [Array.getElem?_toList] at hv
  have hlt := (Array.getElem?_eq_some_iff.mp hv).1
  exact ⟨T, L, X, eT, N, fun t k => X.iaload hx (j := j) (v := v) (by rw [eT]; exact F.1) (State.isArrayOf_alike hZ.alike F.2.1) F.2.2 (fun z => z.elim hj fun u => by omega) hv (g := mkF m pc Ls (.int j :: .ref a :: rest)) rfl rfl hd t k⟩
theorem own_R.ldB {j : Int32} (A : own_R p l e R s m args below meth c S0 n0 h ce sl (mkF m pc Ls (.int j :: .ref a :: rest))) (hx : p.tables.exec = Jvm.exec) (hZ : Z.Warmed39 s.vm)
    (hd : decode c.code pc = .ok (.baload, 1)) (F : own_Ar Z h a .byte vs) (hj : ¬ j < 0) (hv : vs[j.toNatClampNeg]? = some v) :
    own_R p l e R s m args below meth c S0 n0 h ce sl (mkF m (pc + 1) Ls (v :: rest)) := A.law fun T L X eT N => by
  obtain ⟨cl, F, rfl⟩ := F
  rw [Array.getElem?_toList] at hv
  have hlt := (Array.getElem?_eq_some_iff.mp hv).1
  exact ⟨T, L, X, eT, N, fun t k => X.baloadBytes hx (j := j) (v := v) (by rw [eT]; exact F.1) (State.isArrayOf_alike hZ.alike F.2.1) F.2.2 (fun z => z.elim hj fun u => by omega) hv (g := mkF m pc Ls (.int j :: .ref a :: rest)) rfl rfl hd t k⟩
theorem own_R.stD {j : Int32} {x : UInt64} (A : own_R p l e R s m args below meth c S0 n0 h ce sl (mkF m pc Ls (.double x :: .int j :: .ref a :: rest))) (hx : p.tables.exec = Jvm.exec) (hZ : Z.Warmed39 s.vm)
    (hd : decode c.code pc = .ok (.dastore, 1)) (F : own_Ar Z h a .double vs) (hj : ¬ j < 0) (hi : j.toNatClampNeg < vs.length) (q : n0 ≤ a) :
    ∃ h', Wr h h' a j.toNatClampNeg (.double x) ∧ own_R p l e R s m args below meth c S0 n0 h' ce sl (mkF m (pc + 1) Ls rest) := by
  obtain ⟨cl, F, rfl⟩ := F
  obtain ⟨T, Lc, X, eT, N, k⟩ := A
  obtain ⟨T', h', X', e', W, st⟩ := RoadKit.stD X hx hZ eT F (j := j) (fun z => z.elim hj fun u => by rw [Array.length_toList] at hi; omega) (g := mkF m pc Ls (.double x :: .int j :: .ref a :: rest)) rfl rfl hd
  exact ⟨h', W, T', _, X', e', Fr.snoc X' N q, k.trans (st _ (Steps.refl _))⟩
theorem own_R.stC {j : Int32} {x : Int32} (A : own_R p l e R s m args below meth c S0 n0 h ce sl (mkF m pc Ls (.int x :: .int j :: .ref a :: rest))) (hx : p.tables.exec = Jvm.exec) (hZ : Z.Warmed39 s.vm)
    (hd : decode c.code pc = .ok (.castore, 1)) (F : own_Ar Z h a .char vs) (hj : ¬ j < 0) (hi : j.toNatClampNeg < vs.length) (q : n0 ≤ a) :
    ∃ h', Wr h h' a j.toNatClampNeg (.int (nar .char x)) ∧ own_R p l e R s m args below meth c S0 n0 h' ce sl (mkF m (pc + 1) Ls rest) := by
  obtain ⟨cl, F, rfl⟩ := F
  obtain ⟨T, Lc, X, eT, N, k⟩ := A
  obtain ⟨T', h', X', e', W, st⟩ := RoadKit.stC X hx hZ eT F (j := j) (fun z => z.elim hj fun u => by rw [Array.length_toList] at hi; omega) (g := mkF m pc Ls (.int x :: .int j :: .ref a :: rest)) rfl rfl hd
  exact ⟨h', W, T', _, X', e', Fr.snoc X' N q, k.trans (st _ (Steps.refl _))⟩
theorem own_R.stL {j : Int32} {x : Int64} (A : own_R p l e R s m args below meth c S0 n0 h ce sl (mkF m pc Ls (.long x :: .int j :: .ref a :: rest))) (hx : p.tables.exec = Jvm.exec) (hZ : Z.Warmed39 s.vm)
    (hd : decode c.code pc = .ok (.lastore, 1)) (F : own_Ar Z h a .long vs) (hj : ¬ j < 0) (hi : j.toNatClampNeg < vs.length) (q : n0 ≤ a) :
    ∃ h', Wr h h' a j.toNatClampNeg (.long x) ∧ own_R p l e R s m args below meth c S0 n0 h' ce sl (mkF m (pc + 1) Ls rest) := by
  obtain ⟨cl, F, rfl⟩ := F
  obtain ⟨T, Lc, X, eT, N, k⟩ := A
  obtain ⟨T', h', X', e', W, st⟩ := RoadKit.stJ X hx hZ eT F (j := j) (fun z => z.elim hj fun u => by rw [Array.length_toList] at hi; omega) (g := mkF m pc Ls (.long x :: .int j :: .ref a :: rest)) rfl rfl hd
  exact ⟨h', W, T', _, X', e', Fr.snoc X' N q, k.trans (st _ (Steps.refl _))⟩
theorem own_R.ldD {j : Int32} (A : own_R p l e R s m args below meth c S0 n0 h ce sl (mkF m pc Ls (.int j :: .ref a :: rest))) (hx : p.tables.exec = Jvm.exec) (hZ : Z.Warmed39 s.vm)
    (hd : decode c.code pc = .ok (.daload, 1)) (F : own_Ar Z h a .double vs) (hj : ¬ j < 0) (hv : vs[j.toNatClampNeg]? = some v) :
    own_R p l e R s m args below meth c S0 n0 h ce sl (mkF m (pc + 1) Ls (v :: rest)) := A.law fun T L X eT N => by
  obtain ⟨cl, F, rfl⟩ := F
  rw [Array.getElem?_toList] at hv
  have hlt := (Array.getElem?_eq_some_iff.mp hv).1
  exact ⟨T, L, X, eT, N, fun t k => X.daload hx (j := j) (v := v) (by rw [eT]; exact F.1) (State.isArrayOf_alike hZ.alike F.2.1) F.2.2 (fun z => z.elim hj fun u => by omega) hv (g := mkF m pc Ls (.int j :: .ref a :: rest)) rfl rfl hd t k⟩
theorem own_R.ldC {j : Int32} (A : own_R p l e R s m args below meth c S0 n0 h ce sl (mkF m pc Ls (.int j :: .ref a :: rest))) (hx : p.tables.exec = Jvm.exec) (hZ : Z.Warmed39 s.vm)
    (hd : decode c.code pc = .ok (.caload, 1)) (F : own_Ar Z h a .char vs) (hj : ¬ j < 0) (hv : vs[j.toNatClampNeg]? = some v) :
    own_R p l e R s m args below meth c S0 n0 h ce sl (mkF m (pc + 1) Ls (v :: rest)) := A.law fun T L X eT N => by
  obtain ⟨cl, F, rfl⟩ := F
  rw [Array.getElem?_toList] at hv
  have hlt := (Array.getElem?_eq_some_iff.mp hv).1
  exact ⟨T, L, X, eT, N, fun t k => X.caload hx (j := j) (v := v) (by rw [eT]; exact F.1) (State.isArrayOf_alike hZ.alike F.2.1) F.2.2 (fun z => z.elim hj fun u => by omega) hv (g := mkF m pc Ls (.int j :: .ref a :: rest)) rfl rfl hd t k⟩
theorem own_R.ldL {j : Int32} (A : own_R p l e R s m args below meth c S0 n0 h ce sl (mkF m pc Ls (.int j :: .ref a :: rest))) (hx : p.tables.exec = Jvm.exec) (hZ : Z.Warmed39 s.vm)
    (hd : decode c.code pc = .ok (.laload, 1)) (F : own_Ar Z h a .long vs) (hj : ¬ j < 0) (hv : vs[j.toNatClampNeg]? = some v) :
    own_R p l e R s m args below meth c S0 n0 h ce sl (mkF m (pc + 1) Ls (v :: rest)) := A.law fun T L X eT N => by
  obtain ⟨cl, F, rfl⟩ := F
  rw [Array.getElem?_toList] at hv
  have hlt := (Array.getElem?_eq_some_iff.mp hv).1
  exact ⟨T, L, X, eT, N, fun t k => X.laload hx (j := j) (v := v) (by rw [eT]; exact F.1) (State.isArrayOf_alike hZ.alike F.2.1) F.2.2 (fun z => z.elim hj fun u => by omega) hv (g := mkF m pc Ls (.int j :: .ref a :: rest)) rfl rfl hd t k⟩
theorem own_R.len (A : own_R p l e R s m args below meth c S0 n0 h ce sl (mkF m pc Ls (.ref a :: rest))) (hx : p.tables.exec = Jvm.exec) (hZ : Z.Warmed39 s.vm)
    (hd : decode c.code pc = .ok (.arraylength, 1)) (F : own_Ar Z h a ty vs) :
    own_R p l e R s m args below meth c S0 n0 h ce sl (mkF m (pc + 1) Ls (.int vs.length.toInt32 :: rest)) := A.law fun T L X eT N => by
  obtain ⟨cl, F, rfl⟩ := F
  exact ⟨T, L, X, eT, N, fun t k => X.arraylength hx (by rw [eT]; exact F.1) (State.isArrayOf_alike hZ.alike F.2.1) (g := mkF m pc Ls (.ref a :: rest)) rfl rfl hd t (by rw [Array.length_toList] at k; exact k)⟩
end Own2
section Own2b
variable {p : Program} {l : Launch} {e : Env} {R : Room} {s : State} {m : MethodId} {args : Array Value} {below : List Frame} {meth : Method} {c : Code} {S0 : State} {n0 : Nat} {h h' : Heap} {ce sl : Nat} {Z : State} {a0 : Array Value} {pc : Nat} {Ls : Array Slot} {rest : List Value} {a : Addr}
theorem own_R.instY {own K : String} {index : Nat} (A : own_R p l e R s m args below meth c S0 n0 h ce sl (mkF m pc Ls (.ref a :: rest))) (hx : p.tables.exec = Jvm.exec) (hZ : Z.Warmed39 s.vm) (hown : s.vm.findClass own = some m.cls)
    (hd : decode c.code pc = .ok (.instanceof index, 3)) (w : (Cond.classLink own index K).before a0 Z = true) (F : Ins Z h a K true) : own_R p l e R s m args below meth c S0 n0 h ce sl (mkF m (pc + 3) Ls (.int 1 :: rest)) := A.law fun T L X eT N => by
  obtain ⟨T', X', e', st⟩ := RoadKit.instY X hx hZ hown w eT F (g := mkF m pc Ls (.ref a :: rest)) rfl rfl hd
  exact ⟨T', L, X', e', N, st⟩
theorem own_R.castY {own K : String} {index : Nat} (A : own_R p l e R s m args below meth c S0 n0 h ce sl (mkF m pc Ls (.ref a :: rest))) (hx : p.tables.exec = Jvm.exec) (hZ : Z.Warmed39 s.vm) (hown : s.vm.findClass own = some m.cls)
    (hd : decode c.code pc = .ok (.checkcast index, 3)) (w : (Cond.classLink own index K).before a0 Z = true) (F : Ins Z h a K true) : own_R p l e R s m args below meth c S0 n0 h ce sl (mkF m (pc + 3) Ls (.ref a :: rest)) := A.law fun T L X eT N => by
  obtain ⟨T', X', e', st⟩ := RoadKit.castY X hx hZ hown w eT F (g := mkF m pc Ls (.ref a :: rest)) rfl rfl hd
  exact ⟨T', L, X', e', N, st⟩
theorem own_eqI {args : Array Value} {t : Term} {k : Int32} (h : (Cond.eq t (.int k)).value args Z none Z [] = some true) : t.eval args Z none [] Z = some (.int k) := by
  simp only [Cond.value, Term.int_eval] at h
  cases hv : t.eval args Z none [] Z with
  | none => rw [hv] at h; cases h
  | some w =>
    rw [hv] at h
    cases w <;> simp at h
    rw [h]
theorem own_Ar.start3 {args : Array Value} {t : Term} {x y z : Int32} (ev : t.eval args Z none [] Z = some (.ref a)) (hA : (Cond.arrayOf t .byte).value args Z none Z [] = some true) (hL : (Cond.eq (.length t) (.int 3)).value args Z none Z [] = some true)
    (h0 : (Cond.eq (.elem t (.int 0)) (.int x)).value args Z none Z [] = some true) (h1 : (Cond.eq (.elem t (.int 1)) (.int y)).value args Z none Z [] = some true) (h2 : (Cond.eq (.elem t (.int 2)) (.int z)).value args Z none Z [] = some true) : own_Ar Z Z.heap a .byte [.int x, .int y, .int z] := by
  obtain ⟨cl, A⟩ := Arr.start ev hA
  have e0 := (elem_in (own_eqI h0) ev (Term.int_eval _) A.1).2
  have e1 := (elem_in (own_eqI h1) ev (Term.int_eval _) A.1).2
  have e2 := (elem_in (own_eqI h2) ev (Term.int_eval _) A.1).2
  have q0 : (0 : Int32).toNatClampNeg = 0 := by decide
  have q1 : (1 : Int32).toNatClampNeg = 1 := by decide
  have q2 : (2 : Int32).toNatClampNeg = 2 := by decide
  rw [q0] at e0
  rw [q1] at e1
  rw [q2] at e2
  have ha : Z.arrayAt? a = some cl := Arr.fin (U := Z) (State.Warmed39.refl Z).alike A
  have hl := own_eqI hL
  simp only [Term.eval, ev, ha, Option.bind_eq_bind, Option.bind_some, Option.pure_def] at hl
  have hsz : cl.slots.size = 3 := by
    split at hl
    · rename_i hlt
      have e3 : cl.slots.size.toInt32 = 3 := by simpa using hl
      have e4 := len_toInt hlt
      rw [e3] at e4
      have e5 : (3 : Int32).toInt = 3 := by decide
      omega
    · cases hl
  refine ⟨cl, A, ?_⟩
  apply List.ext_getElem?
  intro i
  rw [Array.getElem?_toList]
  match i with
  | 0 => exact e0
  | 1 => exact e1
  | 2 => exact e2
  | n + 3 => rw [Array.getElem?_eq_none (by omega)]; rfl
end Own2b

theorem d1_0 : decode prog_34_method_1_code 0 = .ok (.aload_n 0, 1) := by decide +kernel
theorem d1_1 : decode prog_34_method_1_code 1 = .ok (.invokespecial 1, 3) := by decide +kernel
theorem d1_4 : decode prog_34_method_1_code 4 = .ok (.aload_n 0, 1) := by decide +kernel
theorem d1_5 : decode prog_34_method_1_code 5 = .ok (.aload_n 1, 1) := by decide +kernel
theorem d1_6 : decode prog_34_method_1_code 6 = .ok (.putfield 7, 3) := by decide +kernel
theorem d1_9 : decode prog_34_method_1_code 9 = .ok (.aload_n 0, 1) := by decide +kernel
theorem d1_10 : decode prog_34_method_1_code 10 = .ok (.aload_n 2, 1) := by decide +kernel
theorem d1_11 : decode prog_34_method_1_code 11 = .ok (.putfield 13, 3) := by decide +kernel
theorem d1_14 : decode prog_34_method_1_code 14 = .ok (.return_, 1) := by decide +kernel
theorem ef1 (m : MethodId) (a1 : Addr) (a2 : Addr) (a3 : Addr) : entryFrame m #[(.ref a1), (.ref a2), (.ref a3)] 3 = mkF m 0 #[.val (.ref a1), .val (.ref a2), .val (.ref a3)] [] := by first | (simp [entryFrame, mkF, argsToLocals, Value.category, maxLocals]; done) | rfl
set_option maxRecDepth 65536 in
set_option maxHeartbeats 40000000 in
theorem own_init (l : Launch) (Z : State) (a0 : Array Value) (hw : ∀ d ∈ tables_1, d.before a0 Z = true) (a1 a2 a3 : Addr) (h0 : Heap) (n0 : Nat) (Z0 : n0 ≤ h0.size) (E_a1 : Exa Z h0 a1 "com/example/shardrule/shardrule/csv/CsvRecord") (F_a1_bytes : Fld Z h0 a1 "com/example/shardrule/shardrule/csv/CsvRecord" "bytes" "[B" .null) (F_a1_ends : Fld Z h0 a1 "com/example/shardrule/shardrule/csv/CsvRecord" "ends" "[I" .null) (g_a1 : n0 ≤ a1) :
    own_M l Z (⟨"com/example/shardrule/shardrule/csv/CsvRecord", "<init>", "([B[I)V"⟩ : MethodName) prog_34_method_1_code 3 none [] ({ frames := 1, cells := 0, slots := 0, locals := 12 } : Room) #[(.ref a1), (.ref a2), (.ref a3)] h0 n0 (fun v h => v = none ∧ Keep h0 h [a1] ∧ Fld Z h a1 "com/example/shardrule/shardrule/csv/CsvRecord" "ends" "[I" (.ref a3)) := by
  refine own_M.of (plainFor_of_name (by first | (simp [plainName, overriddenIn]; done) | decide +kernel)) ?_
  intro p e s m below meth c S0 hx hby hml hown hnm hret hlk hZ A00
  have A0 := A00.cast (ef1 m a1 a2 a3)
  have KK := Keep.refl h0 [a1]
  have A1 := A0.go (f' := mkF m 1 #[.val (.ref a1), .val (.ref a2), .val (.ref a3)] [(.ref a1)]) fun _ _ X _ k => XS.aloadN X.here hx rfl (hb hby d1_0) rfl rfl k
  have A2 : own_R p l e _ _ m _ below meth c S0 n0 h0 0 0 (mkF m 4 #[.val (.ref a1), .val (.ref a2), .val (.ref a3)] []) := A1.initO hx hZ hown (hb hby d1_1) (hw _ (List.mem_of_getElem? (i := 8) rfl)) (hw _ (List.mem_of_getElem? (i := 9) rfl)) (hw _ (List.mem_of_getElem? (i := 10) rfl)) (by rw [hml]; rfl) (W := 0) (Nat.le_of_eq rfl) (by decide) (by decide)
  have A3 := A2.go (f' := mkF m 5 #[.val (.ref a1), .val (.ref a2), .val (.ref a3)] [(.ref a1)]) fun _ _ X _ k => XS.aloadN X.here hx rfl (hb hby d1_4) rfl rfl k
  have A4 := A3.go (f' := mkF m 6 #[.val (.ref a1), .val (.ref a2), .val (.ref a3)] [(.ref a2), (.ref a1)]) fun _ _ X _ k => XS.aloadN X.here hx rfl (hb hby d1_5) rfl rfl k
  obtain ⟨h5, W6, A7⟩ := A4.putF hx hZ hown (hb hby d1_6) (hw _ (List.mem_of_getElem? (i := 11) rfl)) F_a1_bytes E_a1 (Or.inr ⟨(hw _ (List.mem_of_getElem? (i := 12) rfl)), rfl, hnm⟩) (hw _ (List.mem_of_getElem? (i := 3) rfl)) (ty := (.array .byte)) (by decide) rfl rfl g_a1
  have E_a1 : Exa Z h5 a1 "com/example/shardrule/shardrule/csv/CsvRecord" := E_a1.wr W6
  have F_a1_bytes : Fld Z h5 a1 "com/example/shardrule/shardrule/csv/CsvRecord" "bytes" "[B" (.ref a2) := F_a1_bytes.same W6
  have F_a1_ends : Fld Z h5 a1 "com/example/shardrule/shardrule/csv/CsvRecord" "ends" "[I" .null := F_a1_ends.other W6 (Or.inr (slot_ne (Or.inr (hw _ (List.mem_of_getElem? (i := 14) rfl))) (Or.inr (hw _ (List.mem_of_getElem? (i := 12) rfl))) (by decide) (t := (.array .int)) (t' := (.array .byte)) (by decide) (by decide)))
  have Z0 : n0 ≤ h5.size := by rw [W6.size]; exact Z0
  have KK : Keep h0 h5 [a1] := KK.wr W6 (Or.inl (by simp))
  have A8 : own_R p l e _ _ m _ below meth c S0 n0 h5 0 0 (mkF m 9 #[.val (.ref a1), .val (.ref a2), .val (.ref a3)] []) := A7
  have A9 := A8.go (f' := mkF m 10 #[.val (.ref a1), .val (.ref a2), .val (.ref a3)] [(.ref a1)]) fun _ _ X _ k => XS.aloadN X.here hx rfl (hb hby d1_9) rfl rfl k
  have A10 := A9.go (f' := mkF m 11 #[.val (.ref a1), .val (.ref a2), .val (.ref a3)] [(.ref a3), (.ref a1)]) fun _ _ X _ k => XS.aloadN X.here hx rfl (hb hby d1_10) rfl rfl k
  obtain ⟨h11, W12, A13⟩ := A10.putF hx hZ hown (hb hby d1_11) (hw _ (List.mem_of_getElem? (i := 13) rfl)) F_a1_ends E_a1 (Or.inr ⟨(hw _ (List.mem_of_getElem? (i := 14) rfl)), rfl, hnm⟩) (hw _ (List.mem_of_getElem? (i := 3) rfl)) (ty := (.array .int)) (by decide) rfl rfl g_a1
  have E_a1 : Exa Z h11 a1 "com/example/shardrule/shardrule/csv/CsvRecord" := E_a1.wr W12
  have F_a1_bytes : Fld Z h11 a1 "com/example/shardrule/shardrule/csv/CsvRecord" "bytes" "[B" (.ref a2) := F_a1_bytes.other W12 (Or.inr (slot_ne (Or.inr (hw _ (List.mem_of_getElem? (i := 12) rfl))) (Or.inr (hw _ (List.mem_of_getElem? (i := 14) rfl))) (by decide) (t := (.array .byte)) (t' := (.array .int)) (by decide) (by decide)))
  have F_a1_ends : Fld Z h11 a1 "com/example/shardrule/shardrule/csv/CsvRecord" "ends" "[I" (.ref a3) := F_a1_ends.same W12
  have Z0 : n0 ≤ h11.size := by rw [W12.size]; exact Z0
  have KK : Keep h0 h11 [a1] := KK.wr W12 (Or.inl (by simp))
  have A14 : own_R p l e _ _ m _ below meth c S0 n0 h11 0 0 (mkF m 14 #[.val (.ref a1), .val (.ref a2), .val (.ref a3)] []) := A13
  exact A14.retV hx hlk hret (hb hby d1_14) (by decide) (by decide) ⟨rfl, KK, F_a1_ends⟩
theorem d2_0 : decode prog_34_method_4_code 0 = .ok (.iload_n 1, 1) := by decide +kernel
theorem d2_1 : decode prog_34_method_4_code 1 = .ok (.ifCond .ne 7, 3) := by decide +kernel
theorem d2_4 : decode prog_34_method_4_code 4 = .ok (.iconst 0, 1) := by decide +kernel
theorem d2_5 : decode prog_34_method_4_code 5 = .ok (.goto 11, 3) := by decide +kernel
theorem d2_16 : decode prog_34_method_4_code 16 = .ok (.ireturn, 1) := by decide +kernel
theorem ef2 (m : MethodId) (a1 : Addr) (p2 : Int32) : entryFrame m #[(.ref a1), (.int p2)] 2 = mkF m 0 #[.val (.ref a1), .val (.int p2)] [] := by first | (simp [entryFrame, mkF, argsToLocals, Value.category, maxLocals]; done) | rfl
set_option maxRecDepth 65536 in
set_option maxHeartbeats 40000000 in
theorem own_start0 (l : Launch) (Z : State) (a0 : Array Value) (hw : ∀ d ∈ tables_1, d.before a0 Z = true) (a1 : Addr) (p2 : Int32) (h0 : Heap) (n0 : Nat) (Z0 : n0 ≤ h0.size) (hp : p2 = (0 : Int32)) :
    own_M l Z (⟨"com/example/shardrule/shardrule/csv/CsvRecord", "start", "(I)I"⟩ : MethodName) prog_34_method_4_code 2 (some .int) [] ({ frames := 0, cells := 0, slots := 0, locals := 0 } : Room) #[(.ref a1), (.int p2)] h0 n0 (fun v h => v = some (.int 0) ∧ h0 = h) := by
  refine own_M.of (plainFor_of_name (by first | (simp [plainName, overriddenIn]; done) | decide +kernel)) ?_
  intro p e s m below meth c S0 hx hby hml hown hnm hret hlk hZ A00
  have A0 := A00.cast (ef2 m a1 p2)
  have A1 := A0.go (f' := mkF m 1 #[.val (.ref a1), .val (.int p2)] [(.int p2)]) fun _ _ X _ k => XS.iloadN X.here hx rfl (hb hby d2_0) rfl k
  have q2 : (p2 = (0 : Int32)) := hp
  have A3 := A1.go (f' := mkF m 4 #[.val (.ref a1), .val (.int p2)] []) fun _ _ X _ k => XS.ifNo X.here hx rfl (hb hby d2_1) rfl ((if0 _ _).trans (teq q2).2) k
  have A4 := A3.go (f' := mkF m 5 #[.val (.ref a1), .val (.int p2)] [(.int (0 : Int32))]) fun _ _ X _ k => XS.iconst X.here hx rfl (hb hby d2_4) k
  have A5 := A4.go (f' := mkF m 16 #[.val (.ref a1), .val (.int p2)] [(.int (0 : Int32))]) fun _ _ X _ k => XS.goto X.here hx rfl (pc0 := 5) (pc' := 16) rfl (hb hby d2_5) (by decide) (by decide) k
  exact A5.ret hx hlk hret (hb hby d2_16) rfl (Or.inl ⟨rfl, by simp, _, rfl⟩) (by decide) (by decide) ⟨rfl, rfl⟩
theorem d3_0 : decode prog_34_method_4_code 0 = .ok (.iload_n 1, 1) := by decide +kernel
theorem d3_1 : decode prog_34_method_4_code 1 = .ok (.ifCond .ne 7, 3) := by decide +kernel
theorem d3_8 : decode prog_34_method_4_code 8 = .ok (.aload_n 0, 1) := by decide +kernel
theorem d3_9 : decode prog_34_method_4_code 9 = .ok (.getfield 13, 3) := by decide +kernel
theorem d3_12 : decode prog_34_method_4_code 12 = .ok (.iload_n 1, 1) := by decide +kernel
theorem d3_13 : decode prog_34_method_4_code 13 = .ok (.iconst 1, 1) := by decide +kernel
theorem d3_14 : decode prog_34_method_4_code 14 = .ok (.isub, 1) := by decide +kernel
theorem d3_15 : decode prog_34_method_4_code 15 = .ok (.iaload, 1) := by decide +kernel
theorem d3_16 : decode prog_34_method_4_code 16 = .ok (.ireturn, 1) := by decide +kernel
theorem ef3 (m : MethodId) (a1 : Addr) (p2 : Int32) : entryFrame m #[(.ref a1), (.int p2)] 2 = mkF m 0 #[.val (.ref a1), .val (.int p2)] [] := by first | (simp [entryFrame, mkF, argsToLocals, Value.category, maxLocals]; done) | rfl
set_option maxRecDepth 65536 in
set_option maxHeartbeats 40000000 in
theorem own_startN (l : Launch) (Z : State) (a0 : Array Value) (hw : ∀ d ∈ tables_1, d.before a0 Z = true) (a1 ee : Addr) (p2 z : Int32) (vs : List Value) (h0 : Heap) (n0 : Nat) (Z0 : n0 ≤ h0.size) (F : Fld Z h0 a1 "com/example/shardrule/shardrule/csv/CsvRecord" "ends" "[I" (.ref ee)) (Ar : own_Ar Z h0 ee .int vs) (hp : ¬ p2 = (0 : Int32)) (hj : ¬ (p2 - (1 : Int32)) < 0) (hv : vs[(p2 - (1 : Int32)).toNatClampNeg]? = some (.int z)) :
    own_M l Z (⟨"com/example/shardrule/shardrule/csv/CsvRecord", "start", "(I)I"⟩ : MethodName) prog_34_method_4_code 2 (some .int) [] ({ frames := 0, cells := 0, slots := 0, locals := 0 } : Room) #[(.ref a1), (.int p2)] h0 n0 (fun v h => v = some (.int z) ∧ h0 = h) := by
  refine own_M.of (plainFor_of_name (by first | (simp [plainName, overriddenIn]; done) | decide +kernel)) ?_
  intro p e s m below meth c S0 hx hby hml hown hnm hret hlk hZ A00
  have A0 := A00.cast (ef3 m a1 p2)
  have A1 := A0.go (f' := mkF m 1 #[.val (.ref a1), .val (.int p2)] [(.int p2)]) fun _ _ X _ k => XS.iloadN X.here hx rfl (hb hby d3_0) rfl k
  have q2 : ¬ (p2 = (0 : Int32)) := hp
  have A3 := A1.go (f' := mkF m 8 #[.val (.ref a1), .val (.int p2)] []) fun _ _ X _ k => XS.ifYes X.here hx rfl (pc0 := 1) (pc' := 8) rfl (hb hby d3_1) rfl ((if0 _ _).trans (feq q2).2) (by decide) (by decide) k
  have A4 := A3.go (f' := mkF m 9 #[.val (.ref a1), .val (.int p2)] [(.ref a1)]) fun _ _ X _ k => XS.aloadN X.here hx rfl (hb hby d3_8) rfl rfl k
  have A5 : own_R p l e _ _ m _ below meth c S0 n0 h0 0 0 (mkF m 12 #[.val (.ref a1), .val (.int p2)] [(.ref ee)]) := A4.getF hx hZ hown (hb hby d3_9) (hw _ (List.mem_of_getElem? (i := 13) rfl)) Via.refl F
  have A6 := A5.go (f' := mkF m 13 #[.val (.ref a1), .val (.int p2)] [(.int p2), (.ref ee)]) fun _ _ X _ k => XS.iloadN X.here hx rfl (hb hby d3_12) rfl k
  have A7 := A6.go (f' := mkF m 14 #[.val (.ref a1), .val (.int p2)] [(.int (1 : Int32)), (.int p2), (.ref ee)]) fun _ _ X _ k => XS.iconst X.here hx rfl (hb hby d3_13) k
  have A8 := A7.go (f' := mkF m 15 #[.val (.ref a1), .val (.int p2)] [(.int (p2 - (1 : Int32))), (.ref ee)]) fun _ _ X _ k => XS.isub X.here hx rfl (hb hby d3_14) rfl k
  have A9 : own_R p l e _ _ m _ below meth c S0 n0 h0 0 0 (mkF m 16 #[.val (.ref a1), .val (.int p2)] [(.int z)]) := A8.ldI hx hZ (hb hby d3_15) Ar hj hv
  exact A9.ret hx hlk hret (hb hby d3_16) rfl (Or.inl ⟨rfl, by simp, _, rfl⟩) (by decide) (by decide) ⟨rfl, rfl⟩
theorem d4_0 : decode prog_34_method_5_code 0 = .ok (.aload_n 0, 1) := by decide +kernel
theorem d4_1 : decode prog_34_method_5_code 1 = .ok (.getfield 13, 3) := by decide +kernel
theorem d4_4 : decode prog_34_method_5_code 4 = .ok (.iload_n 1, 1) := by decide +kernel
theorem d4_5 : decode prog_34_method_5_code 5 = .ok (.iaload, 1) := by decide +kernel
theorem d4_6 : decode prog_34_method_5_code 6 = .ok (.ireturn, 1) := by decide +kernel
theorem ef4 (m : MethodId) (a1 : Addr) (p2 : Int32) : entryFrame m #[(.ref a1), (.int p2)] 2 = mkF m 0 #[.val (.ref a1), .val (.int p2)] [] := by first | (simp [entryFrame, mkF, argsToLocals, Value.category, maxLocals]; done) | rfl
set_option maxRecDepth 65536 in
set_option maxHeartbeats 40000000 in
theorem own_end (l : Launch) (Z : State) (a0 : Array Value) (hw : ∀ d ∈ tables_1, d.before a0 Z = true) (a1 ee : Addr) (p2 z : Int32) (vs : List Value) (h0 : Heap) (n0 : Nat) (Z0 : n0 ≤ h0.size) (F : Fld Z h0 a1 "com/example/shardrule/shardrule/csv/CsvRecord" "ends" "[I" (.ref ee)) (Ar : own_Ar Z h0 ee .int vs) (hj : ¬ p2 < (0 : Int32)) (hv : vs[p2.toNatClampNeg]? = some (.int z)) :
    own_M l Z (⟨"com/example/shardrule/shardrule/csv/CsvRecord", "end", "(I)I"⟩ : MethodName) prog_34_method_5_code 2 (some .int) [] ({ frames := 0, cells := 0, slots := 0, locals := 0 } : Room) #[(.ref a1), (.int p2)] h0 n0 (fun v h => v = some (.int z) ∧ h0 = h) := by
  refine own_M.of (plainFor_of_name (by first | (simp [plainName, overriddenIn]; done) | decide +kernel)) ?_
  intro p e s m below meth c S0 hx hby hml hown hnm hret hlk hZ A00
  have A0 := A00.cast (ef4 m a1 p2)
  have A1 := A0.go (f' := mkF m 1 #[.val (.ref a1), .val (.int p2)] [(.ref a1)]) fun _ _ X _ k => XS.aloadN X.here hx rfl (hb hby d4_0) rfl rfl k
  have A2 : own_R p l e _ _ m _ below meth c S0 n0 h0 0 0 (mkF m 4 #[.val (.ref a1), .val (.int p2)] [(.ref ee)]) := A1.getF hx hZ hown (hb hby d4_1) (hw _ (List.mem_of_getElem? (i := 13) rfl)) Via.refl F
  have A3 := A2.go (f' := mkF m 5 #[.val (.ref a1), .val (.int p2)] [(.int p2), (.ref ee)]) fun _ _ X _ k => XS.iloadN X.here hx rfl (hb hby d4_4) rfl k
  have A4 : own_R p l e _ _ m _ below meth c S0 n0 h0 0 0 (mkF m 6 #[.val (.ref a1), .val (.int p2)] [(.int z)]) := A3.ldI hx hZ (hb hby d4_5) Ar hj hv
  exact A4.ret hx hlk hret (hb hby d4_6) rfl (Or.inl ⟨rfl, by simp, _, rfl⟩) (by decide) (by decide) ⟨rfl, rfl⟩
theorem own_ar (x y z : Int32) : x - (0 : Int32) = x ∧ (x + y) - x = y ∧ ((x + y) + z) - (x + y) = z ∧ (21 : Int32) - ((x + y) + z) = (((21 : Int32) - x) - y) - z := by
  refine ⟨by simp, ?_, ?_, ?_⟩
  · rw [Int32.add_comm, Int32.add_sub_cancel]
  · rw [Int32.add_comm, Int32.add_sub_cancel]
  · rw [Int32.sub_eq_add_neg, Int32.sub_eq_add_neg, Int32.sub_eq_add_neg, Int32.sub_eq_add_neg, Int32.neg_add, Int32.neg_add, Int32.sub_eq_add_neg, Int32.sub_eq_add_neg, Int32.add_assoc, Int32.add_assoc]
    exact (Int32.add_assoc _ _ _).symm
theorem pd__28I_29I : parseMethodDescriptor "(I)I" = some ⟨[.int], some .int⟩ := by decide +kernel
theorem pd__28_5bB_5bI_29V : parseMethodDescriptor "([B[I)V" = some ⟨[(.array .byte), (.array .int)], none⟩ := by decide +kernel
theorem d0_0 : decode code 0 = .ok (.iload_n 0, 1) := at_0
theorem d0_1 : decode code 1 = .ok (.bipush 7, 2) := at_1
theorem d0_3 : decode code 3 = .ok (.iand, 1) := at_3
theorem d0_4 : decode code 4 = .ok (.istore_n 3, 1) := at_4
theorem d0_5 : decode code 5 = .ok (.iload_n 1, 1) := at_5
theorem d0_6 : decode code 6 = .ok (.bipush 7, 2) := at_6
theorem d0_8 : decode code 8 = .ok (.iand, 1) := at_8
theorem d0_9 : decode code 9 = .ok (.istore 4, 2) := at_9
theorem d0_11 : decode code 11 = .ok (.iload_n 2, 1) := at_11
theorem d0_12 : decode code 12 = .ok (.bipush 7, 2) := at_12
theorem d0_14 : decode code 14 = .ok (.iand, 1) := at_14
theorem d0_15 : decode code 15 = .ok (.istore 5, 2) := at_15
theorem d0_17 : decode code 17 = .ok (.bipush 21, 2) := at_17
theorem d0_19 : decode code 19 = .ok (.newarray .byte, 2) := at_19
theorem d0_21 : decode code 21 = .ok (.astore 6, 2) := at_21
theorem d0_23 : decode code 23 = .ok (.iconst 4, 1) := at_23
theorem d0_24 : decode code 24 = .ok (.newarray .int, 2) := at_24
theorem d0_26 : decode code 26 = .ok (.dup, 1) := at_26
theorem d0_27 : decode code 27 = .ok (.iconst 0, 1) := at_27
theorem d0_28 : decode code 28 = .ok (.iload_n 3, 1) := at_28
theorem d0_29 : decode code 29 = .ok (.iastore, 1) := at_29
theorem d0_30 : decode code 30 = .ok (.dup, 1) := at_30
theorem d0_31 : decode code 31 = .ok (.iconst 1, 1) := at_31
theorem d0_32 : decode code 32 = .ok (.iload_n 3, 1) := at_32
theorem d0_33 : decode code 33 = .ok (.iload 4, 2) := at_33
theorem d0_35 : decode code 35 = .ok (.iadd, 1) := at_35
theorem d0_36 : decode code 36 = .ok (.iastore, 1) := at_36
theorem d0_37 : decode code 37 = .ok (.dup, 1) := at_37
theorem d0_38 : decode code 38 = .ok (.iconst 2, 1) := at_38
theorem d0_39 : decode code 39 = .ok (.iload_n 3, 1) := at_39
theorem d0_40 : decode code 40 = .ok (.iload 4, 2) := at_40
theorem d0_42 : decode code 42 = .ok (.iadd, 1) := at_42
theorem d0_43 : decode code 43 = .ok (.iload 5, 2) := at_43
theorem d0_45 : decode code 45 = .ok (.iadd, 1) := at_45
theorem d0_46 : decode code 46 = .ok (.iastore, 1) := at_46
theorem d0_47 : decode code 47 = .ok (.dup, 1) := at_47
theorem d0_48 : decode code 48 = .ok (.iconst 3, 1) := at_48
theorem d0_49 : decode code 49 = .ok (.bipush 21, 2) := at_49
theorem d0_51 : decode code 51 = .ok (.iastore, 1) := at_51
theorem d0_52 : decode code 52 = .ok (.astore 7, 2) := at_52
theorem d0_54 : decode code 54 = .ok (.new 7, 3) := at_54
theorem d0_57 : decode code 57 = .ok (.dup, 1) := at_57
theorem d0_58 : decode code 58 = .ok (.aload 6, 2) := at_58
theorem d0_60 : decode code 60 = .ok (.aload 7, 2) := at_60
theorem d0_62 : decode code 62 = .ok (.invokespecial 9, 3) := at_62
theorem d0_65 : decode code 65 = .ok (.astore 8, 2) := at_65
theorem d0_67 : decode code 67 = .ok (.aload 8, 2) := at_67
theorem d0_69 : decode code 69 = .ok (.iconst 0, 1) := at_69
theorem d0_70 : decode code 70 = .ok (.invokevirtual 12, 3) := at_70
theorem d0_73 : decode code 73 = .ok (.istore 9, 2) := at_73
theorem d0_75 : decode code 75 = .ok (.aload 8, 2) := at_75
theorem d0_77 : decode code 77 = .ok (.iconst 1, 1) := at_77
theorem d0_78 : decode code 78 = .ok (.invokevirtual 12, 3) := at_78
theorem d0_81 : decode code 81 = .ok (.istore 10, 2) := at_81
theorem d0_83 : decode code 83 = .ok (.aload 8, 2) := at_83
theorem d0_85 : decode code 85 = .ok (.iconst 2, 1) := at_85
theorem d0_86 : decode code 86 = .ok (.invokevirtual 12, 3) := at_86
theorem d0_89 : decode code 89 = .ok (.istore 11, 2) := at_89
theorem d0_91 : decode code 91 = .ok (.aload 8, 2) := at_91
theorem d0_93 : decode code 93 = .ok (.iconst 3, 1) := at_93
theorem d0_94 : decode code 94 = .ok (.invokevirtual 12, 3) := at_94
theorem d0_97 : decode code 97 = .ok (.istore 12, 2) := at_97
theorem d0_99 : decode code 99 = .ok (.iload 9, 2) := at_99
theorem d0_101 : decode code 101 = .ok (.ifCond .ne 30, 3) := at_101
theorem d0_104 : decode code 104 = .ok (.iload 10, 2) := at_104
theorem d0_106 : decode code 106 = .ok (.iload_n 3, 1) := at_106
theorem d0_107 : decode code 107 = .ok (.if_icmp .ne 24, 3) := at_107
theorem d0_110 : decode code 110 = .ok (.iload 11, 2) := at_110
theorem d0_112 : decode code 112 = .ok (.iload_n 3, 1) := at_112
theorem d0_113 : decode code 113 = .ok (.iload 4, 2) := at_113
theorem d0_115 : decode code 115 = .ok (.iadd, 1) := at_115
theorem d0_116 : decode code 116 = .ok (.if_icmp .ne 15, 3) := at_116
theorem d0_119 : decode code 119 = .ok (.iload 12, 2) := at_119
theorem d0_121 : decode code 121 = .ok (.iload_n 3, 1) := at_121
theorem d0_122 : decode code 122 = .ok (.iload 4, 2) := at_122
theorem d0_124 : decode code 124 = .ok (.iadd, 1) := at_124
theorem d0_125 : decode code 125 = .ok (.iload 5, 2) := at_125
theorem d0_127 : decode code 127 = .ok (.iadd, 1) := at_127
theorem d0_128 : decode code 128 = .ok (.if_icmp .eq 5, 3) := at_128
theorem d0_133 : decode code 133 = .ok (.aload 8, 2) := at_133
theorem d0_135 : decode code 135 = .ok (.iconst 0, 1) := at_135
theorem d0_136 : decode code 136 = .ok (.invokevirtual 16, 3) := at_136
theorem d0_139 : decode code 139 = .ok (.iload 9, 2) := at_139
theorem d0_141 : decode code 141 = .ok (.isub, 1) := at_141
theorem d0_142 : decode code 142 = .ok (.iload_n 3, 1) := at_142
theorem d0_143 : decode code 143 = .ok (.if_icmp .ne 57, 3) := at_143
theorem d0_146 : decode code 146 = .ok (.aload 8, 2) := at_146
theorem d0_148 : decode code 148 = .ok (.iconst 1, 1) := at_148
theorem d0_149 : decode code 149 = .ok (.invokevirtual 16, 3) := at_149
theorem d0_152 : decode code 152 = .ok (.iload 10, 2) := at_152
theorem d0_154 : decode code 154 = .ok (.isub, 1) := at_154
theorem d0_155 : decode code 155 = .ok (.iload 4, 2) := at_155
theorem d0_157 : decode code 157 = .ok (.if_icmp .ne 43, 3) := at_157
theorem d0_160 : decode code 160 = .ok (.aload 8, 2) := at_160
theorem d0_162 : decode code 162 = .ok (.iconst 2, 1) := at_162
theorem d0_163 : decode code 163 = .ok (.invokevirtual 16, 3) := at_163
theorem d0_166 : decode code 166 = .ok (.iload 11, 2) := at_166
theorem d0_168 : decode code 168 = .ok (.isub, 1) := at_168
theorem d0_169 : decode code 169 = .ok (.iload 5, 2) := at_169
theorem d0_171 : decode code 171 = .ok (.if_icmp .ne 29, 3) := at_171
theorem d0_174 : decode code 174 = .ok (.aload 8, 2) := at_174
theorem d0_176 : decode code 176 = .ok (.iconst 3, 1) := at_176
theorem d0_177 : decode code 177 = .ok (.invokevirtual 16, 3) := at_177
theorem d0_180 : decode code 180 = .ok (.iload 12, 2) := at_180
theorem d0_182 : decode code 182 = .ok (.isub, 1) := at_182
theorem d0_183 : decode code 183 = .ok (.bipush 21, 2) := at_183
theorem d0_185 : decode code 185 = .ok (.iload_n 3, 1) := at_185
theorem d0_186 : decode code 186 = .ok (.isub, 1) := at_186
theorem d0_187 : decode code 187 = .ok (.iload 4, 2) := at_187
theorem d0_189 : decode code 189 = .ok (.isub, 1) := at_189
theorem d0_190 : decode code 190 = .ok (.iload 5, 2) := at_190
theorem d0_192 : decode code 192 = .ok (.isub, 1) := at_192
theorem d0_193 : decode code 193 = .ok (.if_icmp .ne 7, 3) := at_193
theorem d0_196 : decode code 196 = .ok (.iconst 1, 1) := at_196
theorem d0_197 : decode code 197 = .ok (.goto 4, 3) := at_197
theorem d0_201 : decode code 201 = .ok (.ireturn, 1) := at_201
theorem ef0 (m : MethodId) (p1 : Int32) (p2 : Int32) (p3 : Int32) : entryFrame m #[(.int p1), (.int p2), (.int p3)] maxLocals = mkF m 0 #[.val (.int p1), .val (.int p2), .val (.int p3), .unset, .unset, .unset, .unset, .unset, .unset, .unset, .unset, .unset, .unset] [] := by first | (simp [entryFrame, mkF, argsToLocals, Value.category, maxLocals]; done) | rfl
set_option maxRecDepth 65536 in
set_option maxHeartbeats 40000000 in
theorem own_law (l : Launch) (Z : State) (a0 : Array Value) (hw : ∀ d ∈ tables_1, d.before a0 Z = true) (p1 p2 p3 : Int32) (h0 : Heap) (n0 : Nat) (Z0 : n0 ≤ h0.size)  :
    own_M l Z x code maxLocals ret tables_1 room_1 #[(.int p1), (.int p2), (.int p3)] h0 n0 (fun v h => v = some (.int 1) ∧ True) := by
  refine own_M.of (plainFor_of_name (by first | (simp [plainName, overriddenIn]; done) | decide +kernel)) ?_
  intro p e s m below meth c S0 hx hby hml hown hnm hret hlk hZ A00
  have A0 := A00.cast (ef0 m p1 p2 p3)
  have A1 := A0.go (f' := mkF m 1 #[.val (.int p1), .val (.int p2), .val (.int p3), .unset, .unset, .unset, .unset, .unset, .unset, .unset, .unset, .unset, .unset] [(.int p1)]) fun _ _ X _ k => XS.iloadN X.here hx rfl (hb hby d0_0) rfl k
  have A2 := A1.go (f' := mkF m 3 #[.val (.int p1), .val (.int p2), .val (.int p3), .unset, .unset, .unset, .unset, .unset, .unset, .unset, .unset, .unset, .unset] [(.int (7 : Int32)), (.int p1)]) fun _ _ X _ k => XS.bipush X.here hx rfl (hb hby d0_1) k
  have A3 := A2.go (f' := mkF m 4 #[.val (.int p1), .val (.int p2), .val (.int p3), .unset, .unset, .unset, .unset, .unset, .unset, .unset, .unset, .unset, .unset] [(.int (p1 &&& (7 : Int32)))]) fun _ _ X _ k => XS.iand X.here hx rfl (hb hby d0_3) rfl k
  have A4 := A3.go (f' := mkF m 5 #[.val (.int p1), .val (.int p2), .val (.int p3), .val (.int (p1 &&& (7 : Int32))), .unset, .unset, .unset, .unset, .unset, .unset, .unset, .unset, .unset] []) fun _ _ X _ k => XS.istoreN X.here hx rfl (hb hby d0_4) rfl (l' := #[.val (.int p1), .val (.int p2), .val (.int p3), .val (.int (p1 &&& (7 : Int32))), .unset, .unset, .unset, .unset, .unset, .unset, .unset, .unset, .unset]) rfl k
  have A5 := A4.go (f' := mkF m 6 #[.val (.int p1), .val (.int p2), .val (.int p3), .val (.int (p1 &&& (7 : Int32))), .unset, .unset, .unset, .unset, .unset, .unset, .unset, .unset, .unset] [(.int p2)]) fun _ _ X _ k => XS.iloadN X.here hx rfl (hb hby d0_5) rfl k
  have A6 := A5.go (f' := mkF m 8 #[.val (.int p1), .val (.int p2), .val (.int p3), .val (.int (p1 &&& (7 : Int32))), .unset, .unset, .unset, .unset, .unset, .unset, .unset, .unset, .unset] [(.int (7 : Int32)), (.int p2)]) fun _ _ X _ k => XS.bipush X.here hx rfl (hb hby d0_6) k
  have A7 := A6.go (f' := mkF m 9 #[.val (.int p1), .val (.int p2), .val (.int p3), .val (.int (p1 &&& (7 : Int32))), .unset, .unset, .unset, .unset, .unset, .unset, .unset, .unset, .unset] [(.int (p2 &&& (7 : Int32)))]) fun _ _ X _ k => XS.iand X.here hx rfl (hb hby d0_8) rfl k
  have A8 := A7.go (f' := mkF m 11 #[.val (.int p1), .val (.int p2), .val (.int p3), .val (.int (p1 &&& (7 : Int32))), .val (.int (p2 &&& (7 : Int32))), .unset, .unset, .unset, .unset, .unset, .unset, .unset, .unset] []) fun _ _ X _ k => XS.istore X.here hx rfl (hb hby d0_9) rfl (l' := #[.val (.int p1), .val (.int p2), .val (.int p3), .val (.int (p1 &&& (7 : Int32))), .val (.int (p2 &&& (7 : Int32))), .unset, .unset, .unset, .unset, .unset, .unset, .unset, .unset]) rfl k
  have A9 := A8.go (f' := mkF m 12 #[.val (.int p1), .val (.int p2), .val (.int p3), .val (.int (p1 &&& (7 : Int32))), .val (.int (p2 &&& (7 : Int32))), .unset, .unset, .unset, .unset, .unset, .unset, .unset, .unset] [(.int p3)]) fun _ _ X _ k => XS.iloadN X.here hx rfl (hb hby d0_11) rfl k
  have A10 := A9.go (f' := mkF m 14 #[.val (.int p1), .val (.int p2), .val (.int p3), .val (.int (p1 &&& (7 : Int32))), .val (.int (p2 &&& (7 : Int32))), .unset, .unset, .unset, .unset, .unset, .unset, .unset, .unset] [(.int (7 : Int32)), (.int p3)]) fun _ _ X _ k => XS.bipush X.here hx rfl (hb hby d0_12) k
  have A11 := A10.go (f' := mkF m 15 #[.val (.int p1), .val (.int p2), .val (.int p3), .val (.int (p1 &&& (7 : Int32))), .val (.int (p2 &&& (7 : Int32))), .unset, .unset, .unset, .unset, .unset, .unset, .unset, .unset] [(.int (p3 &&& (7 : Int32)))]) fun _ _ X _ k => XS.iand X.here hx rfl (hb hby d0_14) rfl k
  have A12 := A11.go (f' := mkF m 17 #[.val (.int p1), .val (.int p2), .val (.int p3), .val (.int (p1 &&& (7 : Int32))), .val (.int (p2 &&& (7 : Int32))), .val (.int (p3 &&& (7 : Int32))), .unset, .unset, .unset, .unset, .unset, .unset, .unset] []) fun _ _ X _ k => XS.istore X.here hx rfl (hb hby d0_15) rfl (l' := #[.val (.int p1), .val (.int p2), .val (.int p3), .val (.int (p1 &&& (7 : Int32))), .val (.int (p2 &&& (7 : Int32))), .val (.int (p3 &&& (7 : Int32))), .unset, .unset, .unset, .unset, .unset, .unset, .unset]) rfl k
  have A13 := A12.go (f' := mkF m 19 #[.val (.int p1), .val (.int p2), .val (.int p3), .val (.int (p1 &&& (7 : Int32))), .val (.int (p2 &&& (7 : Int32))), .val (.int (p3 &&& (7 : Int32))), .unset, .unset, .unset, .unset, .unset, .unset, .unset] [(.int (21 : Int32))]) fun _ _ X _ k => XS.bipush X.here hx rfl (hb hby d0_17) k
  obtain ⟨h14, E15, V_xb, A16⟩ := A13.newP hx hZ (hb hby d0_19) (hw _ (List.mem_of_getElem? (i := 0) rfl)) (by decide) (cap := 21) (by decide) (by decide) (by decide) (by decide)
  obtain ⟨xb, gxb⟩ : ∃ z, z = h0.size := ⟨_, rfl⟩
  rw [← gxb] at V_xb A16
  have g_xb : n0 ≤ xb := by rw [gxb]; exact Z0
  have Z0 : n0 ≤ h14.size := Nat.le_trans Z0 E15.1
  have V_xb : own_Ar Z h14 xb .byte [(.int (0 : Int32)), (.int (0 : Int32)), (.int (0 : Int32)), (.int (0 : Int32)), (.int (0 : Int32)), (.int (0 : Int32)), (.int (0 : Int32)), (.int (0 : Int32)), (.int (0 : Int32)), (.int (0 : Int32)), (.int (0 : Int32)), (.int (0 : Int32)), (.int (0 : Int32)), (.int (0 : Int32)), (.int (0 : Int32)), (.int (0 : Int32)), (.int (0 : Int32)), (.int (0 : Int32)), (.int (0 : Int32)), (.int (0 : Int32)), (.int (0 : Int32))] := V_xb
  have A17 : own_R p l e _ _ m _ below meth c S0 n0 h14 1 21 (mkF m 21 #[.val (.int p1), .val (.int p2), .val (.int p3), .val (.int (p1 &&& (7 : Int32))), .val (.int (p2 &&& (7 : Int32))), .val (.int (p3 &&& (7 : Int32))), .unset, .unset, .unset, .unset, .unset, .unset, .unset] [(.ref xb)]) := A16
  have A18 := A17.go (f' := mkF m 23 #[.val (.int p1), .val (.int p2), .val (.int p3), .val (.int (p1 &&& (7 : Int32))), .val (.int (p2 &&& (7 : Int32))), .val (.int (p3 &&& (7 : Int32))), .val (.ref xb), .unset, .unset, .unset, .unset, .unset, .unset] []) fun _ _ X _ k => XS.astore X.here hx rfl (hb hby d0_21) rfl rfl (l' := #[.val (.int p1), .val (.int p2), .val (.int p3), .val (.int (p1 &&& (7 : Int32))), .val (.int (p2 &&& (7 : Int32))), .val (.int (p3 &&& (7 : Int32))), .val (.ref xb), .unset, .unset, .unset, .unset, .unset, .unset]) rfl k
  have A19 := A18.go (f' := mkF m 24 #[.val (.int p1), .val (.int p2), .val (.int p3), .val (.int (p1 &&& (7 : Int32))), .val (.int (p2 &&& (7 : Int32))), .val (.int (p3 &&& (7 : Int32))), .val (.ref xb), .unset, .unset, .unset, .unset, .unset, .unset] [(.int (4 : Int32))]) fun _ _ X _ k => XS.iconst X.here hx rfl (hb hby d0_23) k
  obtain ⟨h20, E21, V_xi, A22⟩ := A19.newP hx hZ (hb hby d0_24) (hw _ (List.mem_of_getElem? (i := 1) rfl)) (by decide) (cap := 4) (by decide) (by decide) (by decide) (by decide)
  obtain ⟨xi, gxi⟩ : ∃ z, z = h14.size := ⟨_, rfl⟩
  rw [← gxi] at V_xi A22
  have ne_xb_xi : xb ≠ xi := by rw [gxi]; exact Nat.ne_of_lt V_xb.lt
  have ne_xi_xb := Ne.symm ne_xb_xi
  have g_xi : n0 ≤ xi := by rw [gxi]; exact Z0
  have V_xb : own_Ar Z h20 xb .byte [(.int (0 : Int32)), (.int (0 : Int32)), (.int (0 : Int32)), (.int (0 : Int32)), (.int (0 : Int32)), (.int (0 : Int32)), (.int (0 : Int32)), (.int (0 : Int32)), (.int (0 : Int32)), (.int (0 : Int32)), (.int (0 : Int32)), (.int (0 : Int32)), (.int (0 : Int32)), (.int (0 : Int32)), (.int (0 : Int32)), (.int (0 : Int32)), (.int (0 : Int32)), (.int (0 : Int32)), (.int (0 : Int32)), (.int (0 : Int32)), (.int (0 : Int32))] := V_xb.ext E21
  have Z0 : n0 ≤ h20.size := Nat.le_trans Z0 E21.1
  have V_xi : own_Ar Z h20 xi .int [(.int (0 : Int32)), (.int (0 : Int32)), (.int (0 : Int32)), (.int (0 : Int32))] := V_xi
  have A23 : own_R p l e _ _ m _ below meth c S0 n0 h20 2 25 (mkF m 26 #[.val (.int p1), .val (.int p2), .val (.int p3), .val (.int (p1 &&& (7 : Int32))), .val (.int (p2 &&& (7 : Int32))), .val (.int (p3 &&& (7 : Int32))), .val (.ref xb), .unset, .unset, .unset, .unset, .unset, .unset] [(.ref xi)]) := A22
  have A24 := A23.go (f' := mkF m 27 #[.val (.int p1), .val (.int p2), .val (.int p3), .val (.int (p1 &&& (7 : Int32))), .val (.int (p2 &&& (7 : Int32))), .val (.int (p3 &&& (7 : Int32))), .val (.ref xb), .unset, .unset, .unset, .unset, .unset, .unset] [(.ref xi), (.ref xi)]) fun _ _ X _ k => XS.dup X.here hx rfl (hb hby d0_26) rfl rfl k
  have A25 := A24.go (f' := mkF m 28 #[.val (.int p1), .val (.int p2), .val (.int p3), .val (.int (p1 &&& (7 : Int32))), .val (.int (p2 &&& (7 : Int32))), .val (.int (p3 &&& (7 : Int32))), .val (.ref xb), .unset, .unset, .unset, .unset, .unset, .unset] [(.int (0 : Int32)), (.ref xi), (.ref xi)]) fun _ _ X _ k => XS.iconst X.here hx rfl (hb hby d0_27) k
  have A26 := A25.go (f' := mkF m 29 #[.val (.int p1), .val (.int p2), .val (.int p3), .val (.int (p1 &&& (7 : Int32))), .val (.int (p2 &&& (7 : Int32))), .val (.int (p3 &&& (7 : Int32))), .val (.ref xb), .unset, .unset, .unset, .unset, .unset, .unset] [(.int (p1 &&& (7 : Int32))), (.int (0 : Int32)), (.ref xi), (.ref xi)]) fun _ _ X _ k => XS.iloadN X.here hx rfl (hb hby d0_28) rfl k
  obtain ⟨h27, W28, A29⟩ := A26.stI hx hZ (hb hby d0_29) V_xi (by decide) (by simp +decide) g_xi
  have V_xb : own_Ar Z h27 xb .byte [(.int (0 : Int32)), (.int (0 : Int32)), (.int (0 : Int32)), (.int (0 : Int32)), (.int (0 : Int32)), (.int (0 : Int32)), (.int (0 : Int32)), (.int (0 : Int32)), (.int (0 : Int32)), (.int (0 : Int32)), (.int (0 : Int32)), (.int (0 : Int32)), (.int (0 : Int32)), (.int (0 : Int32)), (.int (0 : Int32)), (.int (0 : Int32)), (.int (0 : Int32)), (.int (0 : Int32)), (.int (0 : Int32)), (.int (0 : Int32)), (.int (0 : Int32))] := V_xb.other W28 ne_xb_xi
  have V_xi : own_Ar Z h27 xi .int [(.int (p1 &&& (7 : Int32))), (.int (0 : Int32)), (.int (0 : Int32)), (.int (0 : Int32))] := V_xi.same W28
  have Z0 : n0 ≤ h27.size := by rw [W28.size]; exact Z0
  have A30 : own_R p l e _ _ m _ below meth c S0 n0 h27 2 25 (mkF m 30 #[.val (.int p1), .val (.int p2), .val (.int p3), .val (.int (p1 &&& (7 : Int32))), .val (.int (p2 &&& (7 : Int32))), .val (.int (p3 &&& (7 : Int32))), .val (.ref xb), .unset, .unset, .unset, .unset, .unset, .unset] [(.ref xi)]) := A29
  have A31 := A30.go (f' := mkF m 31 #[.val (.int p1), .val (.int p2), .val (.int p3), .val (.int (p1 &&& (7 : Int32))), .val (.int (p2 &&& (7 : Int32))), .val (.int (p3 &&& (7 : Int32))), .val (.ref xb), .unset, .unset, .unset, .unset, .unset, .unset] [(.ref xi), (.ref xi)]) fun _ _ X _ k => XS.dup X.here hx rfl (hb hby d0_30) rfl rfl k
  have A32 := A31.go (f' := mkF m 32 #[.val (.int p1), .val (.int p2), .val (.int p3), .val (.int (p1 &&& (7 : Int32))), .val (.int (p2 &&& (7 : Int32))), .val (.int (p3 &&& (7 : Int32))), .val (.ref xb), .unset, .unset, .unset, .unset, .unset, .unset] [(.int (1 : Int32)), (.ref xi), (.ref xi)]) fun _ _ X _ k => XS.iconst X.here hx rfl (hb hby d0_31) k
  have A33 := A32.go (f' := mkF m 33 #[.val (.int p1), .val (.int p2), .val (.int p3), .val (.int (p1 &&& (7 : Int32))), .val (.int (p2 &&& (7 : Int32))), .val (.int (p3 &&& (7 : Int32))), .val (.ref xb), .unset, .unset, .unset, .unset, .unset, .unset] [(.int (p1 &&& (7 : Int32))), (.int (1 : Int32)), (.ref xi), (.ref xi)]) fun _ _ X _ k => XS.iloadN X.here hx rfl (hb hby d0_32) rfl k
  have A34 := A33.go (f' := mkF m 35 #[.val (.int p1), .val (.int p2), .val (.int p3), .val (.int (p1 &&& (7 : Int32))), .val (.int (p2 &&& (7 : Int32))), .val (.int (p3 &&& (7 : Int32))), .val (.ref xb), .unset, .unset, .unset, .unset, .unset, .unset] [(.int (p2 &&& (7 : Int32))), (.int (p1 &&& (7 : Int32))), (.int (1 : Int32)), (.ref xi), (.ref xi)]) fun _ _ X _ k => XS.iload X.here hx rfl (hb hby d0_33) rfl k
  have A35 := A34.go (f' := mkF m 36 #[.val (.int p1), .val (.int p2), .val (.int p3), .val (.int (p1 &&& (7 : Int32))), .val (.int (p2 &&& (7 : Int32))), .val (.int (p3 &&& (7 : Int32))), .val (.ref xb), .unset, .unset, .unset, .unset, .unset, .unset] [(.int ((p1 &&& (7 : Int32)) + (p2 &&& (7 : Int32)))), (.int (1 : Int32)), (.ref xi), (.ref xi)]) fun _ _ X _ k => XS.iadd X.here hx rfl (hb hby d0_35) rfl k
  obtain ⟨h36, W37, A38⟩ := A35.stI hx hZ (hb hby d0_36) V_xi (by decide) (by simp +decide) g_xi
  have V_xb : own_Ar Z h36 xb .byte [(.int (0 : Int32)), (.int (0 : Int32)), (.int (0 : Int32)), (.int (0 : Int32)), (.int (0 : Int32)), (.int (0 : Int32)), (.int (0 : Int32)), (.int (0 : Int32)), (.int (0 : Int32)), (.int (0 : Int32)), (.int (0 : Int32)), (.int (0 : Int32)), (.int (0 : Int32)), (.int (0 : Int32)), (.int (0 : Int32)), (.int (0 : Int32)), (.int (0 : Int32)), (.int (0 : Int32)), (.int (0 : Int32)), (.int (0 : Int32)), (.int (0 : Int32))] := V_xb.other W37 ne_xb_xi
  have V_xi : own_Ar Z h36 xi .int [(.int (p1 &&& (7 : Int32))), (.int ((p1 &&& (7 : Int32)) + (p2 &&& (7 : Int32)))), (.int (0 : Int32)), (.int (0 : Int32))] := V_xi.same W37
  have Z0 : n0 ≤ h36.size := by rw [W37.size]; exact Z0
  have A39 : own_R p l e _ _ m _ below meth c S0 n0 h36 2 25 (mkF m 37 #[.val (.int p1), .val (.int p2), .val (.int p3), .val (.int (p1 &&& (7 : Int32))), .val (.int (p2 &&& (7 : Int32))), .val (.int (p3 &&& (7 : Int32))), .val (.ref xb), .unset, .unset, .unset, .unset, .unset, .unset] [(.ref xi)]) := A38
  have A40 := A39.go (f' := mkF m 38 #[.val (.int p1), .val (.int p2), .val (.int p3), .val (.int (p1 &&& (7 : Int32))), .val (.int (p2 &&& (7 : Int32))), .val (.int (p3 &&& (7 : Int32))), .val (.ref xb), .unset, .unset, .unset, .unset, .unset, .unset] [(.ref xi), (.ref xi)]) fun _ _ X _ k => XS.dup X.here hx rfl (hb hby d0_37) rfl rfl k
  have A41 := A40.go (f' := mkF m 39 #[.val (.int p1), .val (.int p2), .val (.int p3), .val (.int (p1 &&& (7 : Int32))), .val (.int (p2 &&& (7 : Int32))), .val (.int (p3 &&& (7 : Int32))), .val (.ref xb), .unset, .unset, .unset, .unset, .unset, .unset] [(.int (2 : Int32)), (.ref xi), (.ref xi)]) fun _ _ X _ k => XS.iconst X.here hx rfl (hb hby d0_38) k
  have A42 := A41.go (f' := mkF m 40 #[.val (.int p1), .val (.int p2), .val (.int p3), .val (.int (p1 &&& (7 : Int32))), .val (.int (p2 &&& (7 : Int32))), .val (.int (p3 &&& (7 : Int32))), .val (.ref xb), .unset, .unset, .unset, .unset, .unset, .unset] [(.int (p1 &&& (7 : Int32))), (.int (2 : Int32)), (.ref xi), (.ref xi)]) fun _ _ X _ k => XS.iloadN X.here hx rfl (hb hby d0_39) rfl k
  have A43 := A42.go (f' := mkF m 42 #[.val (.int p1), .val (.int p2), .val (.int p3), .val (.int (p1 &&& (7 : Int32))), .val (.int (p2 &&& (7 : Int32))), .val (.int (p3 &&& (7 : Int32))), .val (.ref xb), .unset, .unset, .unset, .unset, .unset, .unset] [(.int (p2 &&& (7 : Int32))), (.int (p1 &&& (7 : Int32))), (.int (2 : Int32)), (.ref xi), (.ref xi)]) fun _ _ X _ k => XS.iload X.here hx rfl (hb hby d0_40) rfl k
  have A44 := A43.go (f' := mkF m 43 #[.val (.int p1), .val (.int p2), .val (.int p3), .val (.int (p1 &&& (7 : Int32))), .val (.int (p2 &&& (7 : Int32))), .val (.int (p3 &&& (7 : Int32))), .val (.ref xb), .unset, .unset, .unset, .unset, .unset, .unset] [(.int ((p1 &&& (7 : Int32)) + (p2 &&& (7 : Int32)))), (.int (2 : Int32)), (.ref xi), (.ref xi)]) fun _ _ X _ k => XS.iadd X.here hx rfl (hb hby d0_42) rfl k
  have A45 := A44.go (f' := mkF m 45 #[.val (.int p1), .val (.int p2), .val (.int p3), .val (.int (p1 &&& (7 : Int32))), .val (.int (p2 &&& (7 : Int32))), .val (.int (p3 &&& (7 : Int32))), .val (.ref xb), .unset, .unset, .unset, .unset, .unset, .unset] [(.int (p3 &&& (7 : Int32))), (.int ((p1 &&& (7 : Int32)) + (p2 &&& (7 : Int32)))), (.int (2 : Int32)), (.ref xi), (.ref xi)]) fun _ _ X _ k => XS.iload X.here hx rfl (hb hby d0_43) rfl k
  have A46 := A45.go (f' := mkF m 46 #[.val (.int p1), .val (.int p2), .val (.int p3), .val (.int (p1 &&& (7 : Int32))), .val (.int (p2 &&& (7 : Int32))), .val (.int (p3 &&& (7 : Int32))), .val (.ref xb), .unset, .unset, .unset, .unset, .unset, .unset] [(.int (((p1 &&& (7 : Int32)) + (p2 &&& (7 : Int32))) + (p3 &&& (7 : Int32)))), (.int (2 : Int32)), (.ref xi), (.ref xi)]) fun _ _ X _ k => XS.iadd X.here hx rfl (hb hby d0_45) rfl k
  obtain ⟨h47, W48, A49⟩ := A46.stI hx hZ (hb hby d0_46) V_xi (by decide) (by simp +decide) g_xi
  have V_xb : own_Ar Z h47 xb .byte [(.int (0 : Int32)), (.int (0 : Int32)), (.int (0 : Int32)), (.int (0 : Int32)), (.int (0 : Int32)), (.int (0 : Int32)), (.int (0 : Int32)), (.int (0 : Int32)), (.int (0 : Int32)), (.int (0 : Int32)), (.int (0 : Int32)), (.int (0 : Int32)), (.int (0 : Int32)), (.int (0 : Int32)), (.int (0 : Int32)), (.int (0 : Int32)), (.int (0 : Int32)), (.int (0 : Int32)), (.int (0 : Int32)), (.int (0 : Int32)), (.int (0 : Int32))] := V_xb.other W48 ne_xb_xi
  have V_xi : own_Ar Z h47 xi .int [(.int (p1 &&& (7 : Int32))), (.int ((p1 &&& (7 : Int32)) + (p2 &&& (7 : Int32)))), (.int (((p1 &&& (7 : Int32)) + (p2 &&& (7 : Int32))) + (p3 &&& (7 : Int32)))), (.int (0 : Int32))] := V_xi.same W48
  have Z0 : n0 ≤ h47.size := by rw [W48.size]; exact Z0
  have A50 : own_R p l e _ _ m _ below meth c S0 n0 h47 2 25 (mkF m 47 #[.val (.int p1), .val (.int p2), .val (.int p3), .val (.int (p1 &&& (7 : Int32))), .val (.int (p2 &&& (7 : Int32))), .val (.int (p3 &&& (7 : Int32))), .val (.ref xb), .unset, .unset, .unset, .unset, .unset, .unset] [(.ref xi)]) := A49
  have A51 := A50.go (f' := mkF m 48 #[.val (.int p1), .val (.int p2), .val (.int p3), .val (.int (p1 &&& (7 : Int32))), .val (.int (p2 &&& (7 : Int32))), .val (.int (p3 &&& (7 : Int32))), .val (.ref xb), .unset, .unset, .unset, .unset, .unset, .unset] [(.ref xi), (.ref xi)]) fun _ _ X _ k => XS.dup X.here hx rfl (hb hby d0_47) rfl rfl k
  have A52 := A51.go (f' := mkF m 49 #[.val (.int p1), .val (.int p2), .val (.int p3), .val (.int (p1 &&& (7 : Int32))), .val (.int (p2 &&& (7 : Int32))), .val (.int (p3 &&& (7 : Int32))), .val (.ref xb), .unset, .unset, .unset, .unset, .unset, .unset] [(.int (3 : Int32)), (.ref xi), (.ref xi)]) fun _ _ X _ k => XS.iconst X.here hx rfl (hb hby d0_48) k
  have A53 := A52.go (f' := mkF m 51 #[.val (.int p1), .val (.int p2), .val (.int p3), .val (.int (p1 &&& (7 : Int32))), .val (.int (p2 &&& (7 : Int32))), .val (.int (p3 &&& (7 : Int32))), .val (.ref xb), .unset, .unset, .unset, .unset, .unset, .unset] [(.int (21 : Int32)), (.int (3 : Int32)), (.ref xi), (.ref xi)]) fun _ _ X _ k => XS.bipush X.here hx rfl (hb hby d0_49) k
  obtain ⟨h54, W55, A56⟩ := A53.stI hx hZ (hb hby d0_51) V_xi (by decide) (by simp +decide) g_xi
  have V_xb : own_Ar Z h54 xb .byte [(.int (0 : Int32)), (.int (0 : Int32)), (.int (0 : Int32)), (.int (0 : Int32)), (.int (0 : Int32)), (.int (0 : Int32)), (.int (0 : Int32)), (.int (0 : Int32)), (.int (0 : Int32)), (.int (0 : Int32)), (.int (0 : Int32)), (.int (0 : Int32)), (.int (0 : Int32)), (.int (0 : Int32)), (.int (0 : Int32)), (.int (0 : Int32)), (.int (0 : Int32)), (.int (0 : Int32)), (.int (0 : Int32)), (.int (0 : Int32)), (.int (0 : Int32))] := V_xb.other W55 ne_xb_xi
  have V_xi : own_Ar Z h54 xi .int [(.int (p1 &&& (7 : Int32))), (.int ((p1 &&& (7 : Int32)) + (p2 &&& (7 : Int32)))), (.int (((p1 &&& (7 : Int32)) + (p2 &&& (7 : Int32))) + (p3 &&& (7 : Int32)))), (.int (21 : Int32))] := V_xi.same W55
  have Z0 : n0 ≤ h54.size := by rw [W55.size]; exact Z0
  have A57 : own_R p l e _ _ m _ below meth c S0 n0 h54 2 25 (mkF m 52 #[.val (.int p1), .val (.int p2), .val (.int p3), .val (.int (p1 &&& (7 : Int32))), .val (.int (p2 &&& (7 : Int32))), .val (.int (p3 &&& (7 : Int32))), .val (.ref xb), .unset, .unset, .unset, .unset, .unset, .unset] [(.ref xi)]) := A56
  have A58 := A57.go (f' := mkF m 54 #[.val (.int p1), .val (.int p2), .val (.int p3), .val (.int (p1 &&& (7 : Int32))), .val (.int (p2 &&& (7 : Int32))), .val (.int (p3 &&& (7 : Int32))), .val (.ref xb), .val (.ref xi), .unset, .unset, .unset, .unset, .unset] []) fun _ _ X _ k => XS.astore X.here hx rfl (hb hby d0_52) rfl rfl (l' := #[.val (.int p1), .val (.int p2), .val (.int p3), .val (.int (p1 &&& (7 : Int32))), .val (.int (p2 &&& (7 : Int32))), .val (.int (p3 &&& (7 : Int32))), .val (.ref xb), .val (.ref xi), .unset, .unset, .unset, .unset, .unset]) rfl k
  obtain ⟨h59, E60, E_xr, D_xr, A61⟩ := A58.newO hx hZ hown (hb hby d0_54) (hw _ (List.mem_of_getElem? (i := 2) rfl)) (hw _ (List.mem_of_getElem? (i := 3) rfl)) (hw _ (List.mem_of_getElem? (i := 4) rfl)) (by decide) (by decide)
  obtain ⟨xr, gxr⟩ : ∃ z, z = h54.size := ⟨_, rfl⟩
  rw [← gxr] at E_xr D_xr A61
  have ne_xb_xr : xb ≠ xr := by rw [gxr]; exact Nat.ne_of_lt V_xb.lt
  have ne_xr_xb := Ne.symm ne_xb_xr
  have ne_xi_xr : xi ≠ xr := by rw [gxr]; exact Nat.ne_of_lt V_xi.lt
  have ne_xr_xi := Ne.symm ne_xi_xr
  have g_xr : n0 ≤ xr := by rw [gxr]; exact Z0
  have V_xb : own_Ar Z h59 xb .byte [(.int (0 : Int32)), (.int (0 : Int32)), (.int (0 : Int32)), (.int (0 : Int32)), (.int (0 : Int32)), (.int (0 : Int32)), (.int (0 : Int32)), (.int (0 : Int32)), (.int (0 : Int32)), (.int (0 : Int32)), (.int (0 : Int32)), (.int (0 : Int32)), (.int (0 : Int32)), (.int (0 : Int32)), (.int (0 : Int32)), (.int (0 : Int32)), (.int (0 : Int32)), (.int (0 : Int32)), (.int (0 : Int32)), (.int (0 : Int32)), (.int (0 : Int32))] := V_xb.ext E60
  have V_xi : own_Ar Z h59 xi .int [(.int (p1 &&& (7 : Int32))), (.int ((p1 &&& (7 : Int32)) + (p2 &&& (7 : Int32)))), (.int (((p1 &&& (7 : Int32)) + (p2 &&& (7 : Int32))) + (p3 &&& (7 : Int32)))), (.int (21 : Int32))] := V_xi.ext E60
  have Z0 : n0 ≤ h59.size := Nat.le_trans Z0 E60.1
  have F_xr_bytes : Fld Z h59 xr "com/example/shardrule/shardrule/csv/CsvRecord" "bytes" "[B" .null := D_xr (Or.inr (hw _ (List.mem_of_getElem? (i := 12) rfl))) (ty := (.array .byte)) (by decide)
  have F_xr_ends : Fld Z h59 xr "com/example/shardrule/shardrule/csv/CsvRecord" "ends" "[I" .null := D_xr (Or.inr (hw _ (List.mem_of_getElem? (i := 14) rfl))) (ty := (.array .int)) (by decide)
  have A62 : own_R p l e _ _ m _ below meth c S0 n0 h59 3 27 (mkF m 57 #[.val (.int p1), .val (.int p2), .val (.int p3), .val (.int (p1 &&& (7 : Int32))), .val (.int (p2 &&& (7 : Int32))), .val (.int (p3 &&& (7 : Int32))), .val (.ref xb), .val (.ref xi), .unset, .unset, .unset, .unset, .unset] [(.ref xr)]) := A61
  have A63 := A62.go (f' := mkF m 58 #[.val (.int p1), .val (.int p2), .val (.int p3), .val (.int (p1 &&& (7 : Int32))), .val (.int (p2 &&& (7 : Int32))), .val (.int (p3 &&& (7 : Int32))), .val (.ref xb), .val (.ref xi), .unset, .unset, .unset, .unset, .unset] [(.ref xr), (.ref xr)]) fun _ _ X _ k => XS.dup X.here hx rfl (hb hby d0_57) rfl rfl k
  have A64 := A63.go (f' := mkF m 60 #[.val (.int p1), .val (.int p2), .val (.int p3), .val (.int (p1 &&& (7 : Int32))), .val (.int (p2 &&& (7 : Int32))), .val (.int (p3 &&& (7 : Int32))), .val (.ref xb), .val (.ref xi), .unset, .unset, .unset, .unset, .unset] [(.ref xb), (.ref xr), (.ref xr)]) fun _ _ X _ k => XS.aload X.here hx rfl (hb hby d0_58) rfl rfl k
  have A65 := A64.go (f' := mkF m 62 #[.val (.int p1), .val (.int p2), .val (.int p3), .val (.int (p1 &&& (7 : Int32))), .val (.int (p2 &&& (7 : Int32))), .val (.int (p3 &&& (7 : Int32))), .val (.ref xb), .val (.ref xi), .unset, .unset, .unset, .unset, .unset] [(.ref xi), (.ref xb), (.ref xr), (.ref xr)]) fun _ _ X _ k => XS.aload X.here hx rfl (hb hby d0_60) rfl rfl k
  obtain ⟨vA66, hA66, ⟨rfl, KI, F_new⟩, A66⟩ := A65.callI (b := xr) (own_init l Z a0 hw xr xb xi h59 n0 Z0 E_xr F_xr_bytes F_xr_ends g_xr) hx hZ hown (hb hby d0_62) rfl (hw _ (List.mem_of_getElem? (i := 5) rfl)) (hw _ (List.mem_of_getElem? (i := 6) rfl)) (hw _ (List.mem_of_getElem? (i := 7) rfl)) (hw _ (List.mem_of_getElem? (i := 4) rfl)) ⟨by decide, by decide⟩ (lenOf pd__28_5bB_5bI_29V rfl) (argsL := [(.ref xb), (.ref xi)]) (rest := [(.ref xr)]) rfl rfl (by rw [hml]; rfl) (W := 1) (Nat.le_of_eq rfl) (by decide) (by decide) (by decide) (by decide)
  have V_xb : own_Ar Z hA66 xb .byte [(.int (0 : Int32)), (.int (0 : Int32)), (.int (0 : Int32)), (.int (0 : Int32)), (.int (0 : Int32)), (.int (0 : Int32)), (.int (0 : Int32)), (.int (0 : Int32)), (.int (0 : Int32)), (.int (0 : Int32)), (.int (0 : Int32)), (.int (0 : Int32)), (.int (0 : Int32)), (.int (0 : Int32)), (.int (0 : Int32)), (.int (0 : Int32)), (.int (0 : Int32)), (.int (0 : Int32)), (.int (0 : Int32)), (.int (0 : Int32)), (.int (0 : Int32))] := V_xb.keep KI (ninS ne_xb_xr nin0)
  have V_xi : own_Ar Z hA66 xi .int [(.int (p1 &&& (7 : Int32))), (.int ((p1 &&& (7 : Int32)) + (p2 &&& (7 : Int32)))), (.int (((p1 &&& (7 : Int32)) + (p2 &&& (7 : Int32))) + (p3 &&& (7 : Int32)))), (.int (21 : Int32))] := V_xi.keep KI (ninS ne_xi_xr nin0)
  have E_xr : Exa Z hA66 xr "com/example/shardrule/shardrule/csv/CsvRecord" := E_xr.keep KI
  have Z0 : n0 ≤ hA66.size := Nat.le_trans Z0 KI.1
  have F_xr_ends := F_new
  have A67 : own_R p l e _ _ m _ below meth c S0 n0 hA66 3 27 (mkF m 65 #[.val (.int p1), .val (.int p2), .val (.int p3), .val (.int (p1 &&& (7 : Int32))), .val (.int (p2 &&& (7 : Int32))), .val (.int (p3 &&& (7 : Int32))), .val (.ref xb), .val (.ref xi), .unset, .unset, .unset, .unset, .unset] [(.ref xr)]) := A66
  have A68 := A67.go (f' := mkF m 67 #[.val (.int p1), .val (.int p2), .val (.int p3), .val (.int (p1 &&& (7 : Int32))), .val (.int (p2 &&& (7 : Int32))), .val (.int (p3 &&& (7 : Int32))), .val (.ref xb), .val (.ref xi), .val (.ref xr), .unset, .unset, .unset, .unset] []) fun _ _ X _ k => XS.astore X.here hx rfl (hb hby d0_65) rfl rfl (l' := #[.val (.int p1), .val (.int p2), .val (.int p3), .val (.int (p1 &&& (7 : Int32))), .val (.int (p2 &&& (7 : Int32))), .val (.int (p3 &&& (7 : Int32))), .val (.ref xb), .val (.ref xi), .val (.ref xr), .unset, .unset, .unset, .unset]) rfl k
  have A69 := A68.go (f' := mkF m 69 #[.val (.int p1), .val (.int p2), .val (.int p3), .val (.int (p1 &&& (7 : Int32))), .val (.int (p2 &&& (7 : Int32))), .val (.int (p3 &&& (7 : Int32))), .val (.ref xb), .val (.ref xi), .val (.ref xr), .unset, .unset, .unset, .unset] [(.ref xr)]) fun _ _ X _ k => XS.aload X.here hx rfl (hb hby d0_67) rfl rfl k
  have A70 := A69.go (f' := mkF m 70 #[.val (.int p1), .val (.int p2), .val (.int p3), .val (.int (p1 &&& (7 : Int32))), .val (.int (p2 &&& (7 : Int32))), .val (.int (p3 &&& (7 : Int32))), .val (.ref xb), .val (.ref xi), .val (.ref xr), .unset, .unset, .unset, .unset] [(.int (0 : Int32)), (.ref xr)]) fun _ _ X _ k => XS.iconst X.here hx rfl (hb hby d0_69) k
  obtain ⟨vA71, hA71, ⟨rfl, rfl⟩, A71⟩ := A70.callV (b := xr) (own_start0 l Z a0 hw xr (0 : Int32) hA66 n0 Z0 rfl) E_xr hx hZ hown (hb hby d0_70) (hw _ (List.mem_of_getElem? (i := 15) rfl)) (hw _ (List.mem_of_getElem? (i := 16) rfl)) (hw _ (List.mem_of_getElem? (i := 18) rfl)) (hw _ (List.mem_of_getElem? (i := 17) rfl)) (hw _ (List.mem_of_getElem? (i := 19) rfl)) (hw _ (List.mem_of_getElem? (i := 4) rfl)) (fun _ q => notFace_of_selects (args := #[]) (mvT q (hw _ (List.mem_of_getElem? (i := 18) rfl)))) ⟨by decide, by decide⟩ (lenOf pd__28I_29I rfl) (argsL := [(.int (0 : Int32))]) (rest := []) rfl rfl (by rw [hml]; rfl) (W := 0) (Nat.le_of_eq rfl) (by decide) (by decide) (by decide) (by decide)
  have A72 : own_R p l e _ _ m _ below meth c S0 n0 hA66 3 27 (mkF m 73 #[.val (.int p1), .val (.int p2), .val (.int p3), .val (.int (p1 &&& (7 : Int32))), .val (.int (p2 &&& (7 : Int32))), .val (.int (p3 &&& (7 : Int32))), .val (.ref xb), .val (.ref xi), .val (.ref xr), .unset, .unset, .unset, .unset] [(.int (0 : Int32))]) := A71
  have A73 := A72.go (f' := mkF m 75 #[.val (.int p1), .val (.int p2), .val (.int p3), .val (.int (p1 &&& (7 : Int32))), .val (.int (p2 &&& (7 : Int32))), .val (.int (p3 &&& (7 : Int32))), .val (.ref xb), .val (.ref xi), .val (.ref xr), .val (.int (0 : Int32)), .unset, .unset, .unset] []) fun _ _ X _ k => XS.istore X.here hx rfl (hb hby d0_73) rfl (l' := #[.val (.int p1), .val (.int p2), .val (.int p3), .val (.int (p1 &&& (7 : Int32))), .val (.int (p2 &&& (7 : Int32))), .val (.int (p3 &&& (7 : Int32))), .val (.ref xb), .val (.ref xi), .val (.ref xr), .val (.int (0 : Int32)), .unset, .unset, .unset]) rfl k
  have A74 := A73.go (f' := mkF m 77 #[.val (.int p1), .val (.int p2), .val (.int p3), .val (.int (p1 &&& (7 : Int32))), .val (.int (p2 &&& (7 : Int32))), .val (.int (p3 &&& (7 : Int32))), .val (.ref xb), .val (.ref xi), .val (.ref xr), .val (.int (0 : Int32)), .unset, .unset, .unset] [(.ref xr)]) fun _ _ X _ k => XS.aload X.here hx rfl (hb hby d0_75) rfl rfl k
  have A75 := A74.go (f' := mkF m 78 #[.val (.int p1), .val (.int p2), .val (.int p3), .val (.int (p1 &&& (7 : Int32))), .val (.int (p2 &&& (7 : Int32))), .val (.int (p3 &&& (7 : Int32))), .val (.ref xb), .val (.ref xi), .val (.ref xr), .val (.int (0 : Int32)), .unset, .unset, .unset] [(.int (1 : Int32)), (.ref xr)]) fun _ _ X _ k => XS.iconst X.here hx rfl (hb hby d0_77) k
  obtain ⟨vA76, hA76, ⟨rfl, rfl⟩, A76⟩ := A75.callV (b := xr) (own_startN l Z a0 hw xr xi (1 : Int32) (p1 &&& (7 : Int32)) _ hA66 n0 Z0 F_xr_ends V_xi (by decide) (by decide) rfl) E_xr hx hZ hown (hb hby d0_78) (hw _ (List.mem_of_getElem? (i := 15) rfl)) (hw _ (List.mem_of_getElem? (i := 16) rfl)) (hw _ (List.mem_of_getElem? (i := 18) rfl)) (hw _ (List.mem_of_getElem? (i := 17) rfl)) (hw _ (List.mem_of_getElem? (i := 19) rfl)) (hw _ (List.mem_of_getElem? (i := 4) rfl)) (fun _ q => notFace_of_selects (args := #[]) (mvT q (hw _ (List.mem_of_getElem? (i := 18) rfl)))) ⟨by decide, by decide⟩ (lenOf pd__28I_29I rfl) (argsL := [(.int (1 : Int32))]) (rest := []) rfl rfl (by rw [hml]; rfl) (W := 0) (Nat.le_of_eq rfl) (by decide) (by decide) (by decide) (by decide)
  have A77 : own_R p l e _ _ m _ below meth c S0 n0 hA66 3 27 (mkF m 81 #[.val (.int p1), .val (.int p2), .val (.int p3), .val (.int (p1 &&& (7 : Int32))), .val (.int (p2 &&& (7 : Int32))), .val (.int (p3 &&& (7 : Int32))), .val (.ref xb), .val (.ref xi), .val (.ref xr), .val (.int (0 : Int32)), .unset, .unset, .unset] [(.int (p1 &&& (7 : Int32)))]) := A76
  have A78 := A77.go (f' := mkF m 83 #[.val (.int p1), .val (.int p2), .val (.int p3), .val (.int (p1 &&& (7 : Int32))), .val (.int (p2 &&& (7 : Int32))), .val (.int (p3 &&& (7 : Int32))), .val (.ref xb), .val (.ref xi), .val (.ref xr), .val (.int (0 : Int32)), .val (.int (p1 &&& (7 : Int32))), .unset, .unset] []) fun _ _ X _ k => XS.istore X.here hx rfl (hb hby d0_81) rfl (l' := #[.val (.int p1), .val (.int p2), .val (.int p3), .val (.int (p1 &&& (7 : Int32))), .val (.int (p2 &&& (7 : Int32))), .val (.int (p3 &&& (7 : Int32))), .val (.ref xb), .val (.ref xi), .val (.ref xr), .val (.int (0 : Int32)), .val (.int (p1 &&& (7 : Int32))), .unset, .unset]) rfl k
  have A79 := A78.go (f' := mkF m 85 #[.val (.int p1), .val (.int p2), .val (.int p3), .val (.int (p1 &&& (7 : Int32))), .val (.int (p2 &&& (7 : Int32))), .val (.int (p3 &&& (7 : Int32))), .val (.ref xb), .val (.ref xi), .val (.ref xr), .val (.int (0 : Int32)), .val (.int (p1 &&& (7 : Int32))), .unset, .unset] [(.ref xr)]) fun _ _ X _ k => XS.aload X.here hx rfl (hb hby d0_83) rfl rfl k
  have A80 := A79.go (f' := mkF m 86 #[.val (.int p1), .val (.int p2), .val (.int p3), .val (.int (p1 &&& (7 : Int32))), .val (.int (p2 &&& (7 : Int32))), .val (.int (p3 &&& (7 : Int32))), .val (.ref xb), .val (.ref xi), .val (.ref xr), .val (.int (0 : Int32)), .val (.int (p1 &&& (7 : Int32))), .unset, .unset] [(.int (2 : Int32)), (.ref xr)]) fun _ _ X _ k => XS.iconst X.here hx rfl (hb hby d0_85) k
  obtain ⟨vA81, hA81, ⟨rfl, rfl⟩, A81⟩ := A80.callV (b := xr) (own_startN l Z a0 hw xr xi (2 : Int32) ((p1 &&& (7 : Int32)) + (p2 &&& (7 : Int32))) _ hA66 n0 Z0 F_xr_ends V_xi (by decide) (by decide) rfl) E_xr hx hZ hown (hb hby d0_86) (hw _ (List.mem_of_getElem? (i := 15) rfl)) (hw _ (List.mem_of_getElem? (i := 16) rfl)) (hw _ (List.mem_of_getElem? (i := 18) rfl)) (hw _ (List.mem_of_getElem? (i := 17) rfl)) (hw _ (List.mem_of_getElem? (i := 19) rfl)) (hw _ (List.mem_of_getElem? (i := 4) rfl)) (fun _ q => notFace_of_selects (args := #[]) (mvT q (hw _ (List.mem_of_getElem? (i := 18) rfl)))) ⟨by decide, by decide⟩ (lenOf pd__28I_29I rfl) (argsL := [(.int (2 : Int32))]) (rest := []) rfl rfl (by rw [hml]; rfl) (W := 0) (Nat.le_of_eq rfl) (by decide) (by decide) (by decide) (by decide)
  have A82 : own_R p l e _ _ m _ below meth c S0 n0 hA66 3 27 (mkF m 89 #[.val (.int p1), .val (.int p2), .val (.int p3), .val (.int (p1 &&& (7 : Int32))), .val (.int (p2 &&& (7 : Int32))), .val (.int (p3 &&& (7 : Int32))), .val (.ref xb), .val (.ref xi), .val (.ref xr), .val (.int (0 : Int32)), .val (.int (p1 &&& (7 : Int32))), .unset, .unset] [(.int ((p1 &&& (7 : Int32)) + (p2 &&& (7 : Int32))))]) := A81
  have A83 := A82.go (f' := mkF m 91 #[.val (.int p1), .val (.int p2), .val (.int p3), .val (.int (p1 &&& (7 : Int32))), .val (.int (p2 &&& (7 : Int32))), .val (.int (p3 &&& (7 : Int32))), .val (.ref xb), .val (.ref xi), .val (.ref xr), .val (.int (0 : Int32)), .val (.int (p1 &&& (7 : Int32))), .val (.int ((p1 &&& (7 : Int32)) + (p2 &&& (7 : Int32)))), .unset] []) fun _ _ X _ k => XS.istore X.here hx rfl (hb hby d0_89) rfl (l' := #[.val (.int p1), .val (.int p2), .val (.int p3), .val (.int (p1 &&& (7 : Int32))), .val (.int (p2 &&& (7 : Int32))), .val (.int (p3 &&& (7 : Int32))), .val (.ref xb), .val (.ref xi), .val (.ref xr), .val (.int (0 : Int32)), .val (.int (p1 &&& (7 : Int32))), .val (.int ((p1 &&& (7 : Int32)) + (p2 &&& (7 : Int32)))), .unset]) rfl k
  have A84 := A83.go (f' := mkF m 93 #[.val (.int p1), .val (.int p2), .val (.int p3), .val (.int (p1 &&& (7 : Int32))), .val (.int (p2 &&& (7 : Int32))), .val (.int (p3 &&& (7 : Int32))), .val (.ref xb), .val (.ref xi), .val (.ref xr), .val (.int (0 : Int32)), .val (.int (p1 &&& (7 : Int32))), .val (.int ((p1 &&& (7 : Int32)) + (p2 &&& (7 : Int32)))), .unset] [(.ref xr)]) fun _ _ X _ k => XS.aload X.here hx rfl (hb hby d0_91) rfl rfl k
  have A85 := A84.go (f' := mkF m 94 #[.val (.int p1), .val (.int p2), .val (.int p3), .val (.int (p1 &&& (7 : Int32))), .val (.int (p2 &&& (7 : Int32))), .val (.int (p3 &&& (7 : Int32))), .val (.ref xb), .val (.ref xi), .val (.ref xr), .val (.int (0 : Int32)), .val (.int (p1 &&& (7 : Int32))), .val (.int ((p1 &&& (7 : Int32)) + (p2 &&& (7 : Int32)))), .unset] [(.int (3 : Int32)), (.ref xr)]) fun _ _ X _ k => XS.iconst X.here hx rfl (hb hby d0_93) k
  obtain ⟨vA86, hA86, ⟨rfl, rfl⟩, A86⟩ := A85.callV (b := xr) (own_startN l Z a0 hw xr xi (3 : Int32) (((p1 &&& (7 : Int32)) + (p2 &&& (7 : Int32))) + (p3 &&& (7 : Int32))) _ hA66 n0 Z0 F_xr_ends V_xi (by decide) (by decide) rfl) E_xr hx hZ hown (hb hby d0_94) (hw _ (List.mem_of_getElem? (i := 15) rfl)) (hw _ (List.mem_of_getElem? (i := 16) rfl)) (hw _ (List.mem_of_getElem? (i := 18) rfl)) (hw _ (List.mem_of_getElem? (i := 17) rfl)) (hw _ (List.mem_of_getElem? (i := 19) rfl)) (hw _ (List.mem_of_getElem? (i := 4) rfl)) (fun _ q => notFace_of_selects (args := #[]) (mvT q (hw _ (List.mem_of_getElem? (i := 18) rfl)))) ⟨by decide, by decide⟩ (lenOf pd__28I_29I rfl) (argsL := [(.int (3 : Int32))]) (rest := []) rfl rfl (by rw [hml]; rfl) (W := 0) (Nat.le_of_eq rfl) (by decide) (by decide) (by decide) (by decide)
  have A87 : own_R p l e _ _ m _ below meth c S0 n0 hA66 3 27 (mkF m 97 #[.val (.int p1), .val (.int p2), .val (.int p3), .val (.int (p1 &&& (7 : Int32))), .val (.int (p2 &&& (7 : Int32))), .val (.int (p3 &&& (7 : Int32))), .val (.ref xb), .val (.ref xi), .val (.ref xr), .val (.int (0 : Int32)), .val (.int (p1 &&& (7 : Int32))), .val (.int ((p1 &&& (7 : Int32)) + (p2 &&& (7 : Int32)))), .unset] [(.int (((p1 &&& (7 : Int32)) + (p2 &&& (7 : Int32))) + (p3 &&& (7 : Int32))))]) := A86
  have A88 := A87.go (f' := mkF m 99 #[.val (.int p1), .val (.int p2), .val (.int p3), .val (.int (p1 &&& (7 : Int32))), .val (.int (p2 &&& (7 : Int32))), .val (.int (p3 &&& (7 : Int32))), .val (.ref xb), .val (.ref xi), .val (.ref xr), .val (.int (0 : Int32)), .val (.int (p1 &&& (7 : Int32))), .val (.int ((p1 &&& (7 : Int32)) + (p2 &&& (7 : Int32)))), .val (.int (((p1 &&& (7 : Int32)) + (p2 &&& (7 : Int32))) + (p3 &&& (7 : Int32))))] []) fun _ _ X _ k => XS.istore X.here hx rfl (hb hby d0_97) rfl (l' := #[.val (.int p1), .val (.int p2), .val (.int p3), .val (.int (p1 &&& (7 : Int32))), .val (.int (p2 &&& (7 : Int32))), .val (.int (p3 &&& (7 : Int32))), .val (.ref xb), .val (.ref xi), .val (.ref xr), .val (.int (0 : Int32)), .val (.int (p1 &&& (7 : Int32))), .val (.int ((p1 &&& (7 : Int32)) + (p2 &&& (7 : Int32)))), .val (.int (((p1 &&& (7 : Int32)) + (p2 &&& (7 : Int32))) + (p3 &&& (7 : Int32))))]) rfl k
  have A89 := A88.go (f' := mkF m 101 #[.val (.int p1), .val (.int p2), .val (.int p3), .val (.int (p1 &&& (7 : Int32))), .val (.int (p2 &&& (7 : Int32))), .val (.int (p3 &&& (7 : Int32))), .val (.ref xb), .val (.ref xi), .val (.ref xr), .val (.int (0 : Int32)), .val (.int (p1 &&& (7 : Int32))), .val (.int ((p1 &&& (7 : Int32)) + (p2 &&& (7 : Int32)))), .val (.int (((p1 &&& (7 : Int32)) + (p2 &&& (7 : Int32))) + (p3 &&& (7 : Int32))))] [(.int (0 : Int32))]) fun _ _ X _ k => XS.iload X.here hx rfl (hb hby d0_99) rfl k
  have q90 : ((0 : Int32) = (0 : Int32)) := rfl
  have A91 := A89.go (f' := mkF m 104 #[.val (.int p1), .val (.int p2), .val (.int p3), .val (.int (p1 &&& (7 : Int32))), .val (.int (p2 &&& (7 : Int32))), .val (.int (p3 &&& (7 : Int32))), .val (.ref xb), .val (.ref xi), .val (.ref xr), .val (.int (0 : Int32)), .val (.int (p1 &&& (7 : Int32))), .val (.int ((p1 &&& (7 : Int32)) + (p2 &&& (7 : Int32)))), .val (.int (((p1 &&& (7 : Int32)) + (p2 &&& (7 : Int32))) + (p3 &&& (7 : Int32))))] []) fun _ _ X _ k => XS.ifNo X.here hx rfl (hb hby d0_101) rfl ((if0 _ _).trans (teq q90).2) k
  have A92 := A91.go (f' := mkF m 106 #[.val (.int p1), .val (.int p2), .val (.int p3), .val (.int (p1 &&& (7 : Int32))), .val (.int (p2 &&& (7 : Int32))), .val (.int (p3 &&& (7 : Int32))), .val (.ref xb), .val (.ref xi), .val (.ref xr), .val (.int (0 : Int32)), .val (.int (p1 &&& (7 : Int32))), .val (.int ((p1 &&& (7 : Int32)) + (p2 &&& (7 : Int32)))), .val (.int (((p1 &&& (7 : Int32)) + (p2 &&& (7 : Int32))) + (p3 &&& (7 : Int32))))] [(.int (p1 &&& (7 : Int32)))]) fun _ _ X _ k => XS.iload X.here hx rfl (hb hby d0_104) rfl k
  have A93 := A92.go (f' := mkF m 107 #[.val (.int p1), .val (.int p2), .val (.int p3), .val (.int (p1 &&& (7 : Int32))), .val (.int (p2 &&& (7 : Int32))), .val (.int (p3 &&& (7 : Int32))), .val (.ref xb), .val (.ref xi), .val (.ref xr), .val (.int (0 : Int32)), .val (.int (p1 &&& (7 : Int32))), .val (.int ((p1 &&& (7 : Int32)) + (p2 &&& (7 : Int32)))), .val (.int (((p1 &&& (7 : Int32)) + (p2 &&& (7 : Int32))) + (p3 &&& (7 : Int32))))] [(.int (p1 &&& (7 : Int32))), (.int (p1 &&& (7 : Int32)))]) fun _ _ X _ k => XS.iloadN X.here hx rfl (hb hby d0_106) rfl k
  have q94 : ((p1 &&& (7 : Int32)) = (p1 &&& (7 : Int32))) := rfl
  have A95 := A93.go (f' := mkF m 110 #[.val (.int p1), .val (.int p2), .val (.int p3), .val (.int (p1 &&& (7 : Int32))), .val (.int (p2 &&& (7 : Int32))), .val (.int (p3 &&& (7 : Int32))), .val (.ref xb), .val (.ref xi), .val (.ref xr), .val (.int (0 : Int32)), .val (.int (p1 &&& (7 : Int32))), .val (.int ((p1 &&& (7 : Int32)) + (p2 &&& (7 : Int32)))), .val (.int (((p1 &&& (7 : Int32)) + (p2 &&& (7 : Int32))) + (p3 &&& (7 : Int32))))] []) fun _ _ X _ k => XS.icmpNo X.here hx rfl (hb hby d0_107) rfl ((teq q94).2) k
  have A96 := A95.go (f' := mkF m 112 #[.val (.int p1), .val (.int p2), .val (.int p3), .val (.int (p1 &&& (7 : Int32))), .val (.int (p2 &&& (7 : Int32))), .val (.int (p3 &&& (7 : Int32))), .val (.ref xb), .val (.ref xi), .val (.ref xr), .val (.int (0 : Int32)), .val (.int (p1 &&& (7 : Int32))), .val (.int ((p1 &&& (7 : Int32)) + (p2 &&& (7 : Int32)))), .val (.int (((p1 &&& (7 : Int32)) + (p2 &&& (7 : Int32))) + (p3 &&& (7 : Int32))))] [(.int ((p1 &&& (7 : Int32)) + (p2 &&& (7 : Int32))))]) fun _ _ X _ k => XS.iload X.here hx rfl (hb hby d0_110) rfl k
  have A97 := A96.go (f' := mkF m 113 #[.val (.int p1), .val (.int p2), .val (.int p3), .val (.int (p1 &&& (7 : Int32))), .val (.int (p2 &&& (7 : Int32))), .val (.int (p3 &&& (7 : Int32))), .val (.ref xb), .val (.ref xi), .val (.ref xr), .val (.int (0 : Int32)), .val (.int (p1 &&& (7 : Int32))), .val (.int ((p1 &&& (7 : Int32)) + (p2 &&& (7 : Int32)))), .val (.int (((p1 &&& (7 : Int32)) + (p2 &&& (7 : Int32))) + (p3 &&& (7 : Int32))))] [(.int (p1 &&& (7 : Int32))), (.int ((p1 &&& (7 : Int32)) + (p2 &&& (7 : Int32))))]) fun _ _ X _ k => XS.iloadN X.here hx rfl (hb hby d0_112) rfl k
  have A98 := A97.go (f' := mkF m 115 #[.val (.int p1), .val (.int p2), .val (.int p3), .val (.int (p1 &&& (7 : Int32))), .val (.int (p2 &&& (7 : Int32))), .val (.int (p3 &&& (7 : Int32))), .val (.ref xb), .val (.ref xi), .val (.ref xr), .val (.int (0 : Int32)), .val (.int (p1 &&& (7 : Int32))), .val (.int ((p1 &&& (7 : Int32)) + (p2 &&& (7 : Int32)))), .val (.int (((p1 &&& (7 : Int32)) + (p2 &&& (7 : Int32))) + (p3 &&& (7 : Int32))))] [(.int (p2 &&& (7 : Int32))), (.int (p1 &&& (7 : Int32))), (.int ((p1 &&& (7 : Int32)) + (p2 &&& (7 : Int32))))]) fun _ _ X _ k => XS.iload X.here hx rfl (hb hby d0_113) rfl k
  have A99 := A98.go (f' := mkF m 116 #[.val (.int p1), .val (.int p2), .val (.int p3), .val (.int (p1 &&& (7 : Int32))), .val (.int (p2 &&& (7 : Int32))), .val (.int (p3 &&& (7 : Int32))), .val (.ref xb), .val (.ref xi), .val (.ref xr), .val (.int (0 : Int32)), .val (.int (p1 &&& (7 : Int32))), .val (.int ((p1 &&& (7 : Int32)) + (p2 &&& (7 : Int32)))), .val (.int (((p1 &&& (7 : Int32)) + (p2 &&& (7 : Int32))) + (p3 &&& (7 : Int32))))] [(.int ((p1 &&& (7 : Int32)) + (p2 &&& (7 : Int32)))), (.int ((p1 &&& (7 : Int32)) + (p2 &&& (7 : Int32))))]) fun _ _ X _ k => XS.iadd X.here hx rfl (hb hby d0_115) rfl k
  have q100 : (((p1 &&& (7 : Int32)) + (p2 &&& (7 : Int32))) = ((p1 &&& (7 : Int32)) + (p2 &&& (7 : Int32)))) := rfl
  have A101 := A99.go (f' := mkF m 119 #[.val (.int p1), .val (.int p2), .val (.int p3), .val (.int (p1 &&& (7 : Int32))), .val (.int (p2 &&& (7 : Int32))), .val (.int (p3 &&& (7 : Int32))), .val (.ref xb), .val (.ref xi), .val (.ref xr), .val (.int (0 : Int32)), .val (.int (p1 &&& (7 : Int32))), .val (.int ((p1 &&& (7 : Int32)) + (p2 &&& (7 : Int32)))), .val (.int (((p1 &&& (7 : Int32)) + (p2 &&& (7 : Int32))) + (p3 &&& (7 : Int32))))] []) fun _ _ X _ k => XS.icmpNo X.here hx rfl (hb hby d0_116) rfl ((teq q100).2) k
  have A102 := A101.go (f' := mkF m 121 #[.val (.int p1), .val (.int p2), .val (.int p3), .val (.int (p1 &&& (7 : Int32))), .val (.int (p2 &&& (7 : Int32))), .val (.int (p3 &&& (7 : Int32))), .val (.ref xb), .val (.ref xi), .val (.ref xr), .val (.int (0 : Int32)), .val (.int (p1 &&& (7 : Int32))), .val (.int ((p1 &&& (7 : Int32)) + (p2 &&& (7 : Int32)))), .val (.int (((p1 &&& (7 : Int32)) + (p2 &&& (7 : Int32))) + (p3 &&& (7 : Int32))))] [(.int (((p1 &&& (7 : Int32)) + (p2 &&& (7 : Int32))) + (p3 &&& (7 : Int32))))]) fun _ _ X _ k => XS.iload X.here hx rfl (hb hby d0_119) rfl k
  have A103 := A102.go (f' := mkF m 122 #[.val (.int p1), .val (.int p2), .val (.int p3), .val (.int (p1 &&& (7 : Int32))), .val (.int (p2 &&& (7 : Int32))), .val (.int (p3 &&& (7 : Int32))), .val (.ref xb), .val (.ref xi), .val (.ref xr), .val (.int (0 : Int32)), .val (.int (p1 &&& (7 : Int32))), .val (.int ((p1 &&& (7 : Int32)) + (p2 &&& (7 : Int32)))), .val (.int (((p1 &&& (7 : Int32)) + (p2 &&& (7 : Int32))) + (p3 &&& (7 : Int32))))] [(.int (p1 &&& (7 : Int32))), (.int (((p1 &&& (7 : Int32)) + (p2 &&& (7 : Int32))) + (p3 &&& (7 : Int32))))]) fun _ _ X _ k => XS.iloadN X.here hx rfl (hb hby d0_121) rfl k
  have A104 := A103.go (f' := mkF m 124 #[.val (.int p1), .val (.int p2), .val (.int p3), .val (.int (p1 &&& (7 : Int32))), .val (.int (p2 &&& (7 : Int32))), .val (.int (p3 &&& (7 : Int32))), .val (.ref xb), .val (.ref xi), .val (.ref xr), .val (.int (0 : Int32)), .val (.int (p1 &&& (7 : Int32))), .val (.int ((p1 &&& (7 : Int32)) + (p2 &&& (7 : Int32)))), .val (.int (((p1 &&& (7 : Int32)) + (p2 &&& (7 : Int32))) + (p3 &&& (7 : Int32))))] [(.int (p2 &&& (7 : Int32))), (.int (p1 &&& (7 : Int32))), (.int (((p1 &&& (7 : Int32)) + (p2 &&& (7 : Int32))) + (p3 &&& (7 : Int32))))]) fun _ _ X _ k => XS.iload X.here hx rfl (hb hby d0_122) rfl k
  have A105 := A104.go (f' := mkF m 125 #[.val (.int p1), .val (.int p2), .val (.int p3), .val (.int (p1 &&& (7 : Int32))), .val (.int (p2 &&& (7 : Int32))), .val (.int (p3 &&& (7 : Int32))), .val (.ref xb), .val (.ref xi), .val (.ref xr), .val (.int (0 : Int32)), .val (.int (p1 &&& (7 : Int32))), .val (.int ((p1 &&& (7 : Int32)) + (p2 &&& (7 : Int32)))), .val (.int (((p1 &&& (7 : Int32)) + (p2 &&& (7 : Int32))) + (p3 &&& (7 : Int32))))] [(.int ((p1 &&& (7 : Int32)) + (p2 &&& (7 : Int32)))), (.int (((p1 &&& (7 : Int32)) + (p2 &&& (7 : Int32))) + (p3 &&& (7 : Int32))))]) fun _ _ X _ k => XS.iadd X.here hx rfl (hb hby d0_124) rfl k
  have A106 := A105.go (f' := mkF m 127 #[.val (.int p1), .val (.int p2), .val (.int p3), .val (.int (p1 &&& (7 : Int32))), .val (.int (p2 &&& (7 : Int32))), .val (.int (p3 &&& (7 : Int32))), .val (.ref xb), .val (.ref xi), .val (.ref xr), .val (.int (0 : Int32)), .val (.int (p1 &&& (7 : Int32))), .val (.int ((p1 &&& (7 : Int32)) + (p2 &&& (7 : Int32)))), .val (.int (((p1 &&& (7 : Int32)) + (p2 &&& (7 : Int32))) + (p3 &&& (7 : Int32))))] [(.int (p3 &&& (7 : Int32))), (.int ((p1 &&& (7 : Int32)) + (p2 &&& (7 : Int32)))), (.int (((p1 &&& (7 : Int32)) + (p2 &&& (7 : Int32))) + (p3 &&& (7 : Int32))))]) fun _ _ X _ k => XS.iload X.here hx rfl (hb hby d0_125) rfl k
  have A107 := A106.go (f' := mkF m 128 #[.val (.int p1), .val (.int p2), .val (.int p3), .val (.int (p1 &&& (7 : Int32))), .val (.int (p2 &&& (7 : Int32))), .val (.int (p3 &&& (7 : Int32))), .val (.ref xb), .val (.ref xi), .val (.ref xr), .val (.int (0 : Int32)), .val (.int (p1 &&& (7 : Int32))), .val (.int ((p1 &&& (7 : Int32)) + (p2 &&& (7 : Int32)))), .val (.int (((p1 &&& (7 : Int32)) + (p2 &&& (7 : Int32))) + (p3 &&& (7 : Int32))))] [(.int (((p1 &&& (7 : Int32)) + (p2 &&& (7 : Int32))) + (p3 &&& (7 : Int32)))), (.int (((p1 &&& (7 : Int32)) + (p2 &&& (7 : Int32))) + (p3 &&& (7 : Int32))))]) fun _ _ X _ k => XS.iadd X.here hx rfl (hb hby d0_127) rfl k
  have q108 : ((((p1 &&& (7 : Int32)) + (p2 &&& (7 : Int32))) + (p3 &&& (7 : Int32))) = (((p1 &&& (7 : Int32)) + (p2 &&& (7 : Int32))) + (p3 &&& (7 : Int32)))) := rfl
  have A109 := A107.go (f' := mkF m 133 #[.val (.int p1), .val (.int p2), .val (.int p3), .val (.int (p1 &&& (7 : Int32))), .val (.int (p2 &&& (7 : Int32))), .val (.int (p3 &&& (7 : Int32))), .val (.ref xb), .val (.ref xi), .val (.ref xr), .val (.int (0 : Int32)), .val (.int (p1 &&& (7 : Int32))), .val (.int ((p1 &&& (7 : Int32)) + (p2 &&& (7 : Int32)))), .val (.int (((p1 &&& (7 : Int32)) + (p2 &&& (7 : Int32))) + (p3 &&& (7 : Int32))))] []) fun _ _ X _ k => XS.icmpYes X.here hx rfl (pc0 := 128) (pc' := 133) rfl (hb hby d0_128) rfl ((teq q108).1) (by decide) (by decide) k
  have A110 := A109.go (f' := mkF m 135 #[.val (.int p1), .val (.int p2), .val (.int p3), .val (.int (p1 &&& (7 : Int32))), .val (.int (p2 &&& (7 : Int32))), .val (.int (p3 &&& (7 : Int32))), .val (.ref xb), .val (.ref xi), .val (.ref xr), .val (.int (0 : Int32)), .val (.int (p1 &&& (7 : Int32))), .val (.int ((p1 &&& (7 : Int32)) + (p2 &&& (7 : Int32)))), .val (.int (((p1 &&& (7 : Int32)) + (p2 &&& (7 : Int32))) + (p3 &&& (7 : Int32))))] [(.ref xr)]) fun _ _ X _ k => XS.aload X.here hx rfl (hb hby d0_133) rfl rfl k
  have A111 := A110.go (f' := mkF m 136 #[.val (.int p1), .val (.int p2), .val (.int p3), .val (.int (p1 &&& (7 : Int32))), .val (.int (p2 &&& (7 : Int32))), .val (.int (p3 &&& (7 : Int32))), .val (.ref xb), .val (.ref xi), .val (.ref xr), .val (.int (0 : Int32)), .val (.int (p1 &&& (7 : Int32))), .val (.int ((p1 &&& (7 : Int32)) + (p2 &&& (7 : Int32)))), .val (.int (((p1 &&& (7 : Int32)) + (p2 &&& (7 : Int32))) + (p3 &&& (7 : Int32))))] [(.int (0 : Int32)), (.ref xr)]) fun _ _ X _ k => XS.iconst X.here hx rfl (hb hby d0_135) k
  obtain ⟨vA112, hA112, ⟨rfl, rfl⟩, A112⟩ := A111.callV (b := xr) (own_end l Z a0 hw xr xi (0 : Int32) (p1 &&& (7 : Int32)) _ hA66 n0 Z0 F_xr_ends V_xi (by decide) rfl) E_xr hx hZ hown (hb hby d0_136) (hw _ (List.mem_of_getElem? (i := 20) rfl)) (hw _ (List.mem_of_getElem? (i := 21) rfl)) (hw _ (List.mem_of_getElem? (i := 23) rfl)) (hw _ (List.mem_of_getElem? (i := 22) rfl)) (hw _ (List.mem_of_getElem? (i := 24) rfl)) (hw _ (List.mem_of_getElem? (i := 4) rfl)) (fun _ q => notFace_of_selects (args := #[]) (mvT q (hw _ (List.mem_of_getElem? (i := 23) rfl)))) ⟨by decide, by decide⟩ (lenOf pd__28I_29I rfl) (argsL := [(.int (0 : Int32))]) (rest := []) rfl rfl (by rw [hml]; rfl) (W := 0) (Nat.le_of_eq rfl) (by decide) (by decide) (by decide) (by decide)
  have A113 : own_R p l e _ _ m _ below meth c S0 n0 hA66 3 27 (mkF m 139 #[.val (.int p1), .val (.int p2), .val (.int p3), .val (.int (p1 &&& (7 : Int32))), .val (.int (p2 &&& (7 : Int32))), .val (.int (p3 &&& (7 : Int32))), .val (.ref xb), .val (.ref xi), .val (.ref xr), .val (.int (0 : Int32)), .val (.int (p1 &&& (7 : Int32))), .val (.int ((p1 &&& (7 : Int32)) + (p2 &&& (7 : Int32)))), .val (.int (((p1 &&& (7 : Int32)) + (p2 &&& (7 : Int32))) + (p3 &&& (7 : Int32))))] [(.int (p1 &&& (7 : Int32)))]) := A112
  have A114 := A113.go (f' := mkF m 141 #[.val (.int p1), .val (.int p2), .val (.int p3), .val (.int (p1 &&& (7 : Int32))), .val (.int (p2 &&& (7 : Int32))), .val (.int (p3 &&& (7 : Int32))), .val (.ref xb), .val (.ref xi), .val (.ref xr), .val (.int (0 : Int32)), .val (.int (p1 &&& (7 : Int32))), .val (.int ((p1 &&& (7 : Int32)) + (p2 &&& (7 : Int32)))), .val (.int (((p1 &&& (7 : Int32)) + (p2 &&& (7 : Int32))) + (p3 &&& (7 : Int32))))] [(.int (0 : Int32)), (.int (p1 &&& (7 : Int32)))]) fun _ _ X _ k => XS.iload X.here hx rfl (hb hby d0_139) rfl k
  have A115 := A114.go (f' := mkF m 142 #[.val (.int p1), .val (.int p2), .val (.int p3), .val (.int (p1 &&& (7 : Int32))), .val (.int (p2 &&& (7 : Int32))), .val (.int (p3 &&& (7 : Int32))), .val (.ref xb), .val (.ref xi), .val (.ref xr), .val (.int (0 : Int32)), .val (.int (p1 &&& (7 : Int32))), .val (.int ((p1 &&& (7 : Int32)) + (p2 &&& (7 : Int32)))), .val (.int (((p1 &&& (7 : Int32)) + (p2 &&& (7 : Int32))) + (p3 &&& (7 : Int32))))] [(.int ((p1 &&& (7 : Int32)) - (0 : Int32)))]) fun _ _ X _ k => XS.isub X.here hx rfl (hb hby d0_141) rfl k
  have A116 := A115.go (f' := mkF m 143 #[.val (.int p1), .val (.int p2), .val (.int p3), .val (.int (p1 &&& (7 : Int32))), .val (.int (p2 &&& (7 : Int32))), .val (.int (p3 &&& (7 : Int32))), .val (.ref xb), .val (.ref xi), .val (.ref xr), .val (.int (0 : Int32)), .val (.int (p1 &&& (7 : Int32))), .val (.int ((p1 &&& (7 : Int32)) + (p2 &&& (7 : Int32)))), .val (.int (((p1 &&& (7 : Int32)) + (p2 &&& (7 : Int32))) + (p3 &&& (7 : Int32))))] [(.int (p1 &&& (7 : Int32))), (.int ((p1 &&& (7 : Int32)) - (0 : Int32)))]) fun _ _ X _ k => XS.iloadN X.here hx rfl (hb hby d0_142) rfl k
  have q117 : (((p1 &&& (7 : Int32)) - (0 : Int32)) = (p1 &&& (7 : Int32))) := (own_ar (p1 &&& (7 : Int32)) (p2 &&& (7 : Int32)) (p3 &&& (7 : Int32))).1
  have A118 := A116.go (f' := mkF m 146 #[.val (.int p1), .val (.int p2), .val (.int p3), .val (.int (p1 &&& (7 : Int32))), .val (.int (p2 &&& (7 : Int32))), .val (.int (p3 &&& (7 : Int32))), .val (.ref xb), .val (.ref xi), .val (.ref xr), .val (.int (0 : Int32)), .val (.int (p1 &&& (7 : Int32))), .val (.int ((p1 &&& (7 : Int32)) + (p2 &&& (7 : Int32)))), .val (.int (((p1 &&& (7 : Int32)) + (p2 &&& (7 : Int32))) + (p3 &&& (7 : Int32))))] []) fun _ _ X _ k => XS.icmpNo X.here hx rfl (hb hby d0_143) rfl ((teq q117).2) k
  have A119 := A118.go (f' := mkF m 148 #[.val (.int p1), .val (.int p2), .val (.int p3), .val (.int (p1 &&& (7 : Int32))), .val (.int (p2 &&& (7 : Int32))), .val (.int (p3 &&& (7 : Int32))), .val (.ref xb), .val (.ref xi), .val (.ref xr), .val (.int (0 : Int32)), .val (.int (p1 &&& (7 : Int32))), .val (.int ((p1 &&& (7 : Int32)) + (p2 &&& (7 : Int32)))), .val (.int (((p1 &&& (7 : Int32)) + (p2 &&& (7 : Int32))) + (p3 &&& (7 : Int32))))] [(.ref xr)]) fun _ _ X _ k => XS.aload X.here hx rfl (hb hby d0_146) rfl rfl k
  have A120 := A119.go (f' := mkF m 149 #[.val (.int p1), .val (.int p2), .val (.int p3), .val (.int (p1 &&& (7 : Int32))), .val (.int (p2 &&& (7 : Int32))), .val (.int (p3 &&& (7 : Int32))), .val (.ref xb), .val (.ref xi), .val (.ref xr), .val (.int (0 : Int32)), .val (.int (p1 &&& (7 : Int32))), .val (.int ((p1 &&& (7 : Int32)) + (p2 &&& (7 : Int32)))), .val (.int (((p1 &&& (7 : Int32)) + (p2 &&& (7 : Int32))) + (p3 &&& (7 : Int32))))] [(.int (1 : Int32)), (.ref xr)]) fun _ _ X _ k => XS.iconst X.here hx rfl (hb hby d0_148) k
  obtain ⟨vA121, hA121, ⟨rfl, rfl⟩, A121⟩ := A120.callV (b := xr) (own_end l Z a0 hw xr xi (1 : Int32) ((p1 &&& (7 : Int32)) + (p2 &&& (7 : Int32))) _ hA66 n0 Z0 F_xr_ends V_xi (by decide) rfl) E_xr hx hZ hown (hb hby d0_149) (hw _ (List.mem_of_getElem? (i := 20) rfl)) (hw _ (List.mem_of_getElem? (i := 21) rfl)) (hw _ (List.mem_of_getElem? (i := 23) rfl)) (hw _ (List.mem_of_getElem? (i := 22) rfl)) (hw _ (List.mem_of_getElem? (i := 24) rfl)) (hw _ (List.mem_of_getElem? (i := 4) rfl)) (fun _ q => notFace_of_selects (args := #[]) (mvT q (hw _ (List.mem_of_getElem? (i := 23) rfl)))) ⟨by decide, by decide⟩ (lenOf pd__28I_29I rfl) (argsL := [(.int (1 : Int32))]) (rest := []) rfl rfl (by rw [hml]; rfl) (W := 0) (Nat.le_of_eq rfl) (by decide) (by decide) (by decide) (by decide)
  have A122 : own_R p l e _ _ m _ below meth c S0 n0 hA66 3 27 (mkF m 152 #[.val (.int p1), .val (.int p2), .val (.int p3), .val (.int (p1 &&& (7 : Int32))), .val (.int (p2 &&& (7 : Int32))), .val (.int (p3 &&& (7 : Int32))), .val (.ref xb), .val (.ref xi), .val (.ref xr), .val (.int (0 : Int32)), .val (.int (p1 &&& (7 : Int32))), .val (.int ((p1 &&& (7 : Int32)) + (p2 &&& (7 : Int32)))), .val (.int (((p1 &&& (7 : Int32)) + (p2 &&& (7 : Int32))) + (p3 &&& (7 : Int32))))] [(.int ((p1 &&& (7 : Int32)) + (p2 &&& (7 : Int32))))]) := A121
  have A123 := A122.go (f' := mkF m 154 #[.val (.int p1), .val (.int p2), .val (.int p3), .val (.int (p1 &&& (7 : Int32))), .val (.int (p2 &&& (7 : Int32))), .val (.int (p3 &&& (7 : Int32))), .val (.ref xb), .val (.ref xi), .val (.ref xr), .val (.int (0 : Int32)), .val (.int (p1 &&& (7 : Int32))), .val (.int ((p1 &&& (7 : Int32)) + (p2 &&& (7 : Int32)))), .val (.int (((p1 &&& (7 : Int32)) + (p2 &&& (7 : Int32))) + (p3 &&& (7 : Int32))))] [(.int (p1 &&& (7 : Int32))), (.int ((p1 &&& (7 : Int32)) + (p2 &&& (7 : Int32))))]) fun _ _ X _ k => XS.iload X.here hx rfl (hb hby d0_152) rfl k
  have A124 := A123.go (f' := mkF m 155 #[.val (.int p1), .val (.int p2), .val (.int p3), .val (.int (p1 &&& (7 : Int32))), .val (.int (p2 &&& (7 : Int32))), .val (.int (p3 &&& (7 : Int32))), .val (.ref xb), .val (.ref xi), .val (.ref xr), .val (.int (0 : Int32)), .val (.int (p1 &&& (7 : Int32))), .val (.int ((p1 &&& (7 : Int32)) + (p2 &&& (7 : Int32)))), .val (.int (((p1 &&& (7 : Int32)) + (p2 &&& (7 : Int32))) + (p3 &&& (7 : Int32))))] [(.int (((p1 &&& (7 : Int32)) + (p2 &&& (7 : Int32))) - (p1 &&& (7 : Int32))))]) fun _ _ X _ k => XS.isub X.here hx rfl (hb hby d0_154) rfl k
  have A125 := A124.go (f' := mkF m 157 #[.val (.int p1), .val (.int p2), .val (.int p3), .val (.int (p1 &&& (7 : Int32))), .val (.int (p2 &&& (7 : Int32))), .val (.int (p3 &&& (7 : Int32))), .val (.ref xb), .val (.ref xi), .val (.ref xr), .val (.int (0 : Int32)), .val (.int (p1 &&& (7 : Int32))), .val (.int ((p1 &&& (7 : Int32)) + (p2 &&& (7 : Int32)))), .val (.int (((p1 &&& (7 : Int32)) + (p2 &&& (7 : Int32))) + (p3 &&& (7 : Int32))))] [(.int (p2 &&& (7 : Int32))), (.int (((p1 &&& (7 : Int32)) + (p2 &&& (7 : Int32))) - (p1 &&& (7 : Int32))))]) fun _ _ X _ k => XS.iload X.here hx rfl (hb hby d0_155) rfl k
  have q126 : ((((p1 &&& (7 : Int32)) + (p2 &&& (7 : Int32))) - (p1 &&& (7 : Int32))) = (p2 &&& (7 : Int32))) := (own_ar (p1 &&& (7 : Int32)) (p2 &&& (7 : Int32)) (p3 &&& (7 : Int32))).2.1
  have A127 := A125.go (f' := mkF m 160 #[.val (.int p1), .val (.int p2), .val (.int p3), .val (.int (p1 &&& (7 : Int32))), .val (.int (p2 &&& (7 : Int32))), .val (.int (p3 &&& (7 : Int32))), .val (.ref xb), .val (.ref xi), .val (.ref xr), .val (.int (0 : Int32)), .val (.int (p1 &&& (7 : Int32))), .val (.int ((p1 &&& (7 : Int32)) + (p2 &&& (7 : Int32)))), .val (.int (((p1 &&& (7 : Int32)) + (p2 &&& (7 : Int32))) + (p3 &&& (7 : Int32))))] []) fun _ _ X _ k => XS.icmpNo X.here hx rfl (hb hby d0_157) rfl ((teq q126).2) k
  have A128 := A127.go (f' := mkF m 162 #[.val (.int p1), .val (.int p2), .val (.int p3), .val (.int (p1 &&& (7 : Int32))), .val (.int (p2 &&& (7 : Int32))), .val (.int (p3 &&& (7 : Int32))), .val (.ref xb), .val (.ref xi), .val (.ref xr), .val (.int (0 : Int32)), .val (.int (p1 &&& (7 : Int32))), .val (.int ((p1 &&& (7 : Int32)) + (p2 &&& (7 : Int32)))), .val (.int (((p1 &&& (7 : Int32)) + (p2 &&& (7 : Int32))) + (p3 &&& (7 : Int32))))] [(.ref xr)]) fun _ _ X _ k => XS.aload X.here hx rfl (hb hby d0_160) rfl rfl k
  have A129 := A128.go (f' := mkF m 163 #[.val (.int p1), .val (.int p2), .val (.int p3), .val (.int (p1 &&& (7 : Int32))), .val (.int (p2 &&& (7 : Int32))), .val (.int (p3 &&& (7 : Int32))), .val (.ref xb), .val (.ref xi), .val (.ref xr), .val (.int (0 : Int32)), .val (.int (p1 &&& (7 : Int32))), .val (.int ((p1 &&& (7 : Int32)) + (p2 &&& (7 : Int32)))), .val (.int (((p1 &&& (7 : Int32)) + (p2 &&& (7 : Int32))) + (p3 &&& (7 : Int32))))] [(.int (2 : Int32)), (.ref xr)]) fun _ _ X _ k => XS.iconst X.here hx rfl (hb hby d0_162) k
  obtain ⟨vA130, hA130, ⟨rfl, rfl⟩, A130⟩ := A129.callV (b := xr) (own_end l Z a0 hw xr xi (2 : Int32) (((p1 &&& (7 : Int32)) + (p2 &&& (7 : Int32))) + (p3 &&& (7 : Int32))) _ hA66 n0 Z0 F_xr_ends V_xi (by decide) rfl) E_xr hx hZ hown (hb hby d0_163) (hw _ (List.mem_of_getElem? (i := 20) rfl)) (hw _ (List.mem_of_getElem? (i := 21) rfl)) (hw _ (List.mem_of_getElem? (i := 23) rfl)) (hw _ (List.mem_of_getElem? (i := 22) rfl)) (hw _ (List.mem_of_getElem? (i := 24) rfl)) (hw _ (List.mem_of_getElem? (i := 4) rfl)) (fun _ q => notFace_of_selects (args := #[]) (mvT q (hw _ (List.mem_of_getElem? (i := 23) rfl)))) ⟨by decide, by decide⟩ (lenOf pd__28I_29I rfl) (argsL := [(.int (2 : Int32))]) (rest := []) rfl rfl (by rw [hml]; rfl) (W := 0) (Nat.le_of_eq rfl) (by decide) (by decide) (by decide) (by decide)
  have A131 : own_R p l e _ _ m _ below meth c S0 n0 hA66 3 27 (mkF m 166 #[.val (.int p1), .val (.int p2), .val (.int p3), .val (.int (p1 &&& (7 : Int32))), .val (.int (p2 &&& (7 : Int32))), .val (.int (p3 &&& (7 : Int32))), .val (.ref xb), .val (.ref xi), .val (.ref xr), .val (.int (0 : Int32)), .val (.int (p1 &&& (7 : Int32))), .val (.int ((p1 &&& (7 : Int32)) + (p2 &&& (7 : Int32)))), .val (.int (((p1 &&& (7 : Int32)) + (p2 &&& (7 : Int32))) + (p3 &&& (7 : Int32))))] [(.int (((p1 &&& (7 : Int32)) + (p2 &&& (7 : Int32))) + (p3 &&& (7 : Int32))))]) := A130
  have A132 := A131.go (f' := mkF m 168 #[.val (.int p1), .val (.int p2), .val (.int p3), .val (.int (p1 &&& (7 : Int32))), .val (.int (p2 &&& (7 : Int32))), .val (.int (p3 &&& (7 : Int32))), .val (.ref xb), .val (.ref xi), .val (.ref xr), .val (.int (0 : Int32)), .val (.int (p1 &&& (7 : Int32))), .val (.int ((p1 &&& (7 : Int32)) + (p2 &&& (7 : Int32)))), .val (.int (((p1 &&& (7 : Int32)) + (p2 &&& (7 : Int32))) + (p3 &&& (7 : Int32))))] [(.int ((p1 &&& (7 : Int32)) + (p2 &&& (7 : Int32)))), (.int (((p1 &&& (7 : Int32)) + (p2 &&& (7 : Int32))) + (p3 &&& (7 : Int32))))]) fun _ _ X _ k => XS.iload X.here hx rfl (hb hby d0_166) rfl k
  have A133 := A132.go (f' := mkF m 169 #[.val (.int p1), .val (.int p2), .val (.int p3), .val (.int (p1 &&& (7 : Int32))), .val (.int (p2 &&& (7 : Int32))), .val (.int (p3 &&& (7 : Int32))), .val (.ref xb), .val (.ref xi), .val (.ref xr), .val (.int (0 : Int32)), .val (.int (p1 &&& (7 : Int32))), .val (.int ((p1 &&& (7 : Int32)) + (p2 &&& (7 : Int32)))), .val (.int (((p1 &&& (7 : Int32)) + (p2 &&& (7 : Int32))) + (p3 &&& (7 : Int32))))] [(.int ((((p1 &&& (7 : Int32)) + (p2 &&& (7 : Int32))) + (p3 &&& (7 : Int32))) - ((p1 &&& (7 : Int32)) + (p2 &&& (7 : Int32)))))]) fun _ _ X _ k => XS.isub X.here hx rfl (hb hby d0_168) rfl k
  have A134 := A133.go (f' := mkF m 171 #[.val (.int p1), .val (.int p2), .val (.int p3), .val (.int (p1 &&& (7 : Int32))), .val (.int (p2 &&& (7 : Int32))), .val (.int (p3 &&& (7 : Int32))), .val (.ref xb), .val (.ref xi), .val (.ref xr), .val (.int (0 : Int32)), .val (.int (p1 &&& (7 : Int32))), .val (.int ((p1 &&& (7 : Int32)) + (p2 &&& (7 : Int32)))), .val (.int (((p1 &&& (7 : Int32)) + (p2 &&& (7 : Int32))) + (p3 &&& (7 : Int32))))] [(.int (p3 &&& (7 : Int32))), (.int ((((p1 &&& (7 : Int32)) + (p2 &&& (7 : Int32))) + (p3 &&& (7 : Int32))) - ((p1 &&& (7 : Int32)) + (p2 &&& (7 : Int32)))))]) fun _ _ X _ k => XS.iload X.here hx rfl (hb hby d0_169) rfl k
  have q135 : (((((p1 &&& (7 : Int32)) + (p2 &&& (7 : Int32))) + (p3 &&& (7 : Int32))) - ((p1 &&& (7 : Int32)) + (p2 &&& (7 : Int32)))) = (p3 &&& (7 : Int32))) := (own_ar (p1 &&& (7 : Int32)) (p2 &&& (7 : Int32)) (p3 &&& (7 : Int32))).2.2.1
  have A136 := A134.go (f' := mkF m 174 #[.val (.int p1), .val (.int p2), .val (.int p3), .val (.int (p1 &&& (7 : Int32))), .val (.int (p2 &&& (7 : Int32))), .val (.int (p3 &&& (7 : Int32))), .val (.ref xb), .val (.ref xi), .val (.ref xr), .val (.int (0 : Int32)), .val (.int (p1 &&& (7 : Int32))), .val (.int ((p1 &&& (7 : Int32)) + (p2 &&& (7 : Int32)))), .val (.int (((p1 &&& (7 : Int32)) + (p2 &&& (7 : Int32))) + (p3 &&& (7 : Int32))))] []) fun _ _ X _ k => XS.icmpNo X.here hx rfl (hb hby d0_171) rfl ((teq q135).2) k
  have A137 := A136.go (f' := mkF m 176 #[.val (.int p1), .val (.int p2), .val (.int p3), .val (.int (p1 &&& (7 : Int32))), .val (.int (p2 &&& (7 : Int32))), .val (.int (p3 &&& (7 : Int32))), .val (.ref xb), .val (.ref xi), .val (.ref xr), .val (.int (0 : Int32)), .val (.int (p1 &&& (7 : Int32))), .val (.int ((p1 &&& (7 : Int32)) + (p2 &&& (7 : Int32)))), .val (.int (((p1 &&& (7 : Int32)) + (p2 &&& (7 : Int32))) + (p3 &&& (7 : Int32))))] [(.ref xr)]) fun _ _ X _ k => XS.aload X.here hx rfl (hb hby d0_174) rfl rfl k
  have A138 := A137.go (f' := mkF m 177 #[.val (.int p1), .val (.int p2), .val (.int p3), .val (.int (p1 &&& (7 : Int32))), .val (.int (p2 &&& (7 : Int32))), .val (.int (p3 &&& (7 : Int32))), .val (.ref xb), .val (.ref xi), .val (.ref xr), .val (.int (0 : Int32)), .val (.int (p1 &&& (7 : Int32))), .val (.int ((p1 &&& (7 : Int32)) + (p2 &&& (7 : Int32)))), .val (.int (((p1 &&& (7 : Int32)) + (p2 &&& (7 : Int32))) + (p3 &&& (7 : Int32))))] [(.int (3 : Int32)), (.ref xr)]) fun _ _ X _ k => XS.iconst X.here hx rfl (hb hby d0_176) k
  obtain ⟨vA139, hA139, ⟨rfl, rfl⟩, A139⟩ := A138.callV (b := xr) (own_end l Z a0 hw xr xi (3 : Int32) (21 : Int32) _ hA66 n0 Z0 F_xr_ends V_xi (by decide) rfl) E_xr hx hZ hown (hb hby d0_177) (hw _ (List.mem_of_getElem? (i := 20) rfl)) (hw _ (List.mem_of_getElem? (i := 21) rfl)) (hw _ (List.mem_of_getElem? (i := 23) rfl)) (hw _ (List.mem_of_getElem? (i := 22) rfl)) (hw _ (List.mem_of_getElem? (i := 24) rfl)) (hw _ (List.mem_of_getElem? (i := 4) rfl)) (fun _ q => notFace_of_selects (args := #[]) (mvT q (hw _ (List.mem_of_getElem? (i := 23) rfl)))) ⟨by decide, by decide⟩ (lenOf pd__28I_29I rfl) (argsL := [(.int (3 : Int32))]) (rest := []) rfl rfl (by rw [hml]; rfl) (W := 0) (Nat.le_of_eq rfl) (by decide) (by decide) (by decide) (by decide)
  have A140 : own_R p l e _ _ m _ below meth c S0 n0 hA66 3 27 (mkF m 180 #[.val (.int p1), .val (.int p2), .val (.int p3), .val (.int (p1 &&& (7 : Int32))), .val (.int (p2 &&& (7 : Int32))), .val (.int (p3 &&& (7 : Int32))), .val (.ref xb), .val (.ref xi), .val (.ref xr), .val (.int (0 : Int32)), .val (.int (p1 &&& (7 : Int32))), .val (.int ((p1 &&& (7 : Int32)) + (p2 &&& (7 : Int32)))), .val (.int (((p1 &&& (7 : Int32)) + (p2 &&& (7 : Int32))) + (p3 &&& (7 : Int32))))] [(.int (21 : Int32))]) := A139
  have A141 := A140.go (f' := mkF m 182 #[.val (.int p1), .val (.int p2), .val (.int p3), .val (.int (p1 &&& (7 : Int32))), .val (.int (p2 &&& (7 : Int32))), .val (.int (p3 &&& (7 : Int32))), .val (.ref xb), .val (.ref xi), .val (.ref xr), .val (.int (0 : Int32)), .val (.int (p1 &&& (7 : Int32))), .val (.int ((p1 &&& (7 : Int32)) + (p2 &&& (7 : Int32)))), .val (.int (((p1 &&& (7 : Int32)) + (p2 &&& (7 : Int32))) + (p3 &&& (7 : Int32))))] [(.int (((p1 &&& (7 : Int32)) + (p2 &&& (7 : Int32))) + (p3 &&& (7 : Int32)))), (.int (21 : Int32))]) fun _ _ X _ k => XS.iload X.here hx rfl (hb hby d0_180) rfl k
  have A142 := A141.go (f' := mkF m 183 #[.val (.int p1), .val (.int p2), .val (.int p3), .val (.int (p1 &&& (7 : Int32))), .val (.int (p2 &&& (7 : Int32))), .val (.int (p3 &&& (7 : Int32))), .val (.ref xb), .val (.ref xi), .val (.ref xr), .val (.int (0 : Int32)), .val (.int (p1 &&& (7 : Int32))), .val (.int ((p1 &&& (7 : Int32)) + (p2 &&& (7 : Int32)))), .val (.int (((p1 &&& (7 : Int32)) + (p2 &&& (7 : Int32))) + (p3 &&& (7 : Int32))))] [(.int ((21 : Int32) - (((p1 &&& (7 : Int32)) + (p2 &&& (7 : Int32))) + (p3 &&& (7 : Int32)))))]) fun _ _ X _ k => XS.isub X.here hx rfl (hb hby d0_182) rfl k
  have A143 := A142.go (f' := mkF m 185 #[.val (.int p1), .val (.int p2), .val (.int p3), .val (.int (p1 &&& (7 : Int32))), .val (.int (p2 &&& (7 : Int32))), .val (.int (p3 &&& (7 : Int32))), .val (.ref xb), .val (.ref xi), .val (.ref xr), .val (.int (0 : Int32)), .val (.int (p1 &&& (7 : Int32))), .val (.int ((p1 &&& (7 : Int32)) + (p2 &&& (7 : Int32)))), .val (.int (((p1 &&& (7 : Int32)) + (p2 &&& (7 : Int32))) + (p3 &&& (7 : Int32))))] [(.int (21 : Int32)), (.int ((21 : Int32) - (((p1 &&& (7 : Int32)) + (p2 &&& (7 : Int32))) + (p3 &&& (7 : Int32)))))]) fun _ _ X _ k => XS.bipush X.here hx rfl (hb hby d0_183) k
  have A144 := A143.go (f' := mkF m 186 #[.val (.int p1), .val (.int p2), .val (.int p3), .val (.int (p1 &&& (7 : Int32))), .val (.int (p2 &&& (7 : Int32))), .val (.int (p3 &&& (7 : Int32))), .val (.ref xb), .val (.ref xi), .val (.ref xr), .val (.int (0 : Int32)), .val (.int (p1 &&& (7 : Int32))), .val (.int ((p1 &&& (7 : Int32)) + (p2 &&& (7 : Int32)))), .val (.int (((p1 &&& (7 : Int32)) + (p2 &&& (7 : Int32))) + (p3 &&& (7 : Int32))))] [(.int (p1 &&& (7 : Int32))), (.int (21 : Int32)), (.int ((21 : Int32) - (((p1 &&& (7 : Int32)) + (p2 &&& (7 : Int32))) + (p3 &&& (7 : Int32)))))]) fun _ _ X _ k => XS.iloadN X.here hx rfl (hb hby d0_185) rfl k
  have A145 := A144.go (f' := mkF m 187 #[.val (.int p1), .val (.int p2), .val (.int p3), .val (.int (p1 &&& (7 : Int32))), .val (.int (p2 &&& (7 : Int32))), .val (.int (p3 &&& (7 : Int32))), .val (.ref xb), .val (.ref xi), .val (.ref xr), .val (.int (0 : Int32)), .val (.int (p1 &&& (7 : Int32))), .val (.int ((p1 &&& (7 : Int32)) + (p2 &&& (7 : Int32)))), .val (.int (((p1 &&& (7 : Int32)) + (p2 &&& (7 : Int32))) + (p3 &&& (7 : Int32))))] [(.int ((21 : Int32) - (p1 &&& (7 : Int32)))), (.int ((21 : Int32) - (((p1 &&& (7 : Int32)) + (p2 &&& (7 : Int32))) + (p3 &&& (7 : Int32)))))]) fun _ _ X _ k => XS.isub X.here hx rfl (hb hby d0_186) rfl k
  have A146 := A145.go (f' := mkF m 189 #[.val (.int p1), .val (.int p2), .val (.int p3), .val (.int (p1 &&& (7 : Int32))), .val (.int (p2 &&& (7 : Int32))), .val (.int (p3 &&& (7 : Int32))), .val (.ref xb), .val (.ref xi), .val (.ref xr), .val (.int (0 : Int32)), .val (.int (p1 &&& (7 : Int32))), .val (.int ((p1 &&& (7 : Int32)) + (p2 &&& (7 : Int32)))), .val (.int (((p1 &&& (7 : Int32)) + (p2 &&& (7 : Int32))) + (p3 &&& (7 : Int32))))] [(.int (p2 &&& (7 : Int32))), (.int ((21 : Int32) - (p1 &&& (7 : Int32)))), (.int ((21 : Int32) - (((p1 &&& (7 : Int32)) + (p2 &&& (7 : Int32))) + (p3 &&& (7 : Int32)))))]) fun _ _ X _ k => XS.iload X.here hx rfl (hb hby d0_187) rfl k
  have A147 := A146.go (f' := mkF m 190 #[.val (.int p1), .val (.int p2), .val (.int p3), .val (.int (p1 &&& (7 : Int32))), .val (.int (p2 &&& (7 : Int32))), .val (.int (p3 &&& (7 : Int32))), .val (.ref xb), .val (.ref xi), .val (.ref xr), .val (.int (0 : Int32)), .val (.int (p1 &&& (7 : Int32))), .val (.int ((p1 &&& (7 : Int32)) + (p2 &&& (7 : Int32)))), .val (.int (((p1 &&& (7 : Int32)) + (p2 &&& (7 : Int32))) + (p3 &&& (7 : Int32))))] [(.int (((21 : Int32) - (p1 &&& (7 : Int32))) - (p2 &&& (7 : Int32)))), (.int ((21 : Int32) - (((p1 &&& (7 : Int32)) + (p2 &&& (7 : Int32))) + (p3 &&& (7 : Int32)))))]) fun _ _ X _ k => XS.isub X.here hx rfl (hb hby d0_189) rfl k
  have A148 := A147.go (f' := mkF m 192 #[.val (.int p1), .val (.int p2), .val (.int p3), .val (.int (p1 &&& (7 : Int32))), .val (.int (p2 &&& (7 : Int32))), .val (.int (p3 &&& (7 : Int32))), .val (.ref xb), .val (.ref xi), .val (.ref xr), .val (.int (0 : Int32)), .val (.int (p1 &&& (7 : Int32))), .val (.int ((p1 &&& (7 : Int32)) + (p2 &&& (7 : Int32)))), .val (.int (((p1 &&& (7 : Int32)) + (p2 &&& (7 : Int32))) + (p3 &&& (7 : Int32))))] [(.int (p3 &&& (7 : Int32))), (.int (((21 : Int32) - (p1 &&& (7 : Int32))) - (p2 &&& (7 : Int32)))), (.int ((21 : Int32) - (((p1 &&& (7 : Int32)) + (p2 &&& (7 : Int32))) + (p3 &&& (7 : Int32)))))]) fun _ _ X _ k => XS.iload X.here hx rfl (hb hby d0_190) rfl k
  have A149 := A148.go (f' := mkF m 193 #[.val (.int p1), .val (.int p2), .val (.int p3), .val (.int (p1 &&& (7 : Int32))), .val (.int (p2 &&& (7 : Int32))), .val (.int (p3 &&& (7 : Int32))), .val (.ref xb), .val (.ref xi), .val (.ref xr), .val (.int (0 : Int32)), .val (.int (p1 &&& (7 : Int32))), .val (.int ((p1 &&& (7 : Int32)) + (p2 &&& (7 : Int32)))), .val (.int (((p1 &&& (7 : Int32)) + (p2 &&& (7 : Int32))) + (p3 &&& (7 : Int32))))] [(.int ((((21 : Int32) - (p1 &&& (7 : Int32))) - (p2 &&& (7 : Int32))) - (p3 &&& (7 : Int32)))), (.int ((21 : Int32) - (((p1 &&& (7 : Int32)) + (p2 &&& (7 : Int32))) + (p3 &&& (7 : Int32)))))]) fun _ _ X _ k => XS.isub X.here hx rfl (hb hby d0_192) rfl k
  have q150 : (((21 : Int32) - (((p1 &&& (7 : Int32)) + (p2 &&& (7 : Int32))) + (p3 &&& (7 : Int32)))) = ((((21 : Int32) - (p1 &&& (7 : Int32))) - (p2 &&& (7 : Int32))) - (p3 &&& (7 : Int32)))) := (own_ar (p1 &&& (7 : Int32)) (p2 &&& (7 : Int32)) (p3 &&& (7 : Int32))).2.2.2
  have A151 := A149.go (f' := mkF m 196 #[.val (.int p1), .val (.int p2), .val (.int p3), .val (.int (p1 &&& (7 : Int32))), .val (.int (p2 &&& (7 : Int32))), .val (.int (p3 &&& (7 : Int32))), .val (.ref xb), .val (.ref xi), .val (.ref xr), .val (.int (0 : Int32)), .val (.int (p1 &&& (7 : Int32))), .val (.int ((p1 &&& (7 : Int32)) + (p2 &&& (7 : Int32)))), .val (.int (((p1 &&& (7 : Int32)) + (p2 &&& (7 : Int32))) + (p3 &&& (7 : Int32))))] []) fun _ _ X _ k => XS.icmpNo X.here hx rfl (hb hby d0_193) rfl ((teq q150).2) k
  have A152 := A151.go (f' := mkF m 197 #[.val (.int p1), .val (.int p2), .val (.int p3), .val (.int (p1 &&& (7 : Int32))), .val (.int (p2 &&& (7 : Int32))), .val (.int (p3 &&& (7 : Int32))), .val (.ref xb), .val (.ref xi), .val (.ref xr), .val (.int (0 : Int32)), .val (.int (p1 &&& (7 : Int32))), .val (.int ((p1 &&& (7 : Int32)) + (p2 &&& (7 : Int32)))), .val (.int (((p1 &&& (7 : Int32)) + (p2 &&& (7 : Int32))) + (p3 &&& (7 : Int32))))] [(.int (1 : Int32))]) fun _ _ X _ k => XS.iconst X.here hx rfl (hb hby d0_196) k
  have A153 := A152.go (f' := mkF m 201 #[.val (.int p1), .val (.int p2), .val (.int p3), .val (.int (p1 &&& (7 : Int32))), .val (.int (p2 &&& (7 : Int32))), .val (.int (p3 &&& (7 : Int32))), .val (.ref xb), .val (.ref xi), .val (.ref xr), .val (.int (0 : Int32)), .val (.int (p1 &&& (7 : Int32))), .val (.int ((p1 &&& (7 : Int32)) + (p2 &&& (7 : Int32)))), .val (.int (((p1 &&& (7 : Int32)) + (p2 &&& (7 : Int32))) + (p3 &&& (7 : Int32))))] [(.int (1 : Int32))]) fun _ _ X _ k => XS.goto X.here hx rfl (pc0 := 197) (pc' := 201) rfl (hb hby d0_197) (by decide) (by decide) k
  exact A153.ret hx hlk hret (hb hby d0_201) rfl (Or.inl ⟨rfl, by simp, _, rfl⟩) (by decide) (by decide) ⟨rfl, trivial⟩
set_option maxRecDepth 65536 in
set_option maxHeartbeats 40000000 in
theorem comes_1 {Post : Tables → Env → Array Value → State → Outcome → State → Prop} (hpost : ∀ tb e args s v u, (limb_1_1.after args s (.returned v) u = true ∧ limb_1_2.after args s (.returned v) u = true ∧ True) → FrameEnd s (.returned v) u (Jvm.fieldLocs frame_1_writes args s ++ Jvm.arrayLocs frame_1_arrays args s ++ Jvm.staticLocs frame_1_statics s) 16 128 → Post tb e args s (.returned v) u) :
    ArmFor flags0 classFile x code maxLocals ret World_1 tables_1 room_1 Calls_1 rest_1 Pre_1 Post := by
  intro l hfl _ _ p e ha hc hk s m args below hf hA hF happ hP
  obtain ⟨hcalls, hrest, hpre⟩ := hP
  obtain ⟨-, -, -, hnamed, -, -, -, hat⟩ := (Spec.applies_iff hf).mp happ
  obtain ⟨hg, hn⟩ := and_e (Cond.before_iff.mp (show (Jvm.Cond.and given_1 narrow_1).before args s = true from hpre))
  obtain ⟨h1, g0⟩ := and_e hg
  obtain ⟨w0, w1, w2, rfl⟩ : ∃ w0 w1 w2 : Value, args = #[w0, w1, w2] := by
    have hs : args.size = 3 := by simpa [Cond.value, given_1] using h1
    obtain ⟨L⟩ := args
    match L, hs with
    | [w0, w1, w2], _ => exact ⟨w0, w1, w2, rfl⟩
  have hw := fun d (hd : d ∈ tables_1) => atoms_spec (ws := Jvm.Cond.code x code maxLocals ret :: tables_1) hat d (List.mem_cons_of_mem _ hd)
  have hfit : Fit s := fun {y c} hc i hi => by
    obtain ⟨ha, rfl⟩ := Array.getElem?_eq_some_iff.mp hc
    have q := List.all_eq_true.mp ((Array.all_eq_true_iff_forall_mem.mp hF) _ (Array.getElem_mem ha)) i (List.mem_range.mpr hi)
    simpa [Array.getElem?_eq_getElem hi] using q
  obtain ⟨k0, g1⟩ := and_e g0
  obtain ⟨i0, e0⟩ := is_v k0
  obtain rfl : w0 = (.int i0) := Option.some.inj e0
  obtain ⟨k1, g2⟩ := and_e g1
  obtain ⟨i1, e1⟩ := is_v k1
  obtain rfl : w1 = (.int i1) := Option.some.inj e1
  obtain ⟨i2, e2⟩ := is_v g2
  obtain rfl : w2 = (.int i2) := Option.some.inj e2
  obtain ⟨n, o, h1, h2, h3, _, L, rfl, ⟨⟨rfl, -⟩, N⟩, hq⟩ := (own_law l s _ hw i0 i1 i2 s.heap s.heap.size (Nat.le_refl _)) p e ha hc hk s m _ below hf ((Spec.applies_iff_loose hf).mp happ).1 ⟨rfl, State.Warmed39.refl s, rfl⟩ trivial
  refine ⟨n, _, h1, h2, h3, hpost _ _ _ _ _ _ ⟨Cond.after_iff.mpr rfl, Cond.after_iff.mpr (eq_i res_at (Term.int_eval (1)) rfl), trivial⟩ ⟨hq.1, hq.2.1, (hq.2.2.sift fun y hy => Or.inr (N y hy)).mono (by decide) (by decide)⟩⟩
theorem main_1_1 : Claimed_1_1 := comes_1 fun _ _ _ _ _ _ h hF => ⟨h.1, hF⟩
theorem main_1_2 : Claimed_1_2 := comes_1 fun _ _ _ _ _ _ h hF => ⟨h.2.1, hF⟩
end Jvm.Pilot.@@N@@
namespace Jvm.Pilot.@@N@@
open Jvm Jvm.ClassFile Sem Op Lib Jvm.Free Jvm.Stand Jvm.Pilot.@@N@@.Jvm.D
/-! MADE BY PROGRAM (witnessworld.py) out of the Statement's table words and the real class files: 9 classes; the members and pool entries that the words name. The judged class is class 1, her method 1. -/
namespace start1
open Jvm.ClassFile
def u (s : String) : CpInfo := .utf8 (stringToUtf16 s)
/-- a pool by its gaps: so many unusable entries, then the entry; so many at the end -/
def gap : Nat → List CpInfo → List CpInfo
  | 0, r => r
  | n + 1, r => .unusable :: gap n r
def poolList (es : List (Nat × CpInfo)) (last : Nat) : List CpInfo := es.foldr (fun e r => gap e.1 (e.2 :: r)) (gap last [])
def pool (es : List (Nat × CpInfo)) (last : Nat) : Array CpInfo := ⟨poolList es last⟩
def fileOf (pool : Array CpInfo) (this : Nat) (attrs : Array Attribute := #[]) (ms : Array MethodInfo := #[]) (fl : Nat := 33) (sup : Nat := 0) (ifs : Array Nat := #[]) (fds : Array FieldInfo := #[]) : ClassFile where
  minorVersion := 0
  majorVersion := 65
  constantPool := pool
  accessFlags := fl
  thisClass := this
  superClass := sup
  interfaces := ifs
  fields := fds
  methods := ms
  attributes := attrs
def plain (name : String) (sup : Option ClassId) : Class where
  name := name
  kind := .ordinary
  loader := none
  accessFlags := 33
  super := sup
  interfaces := #[]
  cf := none
  fields := #[]
  methods := #[]
  instanceTypes := #[]
  staticTypes := #[]
  resolved := #[]
  callSites := []
  init := .initialized
  statics := none
  mirror := none

def pool0 : Array CpInfo := pool [(5, u "<init>"), (0, u "()V"), (1, .class_ 10), (1, u "java/lang/Object")] 113

def k0c0 : Code := { maxStack := 0, maxLocals := 1, code := object_method_1_code, exceptionTable := #[], attributes := #[] }
def k0m0 : Method := { name := "<init>", desc := "()V", sig := { parameters := [], returnType := none }, accessFlags := 1, code := some k0c0 }
/-- java/lang/Object -/
def k0 : Class := { plain "java/lang/Object" none with
  accessFlags := 33
  interfaces := #[]
  cf := some (fileOf pool0 8 #[] #[{ accessFlags := 1, nameIndex := 5, descriptorIndex := 6, attributes := #[] }] 33 0 #[] #[])
  fields := #[]
  methods := #[k0m0]
  instanceTypes := #[]
  staticTypes := #[]
  resolved := Array.replicate 124 none
  statics := none }

def pool1 : Array CpInfo := pool [(2, .class_ 4), (1, u "java/lang/Object"), (0, u "<init>"), (0, u "()V"), (0, .class_ 8), (0, u "com/example/shardrule/shardrule/csv/CsvRecord"), (0, .methodref 7 10), (0, .nameAndType 5 11), (0, u "([B[I)V"), (0, .methodref 7 13), (0, .nameAndType 14 15), (0, u "start"), (0, u "(I)I"), (0, .methodref 7 17), (0, .nameAndType 18 15), (0, u "end"), (0, .class_ 20), (0, u "com/example/shardrule/shardrule/csv/CsvRecordStartPinLaw"), (2, u "law"), (0, u "(III)Z")] 7

def k1m0 : Method := { name := "<init>", desc := "()V", sig := { parameters := [], returnType := none }, accessFlags := 1, code := none }
def k1c1 : Code := { maxStack := 5, maxLocals := 13, code := code, exceptionTable := #[], attributes := #[] }
def k1m1 : Method := { name := "law", desc := "(III)Z", sig := { parameters := [.int, .int, .int], returnType := some .boolean }, accessFlags := 9, code := some k1c1 }
/-- com/example/shardrule/shardrule/csv/CsvRecordStartPinLaw -/
def k1 : Class := { plain "com/example/shardrule/shardrule/csv/CsvRecordStartPinLaw" (some 0) with
  accessFlags := 49
  interfaces := #[]
  cf := some (fileOf pool1 19 #[] #[{ accessFlags := 1, nameIndex := 5, descriptorIndex := 6, attributes := #[] }, { accessFlags := 9, nameIndex := 23, descriptorIndex := 24, attributes := #[] }] 49 2 #[] #[])
  fields := #[]
  methods := #[k1m0, k1m1]
  instanceTypes := #[]
  staticTypes := #[]
  resolved := Array.replicate 32 none
  statics := none }

def pool2 : Array CpInfo := pool [(1, .methodref 2 3), (0, .class_ 4), (0, .nameAndType 5 6), (0, u "java/lang/Object"), (0, u "<init>"), (0, u "()V"), (0, .fieldref 8 9), (0, .class_ 10), (0, .nameAndType 11 12), (0, u "com/example/shardrule/shardrule/csv/CsvRecord"), (0, u "bytes"), (0, u "[B"), (0, .fieldref 8 14), (0, .nameAndType 15 16), (0, u "ends"), (0, u "[I"), (2, u "start"), (0, u "(I)I"), (38, u "([B[I)V"), (10, u "end")] 3

def k2c0 : Code := { maxStack := 2, maxLocals := 3, code := prog_34_method_1_code, exceptionTable := #[], attributes := #[] }
def k2m0 : Method := { name := "<init>", desc := "([B[I)V", sig := { parameters := [(.array .byte), (.array .int)], returnType := none }, accessFlags := 0, code := some k2c0 }
def k2c1 : Code := { maxStack := 3, maxLocals := 2, code := prog_34_method_4_code, exceptionTable := #[], attributes := #[] }
def k2m1 : Method := { name := "start", desc := "(I)I", sig := { parameters := [.int], returnType := some .int }, accessFlags := 0, code := some k2c1 }
def k2c2 : Code := { maxStack := 2, maxLocals := 2, code := prog_34_method_5_code, exceptionTable := #[], attributes := #[] }
def k2m2 : Method := { name := "end", desc := "(I)I", sig := { parameters := [.int], returnType := some .int }, accessFlags := 0, code := some k2c2 }
/-- com/example/shardrule/shardrule/csv/CsvRecord -/
def k2 : Class := { plain "com/example/shardrule/shardrule/csv/CsvRecord" (some 0) with
  accessFlags := 49
  interfaces := #[]
  cf := some (fileOf pool2 8 #[] #[{ accessFlags := 0, nameIndex := 5, descriptorIndex := 59, attributes := #[] }, { accessFlags := 0, nameIndex := 19, descriptorIndex := 20, attributes := #[] }, { accessFlags := 0, nameIndex := 70, descriptorIndex := 20, attributes := #[] }] 49 2 #[] #[{ accessFlags := 18, nameIndex := 11, descriptorIndex := 12, attributes := #[] }, { accessFlags := 18, nameIndex := 15, descriptorIndex := 16, attributes := #[] }])
  fields := #[{ name := "bytes", type := (.array .byte), accessFlags := 18, slot := 0, constantValue := 0 }, { name := "ends", type := (.array .int), accessFlags := 18, slot := 1, constantValue := 0 }]
  methods := #[k2m0, k2m1, k2m2]
  instanceTypes := #[(.array .byte), (.array .int)]
  staticTypes := #[]
  resolved := Array.replicate 74 none
  statics := none }

def pool3 : Array CpInfo := pool [(1, u "java/lang/Cloneable"), (0, .class_ 1), (0, u "java/lang/Object"), (0, .class_ 3)] 3

/-- java/lang/Cloneable -/
def k3 : Class := { plain "java/lang/Cloneable" (some 0) with
  accessFlags := 1537
  interfaces := #[]
  cf := some (fileOf pool3 2 #[] #[] 1537 4 #[] #[])
  fields := #[]
  methods := #[]
  instanceTypes := #[]
  staticTypes := #[]
  resolved := Array.replicate 8 none
  statics := none }

def pool4 : Array CpInfo := pool [(1, u "java/io/Serializable"), (0, .class_ 1), (0, u "java/lang/Object"), (0, .class_ 3)] 3

/-- java/io/Serializable -/
def k4 : Class := { plain "java/io/Serializable" (some 0) with
  accessFlags := 1537
  interfaces := #[]
  cf := some (fileOf pool4 2 #[] #[] 1537 4 #[] #[])
  fields := #[]
  methods := #[]
  instanceTypes := #[]
  staticTypes := #[]
  resolved := Array.replicate 8 none
  statics := none }

/-- the primitive byte -/
def k5 : Class := { plain "byte" none with kind := .primitive 'B', accessFlags := 0x411 }
/-- [B -/
def k6 : Class := { plain "[B" (some 0) with kind := .array 5 .byte, interfaces := #[3, 4], accessFlags := 1041 }

/-- the primitive int -/
def k7 : Class := { plain "int" none with kind := .primitive 'I', accessFlags := 0x411 }
/-- [I -/
def k8 : Class := { plain "[I" (some 0) with kind := .array 7 .int, interfaces := #[3, 4], accessFlags := 1041 }

def heap : Heap := #[]
def classes : Array Class := #[k0, k1, k2, k3, k4, k5, k6, k7, k8]
def interned : List (Array UInt16 × Addr) := []
def slotsUsed : Nat := 0
def theMethod : MethodId := ⟨1, 1⟩
def args0 : Array Value := #[.int 1, .int 2, .int 3]
def aboutOver (below : List Frame) : State where
  vm := { classes := classes, interned := interned.toArray }
  heap := heap
  slotsUsed := slotsUsed
  threads := #[{ frames := .invoking theMethod args0 :: below }]
def below0 : List Frame := [.native { method := ⟨0, 0⟩, args := #[] }]
def about1 : State := aboutOver below0
def p0 : Program := .bare "" "" ""
def e0 : Env := launch0.env 0 0 0
theorem w_frames : about1.frames = Frame.invoking theMethod args0 :: below0 := rfl
set_option maxRecDepth 65536 in
theorem w_args : argsFit about1.vm theMethod args0 = true := by decide +kernel
set_option maxRecDepth 65536 in
theorem w_heap : heapFits about1 = true := by decide +kernel
set_option maxRecDepth 65536 in
theorem w_runnable : about1.curStatus? = some .runnable := by decide +kernel
set_option maxRecDepth 65536 in
theorem w_alone : about1.alone = true := by decide +kernel
set_option maxRecDepth 65536 in
theorem w_named : about1.methodNamed? x = some theMethod := by decide +kernel
set_option maxRecDepth 65536 in
theorem w_hears : about1.hears theMethod below0 = true := by decide +kernel
set_option maxRecDepth 65536 in
theorem w_ripe : about1.ripe theMethod args0 below0 = true := by decide +kernel
theorem w_running : about1.status = .running := rfl
set_option maxRecDepth 65536 in
theorem w_room : about1.hasRoom e0.platform room_1 = true :=
  launch0.hasRoom_least _ room_1 (by decide +kernel) (by decide +kernel) (by decide +kernel) (by decide +kernel) (by decide +kernel) (by decide +kernel)
theorem allAtoms_all (ts : List Jvm.Cond) (a : Array Jvm.Value) (st : Jvm.State) : (allAtoms ts).before a st = ts.all (fun c => c.before a st) := by
  induction ts with
  | nil => rfl
  | cons c t ih =>
    show (Jvm.Cond.and c (allAtoms t)).before a st = _
    rw [Jvm.Cond.before_and, ih, List.all_cons]
def words1 : List Jvm.Cond := Jvm.Cond.code x code maxLocals ret :: tables_1
/-- a 'code' word, met by the world's own term for the bytes: nothing is compared byte by byte -/
theorem code_word {y : MethodName} {bytes : ByteArray} {mx : Nat} {rt : Option FieldType} {a : Array Value} {s : State} {m : MethodId} {meth : Method} {c : Code} (h1 : s.methodNamed? y = some m) (h2 : s.vm.method? m = some meth) (h3 : meth.code = some c) (h4 : c.code = bytes)
    (h5 : (c.maxLocals == mx && c.exceptionTable.isEmpty && decide (c.maxStack ≤ mostOperands) && decide (meth.sig.returnType = rt) && !meth.locks && decide (parseMethodDescriptor y.desc = some meth.sig)) = true) : (Jvm.Cond.code y bytes mx rt).before a s = true := by
  simp only [Bool.and_eq_true, beq_iff_eq, Bool.not_eq_true', decide_eq_true_eq] at h5
  obtain ⟨⟨⟨⟨⟨g1, g2⟩, g3⟩, g4⟩, g5⟩, g6⟩ := h5
  simp [Cond.before, Cond.holds, Cond.value, h1, h2, h3, h4, g1, g2, g3, g4, g5, g6]
def isCode : Jvm.Cond → Bool
  | .code _ _ _ _ => true
  | _ => false
theorem all_split {L : List Jvm.Cond} {P : Jvm.Cond → Bool} (h1 : L.all (fun c => isCode c || P c) = true) (h2 : ∀ c ∈ L.filter isCode, P c = true) : L.all P = true := by
  refine List.all_eq_true.mpr fun c hc => ?_
  have h := List.all_eq_true.mp h1 c hc
  rcases Bool.eq_false_or_eq_true (isCode c) with hi | hi
  · exact h2 c (List.mem_filter.mpr ⟨hc, hi⟩)
  · simpa [hi] using h
set_option maxRecDepth 65536 in
theorem w_c0 : (Jvm.Cond.code x code maxLocals ret).before args0 about1 = true := code_word (m := ⟨1, 1⟩) (meth := k1m1) (c := k1c1) (by decide +kernel) rfl rfl rfl (by decide +kernel)
set_option maxRecDepth 65536 in
theorem w_c1 : (Jvm.Cond.code ({ cls := "com/example/shardrule/shardrule/csv/CsvRecord", name := "<init>", desc := "([B[I)V" } : Jvm.MethodName) prog_34_method_1_code (3 : Nat) (Option.none : Option Jvm.ClassFile.FieldType)).before args0 about1 = true := code_word (m := ⟨2, 0⟩) (meth := k2m0) (c := k2c0) (by decide +kernel) rfl rfl rfl (by decide +kernel)
set_option maxRecDepth 65536 in
theorem w_c2 : (Jvm.Cond.code ({ cls := "java/lang/Object", name := "<init>", desc := "()V" } : Jvm.MethodName) object_method_1_code (1 : Nat) (Option.none : Option Jvm.ClassFile.FieldType)).before args0 about1 = true := code_word (m := ⟨0, 0⟩) (meth := k0m0) (c := k0c0) (by decide +kernel) rfl rfl rfl (by decide +kernel)
set_option maxRecDepth 65536 in
theorem w_c3 : (Jvm.Cond.code ({ cls := "com/example/shardrule/shardrule/csv/CsvRecord", name := "start", desc := "(I)I" } : Jvm.MethodName) prog_34_method_4_code (2 : Nat) (Option.some Jvm.ClassFile.FieldType.int)).before args0 about1 = true := code_word (m := ⟨2, 1⟩) (meth := k2m1) (c := k2c1) (by decide +kernel) rfl rfl rfl (by decide +kernel)
set_option maxRecDepth 65536 in
theorem w_c4 : (Jvm.Cond.code ({ cls := "com/example/shardrule/shardrule/csv/CsvRecord", name := "end", desc := "(I)I" } : Jvm.MethodName) prog_34_method_5_code (2 : Nat) (Option.some Jvm.ClassFile.FieldType.int)).before args0 about1 = true := code_word (m := ⟨2, 2⟩) (meth := k2m2) (c := k2c2) (by decide +kernel) rfl rfl rfl (by decide +kernel)
def codes1 : List Jvm.Cond := [Jvm.Cond.code x code maxLocals ret, Jvm.Cond.code ({ cls := "com/example/shardrule/shardrule/csv/CsvRecord", name := "<init>", desc := "([B[I)V" } : Jvm.MethodName) prog_34_method_1_code (3 : Nat) (Option.none : Option Jvm.ClassFile.FieldType), Jvm.Cond.code ({ cls := "java/lang/Object", name := "<init>", desc := "()V" } : Jvm.MethodName) object_method_1_code (1 : Nat) (Option.none : Option Jvm.ClassFile.FieldType), Jvm.Cond.code ({ cls := "com/example/shardrule/shardrule/csv/CsvRecord", name := "start", desc := "(I)I" } : Jvm.MethodName) prog_34_method_4_code (2 : Nat) (Option.some Jvm.ClassFile.FieldType.int), Jvm.Cond.code ({ cls := "com/example/shardrule/shardrule/csv/CsvRecord", name := "end", desc := "(I)I" } : Jvm.MethodName) prog_34_method_5_code (2 : Nat) (Option.some Jvm.ClassFile.FieldType.int)]
set_option maxRecDepth 65536 in
theorem codes_eq : words1.filter isCode = codes1 := rfl
theorem w_codes : ∀ c ∈ words1.filter isCode, c.before args0 about1 = true := by
  rw [codes_eq]
  intro c hc
  simp only [codes1, List.mem_cons, List.not_mem_nil, or_false] at hc
  rcases hc with rfl | rfl | rfl | rfl | rfl
  · exact w_c0
  · exact w_c1
  · exact w_c2
  · exact w_c3
  · exact w_c4
set_option maxRecDepth 65536 in
theorem w_t1 : (words1.take 24).all (fun c => isCode c || c.before args0 about1) = true := by decide +kernel
set_option maxRecDepth 65536 in
theorem w_t2 : (words1.drop 24).all (fun c => isCode c || c.before args0 about1) = true := by decide +kernel
theorem w_tables : (allAtoms (Jvm.Cond.code x code maxLocals ret :: tables_1)).before args0 about1 = true := by
  rw [allAtoms_all]
  show words1.all (fun c => c.before args0 about1) = true
  refine all_split ?_ w_codes
  rw [← List.take_append_drop 24 words1, List.all_append, w_t1, w_t2]
  rfl
set_option maxRecDepth 65536 in
theorem w_case : (Jvm.Cond.and given_1 narrow_1).before args0 about1 = true := by decide +kernel
theorem w_applies : (headSpec (Jvm.Cond.code x code maxLocals ret :: tables_1) room_1).applies x e0.platform about1 = true :=
  (Spec.applies_iff w_frames).mpr ⟨w_running, w_runnable, w_alone, w_named, w_hears, w_ripe, w_room, w_tables⟩
theorem atStart : AtStart classFile x code maxLocals ret World_1 tables_1 room_1 Calls_1 rest_1 Pre_1 launch0 p0 e0 about1 theMethod args0 below0 :=
  ⟨lists_1, trivial, launch0.admits_env _ _ _, launch0.least_env, fairChoices_fair.cas, fairChoices_fair.clock, w_frames, w_args, w_heap, w_applies, trivial, trivial, w_case⟩
end start1
theorem witness_1 : WitnessClaimed_1 := ⟨start1.p0, start1.e0, start1.about1, start1.theMethod, start1.args0, start1.below0, start1.atStart⟩
end Jvm.Pilot.@@N@@
