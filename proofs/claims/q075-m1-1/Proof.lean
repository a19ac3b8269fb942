import JvmDerived
import JvmDerived.Pilot.@@N@@Statement
import JvmDerived.Pilot.@@N@@Code
set_option linter.unusedVariables false
set_option linter.unusedSimpArgs false
@@BLOCK:NumsL.lean.txt@@
namespace Jvm.Pilot.@@N@@
open Jvm Jvm.ClassFile Sem Op Lib Jvm.Free Jvm.Stand Jvm.LawKit Jvm.RoadKit Bundle Jvm.Pilot.@@N@@.Jvm.D

section Own
variable {p : Program} {l : Launch} {e : Env} {R : Room} {s : State} {m : MethodId} {args : Array Value} {below : List Frame} {meth : Method} {c : Code} {S0 : State} {n0 : Nat} {h h' : Heap} {ce sl ce' sl' : Nat} {f f' : JFrame} {Z : State} {a0 : Array Value}
/-- the walk stands at the frame f over the heap h; it has made ce cells and sl slots; what it wrote lies at or above n0 -/
def own_R (p : Program) (l : Launch) (e : Env) (R : Room) (s : State) (m : MethodId) (args : Array Value) (below : List Frame) (meth : Method) (c : Code) (S0 : State) (n0 : Nat) (h : Heap) (ce sl : Nat) (f : JFrame) : Prop :=
  ∃ T L, Stand p l e R s m args below meth c T L ce sl ∧ T.heap = h ∧ Fr n0 L ∧ Steps p.tables e below S0 (T.setTop f)
/-- the walk has returned, and Q holds of what it returned and of the heap -/
def own_E (p : Program) (e : Env) (R : Room) (s : State) (below : List Frame) (S0 : State) (n0 : Nat) (Q : Option Value → Heap → Prop) : Prop :=
  ∃ s₂ v L, Steps p.tables e below S0 s₂ ∧ s₂.status = .running ∧ Ended s₂ below (.returned v) ∧ (Q v s₂.heap ∧ Fr n0 L) ∧ FrameEnd s (.returned v) s₂ L R.cells R.slots
/-- a body's contract -/
def own_M (l : Launch) (Z : State) (y : MethodName) (bytes : ByteArray) (maxL : Nat) (ret : Option FieldType) (ws : List Cond) (rm : Room) (as : Array Value) (h0 : Heap) (n0 : Nat) (Q : Option Value → Heap → Prop) : Prop :=
  MetFree l y (head1 (Cond.code y bytes maxL ret :: ws) rm) (fun a U => a = as ∧ Z.Warmed39 U.vm ∧ U.heap = h0) (fun _ _ _ _ _ => True) (fun _ U o U' => ∃ v L, o = .returned v ∧ (Q v U'.heap ∧ Fr n0 L) ∧ FrameEnd U o U' L rm.cells rm.slots)
theorem own_M.of {y : MethodName} {bytes : ByteArray} {maxL : Nat} {ret : Option FieldType} {ws : List Cond} {rm : Room} {as : Array Value} {h0 : Heap} {Q : Option Value → Heap → Prop} (pn : plainFor y = true)
    (body : ∀ (p : Program) (e : Env) (s : State) (m : MethodId) (below : List Frame) (meth : Method) (c : Code) (S0 : State), p.tables.exec = Jvm.exec → c.code = bytes → c.maxLocals = maxL → s.vm.findClass y.cls = some m.cls → meth.name = y.name → meth.sig.returnType = ret → meth.locks = false → Z.Warmed39 s.vm →
      own_R p l e rm s m as below meth c S0 n0 h0 0 0 (entryFrame m as maxL) → own_E p e rm s below S0 n0 Q) :
    own_M l Z y bytes maxL ret ws rm as h0 n0 Q := by
  refine MetFree.of_bodySF pn hisR ?_
  intro p e s m args below meth c s₁ Bd hml0 hP hK
  obtain ⟨rfl, hZ, hh⟩ := hP
  have e0 : s₁.heap = h0 := by rw [← hh, Bd.state]; rfl
  obtain ⟨s₂, v, L, k, hrun, hend, hq, hF⟩ := body p e s m below meth c _ Bd.exec Bd.bytes hml0 (findClass_of_methodNamed Bd.named) (name_of_methodNamed Bd.named Bd.method).1 Bd.returns Bd.notSynchronized hZ ⟨s₁, [], Stand.of_body Bd, e0, Fr.nil n0, Steps.refl _⟩
  exact ⟨s₂, _, k, hrun, hend, v, L, rfl, hq, hF⟩
theorem own_R.cast (A : own_R p l e R s m args below meth c S0 n0 h ce sl f) (q : f = f') : own_R p l e R s m args below meth c S0 n0 h ce sl f' := q ▸ A
theorem own_R.go (A : own_R p l e R s m args below meth c S0 n0 h ce sl f)
    (st : ∀ T L, Stand p l e R s m args below meth c T L ce sl → ∀ target, Steps p.tables e below (T.setTop f') target → Steps p.tables e below (T.setTop f) target) :
    own_R p l e R s m args below meth c S0 n0 h ce sl f' := by
  obtain ⟨T, L, X, eT, N, k⟩ := A
  exact ⟨T, L, X, eT, N, k.trans (st T L X _ (Steps.refl _))⟩
theorem own_R.law (A : own_R p l e R s m args below meth c S0 n0 h ce sl f)
    (st : ∀ T L, Stand p l e R s m args below meth c T L ce sl → T.heap = h → Fr n0 L → ∃ T' L', Stand p l e R s m args below meth c T' L' ce' sl' ∧ T'.heap = h' ∧ Fr n0 L' ∧ ∀ target, Steps p.tables e below (T'.setTop f') target → Steps p.tables e below (T.setTop f) target) :
    own_R p l e R s m args below meth c S0 n0 h' ce' sl' f' := by
  obtain ⟨T, L, X, eT, N, k⟩ := A
  obtain ⟨T', L', X', e', N', k'⟩ := st T L X eT N
  exact ⟨T', L', X', e', N', k.trans (k' _ (Steps.refl _))⟩
theorem own_R.getF {pc : Nat} {Ls : Array Slot} {rest : List Value} {a : Addr} {v : Value} {own R0 O n d : String} {index : Nat}
    (A : own_R p l e R s m args below meth c S0 n0 h ce sl (mkF m pc Ls (.ref a :: rest))) (hx : p.tables.exec = Jvm.exec) (hZ : Z.Warmed39 s.vm) (hown : s.vm.findClass own = some m.cls)
    (hd : decode c.code pc = .ok (.getfield index, 3)) (w : (Cond.fieldLink own index R0 n d).before a0 Z = true) (via : Via Z R0 O n d) (F : Fld Z h a O n d v) :
    own_R p l e R s m args below meth c S0 n0 h ce sl (mkF m (pc + 3) Ls (v :: rest)) := A.law fun T L X eT N => by
  obtain ⟨T', X', e', st⟩ := RoadKit.getF X hx hZ hown (host := "") (Or.inl w) via eT F (g := mkF m pc Ls (.ref a :: rest)) rfl rfl hd
  exact ⟨T', L, X', e', N, st⟩
theorem own_R.getS {pc : Nat} {Ls : Array Slot} {st : List Value} {v : Value} {own R0 O n d : String} {index : Nat}
    (A : own_R p l e R s m args below meth c S0 n0 h ce sl (mkF m pc Ls st)) (hx : p.tables.exec = Jvm.exec) (hZ : Z.Warmed39 s.vm) (hown : s.vm.findClass own = some m.cls)
    (hd : decode c.code pc = .ok (.getstatic index, 3)) (w : (Cond.fieldLink own index R0 n d).before a0 Z = true) (via : Via Z R0 O n d) (F : Sta Z h O n d v) :
    own_R p l e R s m args below meth c S0 n0 h ce sl (mkF m (pc + 3) Ls (v :: st)) := A.law fun T L X eT N => by
  obtain ⟨T', X', e', k⟩ := RoadKit.getS X hx hZ hown (host := "") w via eT F (g := mkF m pc Ls st) rfl hd
  exact ⟨T', L, X', e', N, k⟩
theorem own_R.ldcI {pc : Nat} {Ls : Array Slot} {st : List Value} {v : Int32} {own : String} {index : Nat}
    (A : own_R p l e R s m args below meth c S0 n0 h ce sl (mkF m pc Ls st)) (hx : p.tables.exec = Jvm.exec) (hZ : Z.Warmed39 s.vm) (hown : s.vm.findClass own = some m.cls)
    (hd : decode c.code pc = .ok (.ldc index, 2)) (w : (Cond.constant own index v).before a0 Z = true) :
    own_R p l e R s m args below meth c S0 n0 h ce sl (mkF m (pc + 2) Ls (.int v :: st)) := A.go fun T L X t k =>
  X.ldcInt hx hown (mvT hZ w) (g := mkF m pc Ls st) rfl hd t k
theorem own_R.ldcL {pc : Nat} {Ls : Array Slot} {st : List Value} {v : Int64} {own : String} {index : Nat}
    (A : own_R p l e R s m args below meth c S0 n0 h ce sl (mkF m pc Ls st)) (hx : p.tables.exec = Jvm.exec) (hZ : Z.Warmed39 s.vm) (hown : s.vm.findClass own = some m.cls)
    (hd : decode c.code pc = .ok (.ldc2_w index, 3)) (w : (Cond.constantLong own index v).before a0 Z = true) :
    own_R p l e R s m args below meth c S0 n0 h ce sl (mkF m (pc + 3) Ls (.long v :: st)) := A.go fun T L X t k =>
  X.ldc2Long hx hown (mvT hZ w) (g := mkF m pc Ls st) rfl hd t k
theorem own_R.ldcD {pc : Nat} {Ls : Array Slot} {st : List Value} {v : UInt64} {own : String} {index : Nat}
    (A : own_R p l e R s m args below meth c S0 n0 h ce sl (mkF m pc Ls st)) (hx : p.tables.exec = Jvm.exec) (hZ : Z.Warmed39 s.vm) (hown : s.vm.findClass own = some m.cls)
    (hd : decode c.code pc = .ok (.ldc2_w index, 3)) (w : (Cond.constantDouble own index v).before a0 Z = true) :
    own_R p l e R s m args below meth c S0 n0 h ce sl (mkF m (pc + 3) Ls (.double v :: st)) := A.go fun T L X t k =>
  X.ldc2DoubleC hx hown (mvT hZ w) (g := mkF m pc Ls st) rfl hd t k
theorem own_R.callS {pc : Nat} {Ls : Array Slot} {st : List Value} {own : String} {index W : Nat} {y : MethodName} {bytes : ByteArray} {maxL : Nat} {ret : Option FieldType} {rm : Room} {as : Array Value} {Q : Option Value → Heap → Prop} {argsL rest : List Value}
    (A : own_R p l e R s m args below meth c S0 n0 h ce sl (mkF m pc Ls st)) (M : own_M l Z y bytes maxL ret [] rm as h n0 Q) (hx : p.tables.exec = Jvm.exec) (hZ : Z.Warmed39 s.vm) (hown : s.vm.findClass own = some m.cls)
    (hd : decode c.code pc = .ok (.invokestatic index, 3)) (w1 : (Cond.methodLink own index y).before a0 Z = true) (w2 : (Cond.static y).before a0 Z = true) (w3 : (Cond.initialized y.cls).before a0 Z = true) (w4 : (Cond.code y bytes maxL ret).before a0 Z = true)
    (hy : y.cls ≠ "java/lang/invoke/MethodHandle" ∧ y.cls ≠ "java/lang/invoke/VarHandle") (hlen : ∀ sig, parseMethodDescriptor y.desc = some sig → argsL.length = sig.parameters.length) (hst : st = argsL.reverse ++ rest) (has : argsL.toArray = as)
    (hsz : Ls.size = c.maxLocals) (hW : (rest.map fun v => v.category).sum ≤ W) (hf : rm.frames + 1 ≤ R.frames) (hl : W + (maxL + 11) + rm.locals ≤ R.locals) (hc : ce + rm.cells ≤ R.cells) (hs : sl + rm.slots ≤ R.slots) :
    ∃ v h', Q v h' ∧ own_R p l e R s m args below meth c S0 n0 h' (ce + rm.cells) (sl + rm.slots) (mkF m (pc + 3) Ls (v.toList ++ rest)) := by
  obtain ⟨T, L, X, eT, N, k⟩ := A
  obtain ⟨v, vm₁, ⟨T', L', k', n'⟩, -, X', ⟨Lc, hQ, l1, l2, l3⟩, sT⟩ := Jvm.LawKit.callS X hx (y := y) hown (mvT hZ w1) (mvT hZ w2) (mvT hZ w3) (mvT hZ w4) hy (backOf (W := W) (Q := fun v h' L => Q v h' ∧ Fr n0 L) M hZ w4 w3 hf hl) (g := mkF m pc Ls st) rfl hsz (argsL := argsL) (rest := rest) hlen hst (by show 2 * 0 + _ ≤ _; omega) hd (fun _ _ => ⟨has, eT, hc, hs⟩)
  dsimp only [Pt.U, Pt.locs, Pt.cells, Pt.slots] at X' l1 l2 l3 sT hQ
  subst l1 l2 l3
  exact ⟨v, _, hQ.1, T', _, X', rfl, Fr.app N hQ.2, k.trans (sT _ (Steps.refl _))⟩
theorem own_R.callV {pc : Nat} {Ls : Array Slot} {st : List Value} {own C : String} {index W : Nat} {y z : MethodName} {bytes : ByteArray} {maxL : Nat} {ret : Option FieldType} {rm : Room} {as : Array Value} {Q : Option Value → Heap → Prop} {b : Addr} {argsL rest : List Value}
    (A : own_R p l e R s m args below meth c S0 n0 h ce sl (mkF m pc Ls st)) (M : own_M l Z z bytes maxL ret [] rm as h n0 Q) (E : Exa Z h b C) (hx : p.tables.exec = Jvm.exec) (hZ : Z.Warmed39 s.vm) (hown : s.vm.findClass own = some m.cls)
    (hd : decode c.code pc = .ok (.invokevirtual index, 3)) (w1 : (Cond.methodLink own index y).before a0 Z = true) (w2 : (Cond.declares y).before a0 Z = true) (w3 : (Cond.selects C y z).before a0 Z = true) (w4 : (Cond.instanceMethod z).before a0 Z = true) (w5 : (Cond.code z bytes maxL ret).before a0 Z = true) (w6 : (Cond.initialized z.cls).before a0 Z = true) (hnf : ∀ s' : State, Z.Warmed39 s'.vm → NotFace s' y)
    (hy : y.cls ≠ "java/lang/invoke/MethodHandle" ∧ y.cls ≠ "java/lang/invoke/VarHandle") (hlen : ∀ sig, parseMethodDescriptor y.desc = some sig → argsL.length = sig.parameters.length) (hst : st = argsL.reverse ++ .ref b :: rest) (has : (Value.ref b :: argsL).toArray = as)
    (hsz : Ls.size = c.maxLocals) (hW : (rest.map fun v => v.category).sum ≤ W) (hf : rm.frames + 1 ≤ R.frames) (hl : W + (maxL + 11) + rm.locals ≤ R.locals) (hc : ce + rm.cells ≤ R.cells) (hs : sl + rm.slots ≤ R.slots) :
    ∃ v h', Q v h' ∧ own_R p l e R s m args below meth c S0 n0 h' (ce + rm.cells) (sl + rm.slots) (mkF m (pc + 3) Ls (v.toList ++ rest)) := by
  obtain ⟨T, L, X, eT, N, k⟩ := A
  obtain ⟨cq, kq, qa, qb, qc⟩ := isOf hZ eT E
  obtain ⟨v, vm₁, ⟨T', L', k', n'⟩, -, X', ⟨Lc, hQ, l1, l2, l3⟩, sT⟩ := X.virtualBack hx (y := y) (z := z) hown (mvT hZ w1) (mvT hZ w2) (hnf s hZ) (mvT hZ w3) (mvT hZ w4) hy (backOf (W := W) (Q := fun v h' L => Q v h' ∧ Fr n0 L) M hZ w5 w6 hf hl) qa qc (g := mkF m pc Ls st) rfl hsz (Steps.refl _) (argsL := argsL) (rest := rest) hlen hst (by show 2 * 0 + _ ≤ _; omega) hd (fun _ _ => ⟨has, eT, hc, hs⟩)
  dsimp only [Pt.U, Pt.locs, Pt.cells, Pt.slots] at X' l1 l2 l3 sT hQ
  subst l1 l2 l3
  exact ⟨v, _, hQ.1, T', _, X', rfl, Fr.app N hQ.2, k.trans sT⟩
theorem own_R.callI {pc : Nat} {Ls : Array Slot} {st : List Value} {own : String} {index W : Nat} {y : MethodName} {bytes : ByteArray} {maxL : Nat} {rm : Room} {as : Array Value} {Q : Option Value → Heap → Prop} {b : Addr} {argsL rest : List Value}
    (A : own_R p l e R s m args below meth c S0 n0 h ce sl (mkF m pc Ls st)) (M : own_M l Z y bytes maxL none [] rm as h n0 Q) (hx : p.tables.exec = Jvm.exec) (hZ : Z.Warmed39 s.vm) (hown : s.vm.findClass own = some m.cls)
    (hd : decode c.code pc = .ok (.invokespecial index, 3)) (hy1 : y.name = "<init>") (w1 : (Cond.methodLink own index y).before a0 Z = true) (w2 : (Cond.instanceMethod y).before a0 Z = true) (w3 : (Cond.code y bytes maxL none).before a0 Z = true) (w4 : (Cond.initialized y.cls).before a0 Z = true)
    (hy : y.cls ≠ "java/lang/invoke/MethodHandle" ∧ y.cls ≠ "java/lang/invoke/VarHandle") (hlen : ∀ sig, parseMethodDescriptor y.desc = some sig → argsL.length = sig.parameters.length) (hst : st = argsL.reverse ++ .ref b :: rest) (has : (Value.ref b :: argsL).toArray = as)
    (hsz : Ls.size = c.maxLocals) (hW : (rest.map fun v => v.category).sum ≤ W) (hf : rm.frames + 1 ≤ R.frames) (hl : W + (maxL + 11) + rm.locals ≤ R.locals) (hc : ce + rm.cells ≤ R.cells) (hs : sl + rm.slots ≤ R.slots) :
    ∃ v h', Q v h' ∧ own_R p l e R s m args below meth c S0 n0 h' (ce + rm.cells) (sl + rm.slots) (mkF m (pc + 3) Ls (v.toList ++ rest)) := by
  obtain ⟨T, L, X, eT, N, k⟩ := A
  obtain ⟨v, vm₁, ⟨T', L', k', n'⟩, -, X', ⟨Lc, hQ, l1, l2, l3⟩, sT⟩ := X.specialBack hx (y := y) hy1 hown (mvT hZ w1) (mvT hZ w2) (mvT hZ w3) hy (backOf (W := W) (Q := fun v h' L => Q v h' ∧ Fr n0 L) M hZ w3 w4 hf hl) (g := mkF m pc Ls st) rfl hsz (Steps.refl _) (a := b) (argsL := argsL) (rest := rest) hlen hst (by show 2 * 0 + _ ≤ _; omega) hd (fun _ _ => ⟨has, eT, hc, hs⟩)
  dsimp only [Pt.U, Pt.locs, Pt.cells, Pt.slots] at X' l1 l2 l3 sT hQ
  subst l1 l2 l3
  exact ⟨v, _, hQ.1, T', _, X', rfl, Fr.app N hQ.2, k.trans sT⟩
theorem own_R.ret {pc : Nat} {Ls : Array Slot} {rest : List Value} {w : Value} {t : FieldType} {i : Instr} {Q : Option Value → Heap → Prop}
    (A : own_R p l e R s m args below meth c S0 n0 h ce sl (mkF m pc Ls (w :: rest))) (hx : p.tables.exec = Jvm.exec) (hlk : meth.locks = false) (hret : meth.sig.returnType = some t) (hd : decode c.code pc = .ok (i, 1)) (hn : narrow t w = w)
    (hi : (i = .ireturn ∧ (t = .int ∨ t = .boolean ∨ t = .byte ∨ t = .char ∨ t = .short) ∧ ∃ z, w = .int z) ∨ (i = .lreturn ∧ t = .long ∧ ∃ z, w = .long z) ∨ (i = .dreturn ∧ t = .double ∧ ∃ z, w = .double z) ∨ (i = .freturn ∧ t = .float ∧ ∃ z, w = .float z) ∨ (i = .areturn ∧ t.isReference = true ∧ w.isRef = true))
    (hc : ce ≤ R.cells) (hs : sl ≤ R.slots) (q : Q (some w) h) : own_E p e R s below S0 n0 Q := by
  obtain ⟨T, L, X, eT, N, k⟩ := A
  obtain ⟨fs, hr, hrun, hended, hW, hsame⟩ := X.leave (v := some w) (fun h => by rw [hret] at h; cases h) hlk
  refine ⟨_, _, _, k.trans (retOut X hx hret hn hi hd hr), hrun, hended, ⟨?_, N⟩, ⟨_, rfl⟩, hW, hsame.mono hc hs⟩
  show Q _ T.heap
  rw [eT]; exact q
theorem own_R.retV {pc : Nat} {Ls : Array Slot} {Q : Option Value → Heap → Prop}
    (A : own_R p l e R s m args below meth c S0 n0 h ce sl (mkF m pc Ls [])) (hx : p.tables.exec = Jvm.exec) (hlk : meth.locks = false) (hret : meth.sig.returnType = none) (hd : decode c.code pc = .ok (.return_, 1))
    (hc : ce ≤ R.cells) (hs : sl ≤ R.slots) (q : Q none h) : own_E p e R s below S0 n0 Q := by
  obtain ⟨T, L, X, eT, N, k⟩ := A
  obtain ⟨fs, hr, hrun, hended, hW, hsame⟩ := X.leave (v := none) (fun _ => rfl) hlk
  refine ⟨_, _, _, k.trans (X.returnOut hx hret hd hr), hrun, hended, ⟨?_, N⟩, ⟨_, rfl⟩, hW, hsame.mono hc hs⟩
  show Q _ T.heap
  rw [eT]; exact q
end Own
section Own2
variable {p : Program} {l : Launch} {e : Env} {R : Room} {s : State} {m : MethodId} {args : Array Value} {below : List Frame} {meth : Method} {c : Code} {S0 : State} {n0 : Nat} {h h' : Heap} {ce sl : Nat} {Z : State} {a0 : Array Value} {pc : Nat} {Ls : Array Slot} {rest : List Value} {a b : Addr} {ty : FieldType} {vs : List Value} {ws : List Addr} {v : Value} {i : Nat}
/-- an array whose components are listed -/
def own_Ar (Z : State) (h : Heap) (a : Addr) (ty : FieldType) (vs : List Value) : Prop := ∃ cl : Cell, Arr Z h a cl ty ∧ cl.slots.toList = vs
theorem own_Ar.ext (F : own_Ar Z h a ty vs) (E : Ext h h') : own_Ar Z h' a ty vs := by obtain ⟨cl, A, q⟩ := F; exact ⟨cl, A.ext E, q⟩
theorem own_Ar.other (F : own_Ar Z h a ty vs) (W : Wr h h' b i v) (q : a ≠ b) : own_Ar Z h' a ty vs := by obtain ⟨cl, A, r⟩ := F; exact ⟨cl, A.other W q, r⟩
theorem own_Ar.same (F : own_Ar Z h a ty vs) (W : Wr h h' a i v) : own_Ar Z h' a ty (vs.set i v) := by
  obtain ⟨cl, A, rfl⟩ := F
  exact ⟨_, A.same W, by simp [Cell.setSlot, Array.toList_setIfInBounds]⟩
theorem own_Ar.keep (F : own_Ar Z h a ty vs) (K : Keep h h' ws) (q : a ∉ ws) : own_Ar Z h' a ty vs := by obtain ⟨cl, A, r⟩ := F; exact ⟨cl, ⟨K.2.1 a cl A.1 q, A.2⟩, r⟩
theorem own_Ar.lt (F : own_Ar Z h a ty vs) : a < h.size := by obtain ⟨cl, A, -⟩ := F; exact A.lt
theorem own_R.newP {n : Int32} {aty : ArrayType} {cap : Nat} (A : own_R p l e R s m args below meth c S0 n0 h ce sl (mkF m pc Ls (.int n :: rest))) (hx : p.tables.exec = Jvm.exec) (hZ : Z.Warmed39 s.vm)
    (hd : decode c.code pc = .ok (.newarray aty, 2)) (w : (Cond.arrayClass (newarray.typeOf aty)).before a0 Z = true) (hn : ¬ n < 0) (hcap : n.toNatClampNeg ≤ cap) (hb : cap * 8 ≤ 536870912) (hc : ce + 1 ≤ R.cells) (hl : sl + cap ≤ R.slots) :
    ∃ h', Ext h h' ∧ own_Ar Z h' h.size (newarray.typeOf aty) (List.replicate n.toNatClampNeg (defaultValue (newarray.typeOf aty))) ∧ own_R p l e R s m args below meth c S0 n0 h' (ce + 1) (sl + cap) (mkF m (pc + 2) Ls (.ref h.size :: rest)) := by
  obtain ⟨T, L, X, eT, N, k⟩ := A
  obtain ⟨T', h', cA, X', e', E, AA, st⟩ := RoadKit.newP X hx hZ w eT (g := mkF m pc Ls (.int n :: rest)) rfl hd rfl hn hcap hb hc hl
  exact ⟨h', E, ⟨_, AA, by simp [newA]⟩, T', L, X', e', N, k.trans (st _ (Steps.refl _))⟩
theorem own_R.newO {own C : String} {index n : Nat} (A : own_R p l e R s m args below meth c S0 n0 h ce sl (mkF m pc Ls rest)) (hx : p.tables.exec = Jvm.exec) (hZ : Z.Warmed39 s.vm) (hown : s.vm.findClass own = some m.cls)
    (hd : decode c.code pc = .ok (.new index, 3)) (w : (Cond.classLink own index C).before a0 Z = true) (wi : (Cond.instantiable C n).before a0 Z = true) (wz : (Cond.initialized C).before a0 Z = true) (hc : ce + 1 ≤ R.cells) (hl : sl + n ≤ R.slots) :
    ∃ h', Ext h h' ∧ Exa Z h' h.size C ∧ (∀ {O nm d : String} {ty : FieldType}, Laid Z a0 C O nm d → parseFieldDescriptor d = some ty → Fld Z h' h.size O nm d (defaultValue ty)) ∧ own_R p l e R s m args below meth c S0 n0 h' (ce + 1) (sl + n) (mkF m (pc + 3) Ls (.ref h.size :: rest)) := by
  obtain ⟨T, L, X, eT, N, k⟩ := A
  obtain ⟨T', h', X', e', E, AA, D, -, st⟩ := RoadKit.newO X hx hZ hown w wi wz eT (g := mkF m pc Ls rest) rfl hd hc hl
  exact ⟨h', E, AA, D, T', L, X', e', N, k.trans (st _ (Steps.refl _))⟩
theorem own_R.putF {own O n d C : String} {index kk : Nat} {v old : Value} (A : own_R p l e R s m args below meth c S0 n0 h ce sl (mkF m pc Ls (v :: .ref a :: rest))) (hx : p.tables.exec = Jvm.exec) (hZ : Z.Warmed39 s.vm) (hown : s.vm.findClass own = some m.cls)
    (hd : decode c.code pc = .ok (.putfield index, 3)) (w : (Cond.fieldLink own index O n d).before a0 Z = true) (F : Fld Z h a O n d old) (E : Exa Z h a C) (L : (Cond.lays C O n d).before a0 Z = true ∨ ((Cond.laysFinal C O n d).before a0 Z = true ∧ own = O ∧ meth.name = "<init>")) (wi : (Cond.instantiable C kk).before a0 Z = true)
    (hty : parseFieldDescriptor d = some ty) (hn : narrow ty v = v) (hf : fits ty v = true) (q : n0 ≤ a) :
    ∃ h', Wr h h' a (RoadKit.slotOf Z O n d) v ∧ own_R p l e R s m args below meth c S0 n0 h' ce sl (mkF m (pc + 3) Ls rest) := by
  obtain ⟨T, Lc, X, eT, N, k⟩ := A
  obtain ⟨T', h', X', e', W, st⟩ := RoadKit.putF X hx hZ hown (host := "") (Or.inl w) Via.refl eT F E L wi hty hn hf (g := mkF m pc Ls (v :: .ref a :: rest)) rfl rfl hd
  exact ⟨h', W, T', _, X', e', Fr.snoc X' N q, k.trans (st _ (Steps.refl _))⟩
theorem own_R.initO {own : String} {idx W : Nat} (A : own_R p l e R s m args below meth c S0 n0 h ce sl (mkF m pc Ls (.ref a :: rest))) (hx : p.tables.exec = Jvm.exec) (hZ : Z.Warmed39 s.vm) (hown : s.vm.findClass own = some m.cls)
    (hd : decode c.code pc = .ok (.invokespecial idx, 3)) (w1 : (Cond.methodLink own idx Lib.objectInit).before a0 Z = true) (w2 : (Cond.instanceMethod Lib.objectInit).before a0 Z = true) (w3 : (Cond.code Lib.objectInit ⟨#[0xb1]⟩ 1 none).before a0 Z = true)
    (hsz : Ls.size = c.maxLocals) (hW : (rest.map fun v => v.category).sum ≤ W) (hf : 1 ≤ R.frames) (hl : W + 12 ≤ R.locals) : own_R p l e R s m args below meth c S0 n0 h ce sl (mkF m (pc + 3) Ls rest) := A.law fun T L X eT N => by
  obtain ⟨T', X', e', st⟩ := RoadKit.initO X hx hZ hown w1 w2 w3 eT (g := mkF m pc Ls (.ref a :: rest)) rfl hsz rfl hd hf (by show 2 * 0 + _ ≤ _; exact (Nat.zero_add _).symm ▸ hW) hl
  exact ⟨T', L, X', e', N, st⟩
theorem own_R.stI {j x : Int32} (A : own_R p l e R s m args below meth c S0 n0 h ce sl (mkF m pc Ls (.int x :: .int j :: .ref a :: rest))) (hx : p.tables.exec = Jvm.exec) (hZ : Z.Warmed39 s.vm)
    (hd : decode c.code pc = .ok (.iastore, 1)) (F : own_Ar Z h a .int vs) (hj : ¬ j < 0) (hi : j.toNatClampNeg < vs.length) (q : n0 ≤ a) :
    ∃ h', Wr h h' a j.toNatClampNeg (.int x) ∧ own_R p l e R s m args below meth c S0 n0 h' ce sl (mkF m (pc + 1) Ls rest) := by
  obtain ⟨cl, F, rfl⟩ := F
  obtain ⟨T, Lc, X, eT, N, k⟩ := A
  obtain ⟨T', h', X', e', W, st⟩ := RoadKit.stI X hx hZ eT F (j := j) (fun z => z.elim hj fun u => by rw [Array.length_toList] at hi; omega) (g := mkF m pc Ls (.int x :: .int j :: .ref a :: rest)) rfl rfl hd
  exact ⟨h', W, T', _, X', e', Fr.snoc X' N q, k.trans (st _ (Steps.refl _))⟩
theorem own_R.stB {j x : Int32} (A : own_R p l e R s m args below meth c S0 n0 h ce sl (mkF m pc Ls (.int x :: .int j :: .ref a :: rest))) (hx : p.tables.exec = Jvm.exec) (hZ : Z.Warmed39 s.vm)
    (hd : decode c.code pc = .ok (.bastore, 1)) (F : own_Ar Z h a .byte vs) (hj : ¬ j < 0) (hi : j.toNatClampNeg < vs.length) (q : n0 ≤ a) :
    ∃ h', Wr h h' a j.toNatClampNeg (.int (nar .byte x)) ∧ own_R p l e R s m args below meth c S0 n0 h' ce sl (mkF m (pc + 1) Ls rest) := by
  obtain ⟨cl, F, rfl⟩ := F
  obtain ⟨T, Lc, X, eT, N, k⟩ := A
  obtain ⟨T', h', X', e', W, st⟩ := RoadKit.stB X hx hZ eT F (j := j) (fun z => z.elim hj fun u => by rw [Array.length_toList] at hi; omega) (g := mkF m pc Ls (.int x :: .int j :: .ref a :: rest)) rfl rfl hd
  exact ⟨h', W, T', _, X', e', Fr.snoc X' N q, k.trans (st _ (Steps.refl _))⟩
theorem own_R.ldI {j : Int32} (A : own_R p l e R s m args below meth c S0 n0 h ce sl (mkF m pc Ls (.int j :: .ref a :: rest))) (hx : p.tables.exec = Jvm.exec) (hZ : Z.Warmed39 s.vm)
    (hd : decode c.code pc = .ok (.iaload, 1)) (F : own_Ar Z h a .int vs) (hj : ¬ j < 0) (hv : vs[j.toNatClampNeg]? = some v) :
    own_R p l e R s m args below meth c S0 n0 h ce sl (mkF m (pc + 1) Ls (v :: rest)) := A.law fun T L X eT N => by
  obtain ⟨cl, F, rfl⟩ := F
  rw [Array.getElem?_toList] at hv
  have hlt := (Array.getElem?_eq_some_iff.mp hv).1
  exact ⟨T, L, X, eT, N, fun t k => X.iaload hx (j := j) (v := v) (by rw [eT]; exact F.1) (State.isArrayOf_alike hZ.alike F.2.1) F.2.2 (fun z => z.elim hj fun u => by omega) hv (g := mkF m pc Ls (.int j :: .ref a :: rest)) rfl rfl hd t k⟩
theorem own_R.ldB {j : Int32} (A : own_R p l e R s m args below meth c S0 n0 h ce sl (mkF m pc Ls (.int j :: .ref a :: rest))) (hx : p.tables.exec = Jvm.exec) (hZ : Z.Warmed39 s.vm)
    (hd : decode c.code pc = .ok (.baload, 1)) (F : own_Ar Z h a .byte vs) (hj : ¬ j < 0) (hv : vs[j.toNatClampNeg]? = some v) :
    own_R p l e R s m args below meth c S0 n0 h ce sl (mkF m (pc + 1) Ls (v :: rest)) := A.law fun T L X eT N => by
  obtain ⟨cl, F, rfl⟩ := F
  rw [Array.getElem?_toList] at hv
  have hlt := (Array.getElem?_eq_some_iff.mp hv).1
  exact ⟨T, L, X, eT, N, fun t k => X.baloadBytes hx (j := j) (v := v) (by rw [eT]; exact F.1) (State.isArrayOf_alike hZ.alike F.2.1) F.2.2 (fun z => z.elim hj fun u => by omega) hv (g := mkF m pc Ls (.int j :: .ref a :: rest)) rfl rfl hd t k⟩
theorem own_R.stD {j : Int32} {x : UInt64} (A : own_R p l e R s m args below meth c S0 n0 h ce sl (mkF m pc Ls (.double x :: .int j :: .ref a :: rest))) (hx : p.tables.exec = Jvm.exec) (hZ : Z.Warmed39 s.vm)
    (hd : decode c.code pc = .ok (.dastore, 1)) (F : own_Ar Z h a .double vs) (hj : ¬ j < 0) (hi : j.toNatClampNeg < vs.length) (q : n0 ≤ a) :
    ∃ h', Wr h h' a j.toNatClampNeg (.double x) ∧ own_R p l e R s m args below meth c S0 n0 h' ce sl (mkF m (pc + 1) Ls rest) := by
  obtain ⟨cl, F, rfl⟩ := F
  obtain ⟨T, Lc, X, eT, N, k⟩ := A
  obtain ⟨T', h', X', e', W, st⟩ := RoadKit.stD X hx hZ eT F (j := j) (fun z => z.elim hj fun u => by rw [Array.length_toList] at hi; omega) (g := mkF m pc Ls (.double x :: .int j :: .ref a :: rest)) rfl rfl hd
  exact ⟨h', W, T', _, X', e', Fr.snoc X' N q, k.trans (st _ (Steps.refl _))⟩
theorem own_R.stC {j : Int32} {x : Int32} (A : own_R p l e R s m args below meth c S0 n0 h ce sl (mkF m pc Ls (.int x :: .int j :: .ref a :: rest))) (hx : p.tables.exec = Jvm.exec) (hZ : Z.Warmed39 s.vm)
    (hd : decode c.code pc = .ok (.castore, 1)) (F : own_Ar Z h a .char vs) (hj : ¬ j < 0) (hi : j.toNatClampNeg < vs.length) (q : n0 ≤ a) :
    ∃ h', Wr h h' a j.toNatClampNeg (.int (nar .char x)) ∧ own_R p l e R s m args below meth c S0 n0 h' ce sl (mkF m (pc + 1) Ls rest) := by
  obtain ⟨cl, F, rfl⟩ := F
  obtain ⟨T, Lc, X, eT, N, k⟩ := A
  obtain ⟨T', h', X', e', W, st⟩ := RoadKit.stC X hx hZ eT F (j := j) (fun z => z.elim hj fun u => by rw [Array.length_toList] at hi; omega) (g := mkF m pc Ls (.int x :: .int j :: .ref a :: rest)) rfl rfl hd
  exact ⟨h', W, T', _, X', e', Fr.snoc X' N q, k.trans (st _ (Steps.refl _))⟩
theorem own_R.stL {j : Int32} {x : Int64} (A : own_R p l e R s m args below meth c S0 n0 h ce sl (mkF m pc Ls (.long x :: .int j :: .ref a :: rest))) (hx : p.tables.exec = Jvm.exec) (hZ : Z.Warmed39 s.vm)
    (hd : decode c.code pc = .ok (.lastore, 1)) (F : own_Ar Z h a .long vs) (hj : ¬ j < 0) (hi : j.toNatClampNeg < vs.length) (q : n0 ≤ a) :
    ∃ h', Wr h h' a j.toNatClampNeg (.long x) ∧ own_R p l e R s m args below meth c S0 n0 h' ce sl (mkF m (pc + 1) Ls rest) := by
  obtain ⟨cl, F, rfl⟩ := F
  obtain ⟨T, Lc, X, eT, N, k⟩ := A
  obtain ⟨T', h', X', e', W, st⟩ := RoadKit.stJ X hx hZ eT F (j := j) (fun z => z.elim hj fun u => by rw [Array.length_toList] at hi; omega) (g := mkF m pc Ls (.long x :: .int j :: .ref a :: rest)) rfl rfl hd
  exact ⟨h', W, T', _, X', e', Fr.snoc X' N q, k.trans (st _ (Steps.refl _))⟩
theorem own_R.ldD {j : Int32} (A : own_R p l e R s m args below meth c S0 n0 h ce sl (mkF m pc Ls (.int j :: .ref a :: rest))) (hx : p.tables.exec = Jvm.exec) (hZ : Z.Warmed39 s.vm)
    (hd : decode c.code pc = .ok (.daload, 1)) (F : own_Ar Z h a .double vs) (hj : ¬ j < 0) (hv : vs[j.toNatClampNeg]? = some v) :
    own_R p l e R s m args below meth c S0 n0 h ce sl (mkF m (pc + 1) Ls (v :: rest)) := A.law fun T L X eT N => by
  obtain ⟨cl, F, rfl⟩ := F
  rw [Array.getElem?_toList] at hv
  have hlt := (Array.getElem?_eq_some_iff.mp hv).1
  exact ⟨T, L, X, eT, N, fun t k => X.daload hx (j := j) (v := v) (by rw [eT]; exact F.1) (State.isArrayOf_alike hZ.alike F.2.1) F.2.2 (fun z => z.elim hj fun u => by omega) hv (g := mkF m pc Ls (.int j :: .ref a :: rest)) rfl rfl hd t k⟩
theorem own_R.ldC {j : Int32} (A : own_R p l e R s m args below meth c S0 n0 h ce sl (mkF m pc Ls (.int j :: .ref a :: rest))) (hx : p.tables.exec = Jvm.exec) (hZ : Z.Warmed39 s.vm)
    (hd : decode c.code pc = .ok (.caload, 1)) (F : own_Ar Z h a .char vs) (hj : ¬ j < 0) (hv : vs[j.toNatClampNeg]? = some v) :
    own_R p l e R s m args below meth c S0 n0 h ce sl (mkF m (pc + 1) Ls (v :: rest)) := A.law fun T L X eT N => by
  obtain ⟨cl, F, rfl⟩ := F
  rw [Array.getElem?_toList] at hv
  have hlt := (Array.getElem?_eq_some_iff.mp hv).1
  exact ⟨T, L, X, eT, N, fun t k => X.caload hx (j := j) (v := v) (by rw [eT]; exact F.1) (State.isArrayOf_alike hZ.alike F.2.1) F.2.2 (fun z => z.elim hj fun u => by omega) hv (g := mkF m pc Ls (.int j :: .ref a :: rest)) rfl rfl hd t k⟩
theorem own_R.ldL {j : Int32} (A : own_R p l e R s m args below meth c S0 n0 h ce sl (mkF m pc Ls (.int j :: .ref a :: rest))) (hx : p.tables.exec = Jvm.exec) (hZ : Z.Warmed39 s.vm)
    (hd : decode c.code pc = .ok (.laload, 1)) (F : own_Ar Z h a .long vs) (hj : ¬ j < 0) (hv : vs[j.toNatClampNeg]? = some v) :
    own_R p l e R s m args below meth c S0 n0 h ce sl (mkF m (pc + 1) Ls (v :: rest)) := A.law fun T L X eT N => by
  obtain ⟨cl, F, rfl⟩ := F
  rw [Array.getElem?_toList] at hv
  have hlt := (Array.getElem?_eq_some_iff.mp hv).1
  exact ⟨T, L, X, eT, N, fun t k => X.laload hx (j := j) (v := v) (by rw [eT]; exact F.1) (State.isArrayOf_alike hZ.alike F.2.1) F.2.2 (fun z => z.elim hj fun u => by omega) hv (g := mkF m pc Ls (.int j :: .ref a :: rest)) rfl rfl hd t k⟩
theorem own_R.len (A : own_R p l e R s m args below meth c S0 n0 h ce sl (mkF m pc Ls (.ref a :: rest))) (hx : p.tables.exec = Jvm.exec) (hZ : Z.Warmed39 s.vm)
    (hd : decode c.code pc = .ok (.arraylength, 1)) (F : own_Ar Z h a ty vs) :
    own_R p l e R s m args below meth c S0 n0 h ce sl (mkF m (pc + 1) Ls (.int vs.length.toInt32 :: rest)) := A.law fun T L X eT N => by
  obtain ⟨cl, F, rfl⟩ := F
  exact ⟨T, L, X, eT, N, fun t k => X.arraylength hx (by rw [eT]; exact F.1) (State.isArrayOf_alike hZ.alike F.2.1) (g := mkF m pc Ls (.ref a :: rest)) rfl rfl hd t (by rw [Array.length_toList] at k; exact k)⟩
end Own2
section Own2b
variable {p : Program} {l : Launch} {e : Env} {R : Room} {s : State} {m : MethodId} {args : Array Value} {below : List Frame} {meth : Method} {c : Code} {S0 : State} {n0 : Nat} {h h' : Heap} {ce sl : Nat} {Z : State} {a0 : Array Value} {pc : Nat} {Ls : Array Slot} {rest : List Value} {a : Addr}
theorem own_R.instY {own K : String} {index : Nat} (A : own_R p l e R s m args below meth c S0 n0 h ce sl (mkF m pc Ls (.ref a :: rest))) (hx : p.tables.exec = Jvm.exec) (hZ : Z.Warmed39 s.vm) (hown : s.vm.findClass own = some m.cls)
    (hd : decode c.code pc = .ok (.instanceof index, 3)) (w : (Cond.classLink own index K).before a0 Z = true) (F : Ins Z h a K true) : own_R p l e R s m args below meth c S0 n0 h ce sl (mkF m (pc + 3) Ls (.int 1 :: rest)) := A.law fun T L X eT N => by
  obtain ⟨T', X', e', st⟩ := RoadKit.instY X hx hZ hown w eT F (g := mkF m pc Ls (.ref a :: rest)) rfl rfl hd
  exact ⟨T', L, X', e', N, st⟩
theorem own_R.castY {own K : String} {index : Nat} (A : own_R p l e R s m args below meth c S0 n0 h ce sl (mkF m pc Ls (.ref a :: rest))) (hx : p.tables.exec = Jvm.exec) (hZ : Z.Warmed39 s.vm) (hown : s.vm.findClass own = some m.cls)
    (hd : decode c.code pc = .ok (.checkcast index, 3)) (w : (Cond.classLink own index K).before a0 Z = true) (F : Ins Z h a K true) : own_R p l e R s m args below meth c S0 n0 h ce sl (mkF m (pc + 3) Ls (.ref a :: rest)) := A.law fun T L X eT N => by
  obtain ⟨T', X', e', st⟩ := RoadKit.castY X hx hZ hown w eT F (g := mkF m pc Ls (.ref a :: rest)) rfl rfl hd
  exact ⟨T', L, X', e', N, st⟩
theorem own_eqI {args : Array Value} {t : Term} {k : Int32} (h : (Cond.eq t (.int k)).value args Z none Z [] = some true) : t.eval args Z none [] Z = some (.int k) := by
  simp only [Cond.value, Term.int_eval] at h
  cases hv : t.eval args Z none [] Z with
  | none => rw [hv] at h; cases h
  | some w =>
    rw [hv] at h
    cases w <;> simp at h
    rw [h]
theorem own_Ar.start3 {args : Array Value} {t : Term} {x y z : Int32} (ev : t.eval args Z none [] Z = some (.ref a)) (hA : (Cond.arrayOf t .byte).value args Z none Z [] = some true) (hL : (Cond.eq (.length t) (.int 3)).value args Z none Z [] = some true)
    (h0 : (Cond.eq (.elem t (.int 0)) (.int x)).value args Z none Z [] = some true) (h1 : (Cond.eq (.elem t (.int 1)) (.int y)).value args Z none Z [] = some true) (h2 : (Cond.eq (.elem t (.int 2)) (.int z)).value args Z none Z [] = some true) : own_Ar Z Z.heap a .byte [.int x, .int y, .int z] := by
  obtain ⟨cl, A⟩ := Arr.start ev hA
  have e0 := (elem_in (own_eqI h0) ev (Term.int_eval _) A.1).2
  have e1 := (elem_in (own_eqI h1) ev (Term.int_eval _) A.1).2
  have e2 := (elem_in (own_eqI h2) ev (Term.int_eval _) A.1).2
  have q0 : (0 : Int32).toNatClampNeg = 0 := by decide
  have q1 : (1 : Int32).toNatClampNeg = 1 := by decide
  have q2 : (2 : Int32).toNatClampNeg = 2 := by decide
  rw [q0] at e0
  rw [q1] at e1
  rw [q2] at e2
  have ha : Z.arrayAt? a = some cl := Arr.fin (U := Z) (State.Warmed39.refl Z).alike A
  have hl := own_eqI hL
  simp only [Term.eval, ev, ha, Option.bind_eq_bind, Option.bind_some, Option.pure_def] at hl
  have hsz : cl.slots.size = 3 := by
    split at hl
    · rename_i hlt
      have e3 : cl.slots.size.toInt32 = 3 := by simpa using hl
      have e4 := len_toInt hlt
      rw [e3] at e4
      have e5 : (3 : Int32).toInt = 3 := by decide
      omega
    · cases hl
  refine ⟨cl, A, ?_⟩
  apply List.ext_getElem?
  intro i
  rw [Array.getElem?_toList]
  match i with
  | 0 => exact e0
  | 1 => exact e1
  | 2 => exact e2
  | n + 3 => rw [Array.getElem?_eq_none (by omega)]; rfl
end Own2b

def own_dv (x n : Int32) : UInt64 := if n = 0 then FP.i2d x else FP.dneg (FP.i2d x)
def own_lv (x n : Int32) : Int64 := if n = 0 then x.toInt64 else -x.toInt64
theorem d1_0 : decode method_3_code 0 = .ok (.iload_n 1, 1) := by decide +kernel
theorem d1_1 : decode method_3_code 1 = .ok (.ifCond .eq 9, 3) := by decide +kernel
theorem d1_4 : decode method_3_code 4 = .ok (.iload_n 0, 1) := by decide +kernel
theorem d1_5 : decode method_3_code 5 = .ok (.i2d, 1) := by decide +kernel
theorem d1_6 : decode method_3_code 6 = .ok (.dneg, 1) := by decide +kernel
theorem d1_7 : decode method_3_code 7 = .ok (.goto 5, 3) := by decide +kernel
theorem d1_10 : decode method_3_code 10 = .ok (.iload_n 0, 1) := by decide +kernel
theorem d1_11 : decode method_3_code 11 = .ok (.i2d, 1) := by decide +kernel
theorem d1_12 : decode method_3_code 12 = .ok (.dreturn, 1) := by decide +kernel
theorem ef1 (m : MethodId) (p1 : Int32) (p2 : Int32) : entryFrame m #[(.int p1), (.int p2)] 2 = mkF m 0 #[.val (.int p1), .val (.int p2)] [] := by first | (simp [entryFrame, mkF, argsToLocals, Value.category, maxLocals]; done) | rfl
set_option maxRecDepth 65536 in
set_option maxHeartbeats 40000000 in
theorem own_dvM (l : Launch) (Z : State) (a0 : Array Value) (hw : ∀ d ∈ tables_1, d.before a0 Z = true) (p1 p2 : Int32) (h0 : Heap) (n0 : Nat) (Z0 : n0 ≤ h0.size)  :
    own_M l Z (⟨"com/example/paretolio/paretolio/measure/NonDominatedWeaklyDominatesPinLaw", "dv", "(IZ)D"⟩ : MethodName) method_3_code 2 (some .double) [] ({ frames := 0, cells := 0, slots := 0, locals := 0 } : Room) #[(.int p1), (.int p2)] h0 n0 (fun v h => v = some (.double (own_dv p1 p2)) ∧ h0 = h) := by
  refine own_M.of (plainFor_of_name (by first | (simp [plainName, overriddenIn]; done) | decide +kernel)) ?_
  intro p e s m below meth c S0 hx hby hml hown hnm hret hlk hZ A00
  have A0 := A00.cast (ef1 m p1 p2)
  have A1 := A0.go (f' := mkF m 1 #[.val (.int p1), .val (.int p2)] [(.int p2)]) fun _ _ X _ k => XS.iloadN X.here hx rfl (hb hby d1_0) rfl k
  by_cases q2 : p2 = (0 : Int32)
  · skip
    have A3 := A1.go (f' := mkF m 10 #[.val (.int p1), .val (.int p2)] []) fun _ _ X _ k => XS.ifYes X.here hx rfl (pc0 := 1) (pc' := 10) rfl (hb hby d1_1) rfl ((if0 _ _).trans (teq q2).1) (by decide) (by decide) k
    have A4 := A3.go (f' := mkF m 11 #[.val (.int p1), .val (.int p2)] [(.int p1)]) fun _ _ X _ k => XS.iloadN X.here hx rfl (hb hby d1_10) rfl k
    have A5 := A4.go (f' := mkF m 12 #[.val (.int p1), .val (.int p2)] [(.double (FP.i2d p1))]) fun _ _ X _ k => XS.i2dS X.here hx rfl (hb hby d1_11) rfl rfl k
    exact A5.ret hx hlk hret (hb hby d1_12) rfl (Or.inr (Or.inr (Or.inl ⟨rfl, rfl, _, rfl⟩))) (by decide) (by decide) ⟨by simp [own_dv, own_lv, q2], rfl⟩
  · skip
    have A6 := A1.go (f' := mkF m 4 #[.val (.int p1), .val (.int p2)] []) fun _ _ X _ k => XS.ifNo X.here hx rfl (hb hby d1_1) rfl ((if0 _ _).trans (feq q2).1) k
    have A7 := A6.go (f' := mkF m 5 #[.val (.int p1), .val (.int p2)] [(.int p1)]) fun _ _ X _ k => XS.iloadN X.here hx rfl (hb hby d1_4) rfl k
    have A8 := A7.go (f' := mkF m 6 #[.val (.int p1), .val (.int p2)] [(.double (FP.i2d p1))]) fun _ _ X _ k => XS.i2dS X.here hx rfl (hb hby d1_5) rfl rfl k
    have A9 := A8.go (f' := mkF m 7 #[.val (.int p1), .val (.int p2)] [(.double (FP.dneg (FP.i2d p1)))]) fun _ _ X _ k => XS.dnegS X.here hx rfl (hb hby d1_6) rfl rfl k
    have A10 := A9.go (f' := mkF m 12 #[.val (.int p1), .val (.int p2)] [(.double (FP.dneg (FP.i2d p1)))]) fun _ _ X _ k => XS.goto X.here hx rfl (pc0 := 7) (pc' := 12) rfl (hb hby d1_7) (by decide) (by decide) k
    exact A10.ret hx hlk hret (hb hby d1_12) rfl (Or.inr (Or.inr (Or.inl ⟨rfl, rfl, _, rfl⟩))) (by decide) (by decide) ⟨by simp [own_dv, own_lv, q2], rfl⟩
theorem d2_0 : decode method_4_code 0 = .ok (.iload_n 1, 1) := by decide +kernel
theorem d2_1 : decode method_4_code 1 = .ok (.ifCond .eq 9, 3) := by decide +kernel
theorem d2_4 : decode method_4_code 4 = .ok (.iload_n 0, 1) := by decide +kernel
theorem d2_5 : decode method_4_code 5 = .ok (.i2l, 1) := by decide +kernel
theorem d2_6 : decode method_4_code 6 = .ok (.lneg, 1) := by decide +kernel
theorem d2_7 : decode method_4_code 7 = .ok (.goto 5, 3) := by decide +kernel
theorem d2_10 : decode method_4_code 10 = .ok (.iload_n 0, 1) := by decide +kernel
theorem d2_11 : decode method_4_code 11 = .ok (.i2l, 1) := by decide +kernel
theorem d2_12 : decode method_4_code 12 = .ok (.lreturn, 1) := by decide +kernel
theorem ef2 (m : MethodId) (p1 : Int32) (p2 : Int32) : entryFrame m #[(.int p1), (.int p2)] 2 = mkF m 0 #[.val (.int p1), .val (.int p2)] [] := by first | (simp [entryFrame, mkF, argsToLocals, Value.category, maxLocals]; done) | rfl
set_option maxRecDepth 65536 in
set_option maxHeartbeats 40000000 in
theorem own_lvM (l : Launch) (Z : State) (a0 : Array Value) (hw : ∀ d ∈ tables_1, d.before a0 Z = true) (p1 p2 : Int32) (h0 : Heap) (n0 : Nat) (Z0 : n0 ≤ h0.size)  :
    own_M l Z (⟨"com/example/paretolio/paretolio/measure/NonDominatedWeaklyDominatesPinLaw", "lv", "(IZ)J"⟩ : MethodName) method_4_code 2 (some .long) [] ({ frames := 0, cells := 0, slots := 0, locals := 0 } : Room) #[(.int p1), (.int p2)] h0 n0 (fun v h => v = some (.long (own_lv p1 p2)) ∧ h0 = h) := by
  refine own_M.of (plainFor_of_name (by first | (simp [plainName, overriddenIn]; done) | decide +kernel)) ?_
  intro p e s m below meth c S0 hx hby hml hown hnm hret hlk hZ A00
  have A0 := A00.cast (ef2 m p1 p2)
  have A1 := A0.go (f' := mkF m 1 #[.val (.int p1), .val (.int p2)] [(.int p2)]) fun _ _ X _ k => XS.iloadN X.here hx rfl (hb hby d2_0) rfl k
  by_cases q2 : p2 = (0 : Int32)
  · skip
    have A3 := A1.go (f' := mkF m 10 #[.val (.int p1), .val (.int p2)] []) fun _ _ X _ k => XS.ifYes X.here hx rfl (pc0 := 1) (pc' := 10) rfl (hb hby d2_1) rfl ((if0 _ _).trans (teq q2).1) (by decide) (by decide) k
    have A4 := A3.go (f' := mkF m 11 #[.val (.int p1), .val (.int p2)] [(.int p1)]) fun _ _ X _ k => XS.iloadN X.here hx rfl (hb hby d2_10) rfl k
    have A5 := A4.go (f' := mkF m 12 #[.val (.int p1), .val (.int p2)] [(.long (p1.toInt64))]) fun _ _ X _ k => XS.i2l X.here hx rfl (hb hby d2_11) rfl k
    exact A5.ret hx hlk hret (hb hby d2_12) rfl (Or.inr (Or.inl ⟨rfl, rfl, _, rfl⟩)) (by decide) (by decide) ⟨by simp [own_dv, own_lv, q2], rfl⟩
  · skip
    have A6 := A1.go (f' := mkF m 4 #[.val (.int p1), .val (.int p2)] []) fun _ _ X _ k => XS.ifNo X.here hx rfl (hb hby d2_1) rfl ((if0 _ _).trans (feq q2).1) k
    have A7 := A6.go (f' := mkF m 5 #[.val (.int p1), .val (.int p2)] [(.int p1)]) fun _ _ X _ k => XS.iloadN X.here hx rfl (hb hby d2_4) rfl k
    have A8 := A7.go (f' := mkF m 6 #[.val (.int p1), .val (.int p2)] [(.long (p1.toInt64))]) fun _ _ X _ k => XS.i2l X.here hx rfl (hb hby d2_5) rfl k
    have A9 := A8.go (f' := mkF m 7 #[.val (.int p1), .val (.int p2)] [(.long (-(p1.toInt64)))]) fun _ _ X _ k => XS.lneg X.here hx rfl (hb hby d2_6) rfl k
    have A10 := A9.go (f' := mkF m 12 #[.val (.int p1), .val (.int p2)] [(.long (-(p1.toInt64)))]) fun _ _ X _ k => XS.goto X.here hx rfl (pc0 := 7) (pc' := 12) rfl (hb hby d2_7) (by decide) (by decide) k
    exact A10.ret hx hlk hret (hb hby d2_12) rfl (Or.inr (Or.inl ⟨rfl, rfl, _, rfl⟩)) (by decide) (by decide) ⟨by simp [own_dv, own_lv, q2], rfl⟩
theorem dm0_0 : decode method_5_code 0 = .ok (.iload_n 0, 1) := by decide +kernel
theorem dm0_1 : decode method_5_code 1 = .ok (.ifCond .ne 7, 3) := by decide +kernel
theorem dm0_4 : decode method_5_code 4 = .ok (.iconst 0, 1) := by decide +kernel
theorem dm0_5 : decode method_5_code 5 = .ok (.newarray .double, 2) := by decide +kernel
theorem dm0_7 : decode method_5_code 7 = .ok (.areturn, 1) := by decide +kernel
theorem efm0 (m : MethodId) (p1 : Int32) (x0 : UInt64) (x1 : UInt64) (x2 : UInt64) : entryFrame m #[(.int p1), (.double x0), (.double x1), (.double x2)] 7 = mkF m 0 #[.val (.int p1), .val (.double x0), .second, .val (.double x1), .second, .val (.double x2), .second] [] := by first | (simp [entryFrame, mkF, argsToLocals, Value.category, maxLocals]; done) | rfl
set_option maxRecDepth 65536 in
set_option maxHeartbeats 40000000 in
theorem own_make0 (l : Launch) (Z : State) (a0 : Array Value) (hw : ∀ d ∈ tables_1, d.before a0 Z = true) (p1 : Int32) (x0 x1 x2 : UInt64) (h0 : Heap) (n0 : Nat) (Z0 : n0 ≤ h0.size) (hn : p1 = (0 : Int32)) :
    own_M l Z (⟨"com/example/paretolio/paretolio/measure/NonDominatedWeaklyDominatesPinLaw", "make", "(IDDD)[D"⟩ : MethodName) method_5_code 7 (some (.array .double)) [] ({ frames := 0, cells := 1, slots := 3, locals := 0 } : Room) #[(.int p1), (.double x0), (.double x1), (.double x2)] h0 n0 (fun v h => ∃ b, v = some (.ref b) ∧ Keep h0 h [] ∧ h0.size ≤ b ∧ n0 ≤ b ∧ own_Ar Z h b .double []) := by
  refine own_M.of (plainFor_of_name (by first | (simp [plainName, overriddenIn]; done) | decide +kernel)) ?_
  intro p e s m below meth c S0 hx hby hml hown hnm hret hlk hZ A00
  have A0 := A00.cast (efm0 m p1 x0 x1 x2)
  have KK := Keep.refl h0 []
  have A1 := A0.go (f' := mkF m 1 #[.val (.int p1), .val (.double x0), .second, .val (.double x1), .second, .val (.double x2), .second] [(.int p1)]) fun _ _ X _ k => XS.iloadN X.here hx rfl (hb hby dm0_0) rfl k
  have q2 : (p1 = (0 : Int32)) := by rw [hn] <;> decide
  have A3 := A1.go (f' := mkF m 4 #[.val (.int p1), .val (.double x0), .second, .val (.double x1), .second, .val (.double x2), .second] []) fun _ _ X _ k => XS.ifNo X.here hx rfl (hb hby dm0_1) rfl ((if0 _ _).trans (teq q2).2) k
  have A4 := A3.go (f' := mkF m 5 #[.val (.int p1), .val (.double x0), .second, .val (.double x1), .second, .val (.double x2), .second] [(.int (0 : Int32))]) fun _ _ X _ k => XS.iconst X.here hx rfl (hb hby dm0_4) k
  obtain ⟨h5, E6, V_xb, A7⟩ := A4.newP hx hZ (hb hby dm0_5) (hw _ (List.mem_of_getElem? (i := 7) rfl)) (by decide) (cap := 0) (by decide) (by decide) (by decide) (by decide)
  obtain ⟨xb, gxb⟩ : ∃ z, z = h0.size := ⟨_, rfl⟩
  rw [← gxb] at V_xb A7
  have g_xb : n0 ≤ xb := by rw [gxb]; exact Z0
  have sz_xb : h0.size ≤ xb := by rw [gxb]; exact KK.1
  have Z0 : n0 ≤ h5.size := Nat.le_trans Z0 E6.1
  have KK : Keep h0 h5 [] := KK.ext E6
  have V_xb : own_Ar Z h5 xb .double [] := V_xb
  have A8 : own_R p l e _ _ m _ below meth c S0 n0 h5 1 0 (mkF m 7 #[.val (.int p1), .val (.double x0), .second, .val (.double x1), .second, .val (.double x2), .second] [(.ref xb)]) := A7
  exact A8.ret hx hlk hret (hb hby dm0_7) rfl (Or.inr (Or.inr (Or.inr (Or.inr ⟨rfl, rfl, rfl⟩)))) (by decide) (by decide) ⟨_, rfl, KK, sz_xb, g_xb, V_xb⟩
theorem dm1_0 : decode method_5_code 0 = .ok (.iload_n 0, 1) := by decide +kernel
theorem dm1_1 : decode method_5_code 1 = .ok (.ifCond .ne 7, 3) := by decide +kernel
theorem dm1_8 : decode method_5_code 8 = .ok (.iload_n 0, 1) := by decide +kernel
theorem dm1_9 : decode method_5_code 9 = .ok (.iconst 1, 1) := by decide +kernel
theorem dm1_10 : decode method_5_code 10 = .ok (.if_icmp .ne 11, 3) := by decide +kernel
theorem dm1_13 : decode method_5_code 13 = .ok (.iconst 1, 1) := by decide +kernel
theorem dm1_14 : decode method_5_code 14 = .ok (.newarray .double, 2) := by decide +kernel
theorem dm1_16 : decode method_5_code 16 = .ok (.dup, 1) := by decide +kernel
theorem dm1_17 : decode method_5_code 17 = .ok (.iconst 0, 1) := by decide +kernel
theorem dm1_18 : decode method_5_code 18 = .ok (.dload_n 1, 1) := by decide +kernel
theorem dm1_19 : decode method_5_code 19 = .ok (.dastore, 1) := by decide +kernel
theorem dm1_20 : decode method_5_code 20 = .ok (.areturn, 1) := by decide +kernel
theorem efm1 (m : MethodId) (p1 : Int32) (x0 : UInt64) (x1 : UInt64) (x2 : UInt64) : entryFrame m #[(.int p1), (.double x0), (.double x1), (.double x2)] 7 = mkF m 0 #[.val (.int p1), .val (.double x0), .second, .val (.double x1), .second, .val (.double x2), .second] [] := by first | (simp [entryFrame, mkF, argsToLocals, Value.category, maxLocals]; done) | rfl
set_option maxRecDepth 65536 in
set_option maxHeartbeats 40000000 in
theorem own_make1 (l : Launch) (Z : State) (a0 : Array Value) (hw : ∀ d ∈ tables_1, d.before a0 Z = true) (p1 : Int32) (x0 x1 x2 : UInt64) (h0 : Heap) (n0 : Nat) (Z0 : n0 ≤ h0.size) (hn : p1 = (1 : Int32)) :
    own_M l Z (⟨"com/example/paretolio/paretolio/measure/NonDominatedWeaklyDominatesPinLaw", "make", "(IDDD)[D"⟩ : MethodName) method_5_code 7 (some (.array .double)) [] ({ frames := 0, cells := 1, slots := 3, locals := 0 } : Room) #[(.int p1), (.double x0), (.double x1), (.double x2)] h0 n0 (fun v h => ∃ b, v = some (.ref b) ∧ Keep h0 h [] ∧ h0.size ≤ b ∧ n0 ≤ b ∧ own_Ar Z h b .double [(.double x0)]) := by
  refine own_M.of (plainFor_of_name (by first | (simp [plainName, overriddenIn]; done) | decide +kernel)) ?_
  intro p e s m below meth c S0 hx hby hml hown hnm hret hlk hZ A00
  have A0 := A00.cast (efm1 m p1 x0 x1 x2)
  have KK := Keep.refl h0 []
  have A1 := A0.go (f' := mkF m 1 #[.val (.int p1), .val (.double x0), .second, .val (.double x1), .second, .val (.double x2), .second] [(.int p1)]) fun _ _ X _ k => XS.iloadN X.here hx rfl (hb hby dm1_0) rfl k
  have q2 : ¬ (p1 = (0 : Int32)) := by rw [hn] <;> decide
  have A3 := A1.go (f' := mkF m 8 #[.val (.int p1), .val (.double x0), .second, .val (.double x1), .second, .val (.double x2), .second] []) fun _ _ X _ k => XS.ifYes X.here hx rfl (pc0 := 1) (pc' := 8) rfl (hb hby dm1_1) rfl ((if0 _ _).trans (feq q2).2) (by decide) (by decide) k
  have A4 := A3.go (f' := mkF m 9 #[.val (.int p1), .val (.double x0), .second, .val (.double x1), .second, .val (.double x2), .second] [(.int p1)]) fun _ _ X _ k => XS.iloadN X.here hx rfl (hb hby dm1_8) rfl k
  have A5 := A4.go (f' := mkF m 10 #[.val (.int p1), .val (.double x0), .second, .val (.double x1), .second, .val (.double x2), .second] [(.int (1 : Int32)), (.int p1)]) fun _ _ X _ k => XS.iconst X.here hx rfl (hb hby dm1_9) k
  have q6 : (p1 = (1 : Int32)) := by rw [hn] <;> decide
  have A7 := A5.go (f' := mkF m 13 #[.val (.int p1), .val (.double x0), .second, .val (.double x1), .second, .val (.double x2), .second] []) fun _ _ X _ k => XS.icmpNo X.here hx rfl (hb hby dm1_10) rfl ((teq q6).2) k
  have A8 := A7.go (f' := mkF m 14 #[.val (.int p1), .val (.double x0), .second, .val (.double x1), .second, .val (.double x2), .second] [(.int (1 : Int32))]) fun _ _ X _ k => XS.iconst X.here hx rfl (hb hby dm1_13) k
  obtain ⟨h9, E10, V_xb, A11⟩ := A8.newP hx hZ (hb hby dm1_14) (hw _ (List.mem_of_getElem? (i := 7) rfl)) (by decide) (cap := 1) (by decide) (by decide) (by decide) (by decide)
  obtain ⟨xb, gxb⟩ : ∃ z, z = h0.size := ⟨_, rfl⟩
  rw [← gxb] at V_xb A11
  have g_xb : n0 ≤ xb := by rw [gxb]; exact Z0
  have sz_xb : h0.size ≤ xb := by rw [gxb]; exact KK.1
  have Z0 : n0 ≤ h9.size := Nat.le_trans Z0 E10.1
  have KK : Keep h0 h9 [] := KK.ext E10
  have V_xb : own_Ar Z h9 xb .double [(.double 0)] := V_xb
  have A12 : own_R p l e _ _ m _ below meth c S0 n0 h9 1 1 (mkF m 16 #[.val (.int p1), .val (.double x0), .second, .val (.double x1), .second, .val (.double x2), .second] [(.ref xb)]) := A11
  have A13 := A12.go (f' := mkF m 17 #[.val (.int p1), .val (.double x0), .second, .val (.double x1), .second, .val (.double x2), .second] [(.ref xb), (.ref xb)]) fun _ _ X _ k => XS.dup X.here hx rfl (hb hby dm1_16) rfl rfl k
  have A14 := A13.go (f' := mkF m 18 #[.val (.int p1), .val (.double x0), .second, .val (.double x1), .second, .val (.double x2), .second] [(.int (0 : Int32)), (.ref xb), (.ref xb)]) fun _ _ X _ k => XS.iconst X.here hx rfl (hb hby dm1_17) k
  have A15 := A14.go (f' := mkF m 19 #[.val (.int p1), .val (.double x0), .second, .val (.double x1), .second, .val (.double x2), .second] [(.double x0), (.int (0 : Int32)), (.ref xb), (.ref xb)]) fun _ _ X _ k => XS.dloadN X.here hx rfl (hb hby dm1_18) rfl k
  obtain ⟨h16, W17, A18⟩ := A15.stD hx hZ (hb hby dm1_19) V_xb (by decide) (by simp +decide) g_xb
  have V_xb : own_Ar Z h16 xb .double [(.double x0)] := V_xb.same W17
  have Z0 : n0 ≤ h16.size := by rw [W17.size]; exact Z0
  have KK : Keep h0 h16 [] := KK.wr W17 (Or.inr sz_xb)
  have A19 : own_R p l e _ _ m _ below meth c S0 n0 h16 1 1 (mkF m 20 #[.val (.int p1), .val (.double x0), .second, .val (.double x1), .second, .val (.double x2), .second] [(.ref xb)]) := A18
  exact A19.ret hx hlk hret (hb hby dm1_20) rfl (Or.inr (Or.inr (Or.inr (Or.inr ⟨rfl, rfl, rfl⟩)))) (by decide) (by decide) ⟨_, rfl, KK, sz_xb, g_xb, V_xb⟩
theorem dm2_0 : decode method_5_code 0 = .ok (.iload_n 0, 1) := by decide +kernel
theorem dm2_1 : decode method_5_code 1 = .ok (.ifCond .ne 7, 3) := by decide +kernel
theorem dm2_8 : decode method_5_code 8 = .ok (.iload_n 0, 1) := by decide +kernel
theorem dm2_9 : decode method_5_code 9 = .ok (.iconst 1, 1) := by decide +kernel
theorem dm2_10 : decode method_5_code 10 = .ok (.if_icmp .ne 11, 3) := by decide +kernel
theorem dm2_21 : decode method_5_code 21 = .ok (.iload_n 0, 1) := by decide +kernel
theorem dm2_22 : decode method_5_code 22 = .ok (.iconst 2, 1) := by decide +kernel
theorem dm2_23 : decode method_5_code 23 = .ok (.if_icmp .ne 15, 3) := by decide +kernel
theorem dm2_26 : decode method_5_code 26 = .ok (.iconst 2, 1) := by decide +kernel
theorem dm2_27 : decode method_5_code 27 = .ok (.newarray .double, 2) := by decide +kernel
theorem dm2_29 : decode method_5_code 29 = .ok (.dup, 1) := by decide +kernel
theorem dm2_30 : decode method_5_code 30 = .ok (.iconst 0, 1) := by decide +kernel
theorem dm2_31 : decode method_5_code 31 = .ok (.dload_n 1, 1) := by decide +kernel
theorem dm2_32 : decode method_5_code 32 = .ok (.dastore, 1) := by decide +kernel
theorem dm2_33 : decode method_5_code 33 = .ok (.dup, 1) := by decide +kernel
theorem dm2_34 : decode method_5_code 34 = .ok (.iconst 1, 1) := by decide +kernel
theorem dm2_35 : decode method_5_code 35 = .ok (.dload_n 3, 1) := by decide +kernel
theorem dm2_36 : decode method_5_code 36 = .ok (.dastore, 1) := by decide +kernel
theorem dm2_37 : decode method_5_code 37 = .ok (.areturn, 1) := by decide +kernel
theorem efm2 (m : MethodId) (p1 : Int32) (x0 : UInt64) (x1 : UInt64) (x2 : UInt64) : entryFrame m #[(.int p1), (.double x0), (.double x1), (.double x2)] 7 = mkF m 0 #[.val (.int p1), .val (.double x0), .second, .val (.double x1), .second, .val (.double x2), .second] [] := by first | (simp [entryFrame, mkF, argsToLocals, Value.category, maxLocals]; done) | rfl
set_option maxRecDepth 65536 in
set_option maxHeartbeats 40000000 in
theorem own_make2 (l : Launch) (Z : State) (a0 : Array Value) (hw : ∀ d ∈ tables_1, d.before a0 Z = true) (p1 : Int32) (x0 x1 x2 : UInt64) (h0 : Heap) (n0 : Nat) (Z0 : n0 ≤ h0.size) (hn : p1 = (2 : Int32)) :
    own_M l Z (⟨"com/example/paretolio/paretolio/measure/NonDominatedWeaklyDominatesPinLaw", "make", "(IDDD)[D"⟩ : MethodName) method_5_code 7 (some (.array .double)) [] ({ frames := 0, cells := 1, slots := 3, locals := 0 } : Room) #[(.int p1), (.double x0), (.double x1), (.double x2)] h0 n0 (fun v h => ∃ b, v = some (.ref b) ∧ Keep h0 h [] ∧ h0.size ≤ b ∧ n0 ≤ b ∧ own_Ar Z h b .double [(.double x0), (.double x1)]) := by
  refine own_M.of (plainFor_of_name (by first | (simp [plainName, overriddenIn]; done) | decide +kernel)) ?_
  intro p e s m below meth c S0 hx hby hml hown hnm hret hlk hZ A00
  have A0 := A00.cast (efm2 m p1 x0 x1 x2)
  have KK := Keep.refl h0 []
  have A1 := A0.go (f' := mkF m 1 #[.val (.int p1), .val (.double x0), .second, .val (.double x1), .second, .val (.double x2), .second] [(.int p1)]) fun _ _ X _ k => XS.iloadN X.here hx rfl (hb hby dm2_0) rfl k
  have q2 : ¬ (p1 = (0 : Int32)) := by rw [hn] <;> decide
  have A3 := A1.go (f' := mkF m 8 #[.val (.int p1), .val (.double x0), .second, .val (.double x1), .second, .val (.double x2), .second] []) fun _ _ X _ k => XS.ifYes X.here hx rfl (pc0 := 1) (pc' := 8) rfl (hb hby dm2_1) rfl ((if0 _ _).trans (feq q2).2) (by decide) (by decide) k
  have A4 := A3.go (f' := mkF m 9 #[.val (.int p1), .val (.double x0), .second, .val (.double x1), .second, .val (.double x2), .second] [(.int p1)]) fun _ _ X _ k => XS.iloadN X.here hx rfl (hb hby dm2_8) rfl k
  have A5 := A4.go (f' := mkF m 10 #[.val (.int p1), .val (.double x0), .second, .val (.double x1), .second, .val (.double x2), .second] [(.int (1 : Int32)), (.int p1)]) fun _ _ X _ k => XS.iconst X.here hx rfl (hb hby dm2_9) k
  have q6 : ¬ (p1 = (1 : Int32)) := by rw [hn] <;> decide
  have A7 := A5.go (f' := mkF m 21 #[.val (.int p1), .val (.double x0), .second, .val (.double x1), .second, .val (.double x2), .second] []) fun _ _ X _ k => XS.icmpYes X.here hx rfl (pc0 := 10) (pc' := 21) rfl (hb hby dm2_10) rfl ((feq q6).2) (by decide) (by decide) k
  have A8 := A7.go (f' := mkF m 22 #[.val (.int p1), .val (.double x0), .second, .val (.double x1), .second, .val (.double x2), .second] [(.int p1)]) fun _ _ X _ k => XS.iloadN X.here hx rfl (hb hby dm2_21) rfl k
  have A9 := A8.go (f' := mkF m 23 #[.val (.int p1), .val (.double x0), .second, .val (.double x1), .second, .val (.double x2), .second] [(.int (2 : Int32)), (.int p1)]) fun _ _ X _ k => XS.iconst X.here hx rfl (hb hby dm2_22) k
  have q10 : (p1 = (2 : Int32)) := by rw [hn] <;> decide
  have A11 := A9.go (f' := mkF m 26 #[.val (.int p1), .val (.double x0), .second, .val (.double x1), .second, .val (.double x2), .second] []) fun _ _ X _ k => XS.icmpNo X.here hx rfl (hb hby dm2_23) rfl ((teq q10).2) k
  have A12 := A11.go (f' := mkF m 27 #[.val (.int p1), .val (.double x0), .second, .val (.double x1), .second, .val (.double x2), .second] [(.int (2 : Int32))]) fun _ _ X _ k => XS.iconst X.here hx rfl (hb hby dm2_26) k
  obtain ⟨h13, E14, V_xb, A15⟩ := A12.newP hx hZ (hb hby dm2_27) (hw _ (List.mem_of_getElem? (i := 7) rfl)) (by decide) (cap := 2) (by decide) (by decide) (by decide) (by decide)
  obtain ⟨xb, gxb⟩ : ∃ z, z = h0.size := ⟨_, rfl⟩
  rw [← gxb] at V_xb A15
  have g_xb : n0 ≤ xb := by rw [gxb]; exact Z0
  have sz_xb : h0.size ≤ xb := by rw [gxb]; exact KK.1
  have Z0 : n0 ≤ h13.size := Nat.le_trans Z0 E14.1
  have KK : Keep h0 h13 [] := KK.ext E14
  have V_xb : own_Ar Z h13 xb .double [(.double 0), (.double 0)] := V_xb
  have A16 : own_R p l e _ _ m _ below meth c S0 n0 h13 1 2 (mkF m 29 #[.val (.int p1), .val (.double x0), .second, .val (.double x1), .second, .val (.double x2), .second] [(.ref xb)]) := A15
  have A17 := A16.go (f' := mkF m 30 #[.val (.int p1), .val (.double x0), .second, .val (.double x1), .second, .val (.double x2), .second] [(.ref xb), (.ref xb)]) fun _ _ X _ k => XS.dup X.here hx rfl (hb hby dm2_29) rfl rfl k
  have A18 := A17.go (f' := mkF m 31 #[.val (.int p1), .val (.double x0), .second, .val (.double x1), .second, .val (.double x2), .second] [(.int (0 : Int32)), (.ref xb), (.ref xb)]) fun _ _ X _ k => XS.iconst X.here hx rfl (hb hby dm2_30) k
  have A19 := A18.go (f' := mkF m 32 #[.val (.int p1), .val (.double x0), .second, .val (.double x1), .second, .val (.double x2), .second] [(.double x0), (.int (0 : Int32)), (.ref xb), (.ref xb)]) fun _ _ X _ k => XS.dloadN X.here hx rfl (hb hby dm2_31) rfl k
  obtain ⟨h20, W21, A22⟩ := A19.stD hx hZ (hb hby dm2_32) V_xb (by decide) (by simp +decide) g_xb
  have V_xb : own_Ar Z h20 xb .double [(.double x0), (.double 0)] := V_xb.same W21
  have Z0 : n0 ≤ h20.size := by rw [W21.size]; exact Z0
  have KK : Keep h0 h20 [] := KK.wr W21 (Or.inr sz_xb)
  have A23 : own_R p l e _ _ m _ below meth c S0 n0 h20 1 2 (mkF m 33 #[.val (.int p1), .val (.double x0), .second, .val (.double x1), .second, .val (.double x2), .second] [(.ref xb)]) := A22
  have A24 := A23.go (f' := mkF m 34 #[.val (.int p1), .val (.double x0), .second, .val (.double x1), .second, .val (.double x2), .second] [(.ref xb), (.ref xb)]) fun _ _ X _ k => XS.dup X.here hx rfl (hb hby dm2_33) rfl rfl k
  have A25 := A24.go (f' := mkF m 35 #[.val (.int p1), .val (.double x0), .second, .val (.double x1), .second, .val (.double x2), .second] [(.int (1 : Int32)), (.ref xb), (.ref xb)]) fun _ _ X _ k => XS.iconst X.here hx rfl (hb hby dm2_34) k
  have A26 := A25.go (f' := mkF m 36 #[.val (.int p1), .val (.double x0), .second, .val (.double x1), .second, .val (.double x2), .second] [(.double x1), (.int (1 : Int32)), (.ref xb), (.ref xb)]) fun _ _ X _ k => XS.dloadN X.here hx rfl (hb hby dm2_35) rfl k
  obtain ⟨h27, W28, A29⟩ := A26.stD hx hZ (hb hby dm2_36) V_xb (by decide) (by simp +decide) g_xb
  have V_xb : own_Ar Z h27 xb .double [(.double x0), (.double x1)] := V_xb.same W28
  have Z0 : n0 ≤ h27.size := by rw [W28.size]; exact Z0
  have KK : Keep h0 h27 [] := KK.wr W28 (Or.inr sz_xb)
  have A30 : own_R p l e _ _ m _ below meth c S0 n0 h27 1 2 (mkF m 37 #[.val (.int p1), .val (.double x0), .second, .val (.double x1), .second, .val (.double x2), .second] [(.ref xb)]) := A29
  exact A30.ret hx hlk hret (hb hby dm2_37) rfl (Or.inr (Or.inr (Or.inr (Or.inr ⟨rfl, rfl, rfl⟩)))) (by decide) (by decide) ⟨_, rfl, KK, sz_xb, g_xb, V_xb⟩
theorem dm3_0 : decode method_5_code 0 = .ok (.iload_n 0, 1) := by decide +kernel
theorem dm3_1 : decode method_5_code 1 = .ok (.ifCond .ne 7, 3) := by decide +kernel
theorem dm3_8 : decode method_5_code 8 = .ok (.iload_n 0, 1) := by decide +kernel
theorem dm3_9 : decode method_5_code 9 = .ok (.iconst 1, 1) := by decide +kernel
theorem dm3_10 : decode method_5_code 10 = .ok (.if_icmp .ne 11, 3) := by decide +kernel
theorem dm3_21 : decode method_5_code 21 = .ok (.iload_n 0, 1) := by decide +kernel
theorem dm3_22 : decode method_5_code 22 = .ok (.iconst 2, 1) := by decide +kernel
theorem dm3_23 : decode method_5_code 23 = .ok (.if_icmp .ne 15, 3) := by decide +kernel
theorem dm3_38 : decode method_5_code 38 = .ok (.iconst 3, 1) := by decide +kernel
theorem dm3_39 : decode method_5_code 39 = .ok (.newarray .double, 2) := by decide +kernel
theorem dm3_41 : decode method_5_code 41 = .ok (.dup, 1) := by decide +kernel
theorem dm3_42 : decode method_5_code 42 = .ok (.iconst 0, 1) := by decide +kernel
theorem dm3_43 : decode method_5_code 43 = .ok (.dload_n 1, 1) := by decide +kernel
theorem dm3_44 : decode method_5_code 44 = .ok (.dastore, 1) := by decide +kernel
theorem dm3_45 : decode method_5_code 45 = .ok (.dup, 1) := by decide +kernel
theorem dm3_46 : decode method_5_code 46 = .ok (.iconst 1, 1) := by decide +kernel
theorem dm3_47 : decode method_5_code 47 = .ok (.dload_n 3, 1) := by decide +kernel
theorem dm3_48 : decode method_5_code 48 = .ok (.dastore, 1) := by decide +kernel
theorem dm3_49 : decode method_5_code 49 = .ok (.dup, 1) := by decide +kernel
theorem dm3_50 : decode method_5_code 50 = .ok (.iconst 2, 1) := by decide +kernel
theorem dm3_51 : decode method_5_code 51 = .ok (.dload 5, 2) := by decide +kernel
theorem dm3_53 : decode method_5_code 53 = .ok (.dastore, 1) := by decide +kernel
theorem dm3_54 : decode method_5_code 54 = .ok (.areturn, 1) := by decide +kernel
theorem efm3 (m : MethodId) (p1 : Int32) (x0 : UInt64) (x1 : UInt64) (x2 : UInt64) : entryFrame m #[(.int p1), (.double x0), (.double x1), (.double x2)] 7 = mkF m 0 #[.val (.int p1), .val (.double x0), .second, .val (.double x1), .second, .val (.double x2), .second] [] := by first | (simp [entryFrame, mkF, argsToLocals, Value.category, maxLocals]; done) | rfl
set_option maxRecDepth 65536 in
set_option maxHeartbeats 40000000 in
theorem own_make3 (l : Launch) (Z : State) (a0 : Array Value) (hw : ∀ d ∈ tables_1, d.before a0 Z = true) (p1 : Int32) (x0 x1 x2 : UInt64) (h0 : Heap) (n0 : Nat) (Z0 : n0 ≤ h0.size) (hn : p1 = (3 : Int32)) :
    own_M l Z (⟨"com/example/paretolio/paretolio/measure/NonDominatedWeaklyDominatesPinLaw", "make", "(IDDD)[D"⟩ : MethodName) method_5_code 7 (some (.array .double)) [] ({ frames := 0, cells := 1, slots := 3, locals := 0 } : Room) #[(.int p1), (.double x0), (.double x1), (.double x2)] h0 n0 (fun v h => ∃ b, v = some (.ref b) ∧ Keep h0 h [] ∧ h0.size ≤ b ∧ n0 ≤ b ∧ own_Ar Z h b .double [(.double x0), (.double x1), (.double x2)]) := by
  refine own_M.of (plainFor_of_name (by first | (simp [plainName, overriddenIn]; done) | decide +kernel)) ?_
  intro p e s m below meth c S0 hx hby hml hown hnm hret hlk hZ A00
  have A0 := A00.cast (efm3 m p1 x0 x1 x2)
  have KK := Keep.refl h0 []
  have A1 := A0.go (f' := mkF m 1 #[.val (.int p1), .val (.double x0), .second, .val (.double x1), .second, .val (.double x2), .second] [(.int p1)]) fun _ _ X _ k => XS.iloadN X.here hx rfl (hb hby dm3_0) rfl k
  have q2 : ¬ (p1 = (0 : Int32)) := by rw [hn] <;> decide
  have A3 := A1.go (f' := mkF m 8 #[.val (.int p1), .val (.double x0), .second, .val (.double x1), .second, .val (.double x2), .second] []) fun _ _ X _ k => XS.ifYes X.here hx rfl (pc0 := 1) (pc' := 8) rfl (hb hby dm3_1) rfl ((if0 _ _).trans (feq q2).2) (by decide) (by decide) k
  have A4 := A3.go (f' := mkF m 9 #[.val (.int p1), .val (.double x0), .second, .val (.double x1), .second, .val (.double x2), .second] [(.int p1)]) fun _ _ X _ k => XS.iloadN X.here hx rfl (hb hby dm3_8) rfl k
  have A5 := A4.go (f' := mkF m 10 #[.val (.int p1), .val (.double x0), .second, .val (.double x1), .second, .val (.double x2), .second] [(.int (1 : Int32)), (.int p1)]) fun _ _ X _ k => XS.iconst X.here hx rfl (hb hby dm3_9) k
  have q6 : ¬ (p1 = (1 : Int32)) := by rw [hn] <;> decide
  have A7 := A5.go (f' := mkF m 21 #[.val (.int p1), .val (.double x0), .second, .val (.double x1), .second, .val (.double x2), .second] []) fun _ _ X _ k => XS.icmpYes X.here hx rfl (pc0 := 10) (pc' := 21) rfl (hb hby dm3_10) rfl ((feq q6).2) (by decide) (by decide) k
  have A8 := A7.go (f' := mkF m 22 #[.val (.int p1), .val (.double x0), .second, .val (.double x1), .second, .val (.double x2), .second] [(.int p1)]) fun _ _ X _ k => XS.iloadN X.here hx rfl (hb hby dm3_21) rfl k
  have A9 := A8.go (f' := mkF m 23 #[.val (.int p1), .val (.double x0), .second, .val (.double x1), .second, .val (.double x2), .second] [(.int (2 : Int32)), (.int p1)]) fun _ _ X _ k => XS.iconst X.here hx rfl (hb hby dm3_22) k
  have q10 : ¬ (p1 = (2 : Int32)) := by rw [hn] <;> decide
  have A11 := A9.go (f' := mkF m 38 #[.val (.int p1), .val (.double x0), .second, .val (.double x1), .second, .val (.double x2), .second] []) fun _ _ X _ k => XS.icmpYes X.here hx rfl (pc0 := 23) (pc' := 38) rfl (hb hby dm3_23) rfl ((feq q10).2) (by decide) (by decide) k
  have A12 := A11.go (f' := mkF m 39 #[.val (.int p1), .val (.double x0), .second, .val (.double x1), .second, .val (.double x2), .second] [(.int (3 : Int32))]) fun _ _ X _ k => XS.iconst X.here hx rfl (hb hby dm3_38) k
  obtain ⟨h13, E14, V_xb, A15⟩ := A12.newP hx hZ (hb hby dm3_39) (hw _ (List.mem_of_getElem? (i := 7) rfl)) (by decide) (cap := 3) (by decide) (by decide) (by decide) (by decide)
  obtain ⟨xb, gxb⟩ : ∃ z, z = h0.size := ⟨_, rfl⟩
  rw [← gxb] at V_xb A15
  have g_xb : n0 ≤ xb := by rw [gxb]; exact Z0
  have sz_xb : h0.size ≤ xb := by rw [gxb]; exact KK.1
  have Z0 : n0 ≤ h13.size := Nat.le_trans Z0 E14.1
  have KK : Keep h0 h13 [] := KK.ext E14
  have V_xb : own_Ar Z h13 xb .double [(.double 0), (.double 0), (.double 0)] := V_xb
  have A16 : own_R p l e _ _ m _ below meth c S0 n0 h13 1 3 (mkF m 41 #[.val (.int p1), .val (.double x0), .second, .val (.double x1), .second, .val (.double x2), .second] [(.ref xb)]) := A15
  have A17 := A16.go (f' := mkF m 42 #[.val (.int p1), .val (.double x0), .second, .val (.double x1), .second, .val (.double x2), .second] [(.ref xb), (.ref xb)]) fun _ _ X _ k => XS.dup X.here hx rfl (hb hby dm3_41) rfl rfl k
  have A18 := A17.go (f' := mkF m 43 #[.val (.int p1), .val (.double x0), .second, .val (.double x1), .second, .val (.double x2), .second] [(.int (0 : Int32)), (.ref xb), (.ref xb)]) fun _ _ X _ k => XS.iconst X.here hx rfl (hb hby dm3_42) k
  have A19 := A18.go (f' := mkF m 44 #[.val (.int p1), .val (.double x0), .second, .val (.double x1), .second, .val (.double x2), .second] [(.double x0), (.int (0 : Int32)), (.ref xb), (.ref xb)]) fun _ _ X _ k => XS.dloadN X.here hx rfl (hb hby dm3_43) rfl k
  obtain ⟨h20, W21, A22⟩ := A19.stD hx hZ (hb hby dm3_44) V_xb (by decide) (by simp +decide) g_xb
  have V_xb : own_Ar Z h20 xb .double [(.double x0), (.double 0), (.double 0)] := V_xb.same W21
  have Z0 : n0 ≤ h20.size := by rw [W21.size]; exact Z0
  have KK : Keep h0 h20 [] := KK.wr W21 (Or.inr sz_xb)
  have A23 : own_R p l e _ _ m _ below meth c S0 n0 h20 1 3 (mkF m 45 #[.val (.int p1), .val (.double x0), .second, .val (.double x1), .second, .val (.double x2), .second] [(.ref xb)]) := A22
  have A24 := A23.go (f' := mkF m 46 #[.val (.int p1), .val (.double x0), .second, .val (.double x1), .second, .val (.double x2), .second] [(.ref xb), (.ref xb)]) fun _ _ X _ k => XS.dup X.here hx rfl (hb hby dm3_45) rfl rfl k
  have A25 := A24.go (f' := mkF m 47 #[.val (.int p1), .val (.double x0), .second, .val (.double x1), .second, .val (.double x2), .second] [(.int (1 : Int32)), (.ref xb), (.ref xb)]) fun _ _ X _ k => XS.iconst X.here hx rfl (hb hby dm3_46) k
  have A26 := A25.go (f' := mkF m 48 #[.val (.int p1), .val (.double x0), .second, .val (.double x1), .second, .val (.double x2), .second] [(.double x1), (.int (1 : Int32)), (.ref xb), (.ref xb)]) fun _ _ X _ k => XS.dloadN X.here hx rfl (hb hby dm3_47) rfl k
  obtain ⟨h27, W28, A29⟩ := A26.stD hx hZ (hb hby dm3_48) V_xb (by decide) (by simp +decide) g_xb
  have V_xb : own_Ar Z h27 xb .double [(.double x0), (.double x1), (.double 0)] := V_xb.same W28
  have Z0 : n0 ≤ h27.size := by rw [W28.size]; exact Z0
  have KK : Keep h0 h27 [] := KK.wr W28 (Or.inr sz_xb)
  have A30 : own_R p l e _ _ m _ below meth c S0 n0 h27 1 3 (mkF m 49 #[.val (.int p1), .val (.double x0), .second, .val (.double x1), .second, .val (.double x2), .second] [(.ref xb)]) := A29
  have A31 := A30.go (f' := mkF m 50 #[.val (.int p1), .val (.double x0), .second, .val (.double x1), .second, .val (.double x2), .second] [(.ref xb), (.ref xb)]) fun _ _ X _ k => XS.dup X.here hx rfl (hb hby dm3_49) rfl rfl k
  have A32 := A31.go (f' := mkF m 51 #[.val (.int p1), .val (.double x0), .second, .val (.double x1), .second, .val (.double x2), .second] [(.int (2 : Int32)), (.ref xb), (.ref xb)]) fun _ _ X _ k => XS.iconst X.here hx rfl (hb hby dm3_50) k
  have A33 := A32.go (f' := mkF m 53 #[.val (.int p1), .val (.double x0), .second, .val (.double x1), .second, .val (.double x2), .second] [(.double x2), (.int (2 : Int32)), (.ref xb), (.ref xb)]) fun _ _ X _ k => XS.dload X.here hx rfl (hb hby dm3_51) rfl k
  obtain ⟨h34, W35, A36⟩ := A33.stD hx hZ (hb hby dm3_53) V_xb (by decide) (by simp +decide) g_xb
  have V_xb : own_Ar Z h34 xb .double [(.double x0), (.double x1), (.double x2)] := V_xb.same W35
  have Z0 : n0 ≤ h34.size := by rw [W35.size]; exact Z0
  have KK : Keep h0 h34 [] := KK.wr W35 (Or.inr sz_xb)
  have A37 : own_R p l e _ _ m _ below meth c S0 n0 h34 1 3 (mkF m 54 #[.val (.int p1), .val (.double x0), .second, .val (.double x1), .second, .val (.double x2), .second] [(.ref xb)]) := A36
  exact A37.ret hx hlk hret (hb hby dm3_54) rfl (Or.inr (Or.inr (Or.inr (Or.inr ⟨rfl, rfl, rfl⟩)))) (by decide) (by decide) ⟨_, rfl, KK, sz_xb, g_xb, V_xb⟩
def own_wd : List (UInt64 × UInt64) → Int32
  | [] => 1
  | (x, y) :: r => if cmpValue (FP.dcmp x y) .g < 0 then 0 else own_wd r
theorem dw0_0 : decode prog_31_method_3_code 0 = .ok (.iconst 0, 1) := by decide +kernel
theorem dw0_1 : decode prog_31_method_3_code 1 = .ok (.istore_n 2, 1) := by decide +kernel
theorem dw0_2 : decode prog_31_method_3_code 2 = .ok (.iload_n 2, 1) := by decide +kernel
theorem dw0_3 : decode prog_31_method_3_code 3 = .ok (.aload_n 0, 1) := by decide +kernel
theorem dw0_4 : decode prog_31_method_3_code 4 = .ok (.arraylength, 1) := by decide +kernel
theorem dw0_5 : decode prog_31_method_3_code 5 = .ok (.if_icmp .ge 21, 3) := by decide +kernel
theorem dw0_26 : decode prog_31_method_3_code 26 = .ok (.iconst 1, 1) := by decide +kernel
theorem dw0_27 : decode prog_31_method_3_code 27 = .ok (.ireturn, 1) := by decide +kernel
theorem efw0 (m : MethodId) (a1 : Addr) (a2 : Addr) : entryFrame m #[(.ref a1), (.ref a2)] 3 = mkF m 0 #[.val (.ref a1), .val (.ref a2), .unset] [] := by first | (simp [entryFrame, mkF, argsToLocals, Value.category, maxLocals]; done) | rfl
set_option maxRecDepth 65536 in
set_option maxHeartbeats 40000000 in
theorem own_wd0 (l : Launch) (Z : State) (a0 : Array Value) (hw : ∀ d ∈ tables_1, d.before a0 Z = true) (a1 a2 : Addr) (z : Int32) (h0 : Heap) (n0 : Nat) (Z0 : n0 ≤ h0.size) (V_a1 : own_Ar Z h0 a1 .double []) (V_a2 : own_Ar Z h0 a2 .double []) (hz : own_wd [] = z) :
    own_M l Z (⟨"com/example/paretolio/paretolio/measure/NonDominated", "weaklyDominates", "([D[D)Z"⟩ : MethodName) prog_31_method_3_code 3 (some .boolean) [] ({ frames := 0, cells := 0, slots := 0, locals := 0 } : Room) #[(.ref a1), (.ref a2)] h0 n0 (fun v h => v = some (.int z) ∧ h0 = h) := by
  refine own_M.of (plainFor_of_name (by first | (simp [plainName, overriddenIn]; done) | decide +kernel)) ?_
  intro p e s m below meth c S0 hx hby hml hown hnm hret hlk hZ A00
  have A0 := A00.cast (efw0 m a1 a2)
  have A1 := A0.go (f' := mkF m 1 #[.val (.ref a1), .val (.ref a2), .unset] [(.int (0 : Int32))]) fun _ _ X _ k => XS.iconst X.here hx rfl (hb hby dw0_0) k
  have A2 := A1.go (f' := mkF m 2 #[.val (.ref a1), .val (.ref a2), .val (.int (0 : Int32))] []) fun _ _ X _ k => XS.istoreN X.here hx rfl (hb hby dw0_1) rfl (l' := #[.val (.ref a1), .val (.ref a2), .val (.int (0 : Int32))]) rfl k
  have A3 := A2.go (f' := mkF m 3 #[.val (.ref a1), .val (.ref a2), .val (.int (0 : Int32))] [(.int (0 : Int32))]) fun _ _ X _ k => XS.iloadN X.here hx rfl (hb hby dw0_2) rfl k
  have A4 := A3.go (f' := mkF m 4 #[.val (.ref a1), .val (.ref a2), .val (.int (0 : Int32))] [(.ref a1), (.int (0 : Int32))]) fun _ _ X _ k => XS.aloadN X.here hx rfl (hb hby dw0_3) rfl rfl k
  have A5 : own_R p l e _ _ m _ below meth c S0 n0 h0 0 0 (mkF m 5 #[.val (.ref a1), .val (.ref a2), .val (.int (0 : Int32))] [(.int (0 : Int32)), (.int (0 : Int32))]) := A4.len hx hZ (hb hby dw0_4) V_a1
  have q6 : ¬ ((0 : Int32) < (0 : Int32)) := by decide
  have A7 := A5.go (f' := mkF m 26 #[.val (.ref a1), .val (.ref a2), .val (.int (0 : Int32))] []) fun _ _ X _ k => XS.icmpYes X.here hx rfl (pc0 := 5) (pc' := 26) rfl (hb hby dw0_5) rfl ((flt q6).2.1) (by decide) (by decide) k
  have A8 := A7.go (f' := mkF m 27 #[.val (.ref a1), .val (.ref a2), .val (.int (0 : Int32))] [(.int (1 : Int32))]) fun _ _ X _ k => XS.iconst X.here hx rfl (hb hby dw0_26) k
  exact A8.ret hx hlk hret (hb hby dw0_27) rfl (Or.inl ⟨rfl, by simp, _, rfl⟩) (by decide) (by decide) ⟨by rw [← hz]; simp [own_wd, ], rfl⟩
theorem dw1_0 : decode prog_31_method_3_code 0 = .ok (.iconst 0, 1) := by decide +kernel
theorem dw1_1 : decode prog_31_method_3_code 1 = .ok (.istore_n 2, 1) := by decide +kernel
theorem dw1_2 : decode prog_31_method_3_code 2 = .ok (.iload_n 2, 1) := by decide +kernel
theorem dw1_3 : decode prog_31_method_3_code 3 = .ok (.aload_n 0, 1) := by decide +kernel
theorem dw1_4 : decode prog_31_method_3_code 4 = .ok (.arraylength, 1) := by decide +kernel
theorem dw1_5 : decode prog_31_method_3_code 5 = .ok (.if_icmp .ge 21, 3) := by decide +kernel
theorem dw1_8 : decode prog_31_method_3_code 8 = .ok (.aload_n 0, 1) := by decide +kernel
theorem dw1_9 : decode prog_31_method_3_code 9 = .ok (.iload_n 2, 1) := by decide +kernel
theorem dw1_10 : decode prog_31_method_3_code 10 = .ok (.daload, 1) := by decide +kernel
theorem dw1_11 : decode prog_31_method_3_code 11 = .ok (.aload_n 1, 1) := by decide +kernel
theorem dw1_12 : decode prog_31_method_3_code 12 = .ok (.iload_n 2, 1) := by decide +kernel
theorem dw1_13 : decode prog_31_method_3_code 13 = .ok (.daload, 1) := by decide +kernel
theorem dw1_14 : decode prog_31_method_3_code 14 = .ok (.dcmp .g, 1) := by decide +kernel
theorem dw1_15 : decode prog_31_method_3_code 15 = .ok (.ifCond .ge 5, 3) := by decide +kernel
theorem dw1_18 : decode prog_31_method_3_code 18 = .ok (.iconst 0, 1) := by decide +kernel
theorem dw1_19 : decode prog_31_method_3_code 19 = .ok (.ireturn, 1) := by decide +kernel
theorem dw1_20 : decode prog_31_method_3_code 20 = .ok (.iinc 2 1, 3) := by decide +kernel
theorem dw1_23 : decode prog_31_method_3_code 23 = .ok (.goto (-21), 3) := by decide +kernel
theorem dw1_26 : decode prog_31_method_3_code 26 = .ok (.iconst 1, 1) := by decide +kernel
theorem dw1_27 : decode prog_31_method_3_code 27 = .ok (.ireturn, 1) := by decide +kernel
theorem efw1 (m : MethodId) (a1 : Addr) (a2 : Addr) : entryFrame m #[(.ref a1), (.ref a2)] 3 = mkF m 0 #[.val (.ref a1), .val (.ref a2), .unset] [] := by first | (simp [entryFrame, mkF, argsToLocals, Value.category, maxLocals]; done) | rfl
set_option maxRecDepth 65536 in
set_option maxHeartbeats 40000000 in
theorem own_wd1 (l : Launch) (Z : State) (a0 : Array Value) (hw : ∀ d ∈ tables_1, d.before a0 Z = true) (a1 a2 : Addr) (z : Int32) (x0 y0 : UInt64) (h0 : Heap) (n0 : Nat) (Z0 : n0 ≤ h0.size) (V_a1 : own_Ar Z h0 a1 .double [(.double x0)]) (V_a2 : own_Ar Z h0 a2 .double [(.double y0)]) (hz : own_wd [(x0, y0)] = z) :
    own_M l Z (⟨"com/example/paretolio/paretolio/measure/NonDominated", "weaklyDominates", "([D[D)Z"⟩ : MethodName) prog_31_method_3_code 3 (some .boolean) [] ({ frames := 0, cells := 0, slots := 0, locals := 0 } : Room) #[(.ref a1), (.ref a2)] h0 n0 (fun v h => v = some (.int z) ∧ h0 = h) := by
  refine own_M.of (plainFor_of_name (by first | (simp [plainName, overriddenIn]; done) | decide +kernel)) ?_
  intro p e s m below meth c S0 hx hby hml hown hnm hret hlk hZ A00
  have A0 := A00.cast (efw1 m a1 a2)
  have A1 := A0.go (f' := mkF m 1 #[.val (.ref a1), .val (.ref a2), .unset] [(.int (0 : Int32))]) fun _ _ X _ k => XS.iconst X.here hx rfl (hb hby dw1_0) k
  have A2 := A1.go (f' := mkF m 2 #[.val (.ref a1), .val (.ref a2), .val (.int (0 : Int32))] []) fun _ _ X _ k => XS.istoreN X.here hx rfl (hb hby dw1_1) rfl (l' := #[.val (.ref a1), .val (.ref a2), .val (.int (0 : Int32))]) rfl k
  have A3 := A2.go (f' := mkF m 3 #[.val (.ref a1), .val (.ref a2), .val (.int (0 : Int32))] [(.int (0 : Int32))]) fun _ _ X _ k => XS.iloadN X.here hx rfl (hb hby dw1_2) rfl k
  have A4 := A3.go (f' := mkF m 4 #[.val (.ref a1), .val (.ref a2), .val (.int (0 : Int32))] [(.ref a1), (.int (0 : Int32))]) fun _ _ X _ k => XS.aloadN X.here hx rfl (hb hby dw1_3) rfl rfl k
  have A5 : own_R p l e _ _ m _ below meth c S0 n0 h0 0 0 (mkF m 5 #[.val (.ref a1), .val (.ref a2), .val (.int (0 : Int32))] [(.int (1 : Int32)), (.int (0 : Int32))]) := A4.len hx hZ (hb hby dw1_4) V_a1
  have q6 : ((0 : Int32) < (1 : Int32)) := by decide
  have A7 := A5.go (f' := mkF m 8 #[.val (.ref a1), .val (.ref a2), .val (.int (0 : Int32))] []) fun _ _ X _ k => XS.icmpNo X.here hx rfl (hb hby dw1_5) rfl ((tlt q6).2.1) k
  have A8 := A7.go (f' := mkF m 9 #[.val (.ref a1), .val (.ref a2), .val (.int (0 : Int32))] [(.ref a1)]) fun _ _ X _ k => XS.aloadN X.here hx rfl (hb hby dw1_8) rfl rfl k
  have A9 := A8.go (f' := mkF m 10 #[.val (.ref a1), .val (.ref a2), .val (.int (0 : Int32))] [(.int (0 : Int32)), (.ref a1)]) fun _ _ X _ k => XS.iloadN X.here hx rfl (hb hby dw1_9) rfl k
  have A10 : own_R p l e _ _ m _ below meth c S0 n0 h0 0 0 (mkF m 11 #[.val (.ref a1), .val (.ref a2), .val (.int (0 : Int32))] [(.double x0)]) := A9.ldD hx hZ (hb hby dw1_10) V_a1 (by decide) rfl
  have A11 := A10.go (f' := mkF m 12 #[.val (.ref a1), .val (.ref a2), .val (.int (0 : Int32))] [(.ref a2), (.double x0)]) fun _ _ X _ k => XS.aloadN X.here hx rfl (hb hby dw1_11) rfl rfl k
  have A12 := A11.go (f' := mkF m 13 #[.val (.ref a1), .val (.ref a2), .val (.int (0 : Int32))] [(.int (0 : Int32)), (.ref a2), (.double x0)]) fun _ _ X _ k => XS.iloadN X.here hx rfl (hb hby dw1_12) rfl k
  have A13 : own_R p l e _ _ m _ below meth c S0 n0 h0 0 0 (mkF m 14 #[.val (.ref a1), .val (.ref a2), .val (.int (0 : Int32))] [(.double y0), (.double x0)]) := A12.ldD hx hZ (hb hby dw1_13) V_a2 (by decide) rfl
  have A14 := A13.go (f' := mkF m 15 #[.val (.ref a1), .val (.ref a2), .val (.int (0 : Int32))] [(.int (cmpValue (FP.dcmp x0 y0) .g))]) fun _ _ X _ k => XS.dcmpS X.here hx rfl (hb hby dw1_14) rfl rfl k
  by_cases q15 : (cmpValue (FP.dcmp x0 y0) .g) < (0 : Int32)
  · skip
    have A16 := A14.go (f' := mkF m 18 #[.val (.ref a1), .val (.ref a2), .val (.int (0 : Int32))] []) fun _ _ X _ k => XS.ifNo X.here hx rfl (hb hby dw1_15) rfl ((if0 _ _).trans (tlt q15).2.1) k
    have A17 := A16.go (f' := mkF m 19 #[.val (.ref a1), .val (.ref a2), .val (.int (0 : Int32))] [(.int (0 : Int32))]) fun _ _ X _ k => XS.iconst X.here hx rfl (hb hby dw1_18) k
    exact A17.ret hx hlk hret (hb hby dw1_19) rfl (Or.inl ⟨rfl, by simp, _, rfl⟩) (by decide) (by decide) ⟨by rw [← hz]; simp [own_wd, q15], rfl⟩
  · skip
    have A18 := A14.go (f' := mkF m 20 #[.val (.ref a1), .val (.ref a2), .val (.int (0 : Int32))] []) fun _ _ X _ k => XS.ifYes X.here hx rfl (pc0 := 15) (pc' := 20) rfl (hb hby dw1_15) rfl ((if0 _ _).trans (flt q15).2.1) (by decide) (by decide) k
    have A19 := A18.go (f' := mkF m 23 #[.val (.ref a1), .val (.ref a2), .val (.int (1 : Int32))] []) fun _ _ X _ k => XS.iinc X.here hx rfl (hb hby dw1_20) rfl (l' := #[.val (.ref a1), .val (.ref a2), .val (.int (1 : Int32))]) rfl k
    have A20 := A19.go (f' := mkF m 2 #[.val (.ref a1), .val (.ref a2), .val (.int (1 : Int32))] []) fun _ _ X _ k => XS.goto X.here hx rfl (pc0 := 23) (pc' := 2) rfl (hb hby dw1_23) (by decide) (by decide) k
    have A21 := A20.go (f' := mkF m 3 #[.val (.ref a1), .val (.ref a2), .val (.int (1 : Int32))] [(.int (1 : Int32))]) fun _ _ X _ k => XS.iloadN X.here hx rfl (hb hby dw1_2) rfl k
    have A22 := A21.go (f' := mkF m 4 #[.val (.ref a1), .val (.ref a2), .val (.int (1 : Int32))] [(.ref a1), (.int (1 : Int32))]) fun _ _ X _ k => XS.aloadN X.here hx rfl (hb hby dw1_3) rfl rfl k
    have A23 : own_R p l e _ _ m _ below meth c S0 n0 h0 0 0 (mkF m 5 #[.val (.ref a1), .val (.ref a2), .val (.int (1 : Int32))] [(.int (1 : Int32)), (.int (1 : Int32))]) := A22.len hx hZ (hb hby dw1_4) V_a1
    have q24 : ¬ ((1 : Int32) < (1 : Int32)) := by decide
    have A25 := A23.go (f' := mkF m 26 #[.val (.ref a1), .val (.ref a2), .val (.int (1 : Int32))] []) fun _ _ X _ k => XS.icmpYes X.here hx rfl (pc0 := 5) (pc' := 26) rfl (hb hby dw1_5) rfl ((flt q24).2.1) (by decide) (by decide) k
    have A26 := A25.go (f' := mkF m 27 #[.val (.ref a1), .val (.ref a2), .val (.int (1 : Int32))] [(.int (1 : Int32))]) fun _ _ X _ k => XS.iconst X.here hx rfl (hb hby dw1_26) k
    exact A26.ret hx hlk hret (hb hby dw1_27) rfl (Or.inl ⟨rfl, by simp, _, rfl⟩) (by decide) (by decide) ⟨by rw [← hz]; simp [own_wd, q15], rfl⟩
theorem dw2_0 : decode prog_31_method_3_code 0 = .ok (.iconst 0, 1) := by decide +kernel
theorem dw2_1 : decode prog_31_method_3_code 1 = .ok (.istore_n 2, 1) := by decide +kernel
theorem dw2_2 : decode prog_31_method_3_code 2 = .ok (.iload_n 2, 1) := by decide +kernel
theorem dw2_3 : decode prog_31_method_3_code 3 = .ok (.aload_n 0, 1) := by decide +kernel
theorem dw2_4 : decode prog_31_method_3_code 4 = .ok (.arraylength, 1) := by decide +kernel
theorem dw2_5 : decode prog_31_method_3_code 5 = .ok (.if_icmp .ge 21, 3) := by decide +kernel
theorem dw2_8 : decode prog_31_method_3_code 8 = .ok (.aload_n 0, 1) := by decide +kernel
theorem dw2_9 : decode prog_31_method_3_code 9 = .ok (.iload_n 2, 1) := by decide +kernel
theorem dw2_10 : decode prog_31_method_3_code 10 = .ok (.daload, 1) := by decide +kernel
theorem dw2_11 : decode prog_31_method_3_code 11 = .ok (.aload_n 1, 1) := by decide +kernel
theorem dw2_12 : decode prog_31_method_3_code 12 = .ok (.iload_n 2, 1) := by decide +kernel
theorem dw2_13 : decode prog_31_method_3_code 13 = .ok (.daload, 1) := by decide +kernel
theorem dw2_14 : decode prog_31_method_3_code 14 = .ok (.dcmp .g, 1) := by decide +kernel
theorem dw2_15 : decode prog_31_method_3_code 15 = .ok (.ifCond .ge 5, 3) := by decide +kernel
theorem dw2_18 : decode prog_31_method_3_code 18 = .ok (.iconst 0, 1) := by decide +kernel
theorem dw2_19 : decode prog_31_method_3_code 19 = .ok (.ireturn, 1) := by decide +kernel
theorem dw2_20 : decode prog_31_method_3_code 20 = .ok (.iinc 2 1, 3) := by decide +kernel
theorem dw2_23 : decode prog_31_method_3_code 23 = .ok (.goto (-21), 3) := by decide +kernel
theorem dw2_26 : decode prog_31_method_3_code 26 = .ok (.iconst 1, 1) := by decide +kernel
theorem dw2_27 : decode prog_31_method_3_code 27 = .ok (.ireturn, 1) := by decide +kernel
theorem efw2 (m : MethodId) (a1 : Addr) (a2 : Addr) : entryFrame m #[(.ref a1), (.ref a2)] 3 = mkF m 0 #[.val (.ref a1), .val (.ref a2), .unset] [] := by first | (simp [entryFrame, mkF, argsToLocals, Value.category, maxLocals]; done) | rfl
set_option maxRecDepth 65536 in
set_option maxHeartbeats 40000000 in
theorem own_wd2 (l : Launch) (Z : State) (a0 : Array Value) (hw : ∀ d ∈ tables_1, d.before a0 Z = true) (a1 a2 : Addr) (z : Int32) (x0 y0 x1 y1 : UInt64) (h0 : Heap) (n0 : Nat) (Z0 : n0 ≤ h0.size) (V_a1 : own_Ar Z h0 a1 .double [(.double x0), (.double x1)]) (V_a2 : own_Ar Z h0 a2 .double [(.double y0), (.double y1)]) (hz : own_wd [(x0, y0), (x1, y1)] = z) :
    own_M l Z (⟨"com/example/paretolio/paretolio/measure/NonDominated", "weaklyDominates", "([D[D)Z"⟩ : MethodName) prog_31_method_3_code 3 (some .boolean) [] ({ frames := 0, cells := 0, slots := 0, locals := 0 } : Room) #[(.ref a1), (.ref a2)] h0 n0 (fun v h => v = some (.int z) ∧ h0 = h) := by
  refine own_M.of (plainFor_of_name (by first | (simp [plainName, overriddenIn]; done) | decide +kernel)) ?_
  intro p e s m below meth c S0 hx hby hml hown hnm hret hlk hZ A00
  have A0 := A00.cast (efw2 m a1 a2)
  have A1 := A0.go (f' := mkF m 1 #[.val (.ref a1), .val (.ref a2), .unset] [(.int (0 : Int32))]) fun _ _ X _ k => XS.iconst X.here hx rfl (hb hby dw2_0) k
  have A2 := A1.go (f' := mkF m 2 #[.val (.ref a1), .val (.ref a2), .val (.int (0 : Int32))] []) fun _ _ X _ k => XS.istoreN X.here hx rfl (hb hby dw2_1) rfl (l' := #[.val (.ref a1), .val (.ref a2), .val (.int (0 : Int32))]) rfl k
  have A3 := A2.go (f' := mkF m 3 #[.val (.ref a1), .val (.ref a2), .val (.int (0 : Int32))] [(.int (0 : Int32))]) fun _ _ X _ k => XS.iloadN X.here hx rfl (hb hby dw2_2) rfl k
  have A4 := A3.go (f' := mkF m 4 #[.val (.ref a1), .val (.ref a2), .val (.int (0 : Int32))] [(.ref a1), (.int (0 : Int32))]) fun _ _ X _ k => XS.aloadN X.here hx rfl (hb hby dw2_3) rfl rfl k
  have A5 : own_R p l e _ _ m _ below meth c S0 n0 h0 0 0 (mkF m 5 #[.val (.ref a1), .val (.ref a2), .val (.int (0 : Int32))] [(.int (2 : Int32)), (.int (0 : Int32))]) := A4.len hx hZ (hb hby dw2_4) V_a1
  have q6 : ((0 : Int32) < (2 : Int32)) := by decide
  have A7 := A5.go (f' := mkF m 8 #[.val (.ref a1), .val (.ref a2), .val (.int (0 : Int32))] []) fun _ _ X _ k => XS.icmpNo X.here hx rfl (hb hby dw2_5) rfl ((tlt q6).2.1) k
  have A8 := A7.go (f' := mkF m 9 #[.val (.ref a1), .val (.ref a2), .val (.int (0 : Int32))] [(.ref a1)]) fun _ _ X _ k => XS.aloadN X.here hx rfl (hb hby dw2_8) rfl rfl k
  have A9 := A8.go (f' := mkF m 10 #[.val (.ref a1), .val (.ref a2), .val (.int (0 : Int32))] [(.int (0 : Int32)), (.ref a1)]) fun _ _ X _ k => XS.iloadN X.here hx rfl (hb hby dw2_9) rfl k
  have A10 : own_R p l e _ _ m _ below meth c S0 n0 h0 0 0 (mkF m 11 #[.val (.ref a1), .val (.ref a2), .val (.int (0 : Int32))] [(.double x0)]) := A9.ldD hx hZ (hb hby dw2_10) V_a1 (by decide) rfl
  have A11 := A10.go (f' := mkF m 12 #[.val (.ref a1), .val (.ref a2), .val (.int (0 : Int32))] [(.ref a2), (.double x0)]) fun _ _ X _ k => XS.aloadN X.here hx rfl (hb hby dw2_11) rfl rfl k
  have A12 := A11.go (f' := mkF m 13 #[.val (.ref a1), .val (.ref a2), .val (.int (0 : Int32))] [(.int (0 : Int32)), (.ref a2), (.double x0)]) fun _ _ X _ k => XS.iloadN X.here hx rfl (hb hby dw2_12) rfl k
  have A13 : own_R p l e _ _ m _ below meth c S0 n0 h0 0 0 (mkF m 14 #[.val (.ref a1), .val (.ref a2), .val (.int (0 : Int32))] [(.double y0), (.double x0)]) := A12.ldD hx hZ (hb hby dw2_13) V_a2 (by decide) rfl
  have A14 := A13.go (f' := mkF m 15 #[.val (.ref a1), .val (.ref a2), .val (.int (0 : Int32))] [(.int (cmpValue (FP.dcmp x0 y0) .g))]) fun _ _ X _ k => XS.dcmpS X.here hx rfl (hb hby dw2_14) rfl rfl k
  by_cases q15 : (cmpValue (FP.dcmp x0 y0) .g) < (0 : Int32)
  · skip
    have A16 := A14.go (f' := mkF m 18 #[.val (.ref a1), .val (.ref a2), .val (.int (0 : Int32))] []) fun _ _ X _ k => XS.ifNo X.here hx rfl (hb hby dw2_15) rfl ((if0 _ _).trans (tlt q15).2.1) k
    have A17 := A16.go (f' := mkF m 19 #[.val (.ref a1), .val (.ref a2), .val (.int (0 : Int32))] [(.int (0 : Int32))]) fun _ _ X _ k => XS.iconst X.here hx rfl (hb hby dw2_18) k
    exact A17.ret hx hlk hret (hb hby dw2_19) rfl (Or.inl ⟨rfl, by simp, _, rfl⟩) (by decide) (by decide) ⟨by rw [← hz]; simp [own_wd, q15], rfl⟩
  · skip
    have A18 := A14.go (f' := mkF m 20 #[.val (.ref a1), .val (.ref a2), .val (.int (0 : Int32))] []) fun _ _ X _ k => XS.ifYes X.here hx rfl (pc0 := 15) (pc' := 20) rfl (hb hby dw2_15) rfl ((if0 _ _).trans (flt q15).2.1) (by decide) (by decide) k
    have A19 := A18.go (f' := mkF m 23 #[.val (.ref a1), .val (.ref a2), .val (.int (1 : Int32))] []) fun _ _ X _ k => XS.iinc X.here hx rfl (hb hby dw2_20) rfl (l' := #[.val (.ref a1), .val (.ref a2), .val (.int (1 : Int32))]) rfl k
    have A20 := A19.go (f' := mkF m 2 #[.val (.ref a1), .val (.ref a2), .val (.int (1 : Int32))] []) fun _ _ X _ k => XS.goto X.here hx rfl (pc0 := 23) (pc' := 2) rfl (hb hby dw2_23) (by decide) (by decide) k
    have A21 := A20.go (f' := mkF m 3 #[.val (.ref a1), .val (.ref a2), .val (.int (1 : Int32))] [(.int (1 : Int32))]) fun _ _ X _ k => XS.iloadN X.here hx rfl (hb hby dw2_2) rfl k
    have A22 := A21.go (f' := mkF m 4 #[.val (.ref a1), .val (.ref a2), .val (.int (1 : Int32))] [(.ref a1), (.int (1 : Int32))]) fun _ _ X _ k => XS.aloadN X.here hx rfl (hb hby dw2_3) rfl rfl k
    have A23 : own_R p l e _ _ m _ below meth c S0 n0 h0 0 0 (mkF m 5 #[.val (.ref a1), .val (.ref a2), .val (.int (1 : Int32))] [(.int (2 : Int32)), (.int (1 : Int32))]) := A22.len hx hZ (hb hby dw2_4) V_a1
    have q24 : ((1 : Int32) < (2 : Int32)) := by decide
    have A25 := A23.go (f' := mkF m 8 #[.val (.ref a1), .val (.ref a2), .val (.int (1 : Int32))] []) fun _ _ X _ k => XS.icmpNo X.here hx rfl (hb hby dw2_5) rfl ((tlt q24).2.1) k
    have A26 := A25.go (f' := mkF m 9 #[.val (.ref a1), .val (.ref a2), .val (.int (1 : Int32))] [(.ref a1)]) fun _ _ X _ k => XS.aloadN X.here hx rfl (hb hby dw2_8) rfl rfl k
    have A27 := A26.go (f' := mkF m 10 #[.val (.ref a1), .val (.ref a2), .val (.int (1 : Int32))] [(.int (1 : Int32)), (.ref a1)]) fun _ _ X _ k => XS.iloadN X.here hx rfl (hb hby dw2_9) rfl k
    have A28 : own_R p l e _ _ m _ below meth c S0 n0 h0 0 0 (mkF m 11 #[.val (.ref a1), .val (.ref a2), .val (.int (1 : Int32))] [(.double x1)]) := A27.ldD hx hZ (hb hby dw2_10) V_a1 (by decide) rfl
    have A29 := A28.go (f' := mkF m 12 #[.val (.ref a1), .val (.ref a2), .val (.int (1 : Int32))] [(.ref a2), (.double x1)]) fun _ _ X _ k => XS.aloadN X.here hx rfl (hb hby dw2_11) rfl rfl k
    have A30 := A29.go (f' := mkF m 13 #[.val (.ref a1), .val (.ref a2), .val (.int (1 : Int32))] [(.int (1 : Int32)), (.ref a2), (.double x1)]) fun _ _ X _ k => XS.iloadN X.here hx rfl (hb hby dw2_12) rfl k
    have A31 : own_R p l e _ _ m _ below meth c S0 n0 h0 0 0 (mkF m 14 #[.val (.ref a1), .val (.ref a2), .val (.int (1 : Int32))] [(.double y1), (.double x1)]) := A30.ldD hx hZ (hb hby dw2_13) V_a2 (by decide) rfl
    have A32 := A31.go (f' := mkF m 15 #[.val (.ref a1), .val (.ref a2), .val (.int (1 : Int32))] [(.int (cmpValue (FP.dcmp x1 y1) .g))]) fun _ _ X _ k => XS.dcmpS X.here hx rfl (hb hby dw2_14) rfl rfl k
    by_cases q33 : (cmpValue (FP.dcmp x1 y1) .g) < (0 : Int32)
    · skip
      have A34 := A32.go (f' := mkF m 18 #[.val (.ref a1), .val (.ref a2), .val (.int (1 : Int32))] []) fun _ _ X _ k => XS.ifNo X.here hx rfl (hb hby dw2_15) rfl ((if0 _ _).trans (tlt q33).2.1) k
      have A35 := A34.go (f' := mkF m 19 #[.val (.ref a1), .val (.ref a2), .val (.int (1 : Int32))] [(.int (0 : Int32))]) fun _ _ X _ k => XS.iconst X.here hx rfl (hb hby dw2_18) k
      exact A35.ret hx hlk hret (hb hby dw2_19) rfl (Or.inl ⟨rfl, by simp, _, rfl⟩) (by decide) (by decide) ⟨by rw [← hz]; simp [own_wd, q15, q33], rfl⟩
    · skip
      have A36 := A32.go (f' := mkF m 20 #[.val (.ref a1), .val (.ref a2), .val (.int (1 : Int32))] []) fun _ _ X _ k => XS.ifYes X.here hx rfl (pc0 := 15) (pc' := 20) rfl (hb hby dw2_15) rfl ((if0 _ _).trans (flt q33).2.1) (by decide) (by decide) k
      have A37 := A36.go (f' := mkF m 23 #[.val (.ref a1), .val (.ref a2), .val (.int (2 : Int32))] []) fun _ _ X _ k => XS.iinc X.here hx rfl (hb hby dw2_20) rfl (l' := #[.val (.ref a1), .val (.ref a2), .val (.int (2 : Int32))]) rfl k
      have A38 := A37.go (f' := mkF m 2 #[.val (.ref a1), .val (.ref a2), .val (.int (2 : Int32))] []) fun _ _ X _ k => XS.goto X.here hx rfl (pc0 := 23) (pc' := 2) rfl (hb hby dw2_23) (by decide) (by decide) k
      have A39 := A38.go (f' := mkF m 3 #[.val (.ref a1), .val (.ref a2), .val (.int (2 : Int32))] [(.int (2 : Int32))]) fun _ _ X _ k => XS.iloadN X.here hx rfl (hb hby dw2_2) rfl k
      have A40 := A39.go (f' := mkF m 4 #[.val (.ref a1), .val (.ref a2), .val (.int (2 : Int32))] [(.ref a1), (.int (2 : Int32))]) fun _ _ X _ k => XS.aloadN X.here hx rfl (hb hby dw2_3) rfl rfl k
      have A41 : own_R p l e _ _ m _ below meth c S0 n0 h0 0 0 (mkF m 5 #[.val (.ref a1), .val (.ref a2), .val (.int (2 : Int32))] [(.int (2 : Int32)), (.int (2 : Int32))]) := A40.len hx hZ (hb hby dw2_4) V_a1
      have q42 : ¬ ((2 : Int32) < (2 : Int32)) := by decide
      have A43 := A41.go (f' := mkF m 26 #[.val (.ref a1), .val (.ref a2), .val (.int (2 : Int32))] []) fun _ _ X _ k => XS.icmpYes X.here hx rfl (pc0 := 5) (pc' := 26) rfl (hb hby dw2_5) rfl ((flt q42).2.1) (by decide) (by decide) k
      have A44 := A43.go (f' := mkF m 27 #[.val (.ref a1), .val (.ref a2), .val (.int (2 : Int32))] [(.int (1 : Int32))]) fun _ _ X _ k => XS.iconst X.here hx rfl (hb hby dw2_26) k
      exact A44.ret hx hlk hret (hb hby dw2_27) rfl (Or.inl ⟨rfl, by simp, _, rfl⟩) (by decide) (by decide) ⟨by rw [← hz]; simp [own_wd, q15, q33], rfl⟩
theorem dw3_0 : decode prog_31_method_3_code 0 = .ok (.iconst 0, 1) := by decide +kernel
theorem dw3_1 : decode prog_31_method_3_code 1 = .ok (.istore_n 2, 1) := by decide +kernel
theorem dw3_2 : decode prog_31_method_3_code 2 = .ok (.iload_n 2, 1) := by decide +kernel
theorem dw3_3 : decode prog_31_method_3_code 3 = .ok (.aload_n 0, 1) := by decide +kernel
theorem dw3_4 : decode prog_31_method_3_code 4 = .ok (.arraylength, 1) := by decide +kernel
theorem dw3_5 : decode prog_31_method_3_code 5 = .ok (.if_icmp .ge 21, 3) := by decide +kernel
theorem dw3_8 : decode prog_31_method_3_code 8 = .ok (.aload_n 0, 1) := by decide +kernel
theorem dw3_9 : decode prog_31_method_3_code 9 = .ok (.iload_n 2, 1) := by decide +kernel
theorem dw3_10 : decode prog_31_method_3_code 10 = .ok (.daload, 1) := by decide +kernel
theorem dw3_11 : decode prog_31_method_3_code 11 = .ok (.aload_n 1, 1) := by decide +kernel
theorem dw3_12 : decode prog_31_method_3_code 12 = .ok (.iload_n 2, 1) := by decide +kernel
theorem dw3_13 : decode prog_31_method_3_code 13 = .ok (.daload, 1) := by decide +kernel
theorem dw3_14 : decode prog_31_method_3_code 14 = .ok (.dcmp .g, 1) := by decide +kernel
theorem dw3_15 : decode prog_31_method_3_code 15 = .ok (.ifCond .ge 5, 3) := by decide +kernel
theorem dw3_18 : decode prog_31_method_3_code 18 = .ok (.iconst 0, 1) := by decide +kernel
theorem dw3_19 : decode prog_31_method_3_code 19 = .ok (.ireturn, 1) := by decide +kernel
theorem dw3_20 : decode prog_31_method_3_code 20 = .ok (.iinc 2 1, 3) := by decide +kernel
theorem dw3_23 : decode prog_31_method_3_code 23 = .ok (.goto (-21), 3) := by decide +kernel
theorem dw3_26 : decode prog_31_method_3_code 26 = .ok (.iconst 1, 1) := by decide +kernel
theorem dw3_27 : decode prog_31_method_3_code 27 = .ok (.ireturn, 1) := by decide +kernel
theorem efw3 (m : MethodId) (a1 : Addr) (a2 : Addr) : entryFrame m #[(.ref a1), (.ref a2)] 3 = mkF m 0 #[.val (.ref a1), .val (.ref a2), .unset] [] := by first | (simp [entryFrame, mkF, argsToLocals, Value.category, maxLocals]; done) | rfl
set_option maxRecDepth 65536 in
set_option maxHeartbeats 40000000 in
theorem own_wd3 (l : Launch) (Z : State) (a0 : Array Value) (hw : ∀ d ∈ tables_1, d.before a0 Z = true) (a1 a2 : Addr) (z : Int32) (x0 y0 x1 y1 x2 y2 : UInt64) (h0 : Heap) (n0 : Nat) (Z0 : n0 ≤ h0.size) (V_a1 : own_Ar Z h0 a1 .double [(.double x0), (.double x1), (.double x2)]) (V_a2 : own_Ar Z h0 a2 .double [(.double y0), (.double y1), (.double y2)]) (hz : own_wd [(x0, y0), (x1, y1), (x2, y2)] = z) :
    own_M l Z (⟨"com/example/paretolio/paretolio/measure/NonDominated", "weaklyDominates", "([D[D)Z"⟩ : MethodName) prog_31_method_3_code 3 (some .boolean) [] ({ frames := 0, cells := 0, slots := 0, locals := 0 } : Room) #[(.ref a1), (.ref a2)] h0 n0 (fun v h => v = some (.int z) ∧ h0 = h) := by
  refine own_M.of (plainFor_of_name (by first | (simp [plainName, overriddenIn]; done) | decide +kernel)) ?_
  intro p e s m below meth c S0 hx hby hml hown hnm hret hlk hZ A00
  have A0 := A00.cast (efw3 m a1 a2)
  have A1 := A0.go (f' := mkF m 1 #[.val (.ref a1), .val (.ref a2), .unset] [(.int (0 : Int32))]) fun _ _ X _ k => XS.iconst X.here hx rfl (hb hby dw3_0) k
  have A2 := A1.go (f' := mkF m 2 #[.val (.ref a1), .val (.ref a2), .val (.int (0 : Int32))] []) fun _ _ X _ k => XS.istoreN X.here hx rfl (hb hby dw3_1) rfl (l' := #[.val (.ref a1), .val (.ref a2), .val (.int (0 : Int32))]) rfl k
  have A3 := A2.go (f' := mkF m 3 #[.val (.ref a1), .val (.ref a2), .val (.int (0 : Int32))] [(.int (0 : Int32))]) fun _ _ X _ k => XS.iloadN X.here hx rfl (hb hby dw3_2) rfl k
  have A4 := A3.go (f' := mkF m 4 #[.val (.ref a1), .val (.ref a2), .val (.int (0 : Int32))] [(.ref a1), (.int (0 : Int32))]) fun _ _ X _ k => XS.aloadN X.here hx rfl (hb hby dw3_3) rfl rfl k
  have A5 : own_R p l e _ _ m _ below meth c S0 n0 h0 0 0 (mkF m 5 #[.val (.ref a1), .val (.ref a2), .val (.int (0 : Int32))] [(.int (3 : Int32)), (.int (0 : Int32))]) := A4.len hx hZ (hb hby dw3_4) V_a1
  have q6 : ((0 : Int32) < (3 : Int32)) := by decide
  have A7 := A5.go (f' := mkF m 8 #[.val (.ref a1), .val (.ref a2), .val (.int (0 : Int32))] []) fun _ _ X _ k => XS.icmpNo X.here hx rfl (hb hby dw3_5) rfl ((tlt q6).2.1) k
  have A8 := A7.go (f' := mkF m 9 #[.val (.ref a1), .val (.ref a2), .val (.int (0 : Int32))] [(.ref a1)]) fun _ _ X _ k => XS.aloadN X.here hx rfl (hb hby dw3_8) rfl rfl k
  have A9 := A8.go (f' := mkF m 10 #[.val (.ref a1), .val (.ref a2), .val (.int (0 : Int32))] [(.int (0 : Int32)), (.ref a1)]) fun _ _ X _ k => XS.iloadN X.here hx rfl (hb hby dw3_9) rfl k
  have A10 : own_R p l e _ _ m _ below meth c S0 n0 h0 0 0 (mkF m 11 #[.val (.ref a1), .val (.ref a2), .val (.int (0 : Int32))] [(.double x0)]) := A9.ldD hx hZ (hb hby dw3_10) V_a1 (by decide) rfl
  have A11 := A10.go (f' := mkF m 12 #[.val (.ref a1), .val (.ref a2), .val (.int (0 : Int32))] [(.ref a2), (.double x0)]) fun _ _ X _ k => XS.aloadN X.here hx rfl (hb hby dw3_11) rfl rfl k
  have A12 := A11.go (f' := mkF m 13 #[.val (.ref a1), .val (.ref a2), .val (.int (0 : Int32))] [(.int (0 : Int32)), (.ref a2), (.double x0)]) fun _ _ X _ k => XS.iloadN X.here hx rfl (hb hby dw3_12) rfl k
  have A13 : own_R p l e _ _ m _ below meth c S0 n0 h0 0 0 (mkF m 14 #[.val (.ref a1), .val (.ref a2), .val (.int (0 : Int32))] [(.double y0), (.double x0)]) := A12.ldD hx hZ (hb hby dw3_13) V_a2 (by decide) rfl
  have A14 := A13.go (f' := mkF m 15 #[.val (.ref a1), .val (.ref a2), .val (.int (0 : Int32))] [(.int (cmpValue (FP.dcmp x0 y0) .g))]) fun _ _ X _ k => XS.dcmpS X.here hx rfl (hb hby dw3_14) rfl rfl k
  by_cases q15 : (cmpValue (FP.dcmp x0 y0) .g) < (0 : Int32)
  · skip
    have A16 := A14.go (f' := mkF m 18 #[.val (.ref a1), .val (.ref a2), .val (.int (0 : Int32))] []) fun _ _ X _ k => XS.ifNo X.here hx rfl (hb hby dw3_15) rfl ((if0 _ _).trans (tlt q15).2.1) k
    have A17 := A16.go (f' := mkF m 19 #[.val (.ref a1), .val (.ref a2), .val (.int (0 : Int32))] [(.int (0 : Int32))]) fun _ _ X _ k => XS.iconst X.here hx rfl (hb hby dw3_18) k
    exact A17.ret hx hlk hret (hb hby dw3_19) rfl (Or.inl ⟨rfl, by simp, _, rfl⟩) (by decide) (by decide) ⟨by rw [← hz]; simp [own_wd, q15], rfl⟩
  · skip
    have A18 := A14.go (f' := mkF m 20 #[.val (.ref a1), .val (.ref a2), .val (.int (0 : Int32))] []) fun _ _ X _ k => XS.ifYes X.here hx rfl (pc0 := 15) (pc' := 20) rfl (hb hby dw3_15) rfl ((if0 _ _).trans (flt q15).2.1) (by decide) (by decide) k
    have A19 := A18.go (f' := mkF m 23 #[.val (.ref a1), .val (.ref a2), .val (.int (1 : Int32))] []) fun _ _ X _ k => XS.iinc X.here hx rfl (hb hby dw3_20) rfl (l' := #[.val (.ref a1), .val (.ref a2), .val (.int (1 : Int32))]) rfl k
    have A20 := A19.go (f' := mkF m 2 #[.val (.ref a1), .val (.ref a2), .val (.int (1 : Int32))] []) fun _ _ X _ k => XS.goto X.here hx rfl (pc0 := 23) (pc' := 2) rfl (hb hby dw3_23) (by decide) (by decide) k
    have A21 := A20.go (f' := mkF m 3 #[.val (.ref a1), .val (.ref a2), .val (.int (1 : Int32))] [(.int (1 : Int32))]) fun _ _ X _ k => XS.iloadN X.here hx rfl (hb hby dw3_2) rfl k
    have A22 := A21.go (f' := mkF m 4 #[.val (.ref a1), .val (.ref a2), .val (.int (1 : Int32))] [(.ref a1), (.int (1 : Int32))]) fun _ _ X _ k => XS.aloadN X.here hx rfl (hb hby dw3_3) rfl rfl k
    have A23 : own_R p l e _ _ m _ below meth c S0 n0 h0 0 0 (mkF m 5 #[.val (.ref a1), .val (.ref a2), .val (.int (1 : Int32))] [(.int (3 : Int32)), (.int (1 : Int32))]) := A22.len hx hZ (hb hby dw3_4) V_a1
    have q24 : ((1 : Int32) < (3 : Int32)) := by decide
    have A25 := A23.go (f' := mkF m 8 #[.val (.ref a1), .val (.ref a2), .val (.int (1 : Int32))] []) fun _ _ X _ k => XS.icmpNo X.here hx rfl (hb hby dw3_5) rfl ((tlt q24).2.1) k
    have A26 := A25.go (f' := mkF m 9 #[.val (.ref a1), .val (.ref a2), .val (.int (1 : Int32))] [(.ref a1)]) fun _ _ X _ k => XS.aloadN X.here hx rfl (hb hby dw3_8) rfl rfl k
    have A27 := A26.go (f' := mkF m 10 #[.val (.ref a1), .val (.ref a2), .val (.int (1 : Int32))] [(.int (1 : Int32)), (.ref a1)]) fun _ _ X _ k => XS.iloadN X.here hx rfl (hb hby dw3_9) rfl k
    have A28 : own_R p l e _ _ m _ below meth c S0 n0 h0 0 0 (mkF m 11 #[.val (.ref a1), .val (.ref a2), .val (.int (1 : Int32))] [(.double x1)]) := A27.ldD hx hZ (hb hby dw3_10) V_a1 (by decide) rfl
    have A29 := A28.go (f' := mkF m 12 #[.val (.ref a1), .val (.ref a2), .val (.int (1 : Int32))] [(.ref a2), (.double x1)]) fun _ _ X _ k => XS.aloadN X.here hx rfl (hb hby dw3_11) rfl rfl k
    have A30 := A29.go (f' := mkF m 13 #[.val (.ref a1), .val (.ref a2), .val (.int (1 : Int32))] [(.int (1 : Int32)), (.ref a2), (.double x1)]) fun _ _ X _ k => XS.iloadN X.here hx rfl (hb hby dw3_12) rfl k
    have A31 : own_R p l e _ _ m _ below meth c S0 n0 h0 0 0 (mkF m 14 #[.val (.ref a1), .val (.ref a2), .val (.int (1 : Int32))] [(.double y1), (.double x1)]) := A30.ldD hx hZ (hb hby dw3_13) V_a2 (by decide) rfl
    have A32 := A31.go (f' := mkF m 15 #[.val (.ref a1), .val (.ref a2), .val (.int (1 : Int32))] [(.int (cmpValue (FP.dcmp x1 y1) .g))]) fun _ _ X _ k => XS.dcmpS X.here hx rfl (hb hby dw3_14) rfl rfl k
    by_cases q33 : (cmpValue (FP.dcmp x1 y1) .g) < (0 : Int32)
    · skip
      have A34 := A32.go (f' := mkF m 18 #[.val (.ref a1), .val (.ref a2), .val (.int (1 : Int32))] []) fun _ _ X _ k => XS.ifNo X.here hx rfl (hb hby dw3_15) rfl ((if0 _ _).trans (tlt q33).2.1) k
      have A35 := A34.go (f' := mkF m 19 #[.val (.ref a1), .val (.ref a2), .val (.int (1 : Int32))] [(.int (0 : Int32))]) fun _ _ X _ k => XS.iconst X.here hx rfl (hb hby dw3_18) k
      exact A35.ret hx hlk hret (hb hby dw3_19) rfl (Or.inl ⟨rfl, by simp, _, rfl⟩) (by decide) (by decide) ⟨by rw [← hz]; simp [own_wd, q15, q33], rfl⟩
    · skip
      have A36 := A32.go (f' := mkF m 20 #[.val (.ref a1), .val (.ref a2), .val (.int (1 : Int32))] []) fun _ _ X _ k => XS.ifYes X.here hx rfl (pc0 := 15) (pc' := 20) rfl (hb hby dw3_15) rfl ((if0 _ _).trans (flt q33).2.1) (by decide) (by decide) k
      have A37 := A36.go (f' := mkF m 23 #[.val (.ref a1), .val (.ref a2), .val (.int (2 : Int32))] []) fun _ _ X _ k => XS.iinc X.here hx rfl (hb hby dw3_20) rfl (l' := #[.val (.ref a1), .val (.ref a2), .val (.int (2 : Int32))]) rfl k
      have A38 := A37.go (f' := mkF m 2 #[.val (.ref a1), .val (.ref a2), .val (.int (2 : Int32))] []) fun _ _ X _ k => XS.goto X.here hx rfl (pc0 := 23) (pc' := 2) rfl (hb hby dw3_23) (by decide) (by decide) k
      have A39 := A38.go (f' := mkF m 3 #[.val (.ref a1), .val (.ref a2), .val (.int (2 : Int32))] [(.int (2 : Int32))]) fun _ _ X _ k => XS.iloadN X.here hx rfl (hb hby dw3_2) rfl k
      have A40 := A39.go (f' := mkF m 4 #[.val (.ref a1), .val (.ref a2), .val (.int (2 : Int32))] [(.ref a1), (.int (2 : Int32))]) fun _ _ X _ k => XS.aloadN X.here hx rfl (hb hby dw3_3) rfl rfl k
      have A41 : own_R p l e _ _ m _ below meth c S0 n0 h0 0 0 (mkF m 5 #[.val (.ref a1), .val (.ref a2), .val (.int (2 : Int32))] [(.int (3 : Int32)), (.int (2 : Int32))]) := A40.len hx hZ (hb hby dw3_4) V_a1
      have q42 : ((2 : Int32) < (3 : Int32)) := by decide
      have A43 := A41.go (f' := mkF m 8 #[.val (.ref a1), .val (.ref a2), .val (.int (2 : Int32))] []) fun _ _ X _ k => XS.icmpNo X.here hx rfl (hb hby dw3_5) rfl ((tlt q42).2.1) k
      have A44 := A43.go (f' := mkF m 9 #[.val (.ref a1), .val (.ref a2), .val (.int (2 : Int32))] [(.ref a1)]) fun _ _ X _ k => XS.aloadN X.here hx rfl (hb hby dw3_8) rfl rfl k
      have A45 := A44.go (f' := mkF m 10 #[.val (.ref a1), .val (.ref a2), .val (.int (2 : Int32))] [(.int (2 : Int32)), (.ref a1)]) fun _ _ X _ k => XS.iloadN X.here hx rfl (hb hby dw3_9) rfl k
      have A46 : own_R p l e _ _ m _ below meth c S0 n0 h0 0 0 (mkF m 11 #[.val (.ref a1), .val (.ref a2), .val (.int (2 : Int32))] [(.double x2)]) := A45.ldD hx hZ (hb hby dw3_10) V_a1 (by decide) rfl
      have A47 := A46.go (f' := mkF m 12 #[.val (.ref a1), .val (.ref a2), .val (.int (2 : Int32))] [(.ref a2), (.double x2)]) fun _ _ X _ k => XS.aloadN X.here hx rfl (hb hby dw3_11) rfl rfl k
      have A48 := A47.go (f' := mkF m 13 #[.val (.ref a1), .val (.ref a2), .val (.int (2 : Int32))] [(.int (2 : Int32)), (.ref a2), (.double x2)]) fun _ _ X _ k => XS.iloadN X.here hx rfl (hb hby dw3_12) rfl k
      have A49 : own_R p l e _ _ m _ below meth c S0 n0 h0 0 0 (mkF m 14 #[.val (.ref a1), .val (.ref a2), .val (.int (2 : Int32))] [(.double y2), (.double x2)]) := A48.ldD hx hZ (hb hby dw3_13) V_a2 (by decide) rfl
      have A50 := A49.go (f' := mkF m 15 #[.val (.ref a1), .val (.ref a2), .val (.int (2 : Int32))] [(.int (cmpValue (FP.dcmp x2 y2) .g))]) fun _ _ X _ k => XS.dcmpS X.here hx rfl (hb hby dw3_14) rfl rfl k
      by_cases q51 : (cmpValue (FP.dcmp x2 y2) .g) < (0 : Int32)
      · skip
        have A52 := A50.go (f' := mkF m 18 #[.val (.ref a1), .val (.ref a2), .val (.int (2 : Int32))] []) fun _ _ X _ k => XS.ifNo X.here hx rfl (hb hby dw3_15) rfl ((if0 _ _).trans (tlt q51).2.1) k
        have A53 := A52.go (f' := mkF m 19 #[.val (.ref a1), .val (.ref a2), .val (.int (2 : Int32))] [(.int (0 : Int32))]) fun _ _ X _ k => XS.iconst X.here hx rfl (hb hby dw3_18) k
        exact A53.ret hx hlk hret (hb hby dw3_19) rfl (Or.inl ⟨rfl, by simp, _, rfl⟩) (by decide) (by decide) ⟨by rw [← hz]; simp [own_wd, q15, q33, q51], rfl⟩
      · skip
        have A54 := A50.go (f' := mkF m 20 #[.val (.ref a1), .val (.ref a2), .val (.int (2 : Int32))] []) fun _ _ X _ k => XS.ifYes X.here hx rfl (pc0 := 15) (pc' := 20) rfl (hb hby dw3_15) rfl ((if0 _ _).trans (flt q51).2.1) (by decide) (by decide) k
        have A55 := A54.go (f' := mkF m 23 #[.val (.ref a1), .val (.ref a2), .val (.int (3 : Int32))] []) fun _ _ X _ k => XS.iinc X.here hx rfl (hb hby dw3_20) rfl (l' := #[.val (.ref a1), .val (.ref a2), .val (.int (3 : Int32))]) rfl k
        have A56 := A55.go (f' := mkF m 2 #[.val (.ref a1), .val (.ref a2), .val (.int (3 : Int32))] []) fun _ _ X _ k => XS.goto X.here hx rfl (pc0 := 23) (pc' := 2) rfl (hb hby dw3_23) (by decide) (by decide) k
        have A57 := A56.go (f' := mkF m 3 #[.val (.ref a1), .val (.ref a2), .val (.int (3 : Int32))] [(.int (3 : Int32))]) fun _ _ X _ k => XS.iloadN X.here hx rfl (hb hby dw3_2) rfl k
        have A58 := A57.go (f' := mkF m 4 #[.val (.ref a1), .val (.ref a2), .val (.int (3 : Int32))] [(.ref a1), (.int (3 : Int32))]) fun _ _ X _ k => XS.aloadN X.here hx rfl (hb hby dw3_3) rfl rfl k
        have A59 : own_R p l e _ _ m _ below meth c S0 n0 h0 0 0 (mkF m 5 #[.val (.ref a1), .val (.ref a2), .val (.int (3 : Int32))] [(.int (3 : Int32)), (.int (3 : Int32))]) := A58.len hx hZ (hb hby dw3_4) V_a1
        have q60 : ¬ ((3 : Int32) < (3 : Int32)) := by decide
        have A61 := A59.go (f' := mkF m 26 #[.val (.ref a1), .val (.ref a2), .val (.int (3 : Int32))] []) fun _ _ X _ k => XS.icmpYes X.here hx rfl (pc0 := 5) (pc' := 26) rfl (hb hby dw3_5) rfl ((flt q60).2.1) (by decide) (by decide) k
        have A62 := A61.go (f' := mkF m 27 #[.val (.ref a1), .val (.ref a2), .val (.int (3 : Int32))] [(.int (1 : Int32))]) fun _ _ X _ k => XS.iconst X.here hx rfl (hb hby dw3_26) k
        exact A62.ret hx hlk hret (hb hby dw3_27) rfl (Or.inl ⟨rfl, by simp, _, rfl⟩) (by decide) (by decide) ⟨by rw [← hz]; simp [own_wd, q15, q33, q51], rfl⟩
theorem own_key (a n : Int32) : FP.Core.val64 (own_dv a n) ≠ .nan ∧ FP.Core.dkey (own_dv a n) = FP.Core.dkey (FP.l2d (own_lv a n)) := by
  have hl : ∀ z : Int64, FP.Core.val64 (FP.l2d z) ≠ .nan := fun z => (FP.Core.l2d_fin z).ne_nan
  unfold own_dv own_lv
  by_cases h : n = 0
  · rw [if_pos h, if_pos h, i2d_w]
    exact ⟨hl _, rfl⟩
  · rw [if_neg h, if_neg h, i2d_w]
    by_cases hz : a = 0
    · subst hz
      have e : FP.dneg (FP.l2d (0 : Int32).toInt64) = 9223372036854775808 := by decide +kernel
      have e2 : FP.l2d (-(0 : Int32).toInt64) = 0 := by decide +kernel
      rw [e, e2]
      exact ⟨by decide +kernel, by decide +kernel⟩
    · have ha : a.toInt64 ≠ 0 := by
        intro q
        apply hz
        have q1 : a.toInt64.toInt = 0 := by rw [q]; rfl
        rw [Int32.toInt_toInt64] at q1
        exact Int32.toInt_inj.mp (q1.trans rfl)
      have hb : -2 ^ 63 < a.toInt64.toInt := by
        rw [Int32.toInt_toInt64]
        have := a.le_toInt
        omega
      have e : FP.l2d (-a.toInt64) = FP.Core.dneg (FP.l2d a.toInt64) := FP.Core.l2d_neg ha hb
      have v1 : FP.Core.val64 (FP.dneg (FP.l2d a.toInt64)) = FP.Core.negate (FP.Core.val64 (FP.l2d a.toInt64)) := FP.val64_dneg _
      have v2 : FP.Core.val64 (FP.Core.dneg (FP.l2d a.toInt64)) = FP.Core.negate (FP.Core.val64 (FP.l2d a.toInt64)) := FP.Core.val64_dneg _
      have hn : FP.Core.val64 (FP.Core.dneg (FP.l2d a.toInt64)) ≠ .nan := by rw [← e]; exact hl _
      have e3 : FP.Core.dneg (FP.l2d a.toInt64) = FP.dneg (FP.l2d a.toInt64) := FP.Core.val64_inj hn (v2.trans v1.symm)
      rw [e, ← e3]
      exact ⟨hn, rfl⟩
theorem own_b53 (a n : Int32) : B53 (own_lv a n) := by
  have h1 := a.le_toInt
  have h2 := a.toInt_lt
  unfold own_lv
  split
  · unfold B53
    rw [Int32.toInt_toInt64]
    omega
  · unfold B53
    rw [Jvm.Kit.i64_neg (by rw [Int32.toInt_toInt64]; omega), Int32.toInt_toInt64]
    omega
theorem own_cmp (a b n m : Int32) : cmpValue (FP.dcmp (own_dv a n) (own_dv b m)) .g = lcmpW (own_lv a n) (own_lv b m) := by
  obtain ⟨n1, k1⟩ := own_key a n
  obtain ⟨n2, k2⟩ := own_key b m
  have hl : ∀ z : Int64, FP.Core.val64 (FP.l2d z) ≠ .nan := fun z => (FP.Core.l2d_fin z).ne_nan
  rw [← dcmpV_w (own_b53 a n) (own_b53 b m) .g]
  have e1 : FP.dcmp (own_dv a n) (own_dv b m) = FP.dcmp (FP.l2d (own_lv a n)) (FP.l2d (own_lv b m)) := by
    show FP.Core.dcmp _ _ = FP.Core.dcmp _ _
    rw [FP.Core.dcmp_key n1 n2, FP.Core.dcmp_key (hl _) (hl _), k1, k2]
  rw [e1]

theorem pd__28IDDD_29_5bD : parseMethodDescriptor "(IDDD)[D" = some ⟨[.int, .double, .double, .double], some (.array .double)⟩ := by decide +kernel
theorem pd__28IZ_29D : parseMethodDescriptor "(IZ)D" = some ⟨[.int, .boolean], some .double⟩ := by decide +kernel
theorem pd__28IZ_29J : parseMethodDescriptor "(IZ)J" = some ⟨[.int, .boolean], some .long⟩ := by decide +kernel
theorem pd__28_5bD_5bD_29Z : parseMethodDescriptor "([D[D)Z" = some ⟨[(.array .double), (.array .double)], some .boolean⟩ := by decide +kernel
theorem dl0_0 : decode code 0 = .ok (.iload_n 0, 1) := at_0
theorem dl0_1 : decode code 1 = .ok (.iconst 3, 1) := at_1
theorem dl0_2 : decode code 2 = .ok (.iand, 1) := at_2
theorem dl0_3 : decode code 3 = .ok (.istore 7, 2) := at_3
theorem dl0_5 : decode code 5 = .ok (.iload_n 0, 1) := at_5
theorem dl0_6 : decode code 6 = .ok (.iconst 4, 1) := at_6
theorem dl0_7 : decode code 7 = .ok (.iand, 1) := at_7
theorem dl0_8 : decode code 8 = .ok (.ifCond .eq 7, 3) := at_8
theorem dl0_11 : decode code 11 = .ok (.iconst 1, 1) := at_11
theorem dl0_12 : decode code 12 = .ok (.goto 4, 3) := at_12
theorem dl0_15 : decode code 15 = .ok (.iconst 0, 1) := at_15
theorem dl0_16 : decode code 16 = .ok (.istore 8, 2) := at_16
theorem dl0_18 : decode code 18 = .ok (.iload_n 0, 1) := at_18
theorem dl0_19 : decode code 19 = .ok (.bipush 8, 2) := at_19
theorem dl0_21 : decode code 21 = .ok (.iand, 1) := at_21
theorem dl0_22 : decode code 22 = .ok (.ifCond .eq 7, 3) := at_22
theorem dl0_25 : decode code 25 = .ok (.iconst 1, 1) := at_25
theorem dl0_26 : decode code 26 = .ok (.goto 4, 3) := at_26
theorem dl0_29 : decode code 29 = .ok (.iconst 0, 1) := at_29
theorem dl0_30 : decode code 30 = .ok (.istore 9, 2) := at_30
theorem dl0_32 : decode code 32 = .ok (.lload_n 1, 1) := at_32
theorem dl0_33 : decode code 33 = .ok (.l2i, 1) := at_33
theorem dl0_34 : decode code 34 = .ok (.istore 10, 2) := at_34
theorem dl0_36 : decode code 36 = .ok (.lload_n 1, 1) := at_36
theorem dl0_37 : decode code 37 = .ok (.bipush 32, 2) := at_37
theorem dl0_39 : decode code 39 = .ok (.lushr, 1) := at_39
theorem dl0_40 : decode code 40 = .ok (.l2i, 1) := at_40
theorem dl0_41 : decode code 41 = .ok (.istore 11, 2) := at_41
theorem dl0_43 : decode code 43 = .ok (.lload_n 3, 1) := at_43
theorem dl0_44 : decode code 44 = .ok (.l2i, 1) := at_44
theorem dl0_45 : decode code 45 = .ok (.istore 12, 2) := at_45
theorem dl0_47 : decode code 47 = .ok (.lload_n 3, 1) := at_47
theorem dl0_48 : decode code 48 = .ok (.bipush 32, 2) := at_48
theorem dl0_50 : decode code 50 = .ok (.lushr, 1) := at_50
theorem dl0_51 : decode code 51 = .ok (.l2i, 1) := at_51
theorem dl0_52 : decode code 52 = .ok (.istore 13, 2) := at_52
theorem dl0_54 : decode code 54 = .ok (.lload 5, 2) := at_54
theorem dl0_56 : decode code 56 = .ok (.l2i, 1) := at_56
theorem dl0_57 : decode code 57 = .ok (.istore 14, 2) := at_57
theorem dl0_59 : decode code 59 = .ok (.lload 5, 2) := at_59
theorem dl0_61 : decode code 61 = .ok (.bipush 32, 2) := at_61
theorem dl0_63 : decode code 63 = .ok (.lushr, 1) := at_63
theorem dl0_64 : decode code 64 = .ok (.l2i, 1) := at_64
theorem dl0_65 : decode code 65 = .ok (.istore 15, 2) := at_65
theorem dl0_67 : decode code 67 = .ok (.iload 7, 2) := at_67
theorem dl0_69 : decode code 69 = .ok (.iload 10, 2) := at_69
theorem dl0_71 : decode code 71 = .ok (.iload 8, 2) := at_71
theorem dl0_73 : decode code 73 = .ok (.invokestatic 7, 3) := at_73
theorem dl0_76 : decode code 76 = .ok (.iload 12, 2) := at_76
theorem dl0_78 : decode code 78 = .ok (.iload 8, 2) := at_78
theorem dl0_80 : decode code 80 = .ok (.invokestatic 7, 3) := at_80
theorem dl0_83 : decode code 83 = .ok (.iload 14, 2) := at_83
theorem dl0_85 : decode code 85 = .ok (.iload 8, 2) := at_85
theorem dl0_87 : decode code 87 = .ok (.invokestatic 7, 3) := at_87
theorem dl0_90 : decode code 90 = .ok (.invokestatic 13, 3) := at_90
theorem dl0_93 : decode code 93 = .ok (.astore 16, 2) := at_93
theorem dl0_95 : decode code 95 = .ok (.iload 7, 2) := at_95
theorem dl0_97 : decode code 97 = .ok (.iload 11, 2) := at_97
theorem dl0_99 : decode code 99 = .ok (.iload 9, 2) := at_99
theorem dl0_101 : decode code 101 = .ok (.invokestatic 7, 3) := at_101
theorem dl0_104 : decode code 104 = .ok (.iload 13, 2) := at_104
theorem dl0_106 : decode code 106 = .ok (.iload 9, 2) := at_106
theorem dl0_108 : decode code 108 = .ok (.invokestatic 7, 3) := at_108
theorem dl0_111 : decode code 111 = .ok (.iload 15, 2) := at_111
theorem dl0_113 : decode code 113 = .ok (.iload 9, 2) := at_113
theorem dl0_115 : decode code 115 = .ok (.invokestatic 7, 3) := at_115
theorem dl0_118 : decode code 118 = .ok (.invokestatic 13, 3) := at_118
theorem dl0_121 : decode code 121 = .ok (.astore 17, 2) := at_121
theorem dl0_123 : decode code 123 = .ok (.iload 7, 2) := at_123
theorem dl0_125 : decode code 125 = .ok (.iconst 1, 1) := at_125
theorem dl0_126 : decode code 126 = .ok (.if_icmp .lt 21, 3) := at_126
theorem dl0_147 : decode code 147 = .ok (.iload 7, 2) := at_147
theorem dl0_149 : decode code 149 = .ok (.iconst 2, 1) := at_149
theorem dl0_150 : decode code 150 = .ok (.if_icmp .lt 21, 3) := at_150
theorem dl0_171 : decode code 171 = .ok (.iload 7, 2) := at_171
theorem dl0_173 : decode code 173 = .ok (.iconst 3, 1) := at_173
theorem dl0_174 : decode code 174 = .ok (.if_icmp .lt 21, 3) := at_174
theorem dl0_195 : decode code 195 = .ok (.iconst 1, 1) := at_195
theorem dl0_196 : decode code 196 = .ok (.goto 4, 3) := at_196
theorem dl0_200 : decode code 200 = .ok (.istore 18, 2) := at_200
theorem dl0_202 : decode code 202 = .ok (.aload 16, 2) := at_202
theorem dl0_204 : decode code 204 = .ok (.aload 17, 2) := at_204
theorem dl0_206 : decode code 206 = .ok (.invokestatic 21, 3) := at_206
theorem dl0_209 : decode code 209 = .ok (.iload 18, 2) := at_209
theorem dl0_211 : decode code 211 = .ok (.if_icmp .ne 7, 3) := at_211
theorem dl0_214 : decode code 214 = .ok (.iconst 1, 1) := at_214
theorem dl0_215 : decode code 215 = .ok (.goto 4, 3) := at_215
theorem dl0_219 : decode code 219 = .ok (.ireturn, 1) := at_219
theorem efl0 (m : MethodId) (p1 : Int32) (q2 : Int64) (q3 : Int64) (q4 : Int64) : entryFrame m #[(.int p1), (.long q2), (.long q3), (.long q4)] maxLocals = mkF m 0 #[.val (.int p1), .val (.long q2), .second, .val (.long q3), .second, .val (.long q4), .second, .unset, .unset, .unset, .unset, .unset, .unset, .unset, .unset, .unset, .unset, .unset, .unset] [] := by first | (simp [entryFrame, mkF, argsToLocals, Value.category, maxLocals]; done) | rfl
set_option maxRecDepth 65536 in
set_option maxHeartbeats 40000000 in
theorem own_law0 (l : Launch) (Z : State) (a0 : Array Value) (hw : ∀ d ∈ tables_1, d.before a0 Z = true) (p1 : Int32) (q2 q3 q4 : Int64) (h0 : Heap) (n0 : Nat) (Z0 : n0 ≤ h0.size) (hn : (p1 &&& (3 : Int32)) = (0 : Int32)) :
    own_M l Z x code maxLocals ret tables_1 room_1 #[(.int p1), (.long q2), (.long q3), (.long q4)] h0 n0 (fun v h => v = some (.int 1) ∧ True) := by
  refine own_M.of (plainFor_of_name (by first | (simp [plainName, overriddenIn]; done) | decide +kernel)) ?_
  intro p e s m below meth c S0 hx hby hml hown hnm hret hlk hZ A00
  have A0 := A00.cast (efl0 m p1 q2 q3 q4)
  have A1 := A0.go (f' := mkF m 1 #[.val (.int p1), .val (.long q2), .second, .val (.long q3), .second, .val (.long q4), .second, .unset, .unset, .unset, .unset, .unset, .unset, .unset, .unset, .unset, .unset, .unset, .unset] [(.int p1)]) fun _ _ X _ k => XS.iloadN X.here hx rfl (hb hby dl0_0) rfl k
  have A2 := A1.go (f' := mkF m 2 #[.val (.int p1), .val (.long q2), .second, .val (.long q3), .second, .val (.long q4), .second, .unset, .unset, .unset, .unset, .unset, .unset, .unset, .unset, .unset, .unset, .unset, .unset] [(.int (3 : Int32)), (.int p1)]) fun _ _ X _ k => XS.iconst X.here hx rfl (hb hby dl0_1) k
  have A3 := A2.go (f' := mkF m 3 #[.val (.int p1), .val (.long q2), .second, .val (.long q3), .second, .val (.long q4), .second, .unset, .unset, .unset, .unset, .unset, .unset, .unset, .unset, .unset, .unset, .unset, .unset] [(.int (p1 &&& (3 : Int32)))]) fun _ _ X _ k => XS.iand X.here hx rfl (hb hby dl0_2) rfl k
  rw [hn] at A3
  have A4 := A3.go (f' := mkF m 5 #[.val (.int p1), .val (.long q2), .second, .val (.long q3), .second, .val (.long q4), .second, .val (.int (0 : Int32)), .unset, .unset, .unset, .unset, .unset, .unset, .unset, .unset, .unset, .unset, .unset] []) fun _ _ X _ k => XS.istore X.here hx rfl (hb hby dl0_3) rfl (l' := #[.val (.int p1), .val (.long q2), .second, .val (.long q3), .second, .val (.long q4), .second, .val (.int (0 : Int32)), .unset, .unset, .unset, .unset, .unset, .unset, .unset, .unset, .unset, .unset, .unset]) rfl k
  have A5 := A4.go (f' := mkF m 6 #[.val (.int p1), .val (.long q2), .second, .val (.long q3), .second, .val (.long q4), .second, .val (.int (0 : Int32)), .unset, .unset, .unset, .unset, .unset, .unset, .unset, .unset, .unset, .unset, .unset] [(.int p1)]) fun _ _ X _ k => XS.iloadN X.here hx rfl (hb hby dl0_5) rfl k
  have A6 := A5.go (f' := mkF m 7 #[.val (.int p1), .val (.long q2), .second, .val (.long q3), .second, .val (.long q4), .second, .val (.int (0 : Int32)), .unset, .unset, .unset, .unset, .unset, .unset, .unset, .unset, .unset, .unset, .unset] [(.int (4 : Int32)), (.int p1)]) fun _ _ X _ k => XS.iconst X.here hx rfl (hb hby dl0_6) k
  have A7 := A6.go (f' := mkF m 8 #[.val (.int p1), .val (.long q2), .second, .val (.long q3), .second, .val (.long q4), .second, .val (.int (0 : Int32)), .unset, .unset, .unset, .unset, .unset, .unset, .unset, .unset, .unset, .unset, .unset] [(.int (p1 &&& (4 : Int32)))]) fun _ _ X _ k => XS.iand X.here hx rfl (hb hby dl0_7) rfl k
  have A9 : own_R p l e room_1 s m #[(.int p1), (.long q2), (.long q3), (.long q4)] below meth c S0 n0 h0 0 0 (mkF m 16 #[.val (.int p1), .val (.long q2), .second, .val (.long q3), .second, .val (.long q4), .second, .val (.int (0 : Int32)), .unset, .unset, .unset, .unset, .unset, .unset, .unset, .unset, .unset, .unset, .unset] [(.int (if (p1 &&& (4 : Int32)) = (0 : Int32) then (0 : Int32) else (1 : Int32)))]) := by
    by_cases q8 : (p1 &&& (4 : Int32)) = (0 : Int32)
    · skip
      have A10 := A7.go (f' := mkF m 15 #[.val (.int p1), .val (.long q2), .second, .val (.long q3), .second, .val (.long q4), .second, .val (.int (0 : Int32)), .unset, .unset, .unset, .unset, .unset, .unset, .unset, .unset, .unset, .unset, .unset] []) fun _ _ X _ k => XS.ifYes X.here hx rfl (pc0 := 8) (pc' := 15) rfl (hb hby dl0_8) rfl ((if0 _ _).trans (teq q8).1) (by decide) (by decide) k
      have A11 := A10.go (f' := mkF m 16 #[.val (.int p1), .val (.long q2), .second, .val (.long q3), .second, .val (.long q4), .second, .val (.int (0 : Int32)), .unset, .unset, .unset, .unset, .unset, .unset, .unset, .unset, .unset, .unset, .unset] [(.int (0 : Int32))]) fun _ _ X _ k => XS.iconst X.here hx rfl (hb hby dl0_15) k
      simp only [if_pos q8]
      exact A11
    · skip
      have A12 := A7.go (f' := mkF m 11 #[.val (.int p1), .val (.long q2), .second, .val (.long q3), .second, .val (.long q4), .second, .val (.int (0 : Int32)), .unset, .unset, .unset, .unset, .unset, .unset, .unset, .unset, .unset, .unset, .unset] []) fun _ _ X _ k => XS.ifNo X.here hx rfl (hb hby dl0_8) rfl ((if0 _ _).trans (feq q8).1) k
      have A13 := A12.go (f' := mkF m 12 #[.val (.int p1), .val (.long q2), .second, .val (.long q3), .second, .val (.long q4), .second, .val (.int (0 : Int32)), .unset, .unset, .unset, .unset, .unset, .unset, .unset, .unset, .unset, .unset, .unset] [(.int (1 : Int32))]) fun _ _ X _ k => XS.iconst X.here hx rfl (hb hby dl0_11) k
      have A14 := A13.go (f' := mkF m 16 #[.val (.int p1), .val (.long q2), .second, .val (.long q3), .second, .val (.long q4), .second, .val (.int (0 : Int32)), .unset, .unset, .unset, .unset, .unset, .unset, .unset, .unset, .unset, .unset, .unset] [(.int (1 : Int32))]) fun _ _ X _ k => XS.goto X.here hx rfl (pc0 := 12) (pc' := 16) rfl (hb hby dl0_12) (by decide) (by decide) k
      simp only [if_neg q8]
      exact A14
  obtain ⟨ng, hng⟩ : ∃ zq_, zq_ = (if (p1 &&& (4 : Int32)) = (0 : Int32) then (0 : Int32) else (1 : Int32)) := ⟨_, rfl⟩
  rw [← hng] at A9
  have A15 := A9.go (f' := mkF m 18 #[.val (.int p1), .val (.long q2), .second, .val (.long q3), .second, .val (.long q4), .second, .val (.int (0 : Int32)), .val (.int ng), .unset, .unset, .unset, .unset, .unset, .unset, .unset, .unset, .unset, .unset] []) fun _ _ X _ k => XS.istore X.here hx rfl (hb hby dl0_16) rfl (l' := #[.val (.int p1), .val (.long q2), .second, .val (.long q3), .second, .val (.long q4), .second, .val (.int (0 : Int32)), .val (.int ng), .unset, .unset, .unset, .unset, .unset, .unset, .unset, .unset, .unset, .unset]) rfl k
  have A16 := A15.go (f' := mkF m 19 #[.val (.int p1), .val (.long q2), .second, .val (.long q3), .second, .val (.long q4), .second, .val (.int (0 : Int32)), .val (.int ng), .unset, .unset, .unset, .unset, .unset, .unset, .unset, .unset, .unset, .unset] [(.int p1)]) fun _ _ X _ k => XS.iloadN X.here hx rfl (hb hby dl0_18) rfl k
  have A17 := A16.go (f' := mkF m 21 #[.val (.int p1), .val (.long q2), .second, .val (.long q3), .second, .val (.long q4), .second, .val (.int (0 : Int32)), .val (.int ng), .unset, .unset, .unset, .unset, .unset, .unset, .unset, .unset, .unset, .unset] [(.int (8 : Int32)), (.int p1)]) fun _ _ X _ k => XS.bipush X.here hx rfl (hb hby dl0_19) k
  have A18 := A17.go (f' := mkF m 22 #[.val (.int p1), .val (.long q2), .second, .val (.long q3), .second, .val (.long q4), .second, .val (.int (0 : Int32)), .val (.int ng), .unset, .unset, .unset, .unset, .unset, .unset, .unset, .unset, .unset, .unset] [(.int (p1 &&& (8 : Int32)))]) fun _ _ X _ k => XS.iand X.here hx rfl (hb hby dl0_21) rfl k
  have A20 : own_R p l e room_1 s m #[(.int p1), (.long q2), (.long q3), (.long q4)] below meth c S0 n0 h0 0 0 (mkF m 30 #[.val (.int p1), .val (.long q2), .second, .val (.long q3), .second, .val (.long q4), .second, .val (.int (0 : Int32)), .val (.int ng), .unset, .unset, .unset, .unset, .unset, .unset, .unset, .unset, .unset, .unset] [(.int (if (p1 &&& (8 : Int32)) = (0 : Int32) then (0 : Int32) else (1 : Int32)))]) := by
    by_cases q19 : (p1 &&& (8 : Int32)) = (0 : Int32)
    · skip
      have A21 := A18.go (f' := mkF m 29 #[.val (.int p1), .val (.long q2), .second, .val (.long q3), .second, .val (.long q4), .second, .val (.int (0 : Int32)), .val (.int ng), .unset, .unset, .unset, .unset, .unset, .unset, .unset, .unset, .unset, .unset] []) fun _ _ X _ k => XS.ifYes X.here hx rfl (pc0 := 22) (pc' := 29) rfl (hb hby dl0_22) rfl ((if0 _ _).trans (teq q19).1) (by decide) (by decide) k
      have A22 := A21.go (f' := mkF m 30 #[.val (.int p1), .val (.long q2), .second, .val (.long q3), .second, .val (.long q4), .second, .val (.int (0 : Int32)), .val (.int ng), .unset, .unset, .unset, .unset, .unset, .unset, .unset, .unset, .unset, .unset] [(.int (0 : Int32))]) fun _ _ X _ k => XS.iconst X.here hx rfl (hb hby dl0_29) k
      simp only [if_pos q19]
      exact A22
    · skip
      have A23 := A18.go (f' := mkF m 25 #[.val (.int p1), .val (.long q2), .second, .val (.long q3), .second, .val (.long q4), .second, .val (.int (0 : Int32)), .val (.int ng), .unset, .unset, .unset, .unset, .unset, .unset, .unset, .unset, .unset, .unset] []) fun _ _ X _ k => XS.ifNo X.here hx rfl (hb hby dl0_22) rfl ((if0 _ _).trans (feq q19).1) k
      have A24 := A23.go (f' := mkF m 26 #[.val (.int p1), .val (.long q2), .second, .val (.long q3), .second, .val (.long q4), .second, .val (.int (0 : Int32)), .val (.int ng), .unset, .unset, .unset, .unset, .unset, .unset, .unset, .unset, .unset, .unset] [(.int (1 : Int32))]) fun _ _ X _ k => XS.iconst X.here hx rfl (hb hby dl0_25) k
      have A25 := A24.go (f' := mkF m 30 #[.val (.int p1), .val (.long q2), .second, .val (.long q3), .second, .val (.long q4), .second, .val (.int (0 : Int32)), .val (.int ng), .unset, .unset, .unset, .unset, .unset, .unset, .unset, .unset, .unset, .unset] [(.int (1 : Int32))]) fun _ _ X _ k => XS.goto X.here hx rfl (pc0 := 26) (pc' := 30) rfl (hb hby dl0_26) (by decide) (by decide) k
      simp only [if_neg q19]
      exact A25
  obtain ⟨mg, hmg⟩ : ∃ zq_, zq_ = (if (p1 &&& (8 : Int32)) = (0 : Int32) then (0 : Int32) else (1 : Int32)) := ⟨_, rfl⟩
  rw [← hmg] at A20
  have A26 := A20.go (f' := mkF m 32 #[.val (.int p1), .val (.long q2), .second, .val (.long q3), .second, .val (.long q4), .second, .val (.int (0 : Int32)), .val (.int ng), .val (.int mg), .unset, .unset, .unset, .unset, .unset, .unset, .unset, .unset, .unset] []) fun _ _ X _ k => XS.istore X.here hx rfl (hb hby dl0_30) rfl (l' := #[.val (.int p1), .val (.long q2), .second, .val (.long q3), .second, .val (.long q4), .second, .val (.int (0 : Int32)), .val (.int ng), .val (.int mg), .unset, .unset, .unset, .unset, .unset, .unset, .unset, .unset, .unset]) rfl k
  have A27 := A26.go (f' := mkF m 33 #[.val (.int p1), .val (.long q2), .second, .val (.long q3), .second, .val (.long q4), .second, .val (.int (0 : Int32)), .val (.int ng), .val (.int mg), .unset, .unset, .unset, .unset, .unset, .unset, .unset, .unset, .unset] [(.long q2)]) fun _ _ X _ k => XS.lloadN X.here hx rfl (hb hby dl0_32) rfl k
  have A28 := A27.go (f' := mkF m 34 #[.val (.int p1), .val (.long q2), .second, .val (.long q3), .second, .val (.long q4), .second, .val (.int (0 : Int32)), .val (.int ng), .val (.int mg), .unset, .unset, .unset, .unset, .unset, .unset, .unset, .unset, .unset] [(.int (q2.toInt32))]) fun _ _ X _ k => XS.l2i X.here hx rfl (hb hby dl0_33) rfl k
  obtain ⟨a0_, ha0_⟩ : ∃ zq_, zq_ = (q2.toInt32) := ⟨_, rfl⟩
  rw [← ha0_] at A28
  have A29 := A28.go (f' := mkF m 36 #[.val (.int p1), .val (.long q2), .second, .val (.long q3), .second, .val (.long q4), .second, .val (.int (0 : Int32)), .val (.int ng), .val (.int mg), .val (.int a0_), .unset, .unset, .unset, .unset, .unset, .unset, .unset, .unset] []) fun _ _ X _ k => XS.istore X.here hx rfl (hb hby dl0_34) rfl (l' := #[.val (.int p1), .val (.long q2), .second, .val (.long q3), .second, .val (.long q4), .second, .val (.int (0 : Int32)), .val (.int ng), .val (.int mg), .val (.int a0_), .unset, .unset, .unset, .unset, .unset, .unset, .unset, .unset]) rfl k
  have A30 := A29.go (f' := mkF m 37 #[.val (.int p1), .val (.long q2), .second, .val (.long q3), .second, .val (.long q4), .second, .val (.int (0 : Int32)), .val (.int ng), .val (.int mg), .val (.int a0_), .unset, .unset, .unset, .unset, .unset, .unset, .unset, .unset] [(.long q2)]) fun _ _ X _ k => XS.lloadN X.here hx rfl (hb hby dl0_36) rfl k
  have A31 := A30.go (f' := mkF m 39 #[.val (.int p1), .val (.long q2), .second, .val (.long q3), .second, .val (.long q4), .second, .val (.int (0 : Int32)), .val (.int ng), .val (.int mg), .val (.int a0_), .unset, .unset, .unset, .unset, .unset, .unset, .unset, .unset] [(.int (32 : Int32)), (.long q2)]) fun _ _ X _ k => XS.bipush X.here hx rfl (hb hby dl0_37) k
  have A32 := A31.go (f' := mkF m 40 #[.val (.int p1), .val (.long q2), .second, .val (.long q3), .second, .val (.long q4), .second, .val (.int (0 : Int32)), .val (.int ng), .val (.int mg), .val (.int a0_), .unset, .unset, .unset, .unset, .unset, .unset, .unset, .unset] [(.long ((q2.toUInt64 >>> ((32 : Int32) &&& 0x3f).toInt64.toUInt64).toInt64))]) fun _ _ X _ k => XS.lushr X.here hx rfl (hb hby dl0_39) rfl k
  have A33 := A32.go (f' := mkF m 41 #[.val (.int p1), .val (.long q2), .second, .val (.long q3), .second, .val (.long q4), .second, .val (.int (0 : Int32)), .val (.int ng), .val (.int mg), .val (.int a0_), .unset, .unset, .unset, .unset, .unset, .unset, .unset, .unset] [(.int (((q2.toUInt64 >>> ((32 : Int32) &&& 0x3f).toInt64.toUInt64).toInt64).toInt32))]) fun _ _ X _ k => XS.l2i X.here hx rfl (hb hby dl0_40) rfl k
  obtain ⟨b0_, hb0_⟩ : ∃ zq_, zq_ = (((q2.toUInt64 >>> ((32 : Int32) &&& 0x3f).toInt64.toUInt64).toInt64).toInt32) := ⟨_, rfl⟩
  rw [← hb0_] at A33
  have A34 := A33.go (f' := mkF m 43 #[.val (.int p1), .val (.long q2), .second, .val (.long q3), .second, .val (.long q4), .second, .val (.int (0 : Int32)), .val (.int ng), .val (.int mg), .val (.int a0_), .val (.int b0_), .unset, .unset, .unset, .unset, .unset, .unset, .unset] []) fun _ _ X _ k => XS.istore X.here hx rfl (hb hby dl0_41) rfl (l' := #[.val (.int p1), .val (.long q2), .second, .val (.long q3), .second, .val (.long q4), .second, .val (.int (0 : Int32)), .val (.int ng), .val (.int mg), .val (.int a0_), .val (.int b0_), .unset, .unset, .unset, .unset, .unset, .unset, .unset]) rfl k
  have A35 := A34.go (f' := mkF m 44 #[.val (.int p1), .val (.long q2), .second, .val (.long q3), .second, .val (.long q4), .second, .val (.int (0 : Int32)), .val (.int ng), .val (.int mg), .val (.int a0_), .val (.int b0_), .unset, .unset, .unset, .unset, .unset, .unset, .unset] [(.long q3)]) fun _ _ X _ k => XS.lloadN X.here hx rfl (hb hby dl0_43) rfl k
  have A36 := A35.go (f' := mkF m 45 #[.val (.int p1), .val (.long q2), .second, .val (.long q3), .second, .val (.long q4), .second, .val (.int (0 : Int32)), .val (.int ng), .val (.int mg), .val (.int a0_), .val (.int b0_), .unset, .unset, .unset, .unset, .unset, .unset, .unset] [(.int (q3.toInt32))]) fun _ _ X _ k => XS.l2i X.here hx rfl (hb hby dl0_44) rfl k
  obtain ⟨a1_, ha1_⟩ : ∃ zq_, zq_ = (q3.toInt32) := ⟨_, rfl⟩
  rw [← ha1_] at A36
  have A37 := A36.go (f' := mkF m 47 #[.val (.int p1), .val (.long q2), .second, .val (.long q3), .second, .val (.long q4), .second, .val (.int (0 : Int32)), .val (.int ng), .val (.int mg), .val (.int a0_), .val (.int b0_), .val (.int a1_), .unset, .unset, .unset, .unset, .unset, .unset] []) fun _ _ X _ k => XS.istore X.here hx rfl (hb hby dl0_45) rfl (l' := #[.val (.int p1), .val (.long q2), .second, .val (.long q3), .second, .val (.long q4), .second, .val (.int (0 : Int32)), .val (.int ng), .val (.int mg), .val (.int a0_), .val (.int b0_), .val (.int a1_), .unset, .unset, .unset, .unset, .unset, .unset]) rfl k
  have A38 := A37.go (f' := mkF m 48 #[.val (.int p1), .val (.long q2), .second, .val (.long q3), .second, .val (.long q4), .second, .val (.int (0 : Int32)), .val (.int ng), .val (.int mg), .val (.int a0_), .val (.int b0_), .val (.int a1_), .unset, .unset, .unset, .unset, .unset, .unset] [(.long q3)]) fun _ _ X _ k => XS.lloadN X.here hx rfl (hb hby dl0_47) rfl k
  have A39 := A38.go (f' := mkF m 50 #[.val (.int p1), .val (.long q2), .second, .val (.long q3), .second, .val (.long q4), .second, .val (.int (0 : Int32)), .val (.int ng), .val (.int mg), .val (.int a0_), .val (.int b0_), .val (.int a1_), .unset, .unset, .unset, .unset, .unset, .unset] [(.int (32 : Int32)), (.long q3)]) fun _ _ X _ k => XS.bipush X.here hx rfl (hb hby dl0_48) k
  have A40 := A39.go (f' := mkF m 51 #[.val (.int p1), .val (.long q2), .second, .val (.long q3), .second, .val (.long q4), .second, .val (.int (0 : Int32)), .val (.int ng), .val (.int mg), .val (.int a0_), .val (.int b0_), .val (.int a1_), .unset, .unset, .unset, .unset, .unset, .unset] [(.long ((q3.toUInt64 >>> ((32 : Int32) &&& 0x3f).toInt64.toUInt64).toInt64))]) fun _ _ X _ k => XS.lushr X.here hx rfl (hb hby dl0_50) rfl k
  have A41 := A40.go (f' := mkF m 52 #[.val (.int p1), .val (.long q2), .second, .val (.long q3), .second, .val (.long q4), .second, .val (.int (0 : Int32)), .val (.int ng), .val (.int mg), .val (.int a0_), .val (.int b0_), .val (.int a1_), .unset, .unset, .unset, .unset, .unset, .unset] [(.int (((q3.toUInt64 >>> ((32 : Int32) &&& 0x3f).toInt64.toUInt64).toInt64).toInt32))]) fun _ _ X _ k => XS.l2i X.here hx rfl (hb hby dl0_51) rfl k
  obtain ⟨b1_, hb1_⟩ : ∃ zq_, zq_ = (((q3.toUInt64 >>> ((32 : Int32) &&& 0x3f).toInt64.toUInt64).toInt64).toInt32) := ⟨_, rfl⟩
  rw [← hb1_] at A41
  have A42 := A41.go (f' := mkF m 54 #[.val (.int p1), .val (.long q2), .second, .val (.long q3), .second, .val (.long q4), .second, .val (.int (0 : Int32)), .val (.int ng), .val (.int mg), .val (.int a0_), .val (.int b0_), .val (.int a1_), .val (.int b1_), .unset, .unset, .unset, .unset, .unset] []) fun _ _ X _ k => XS.istore X.here hx rfl (hb hby dl0_52) rfl (l' := #[.val (.int p1), .val (.long q2), .second, .val (.long q3), .second, .val (.long q4), .second, .val (.int (0 : Int32)), .val (.int ng), .val (.int mg), .val (.int a0_), .val (.int b0_), .val (.int a1_), .val (.int b1_), .unset, .unset, .unset, .unset, .unset]) rfl k
  have A43 := A42.go (f' := mkF m 56 #[.val (.int p1), .val (.long q2), .second, .val (.long q3), .second, .val (.long q4), .second, .val (.int (0 : Int32)), .val (.int ng), .val (.int mg), .val (.int a0_), .val (.int b0_), .val (.int a1_), .val (.int b1_), .unset, .unset, .unset, .unset, .unset] [(.long q4)]) fun _ _ X _ k => XS.lload X.here hx rfl (hb hby dl0_54) rfl k
  have A44 := A43.go (f' := mkF m 57 #[.val (.int p1), .val (.long q2), .second, .val (.long q3), .second, .val (.long q4), .second, .val (.int (0 : Int32)), .val (.int ng), .val (.int mg), .val (.int a0_), .val (.int b0_), .val (.int a1_), .val (.int b1_), .unset, .unset, .unset, .unset, .unset] [(.int (q4.toInt32))]) fun _ _ X _ k => XS.l2i X.here hx rfl (hb hby dl0_56) rfl k
  obtain ⟨a2_, ha2_⟩ : ∃ zq_, zq_ = (q4.toInt32) := ⟨_, rfl⟩
  rw [← ha2_] at A44
  have A45 := A44.go (f' := mkF m 59 #[.val (.int p1), .val (.long q2), .second, .val (.long q3), .second, .val (.long q4), .second, .val (.int (0 : Int32)), .val (.int ng), .val (.int mg), .val (.int a0_), .val (.int b0_), .val (.int a1_), .val (.int b1_), .val (.int a2_), .unset, .unset, .unset, .unset] []) fun _ _ X _ k => XS.istore X.here hx rfl (hb hby dl0_57) rfl (l' := #[.val (.int p1), .val (.long q2), .second, .val (.long q3), .second, .val (.long q4), .second, .val (.int (0 : Int32)), .val (.int ng), .val (.int mg), .val (.int a0_), .val (.int b0_), .val (.int a1_), .val (.int b1_), .val (.int a2_), .unset, .unset, .unset, .unset]) rfl k
  have A46 := A45.go (f' := mkF m 61 #[.val (.int p1), .val (.long q2), .second, .val (.long q3), .second, .val (.long q4), .second, .val (.int (0 : Int32)), .val (.int ng), .val (.int mg), .val (.int a0_), .val (.int b0_), .val (.int a1_), .val (.int b1_), .val (.int a2_), .unset, .unset, .unset, .unset] [(.long q4)]) fun _ _ X _ k => XS.lload X.here hx rfl (hb hby dl0_59) rfl k
  have A47 := A46.go (f' := mkF m 63 #[.val (.int p1), .val (.long q2), .second, .val (.long q3), .second, .val (.long q4), .second, .val (.int (0 : Int32)), .val (.int ng), .val (.int mg), .val (.int a0_), .val (.int b0_), .val (.int a1_), .val (.int b1_), .val (.int a2_), .unset, .unset, .unset, .unset] [(.int (32 : Int32)), (.long q4)]) fun _ _ X _ k => XS.bipush X.here hx rfl (hb hby dl0_61) k
  have A48 := A47.go (f' := mkF m 64 #[.val (.int p1), .val (.long q2), .second, .val (.long q3), .second, .val (.long q4), .second, .val (.int (0 : Int32)), .val (.int ng), .val (.int mg), .val (.int a0_), .val (.int b0_), .val (.int a1_), .val (.int b1_), .val (.int a2_), .unset, .unset, .unset, .unset] [(.long ((q4.toUInt64 >>> ((32 : Int32) &&& 0x3f).toInt64.toUInt64).toInt64))]) fun _ _ X _ k => XS.lushr X.here hx rfl (hb hby dl0_63) rfl k
  have A49 := A48.go (f' := mkF m 65 #[.val (.int p1), .val (.long q2), .second, .val (.long q3), .second, .val (.long q4), .second, .val (.int (0 : Int32)), .val (.int ng), .val (.int mg), .val (.int a0_), .val (.int b0_), .val (.int a1_), .val (.int b1_), .val (.int a2_), .unset, .unset, .unset, .unset] [(.int (((q4.toUInt64 >>> ((32 : Int32) &&& 0x3f).toInt64.toUInt64).toInt64).toInt32))]) fun _ _ X _ k => XS.l2i X.here hx rfl (hb hby dl0_64) rfl k
  obtain ⟨b2_, hb2_⟩ : ∃ zq_, zq_ = (((q4.toUInt64 >>> ((32 : Int32) &&& 0x3f).toInt64.toUInt64).toInt64).toInt32) := ⟨_, rfl⟩
  rw [← hb2_] at A49
  have A50 := A49.go (f' := mkF m 67 #[.val (.int p1), .val (.long q2), .second, .val (.long q3), .second, .val (.long q4), .second, .val (.int (0 : Int32)), .val (.int ng), .val (.int mg), .val (.int a0_), .val (.int b0_), .val (.int a1_), .val (.int b1_), .val (.int a2_), .val (.int b2_), .unset, .unset, .unset] []) fun _ _ X _ k => XS.istore X.here hx rfl (hb hby dl0_65) rfl (l' := #[.val (.int p1), .val (.long q2), .second, .val (.long q3), .second, .val (.long q4), .second, .val (.int (0 : Int32)), .val (.int ng), .val (.int mg), .val (.int a0_), .val (.int b0_), .val (.int a1_), .val (.int b1_), .val (.int a2_), .val (.int b2_), .unset, .unset, .unset]) rfl k
  have A51 := A50.go (f' := mkF m 69 #[.val (.int p1), .val (.long q2), .second, .val (.long q3), .second, .val (.long q4), .second, .val (.int (0 : Int32)), .val (.int ng), .val (.int mg), .val (.int a0_), .val (.int b0_), .val (.int a1_), .val (.int b1_), .val (.int a2_), .val (.int b2_), .unset, .unset, .unset] [(.int (0 : Int32))]) fun _ _ X _ k => XS.iload X.here hx rfl (hb hby dl0_67) rfl k
  have A52 := A51.go (f' := mkF m 71 #[.val (.int p1), .val (.long q2), .second, .val (.long q3), .second, .val (.long q4), .second, .val (.int (0 : Int32)), .val (.int ng), .val (.int mg), .val (.int a0_), .val (.int b0_), .val (.int a1_), .val (.int b1_), .val (.int a2_), .val (.int b2_), .unset, .unset, .unset] [(.int a0_), (.int (0 : Int32))]) fun _ _ X _ k => XS.iload X.here hx rfl (hb hby dl0_69) rfl k
  have A53 := A52.go (f' := mkF m 73 #[.val (.int p1), .val (.long q2), .second, .val (.long q3), .second, .val (.long q4), .second, .val (.int (0 : Int32)), .val (.int ng), .val (.int mg), .val (.int a0_), .val (.int b0_), .val (.int a1_), .val (.int b1_), .val (.int a2_), .val (.int b2_), .unset, .unset, .unset] [(.int ng), (.int a0_), (.int (0 : Int32))]) fun _ _ X _ k => XS.iload X.here hx rfl (hb hby dl0_71) rfl k
  obtain ⟨vA54, hA54, ⟨rfl, rfl⟩, A54⟩ := A53.callS (own_dvM l Z a0 hw a0_ ng h0 n0 Z0) hx hZ hown (hb hby dl0_73) (hw _ (List.mem_of_getElem? (i := 0) rfl)) (hw _ (List.mem_of_getElem? (i := 1) rfl)) (hw _ (List.mem_of_getElem? (i := 2) rfl)) (hw _ (List.mem_of_getElem? (i := 3) rfl)) ⟨by decide, by decide⟩ (lenOf pd__28IZ_29D rfl) (argsL := [(.int a0_), (.int ng)]) (rest := [(.int (0 : Int32))]) rfl rfl (by rw [hml]; rfl) (W := 1) (Nat.le_of_eq rfl) (by decide) (by decide) (by decide) (by decide)
  have A55 : own_R p l e _ _ m _ below meth c S0 n0 h0 0 0 (mkF m 76 #[.val (.int p1), .val (.long q2), .second, .val (.long q3), .second, .val (.long q4), .second, .val (.int (0 : Int32)), .val (.int ng), .val (.int mg), .val (.int a0_), .val (.int b0_), .val (.int a1_), .val (.int b1_), .val (.int a2_), .val (.int b2_), .unset, .unset, .unset] [(.double (own_dv a0_ ng)), (.int (0 : Int32))]) := A54
  have A56 := A55.go (f' := mkF m 78 #[.val (.int p1), .val (.long q2), .second, .val (.long q3), .second, .val (.long q4), .second, .val (.int (0 : Int32)), .val (.int ng), .val (.int mg), .val (.int a0_), .val (.int b0_), .val (.int a1_), .val (.int b1_), .val (.int a2_), .val (.int b2_), .unset, .unset, .unset] [(.int a1_), (.double (own_dv a0_ ng)), (.int (0 : Int32))]) fun _ _ X _ k => XS.iload X.here hx rfl (hb hby dl0_76) rfl k
  have A57 := A56.go (f' := mkF m 80 #[.val (.int p1), .val (.long q2), .second, .val (.long q3), .second, .val (.long q4), .second, .val (.int (0 : Int32)), .val (.int ng), .val (.int mg), .val (.int a0_), .val (.int b0_), .val (.int a1_), .val (.int b1_), .val (.int a2_), .val (.int b2_), .unset, .unset, .unset] [(.int ng), (.int a1_), (.double (own_dv a0_ ng)), (.int (0 : Int32))]) fun _ _ X _ k => XS.iload X.here hx rfl (hb hby dl0_78) rfl k
  obtain ⟨vA58, hA58, ⟨rfl, rfl⟩, A58⟩ := A57.callS (own_dvM l Z a0 hw a1_ ng h0 n0 Z0) hx hZ hown (hb hby dl0_80) (hw _ (List.mem_of_getElem? (i := 0) rfl)) (hw _ (List.mem_of_getElem? (i := 1) rfl)) (hw _ (List.mem_of_getElem? (i := 2) rfl)) (hw _ (List.mem_of_getElem? (i := 3) rfl)) ⟨by decide, by decide⟩ (lenOf pd__28IZ_29D rfl) (argsL := [(.int a1_), (.int ng)]) (rest := [(.double (own_dv a0_ ng)), (.int (0 : Int32))]) rfl rfl (by rw [hml]; rfl) (W := 3) (Nat.le_of_eq rfl) (by decide) (by decide) (by decide) (by decide)
  have A59 : own_R p l e _ _ m _ below meth c S0 n0 h0 0 0 (mkF m 83 #[.val (.int p1), .val (.long q2), .second, .val (.long q3), .second, .val (.long q4), .second, .val (.int (0 : Int32)), .val (.int ng), .val (.int mg), .val (.int a0_), .val (.int b0_), .val (.int a1_), .val (.int b1_), .val (.int a2_), .val (.int b2_), .unset, .unset, .unset] [(.double (own_dv a1_ ng)), (.double (own_dv a0_ ng)), (.int (0 : Int32))]) := A58
  have A60 := A59.go (f' := mkF m 85 #[.val (.int p1), .val (.long q2), .second, .val (.long q3), .second, .val (.long q4), .second, .val (.int (0 : Int32)), .val (.int ng), .val (.int mg), .val (.int a0_), .val (.int b0_), .val (.int a1_), .val (.int b1_), .val (.int a2_), .val (.int b2_), .unset, .unset, .unset] [(.int a2_), (.double (own_dv a1_ ng)), (.double (own_dv a0_ ng)), (.int (0 : Int32))]) fun _ _ X _ k => XS.iload X.here hx rfl (hb hby dl0_83) rfl k
  have A61 := A60.go (f' := mkF m 87 #[.val (.int p1), .val (.long q2), .second, .val (.long q3), .second, .val (.long q4), .second, .val (.int (0 : Int32)), .val (.int ng), .val (.int mg), .val (.int a0_), .val (.int b0_), .val (.int a1_), .val (.int b1_), .val (.int a2_), .val (.int b2_), .unset, .unset, .unset] [(.int ng), (.int a2_), (.double (own_dv a1_ ng)), (.double (own_dv a0_ ng)), (.int (0 : Int32))]) fun _ _ X _ k => XS.iload X.here hx rfl (hb hby dl0_85) rfl k
  obtain ⟨vA62, hA62, ⟨rfl, rfl⟩, A62⟩ := A61.callS (own_dvM l Z a0 hw a2_ ng h0 n0 Z0) hx hZ hown (hb hby dl0_87) (hw _ (List.mem_of_getElem? (i := 0) rfl)) (hw _ (List.mem_of_getElem? (i := 1) rfl)) (hw _ (List.mem_of_getElem? (i := 2) rfl)) (hw _ (List.mem_of_getElem? (i := 3) rfl)) ⟨by decide, by decide⟩ (lenOf pd__28IZ_29D rfl) (argsL := [(.int a2_), (.int ng)]) (rest := [(.double (own_dv a1_ ng)), (.double (own_dv a0_ ng)), (.int (0 : Int32))]) rfl rfl (by rw [hml]; rfl) (W := 5) (Nat.le_of_eq rfl) (by decide) (by decide) (by decide) (by decide)
  have A63 : own_R p l e _ _ m _ below meth c S0 n0 h0 0 0 (mkF m 90 #[.val (.int p1), .val (.long q2), .second, .val (.long q3), .second, .val (.long q4), .second, .val (.int (0 : Int32)), .val (.int ng), .val (.int mg), .val (.int a0_), .val (.int b0_), .val (.int a1_), .val (.int b1_), .val (.int a2_), .val (.int b2_), .unset, .unset, .unset] [(.double (own_dv a2_ ng)), (.double (own_dv a1_ ng)), (.double (own_dv a0_ ng)), (.int (0 : Int32))]) := A62
  obtain ⟨vA64, hA64, ⟨xf, rfl, K_xf, s_xf, g_xf, V_xf⟩, A64⟩ := A63.callS (own_make0 l Z a0 hw (0 : Int32) (own_dv a0_ ng) (own_dv a1_ ng) (own_dv a2_ ng) h0 n0 Z0 rfl) hx hZ hown (hb hby dl0_90) (hw _ (List.mem_of_getElem? (i := 4) rfl)) (hw _ (List.mem_of_getElem? (i := 5) rfl)) (hw _ (List.mem_of_getElem? (i := 2) rfl)) (hw _ (List.mem_of_getElem? (i := 6) rfl)) ⟨by decide, by decide⟩ (lenOf pd__28IDDD_29_5bD rfl) (argsL := [(.int (0 : Int32)), (.double (own_dv a0_ ng)), (.double (own_dv a1_ ng)), (.double (own_dv a2_ ng))]) (rest := []) rfl rfl (by rw [hml]; rfl) (W := 0) (Nat.le_of_eq rfl) (by decide) (by decide) (by decide) (by decide)
  have Z0 : n0 ≤ hA64.size := Nat.le_trans Z0 K_xf.1
  have A65 : own_R p l e _ _ m _ below meth c S0 n0 hA64 1 3 (mkF m 93 #[.val (.int p1), .val (.long q2), .second, .val (.long q3), .second, .val (.long q4), .second, .val (.int (0 : Int32)), .val (.int ng), .val (.int mg), .val (.int a0_), .val (.int b0_), .val (.int a1_), .val (.int b1_), .val (.int a2_), .val (.int b2_), .unset, .unset, .unset] [(.ref xf)]) := A64
  have A66 := A65.go (f' := mkF m 95 #[.val (.int p1), .val (.long q2), .second, .val (.long q3), .second, .val (.long q4), .second, .val (.int (0 : Int32)), .val (.int ng), .val (.int mg), .val (.int a0_), .val (.int b0_), .val (.int a1_), .val (.int b1_), .val (.int a2_), .val (.int b2_), .val (.ref xf), .unset, .unset] []) fun _ _ X _ k => XS.astore X.here hx rfl (hb hby dl0_93) rfl rfl (l' := #[.val (.int p1), .val (.long q2), .second, .val (.long q3), .second, .val (.long q4), .second, .val (.int (0 : Int32)), .val (.int ng), .val (.int mg), .val (.int a0_), .val (.int b0_), .val (.int a1_), .val (.int b1_), .val (.int a2_), .val (.int b2_), .val (.ref xf), .unset, .unset]) rfl k
  have A67 := A66.go (f' := mkF m 97 #[.val (.int p1), .val (.long q2), .second, .val (.long q3), .second, .val (.long q4), .second, .val (.int (0 : Int32)), .val (.int ng), .val (.int mg), .val (.int a0_), .val (.int b0_), .val (.int a1_), .val (.int b1_), .val (.int a2_), .val (.int b2_), .val (.ref xf), .unset, .unset] [(.int (0 : Int32))]) fun _ _ X _ k => XS.iload X.here hx rfl (hb hby dl0_95) rfl k
  have A68 := A67.go (f' := mkF m 99 #[.val (.int p1), .val (.long q2), .second, .val (.long q3), .second, .val (.long q4), .second, .val (.int (0 : Int32)), .val (.int ng), .val (.int mg), .val (.int a0_), .val (.int b0_), .val (.int a1_), .val (.int b1_), .val (.int a2_), .val (.int b2_), .val (.ref xf), .unset, .unset] [(.int b0_), (.int (0 : Int32))]) fun _ _ X _ k => XS.iload X.here hx rfl (hb hby dl0_97) rfl k
  have A69 := A68.go (f' := mkF m 101 #[.val (.int p1), .val (.long q2), .second, .val (.long q3), .second, .val (.long q4), .second, .val (.int (0 : Int32)), .val (.int ng), .val (.int mg), .val (.int a0_), .val (.int b0_), .val (.int a1_), .val (.int b1_), .val (.int a2_), .val (.int b2_), .val (.ref xf), .unset, .unset] [(.int mg), (.int b0_), (.int (0 : Int32))]) fun _ _ X _ k => XS.iload X.here hx rfl (hb hby dl0_99) rfl k
  obtain ⟨vA70, hA70, ⟨rfl, rfl⟩, A70⟩ := A69.callS (own_dvM l Z a0 hw b0_ mg hA64 n0 Z0) hx hZ hown (hb hby dl0_101) (hw _ (List.mem_of_getElem? (i := 0) rfl)) (hw _ (List.mem_of_getElem? (i := 1) rfl)) (hw _ (List.mem_of_getElem? (i := 2) rfl)) (hw _ (List.mem_of_getElem? (i := 3) rfl)) ⟨by decide, by decide⟩ (lenOf pd__28IZ_29D rfl) (argsL := [(.int b0_), (.int mg)]) (rest := [(.int (0 : Int32))]) rfl rfl (by rw [hml]; rfl) (W := 1) (Nat.le_of_eq rfl) (by decide) (by decide) (by decide) (by decide)
  have A71 : own_R p l e _ _ m _ below meth c S0 n0 hA64 1 3 (mkF m 104 #[.val (.int p1), .val (.long q2), .second, .val (.long q3), .second, .val (.long q4), .second, .val (.int (0 : Int32)), .val (.int ng), .val (.int mg), .val (.int a0_), .val (.int b0_), .val (.int a1_), .val (.int b1_), .val (.int a2_), .val (.int b2_), .val (.ref xf), .unset, .unset] [(.double (own_dv b0_ mg)), (.int (0 : Int32))]) := A70
  have A72 := A71.go (f' := mkF m 106 #[.val (.int p1), .val (.long q2), .second, .val (.long q3), .second, .val (.long q4), .second, .val (.int (0 : Int32)), .val (.int ng), .val (.int mg), .val (.int a0_), .val (.int b0_), .val (.int a1_), .val (.int b1_), .val (.int a2_), .val (.int b2_), .val (.ref xf), .unset, .unset] [(.int b1_), (.double (own_dv b0_ mg)), (.int (0 : Int32))]) fun _ _ X _ k => XS.iload X.here hx rfl (hb hby dl0_104) rfl k
  have A73 := A72.go (f' := mkF m 108 #[.val (.int p1), .val (.long q2), .second, .val (.long q3), .second, .val (.long q4), .second, .val (.int (0 : Int32)), .val (.int ng), .val (.int mg), .val (.int a0_), .val (.int b0_), .val (.int a1_), .val (.int b1_), .val (.int a2_), .val (.int b2_), .val (.ref xf), .unset, .unset] [(.int mg), (.int b1_), (.double (own_dv b0_ mg)), (.int (0 : Int32))]) fun _ _ X _ k => XS.iload X.here hx rfl (hb hby dl0_106) rfl k
  obtain ⟨vA74, hA74, ⟨rfl, rfl⟩, A74⟩ := A73.callS (own_dvM l Z a0 hw b1_ mg hA64 n0 Z0) hx hZ hown (hb hby dl0_108) (hw _ (List.mem_of_getElem? (i := 0) rfl)) (hw _ (List.mem_of_getElem? (i := 1) rfl)) (hw _ (List.mem_of_getElem? (i := 2) rfl)) (hw _ (List.mem_of_getElem? (i := 3) rfl)) ⟨by decide, by decide⟩ (lenOf pd__28IZ_29D rfl) (argsL := [(.int b1_), (.int mg)]) (rest := [(.double (own_dv b0_ mg)), (.int (0 : Int32))]) rfl rfl (by rw [hml]; rfl) (W := 3) (Nat.le_of_eq rfl) (by decide) (by decide) (by decide) (by decide)
  have A75 : own_R p l e _ _ m _ below meth c S0 n0 hA64 1 3 (mkF m 111 #[.val (.int p1), .val (.long q2), .second, .val (.long q3), .second, .val (.long q4), .second, .val (.int (0 : Int32)), .val (.int ng), .val (.int mg), .val (.int a0_), .val (.int b0_), .val (.int a1_), .val (.int b1_), .val (.int a2_), .val (.int b2_), .val (.ref xf), .unset, .unset] [(.double (own_dv b1_ mg)), (.double (own_dv b0_ mg)), (.int (0 : Int32))]) := A74
  have A76 := A75.go (f' := mkF m 113 #[.val (.int p1), .val (.long q2), .second, .val (.long q3), .second, .val (.long q4), .second, .val (.int (0 : Int32)), .val (.int ng), .val (.int mg), .val (.int a0_), .val (.int b0_), .val (.int a1_), .val (.int b1_), .val (.int a2_), .val (.int b2_), .val (.ref xf), .unset, .unset] [(.int b2_), (.double (own_dv b1_ mg)), (.double (own_dv b0_ mg)), (.int (0 : Int32))]) fun _ _ X _ k => XS.iload X.here hx rfl (hb hby dl0_111) rfl k
  have A77 := A76.go (f' := mkF m 115 #[.val (.int p1), .val (.long q2), .second, .val (.long q3), .second, .val (.long q4), .second, .val (.int (0 : Int32)), .val (.int ng), .val (.int mg), .val (.int a0_), .val (.int b0_), .val (.int a1_), .val (.int b1_), .val (.int a2_), .val (.int b2_), .val (.ref xf), .unset, .unset] [(.int mg), (.int b2_), (.double (own_dv b1_ mg)), (.double (own_dv b0_ mg)), (.int (0 : Int32))]) fun _ _ X _ k => XS.iload X.here hx rfl (hb hby dl0_113) rfl k
  obtain ⟨vA78, hA78, ⟨rfl, rfl⟩, A78⟩ := A77.callS (own_dvM l Z a0 hw b2_ mg hA64 n0 Z0) hx hZ hown (hb hby dl0_115) (hw _ (List.mem_of_getElem? (i := 0) rfl)) (hw _ (List.mem_of_getElem? (i := 1) rfl)) (hw _ (List.mem_of_getElem? (i := 2) rfl)) (hw _ (List.mem_of_getElem? (i := 3) rfl)) ⟨by decide, by decide⟩ (lenOf pd__28IZ_29D rfl) (argsL := [(.int b2_), (.int mg)]) (rest := [(.double (own_dv b1_ mg)), (.double (own_dv b0_ mg)), (.int (0 : Int32))]) rfl rfl (by rw [hml]; rfl) (W := 5) (Nat.le_of_eq rfl) (by decide) (by decide) (by decide) (by decide)
  have A79 : own_R p l e _ _ m _ below meth c S0 n0 hA64 1 3 (mkF m 118 #[.val (.int p1), .val (.long q2), .second, .val (.long q3), .second, .val (.long q4), .second, .val (.int (0 : Int32)), .val (.int ng), .val (.int mg), .val (.int a0_), .val (.int b0_), .val (.int a1_), .val (.int b1_), .val (.int a2_), .val (.int b2_), .val (.ref xf), .unset, .unset] [(.double (own_dv b2_ mg)), (.double (own_dv b1_ mg)), (.double (own_dv b0_ mg)), (.int (0 : Int32))]) := A78
  obtain ⟨vA80, hA80, ⟨xs, rfl, K_xs, s_xs, g_xs, V_xs⟩, A80⟩ := A79.callS (own_make0 l Z a0 hw (0 : Int32) (own_dv b0_ mg) (own_dv b1_ mg) (own_dv b2_ mg) hA64 n0 Z0 rfl) hx hZ hown (hb hby dl0_118) (hw _ (List.mem_of_getElem? (i := 4) rfl)) (hw _ (List.mem_of_getElem? (i := 5) rfl)) (hw _ (List.mem_of_getElem? (i := 2) rfl)) (hw _ (List.mem_of_getElem? (i := 6) rfl)) ⟨by decide, by decide⟩ (lenOf pd__28IDDD_29_5bD rfl) (argsL := [(.int (0 : Int32)), (.double (own_dv b0_ mg)), (.double (own_dv b1_ mg)), (.double (own_dv b2_ mg))]) (rest := []) rfl rfl (by rw [hml]; rfl) (W := 0) (Nat.le_of_eq rfl) (by decide) (by decide) (by decide) (by decide)
  have ne_xf_xs : xf ≠ xs := Nat.ne_of_lt (Nat.lt_of_lt_of_le V_xf.lt s_xs)
  have V_xf : own_Ar Z hA80 xf .double [] := V_xf.keep K_xs nin0
  have Z0 : n0 ≤ hA80.size := Nat.le_trans Z0 K_xs.1
  have A81 : own_R p l e _ _ m _ below meth c S0 n0 hA80 2 6 (mkF m 121 #[.val (.int p1), .val (.long q2), .second, .val (.long q3), .second, .val (.long q4), .second, .val (.int (0 : Int32)), .val (.int ng), .val (.int mg), .val (.int a0_), .val (.int b0_), .val (.int a1_), .val (.int b1_), .val (.int a2_), .val (.int b2_), .val (.ref xf), .unset, .unset] [(.ref xs)]) := A80
  have A82 := A81.go (f' := mkF m 123 #[.val (.int p1), .val (.long q2), .second, .val (.long q3), .second, .val (.long q4), .second, .val (.int (0 : Int32)), .val (.int ng), .val (.int mg), .val (.int a0_), .val (.int b0_), .val (.int a1_), .val (.int b1_), .val (.int a2_), .val (.int b2_), .val (.ref xf), .val (.ref xs), .unset] []) fun _ _ X _ k => XS.astore X.here hx rfl (hb hby dl0_121) rfl rfl (l' := #[.val (.int p1), .val (.long q2), .second, .val (.long q3), .second, .val (.long q4), .second, .val (.int (0 : Int32)), .val (.int ng), .val (.int mg), .val (.int a0_), .val (.int b0_), .val (.int a1_), .val (.int b1_), .val (.int a2_), .val (.int b2_), .val (.ref xf), .val (.ref xs), .unset]) rfl k
  have A83 := A82.go (f' := mkF m 125 #[.val (.int p1), .val (.long q2), .second, .val (.long q3), .second, .val (.long q4), .second, .val (.int (0 : Int32)), .val (.int ng), .val (.int mg), .val (.int a0_), .val (.int b0_), .val (.int a1_), .val (.int b1_), .val (.int a2_), .val (.int b2_), .val (.ref xf), .val (.ref xs), .unset] [(.int (0 : Int32))]) fun _ _ X _ k => XS.iload X.here hx rfl (hb hby dl0_123) rfl k
  have A84 := A83.go (f' := mkF m 126 #[.val (.int p1), .val (.long q2), .second, .val (.long q3), .second, .val (.long q4), .second, .val (.int (0 : Int32)), .val (.int ng), .val (.int mg), .val (.int a0_), .val (.int b0_), .val (.int a1_), .val (.int b1_), .val (.int a2_), .val (.int b2_), .val (.ref xf), .val (.ref xs), .unset] [(.int (1 : Int32)), (.int (0 : Int32))]) fun _ _ X _ k => XS.iconst X.here hx rfl (hb hby dl0_125) k
  have q85 : ((0 : Int32) < (1 : Int32)) := by decide
  have A86 := A84.go (f' := mkF m 147 #[.val (.int p1), .val (.long q2), .second, .val (.long q3), .second, .val (.long q4), .second, .val (.int (0 : Int32)), .val (.int ng), .val (.int mg), .val (.int a0_), .val (.int b0_), .val (.int a1_), .val (.int b1_), .val (.int a2_), .val (.int b2_), .val (.ref xf), .val (.ref xs), .unset] []) fun _ _ X _ k => XS.icmpYes X.here hx rfl (pc0 := 126) (pc' := 147) rfl (hb hby dl0_126) rfl ((tlt q85).1) (by decide) (by decide) k
  have A87 := A86.go (f' := mkF m 149 #[.val (.int p1), .val (.long q2), .second, .val (.long q3), .second, .val (.long q4), .second, .val (.int (0 : Int32)), .val (.int ng), .val (.int mg), .val (.int a0_), .val (.int b0_), .val (.int a1_), .val (.int b1_), .val (.int a2_), .val (.int b2_), .val (.ref xf), .val (.ref xs), .unset] [(.int (0 : Int32))]) fun _ _ X _ k => XS.iload X.here hx rfl (hb hby dl0_147) rfl k
  have A88 := A87.go (f' := mkF m 150 #[.val (.int p1), .val (.long q2), .second, .val (.long q3), .second, .val (.long q4), .second, .val (.int (0 : Int32)), .val (.int ng), .val (.int mg), .val (.int a0_), .val (.int b0_), .val (.int a1_), .val (.int b1_), .val (.int a2_), .val (.int b2_), .val (.ref xf), .val (.ref xs), .unset] [(.int (2 : Int32)), (.int (0 : Int32))]) fun _ _ X _ k => XS.iconst X.here hx rfl (hb hby dl0_149) k
  have q89 : ((0 : Int32) < (2 : Int32)) := by decide
  have A90 := A88.go (f' := mkF m 171 #[.val (.int p1), .val (.long q2), .second, .val (.long q3), .second, .val (.long q4), .second, .val (.int (0 : Int32)), .val (.int ng), .val (.int mg), .val (.int a0_), .val (.int b0_), .val (.int a1_), .val (.int b1_), .val (.int a2_), .val (.int b2_), .val (.ref xf), .val (.ref xs), .unset] []) fun _ _ X _ k => XS.icmpYes X.here hx rfl (pc0 := 150) (pc' := 171) rfl (hb hby dl0_150) rfl ((tlt q89).1) (by decide) (by decide) k
  have A91 := A90.go (f' := mkF m 173 #[.val (.int p1), .val (.long q2), .second, .val (.long q3), .second, .val (.long q4), .second, .val (.int (0 : Int32)), .val (.int ng), .val (.int mg), .val (.int a0_), .val (.int b0_), .val (.int a1_), .val (.int b1_), .val (.int a2_), .val (.int b2_), .val (.ref xf), .val (.ref xs), .unset] [(.int (0 : Int32))]) fun _ _ X _ k => XS.iload X.here hx rfl (hb hby dl0_171) rfl k
  have A92 := A91.go (f' := mkF m 174 #[.val (.int p1), .val (.long q2), .second, .val (.long q3), .second, .val (.long q4), .second, .val (.int (0 : Int32)), .val (.int ng), .val (.int mg), .val (.int a0_), .val (.int b0_), .val (.int a1_), .val (.int b1_), .val (.int a2_), .val (.int b2_), .val (.ref xf), .val (.ref xs), .unset] [(.int (3 : Int32)), (.int (0 : Int32))]) fun _ _ X _ k => XS.iconst X.here hx rfl (hb hby dl0_173) k
  have q93 : ((0 : Int32) < (3 : Int32)) := by decide
  have A94 := A92.go (f' := mkF m 195 #[.val (.int p1), .val (.long q2), .second, .val (.long q3), .second, .val (.long q4), .second, .val (.int (0 : Int32)), .val (.int ng), .val (.int mg), .val (.int a0_), .val (.int b0_), .val (.int a1_), .val (.int b1_), .val (.int a2_), .val (.int b2_), .val (.ref xf), .val (.ref xs), .unset] []) fun _ _ X _ k => XS.icmpYes X.here hx rfl (pc0 := 174) (pc' := 195) rfl (hb hby dl0_174) rfl ((tlt q93).1) (by decide) (by decide) k
  have A95 := A94.go (f' := mkF m 196 #[.val (.int p1), .val (.long q2), .second, .val (.long q3), .second, .val (.long q4), .second, .val (.int (0 : Int32)), .val (.int ng), .val (.int mg), .val (.int a0_), .val (.int b0_), .val (.int a1_), .val (.int b1_), .val (.int a2_), .val (.int b2_), .val (.ref xf), .val (.ref xs), .unset] [(.int (1 : Int32))]) fun _ _ X _ k => XS.iconst X.here hx rfl (hb hby dl0_195) k
  have A96 := A95.go (f' := mkF m 200 #[.val (.int p1), .val (.long q2), .second, .val (.long q3), .second, .val (.long q4), .second, .val (.int (0 : Int32)), .val (.int ng), .val (.int mg), .val (.int a0_), .val (.int b0_), .val (.int a1_), .val (.int b1_), .val (.int a2_), .val (.int b2_), .val (.ref xf), .val (.ref xs), .unset] [(.int (1 : Int32))]) fun _ _ X _ k => XS.goto X.here hx rfl (pc0 := 196) (pc' := 200) rfl (hb hby dl0_196) (by decide) (by decide) k
  have A97 := A96.go (f' := mkF m 202 #[.val (.int p1), .val (.long q2), .second, .val (.long q3), .second, .val (.long q4), .second, .val (.int (0 : Int32)), .val (.int ng), .val (.int mg), .val (.int a0_), .val (.int b0_), .val (.int a1_), .val (.int b1_), .val (.int a2_), .val (.int b2_), .val (.ref xf), .val (.ref xs), .val (.int (1 : Int32))] []) fun _ _ X _ k => XS.istore X.here hx rfl (hb hby dl0_200) rfl (l' := #[.val (.int p1), .val (.long q2), .second, .val (.long q3), .second, .val (.long q4), .second, .val (.int (0 : Int32)), .val (.int ng), .val (.int mg), .val (.int a0_), .val (.int b0_), .val (.int a1_), .val (.int b1_), .val (.int a2_), .val (.int b2_), .val (.ref xf), .val (.ref xs), .val (.int (1 : Int32))]) rfl k
  have A98 := A97.go (f' := mkF m 204 #[.val (.int p1), .val (.long q2), .second, .val (.long q3), .second, .val (.long q4), .second, .val (.int (0 : Int32)), .val (.int ng), .val (.int mg), .val (.int a0_), .val (.int b0_), .val (.int a1_), .val (.int b1_), .val (.int a2_), .val (.int b2_), .val (.ref xf), .val (.ref xs), .val (.int (1 : Int32))] [(.ref xf)]) fun _ _ X _ k => XS.aload X.here hx rfl (hb hby dl0_202) rfl rfl k
  have A99 := A98.go (f' := mkF m 206 #[.val (.int p1), .val (.long q2), .second, .val (.long q3), .second, .val (.long q4), .second, .val (.int (0 : Int32)), .val (.int ng), .val (.int mg), .val (.int a0_), .val (.int b0_), .val (.int a1_), .val (.int b1_), .val (.int a2_), .val (.int b2_), .val (.ref xf), .val (.ref xs), .val (.int (1 : Int32))] [(.ref xs), (.ref xf)]) fun _ _ X _ k => XS.aload X.here hx rfl (hb hby dl0_204) rfl rfl k
  obtain ⟨vA100, hA100, ⟨rfl, rfl⟩, A100⟩ := A99.callS (own_wd0 l Z a0 hw xf xs (1 : Int32)  hA80 n0 Z0 V_xf V_xs (by simp [own_wd, own_cmp, ])) hx hZ hown (hb hby dl0_206) (hw _ (List.mem_of_getElem? (i := 8) rfl)) (hw _ (List.mem_of_getElem? (i := 9) rfl)) (hw _ (List.mem_of_getElem? (i := 10) rfl)) (hw _ (List.mem_of_getElem? (i := 11) rfl)) ⟨by decide, by decide⟩ (lenOf pd__28_5bD_5bD_29Z rfl) (argsL := [(.ref xf), (.ref xs)]) (rest := []) rfl rfl (by rw [hml]; rfl) (W := 0) (Nat.le_of_eq rfl) (by decide) (by decide) (by decide) (by decide)
  have A101 : own_R p l e _ _ m _ below meth c S0 n0 hA80 2 6 (mkF m 209 #[.val (.int p1), .val (.long q2), .second, .val (.long q3), .second, .val (.long q4), .second, .val (.int (0 : Int32)), .val (.int ng), .val (.int mg), .val (.int a0_), .val (.int b0_), .val (.int a1_), .val (.int b1_), .val (.int a2_), .val (.int b2_), .val (.ref xf), .val (.ref xs), .val (.int (1 : Int32))] [(.int (1 : Int32))]) := A100
  have A102 := A101.go (f' := mkF m 211 #[.val (.int p1), .val (.long q2), .second, .val (.long q3), .second, .val (.long q4), .second, .val (.int (0 : Int32)), .val (.int ng), .val (.int mg), .val (.int a0_), .val (.int b0_), .val (.int a1_), .val (.int b1_), .val (.int a2_), .val (.int b2_), .val (.ref xf), .val (.ref xs), .val (.int (1 : Int32))] [(.int (1 : Int32)), (.int (1 : Int32))]) fun _ _ X _ k => XS.iload X.here hx rfl (hb hby dl0_209) rfl k
  have q103 : ((1 : Int32) = (1 : Int32)) := by decide
  have A104 := A102.go (f' := mkF m 214 #[.val (.int p1), .val (.long q2), .second, .val (.long q3), .second, .val (.long q4), .second, .val (.int (0 : Int32)), .val (.int ng), .val (.int mg), .val (.int a0_), .val (.int b0_), .val (.int a1_), .val (.int b1_), .val (.int a2_), .val (.int b2_), .val (.ref xf), .val (.ref xs), .val (.int (1 : Int32))] []) fun _ _ X _ k => XS.icmpNo X.here hx rfl (hb hby dl0_211) rfl ((teq q103).2) k
  have A105 := A104.go (f' := mkF m 215 #[.val (.int p1), .val (.long q2), .second, .val (.long q3), .second, .val (.long q4), .second, .val (.int (0 : Int32)), .val (.int ng), .val (.int mg), .val (.int a0_), .val (.int b0_), .val (.int a1_), .val (.int b1_), .val (.int a2_), .val (.int b2_), .val (.ref xf), .val (.ref xs), .val (.int (1 : Int32))] [(.int (1 : Int32))]) fun _ _ X _ k => XS.iconst X.here hx rfl (hb hby dl0_214) k
  have A106 := A105.go (f' := mkF m 219 #[.val (.int p1), .val (.long q2), .second, .val (.long q3), .second, .val (.long q4), .second, .val (.int (0 : Int32)), .val (.int ng), .val (.int mg), .val (.int a0_), .val (.int b0_), .val (.int a1_), .val (.int b1_), .val (.int a2_), .val (.int b2_), .val (.ref xf), .val (.ref xs), .val (.int (1 : Int32))] [(.int (1 : Int32))]) fun _ _ X _ k => XS.goto X.here hx rfl (pc0 := 215) (pc' := 219) rfl (hb hby dl0_215) (by decide) (by decide) k
  exact A106.ret hx hlk hret (hb hby dl0_219) rfl (Or.inl ⟨rfl, by simp, _, rfl⟩) (by decide) (by decide) ⟨rfl, trivial⟩
theorem dl1_0 : decode code 0 = .ok (.iload_n 0, 1) := at_0
theorem dl1_1 : decode code 1 = .ok (.iconst 3, 1) := at_1
theorem dl1_2 : decode code 2 = .ok (.iand, 1) := at_2
theorem dl1_3 : decode code 3 = .ok (.istore 7, 2) := at_3
theorem dl1_5 : decode code 5 = .ok (.iload_n 0, 1) := at_5
theorem dl1_6 : decode code 6 = .ok (.iconst 4, 1) := at_6
theorem dl1_7 : decode code 7 = .ok (.iand, 1) := at_7
theorem dl1_8 : decode code 8 = .ok (.ifCond .eq 7, 3) := at_8
theorem dl1_11 : decode code 11 = .ok (.iconst 1, 1) := at_11
theorem dl1_12 : decode code 12 = .ok (.goto 4, 3) := at_12
theorem dl1_15 : decode code 15 = .ok (.iconst 0, 1) := at_15
theorem dl1_16 : decode code 16 = .ok (.istore 8, 2) := at_16
theorem dl1_18 : decode code 18 = .ok (.iload_n 0, 1) := at_18
theorem dl1_19 : decode code 19 = .ok (.bipush 8, 2) := at_19
theorem dl1_21 : decode code 21 = .ok (.iand, 1) := at_21
theorem dl1_22 : decode code 22 = .ok (.ifCond .eq 7, 3) := at_22
theorem dl1_25 : decode code 25 = .ok (.iconst 1, 1) := at_25
theorem dl1_26 : decode code 26 = .ok (.goto 4, 3) := at_26
theorem dl1_29 : decode code 29 = .ok (.iconst 0, 1) := at_29
theorem dl1_30 : decode code 30 = .ok (.istore 9, 2) := at_30
theorem dl1_32 : decode code 32 = .ok (.lload_n 1, 1) := at_32
theorem dl1_33 : decode code 33 = .ok (.l2i, 1) := at_33
theorem dl1_34 : decode code 34 = .ok (.istore 10, 2) := at_34
theorem dl1_36 : decode code 36 = .ok (.lload_n 1, 1) := at_36
theorem dl1_37 : decode code 37 = .ok (.bipush 32, 2) := at_37
theorem dl1_39 : decode code 39 = .ok (.lushr, 1) := at_39
theorem dl1_40 : decode code 40 = .ok (.l2i, 1) := at_40
theorem dl1_41 : decode code 41 = .ok (.istore 11, 2) := at_41
theorem dl1_43 : decode code 43 = .ok (.lload_n 3, 1) := at_43
theorem dl1_44 : decode code 44 = .ok (.l2i, 1) := at_44
theorem dl1_45 : decode code 45 = .ok (.istore 12, 2) := at_45
theorem dl1_47 : decode code 47 = .ok (.lload_n 3, 1) := at_47
theorem dl1_48 : decode code 48 = .ok (.bipush 32, 2) := at_48
theorem dl1_50 : decode code 50 = .ok (.lushr, 1) := at_50
theorem dl1_51 : decode code 51 = .ok (.l2i, 1) := at_51
theorem dl1_52 : decode code 52 = .ok (.istore 13, 2) := at_52
theorem dl1_54 : decode code 54 = .ok (.lload 5, 2) := at_54
theorem dl1_56 : decode code 56 = .ok (.l2i, 1) := at_56
theorem dl1_57 : decode code 57 = .ok (.istore 14, 2) := at_57
theorem dl1_59 : decode code 59 = .ok (.lload 5, 2) := at_59
theorem dl1_61 : decode code 61 = .ok (.bipush 32, 2) := at_61
theorem dl1_63 : decode code 63 = .ok (.lushr, 1) := at_63
theorem dl1_64 : decode code 64 = .ok (.l2i, 1) := at_64
theorem dl1_65 : decode code 65 = .ok (.istore 15, 2) := at_65
theorem dl1_67 : decode code 67 = .ok (.iload 7, 2) := at_67
theorem dl1_69 : decode code 69 = .ok (.iload 10, 2) := at_69
theorem dl1_71 : decode code 71 = .ok (.iload 8, 2) := at_71
theorem dl1_73 : decode code 73 = .ok (.invokestatic 7, 3) := at_73
theorem dl1_76 : decode code 76 = .ok (.iload 12, 2) := at_76
theorem dl1_78 : decode code 78 = .ok (.iload 8, 2) := at_78
theorem dl1_80 : decode code 80 = .ok (.invokestatic 7, 3) := at_80
theorem dl1_83 : decode code 83 = .ok (.iload 14, 2) := at_83
theorem dl1_85 : decode code 85 = .ok (.iload 8, 2) := at_85
theorem dl1_87 : decode code 87 = .ok (.invokestatic 7, 3) := at_87
theorem dl1_90 : decode code 90 = .ok (.invokestatic 13, 3) := at_90
theorem dl1_93 : decode code 93 = .ok (.astore 16, 2) := at_93
theorem dl1_95 : decode code 95 = .ok (.iload 7, 2) := at_95
theorem dl1_97 : decode code 97 = .ok (.iload 11, 2) := at_97
theorem dl1_99 : decode code 99 = .ok (.iload 9, 2) := at_99
theorem dl1_101 : decode code 101 = .ok (.invokestatic 7, 3) := at_101
theorem dl1_104 : decode code 104 = .ok (.iload 13, 2) := at_104
theorem dl1_106 : decode code 106 = .ok (.iload 9, 2) := at_106
theorem dl1_108 : decode code 108 = .ok (.invokestatic 7, 3) := at_108
theorem dl1_111 : decode code 111 = .ok (.iload 15, 2) := at_111
theorem dl1_113 : decode code 113 = .ok (.iload 9, 2) := at_113
theorem dl1_115 : decode code 115 = .ok (.invokestatic 7, 3) := at_115
theorem dl1_118 : decode code 118 = .ok (.invokestatic 13, 3) := at_118
theorem dl1_121 : decode code 121 = .ok (.astore 17, 2) := at_121
theorem dl1_123 : decode code 123 = .ok (.iload 7, 2) := at_123
theorem dl1_125 : decode code 125 = .ok (.iconst 1, 1) := at_125
theorem dl1_126 : decode code 126 = .ok (.if_icmp .lt 21, 3) := at_126
theorem dl1_129 : decode code 129 = .ok (.iload 10, 2) := at_129
theorem dl1_131 : decode code 131 = .ok (.iload 8, 2) := at_131
theorem dl1_133 : decode code 133 = .ok (.invokestatic 17, 3) := at_133
theorem dl1_136 : decode code 136 = .ok (.iload 11, 2) := at_136
theorem dl1_138 : decode code 138 = .ok (.iload 9, 2) := at_138
theorem dl1_140 : decode code 140 = .ok (.invokestatic 17, 3) := at_140
theorem dl1_143 : decode code 143 = .ok (.lcmp, 1) := at_143
theorem dl1_144 : decode code 144 = .ok (.ifCond .lt 55, 3) := at_144
theorem dl1_147 : decode code 147 = .ok (.iload 7, 2) := at_147
theorem dl1_149 : decode code 149 = .ok (.iconst 2, 1) := at_149
theorem dl1_150 : decode code 150 = .ok (.if_icmp .lt 21, 3) := at_150
theorem dl1_171 : decode code 171 = .ok (.iload 7, 2) := at_171
theorem dl1_173 : decode code 173 = .ok (.iconst 3, 1) := at_173
theorem dl1_174 : decode code 174 = .ok (.if_icmp .lt 21, 3) := at_174
theorem dl1_195 : decode code 195 = .ok (.iconst 1, 1) := at_195
theorem dl1_196 : decode code 196 = .ok (.goto 4, 3) := at_196
theorem dl1_199 : decode code 199 = .ok (.iconst 0, 1) := at_199
theorem dl1_200 : decode code 200 = .ok (.istore 18, 2) := at_200
theorem dl1_202 : decode code 202 = .ok (.aload 16, 2) := at_202
theorem dl1_204 : decode code 204 = .ok (.aload 17, 2) := at_204
theorem dl1_206 : decode code 206 = .ok (.invokestatic 21, 3) := at_206
theorem dl1_209 : decode code 209 = .ok (.iload 18, 2) := at_209
theorem dl1_211 : decode code 211 = .ok (.if_icmp .ne 7, 3) := at_211
theorem dl1_214 : decode code 214 = .ok (.iconst 1, 1) := at_214
theorem dl1_215 : decode code 215 = .ok (.goto 4, 3) := at_215
theorem dl1_219 : decode code 219 = .ok (.ireturn, 1) := at_219
theorem efl1 (m : MethodId) (p1 : Int32) (q2 : Int64) (q3 : Int64) (q4 : Int64) : entryFrame m #[(.int p1), (.long q2), (.long q3), (.long q4)] maxLocals = mkF m 0 #[.val (.int p1), .val (.long q2), .second, .val (.long q3), .second, .val (.long q4), .second, .unset, .unset, .unset, .unset, .unset, .unset, .unset, .unset, .unset, .unset, .unset, .unset] [] := by first | (simp [entryFrame, mkF, argsToLocals, Value.category, maxLocals]; done) | rfl
set_option maxRecDepth 65536 in
set_option maxHeartbeats 40000000 in
theorem own_law1 (l : Launch) (Z : State) (a0 : Array Value) (hw : ∀ d ∈ tables_1, d.before a0 Z = true) (p1 : Int32) (q2 q3 q4 : Int64) (h0 : Heap) (n0 : Nat) (Z0 : n0 ≤ h0.size) (hn : (p1 &&& (3 : Int32)) = (1 : Int32)) :
    own_M l Z x code maxLocals ret tables_1 room_1 #[(.int p1), (.long q2), (.long q3), (.long q4)] h0 n0 (fun v h => v = some (.int 1) ∧ True) := by
  refine own_M.of (plainFor_of_name (by first | (simp [plainName, overriddenIn]; done) | decide +kernel)) ?_
  intro p e s m below meth c S0 hx hby hml hown hnm hret hlk hZ A00
  have A0 := A00.cast (efl1 m p1 q2 q3 q4)
  have A1 := A0.go (f' := mkF m 1 #[.val (.int p1), .val (.long q2), .second, .val (.long q3), .second, .val (.long q4), .second, .unset, .unset, .unset, .unset, .unset, .unset, .unset, .unset, .unset, .unset, .unset, .unset] [(.int p1)]) fun _ _ X _ k => XS.iloadN X.here hx rfl (hb hby dl1_0) rfl k
  have A2 := A1.go (f' := mkF m 2 #[.val (.int p1), .val (.long q2), .second, .val (.long q3), .second, .val (.long q4), .second, .unset, .unset, .unset, .unset, .unset, .unset, .unset, .unset, .unset, .unset, .unset, .unset] [(.int (3 : Int32)), (.int p1)]) fun _ _ X _ k => XS.iconst X.here hx rfl (hb hby dl1_1) k
  have A3 := A2.go (f' := mkF m 3 #[.val (.int p1), .val (.long q2), .second, .val (.long q3), .second, .val (.long q4), .second, .unset, .unset, .unset, .unset, .unset, .unset, .unset, .unset, .unset, .unset, .unset, .unset] [(.int (p1 &&& (3 : Int32)))]) fun _ _ X _ k => XS.iand X.here hx rfl (hb hby dl1_2) rfl k
  rw [hn] at A3
  have A4 := A3.go (f' := mkF m 5 #[.val (.int p1), .val (.long q2), .second, .val (.long q3), .second, .val (.long q4), .second, .val (.int (1 : Int32)), .unset, .unset, .unset, .unset, .unset, .unset, .unset, .unset, .unset, .unset, .unset] []) fun _ _ X _ k => XS.istore X.here hx rfl (hb hby dl1_3) rfl (l' := #[.val (.int p1), .val (.long q2), .second, .val (.long q3), .second, .val (.long q4), .second, .val (.int (1 : Int32)), .unset, .unset, .unset, .unset, .unset, .unset, .unset, .unset, .unset, .unset, .unset]) rfl k
  have A5 := A4.go (f' := mkF m 6 #[.val (.int p1), .val (.long q2), .second, .val (.long q3), .second, .val (.long q4), .second, .val (.int (1 : Int32)), .unset, .unset, .unset, .unset, .unset, .unset, .unset, .unset, .unset, .unset, .unset] [(.int p1)]) fun _ _ X _ k => XS.iloadN X.here hx rfl (hb hby dl1_5) rfl k
  have A6 := A5.go (f' := mkF m 7 #[.val (.int p1), .val (.long q2), .second, .val (.long q3), .second, .val (.long q4), .second, .val (.int (1 : Int32)), .unset, .unset, .unset, .unset, .unset, .unset, .unset, .unset, .unset, .unset, .unset] [(.int (4 : Int32)), (.int p1)]) fun _ _ X _ k => XS.iconst X.here hx rfl (hb hby dl1_6) k
  have A7 := A6.go (f' := mkF m 8 #[.val (.int p1), .val (.long q2), .second, .val (.long q3), .second, .val (.long q4), .second, .val (.int (1 : Int32)), .unset, .unset, .unset, .unset, .unset, .unset, .unset, .unset, .unset, .unset, .unset] [(.int (p1 &&& (4 : Int32)))]) fun _ _ X _ k => XS.iand X.here hx rfl (hb hby dl1_7) rfl k
  have A9 : own_R p l e room_1 s m #[(.int p1), (.long q2), (.long q3), (.long q4)] below meth c S0 n0 h0 0 0 (mkF m 16 #[.val (.int p1), .val (.long q2), .second, .val (.long q3), .second, .val (.long q4), .second, .val (.int (1 : Int32)), .unset, .unset, .unset, .unset, .unset, .unset, .unset, .unset, .unset, .unset, .unset] [(.int (if (p1 &&& (4 : Int32)) = (0 : Int32) then (0 : Int32) else (1 : Int32)))]) := by
    by_cases q8 : (p1 &&& (4 : Int32)) = (0 : Int32)
    · skip
      have A10 := A7.go (f' := mkF m 15 #[.val (.int p1), .val (.long q2), .second, .val (.long q3), .second, .val (.long q4), .second, .val (.int (1 : Int32)), .unset, .unset, .unset, .unset, .unset, .unset, .unset, .unset, .unset, .unset, .unset] []) fun _ _ X _ k => XS.ifYes X.here hx rfl (pc0 := 8) (pc' := 15) rfl (hb hby dl1_8) rfl ((if0 _ _).trans (teq q8).1) (by decide) (by decide) k
      have A11 := A10.go (f' := mkF m 16 #[.val (.int p1), .val (.long q2), .second, .val (.long q3), .second, .val (.long q4), .second, .val (.int (1 : Int32)), .unset, .unset, .unset, .unset, .unset, .unset, .unset, .unset, .unset, .unset, .unset] [(.int (0 : Int32))]) fun _ _ X _ k => XS.iconst X.here hx rfl (hb hby dl1_15) k
      simp only [if_pos q8]
      exact A11
    · skip
      have A12 := A7.go (f' := mkF m 11 #[.val (.int p1), .val (.long q2), .second, .val (.long q3), .second, .val (.long q4), .second, .val (.int (1 : Int32)), .unset, .unset, .unset, .unset, .unset, .unset, .unset, .unset, .unset, .unset, .unset] []) fun _ _ X _ k => XS.ifNo X.here hx rfl (hb hby dl1_8) rfl ((if0 _ _).trans (feq q8).1) k
      have A13 := A12.go (f' := mkF m 12 #[.val (.int p1), .val (.long q2), .second, .val (.long q3), .second, .val (.long q4), .second, .val (.int (1 : Int32)), .unset, .unset, .unset, .unset, .unset, .unset, .unset, .unset, .unset, .unset, .unset] [(.int (1 : Int32))]) fun _ _ X _ k => XS.iconst X.here hx rfl (hb hby dl1_11) k
      have A14 := A13.go (f' := mkF m 16 #[.val (.int p1), .val (.long q2), .second, .val (.long q3), .second, .val (.long q4), .second, .val (.int (1 : Int32)), .unset, .unset, .unset, .unset, .unset, .unset, .unset, .unset, .unset, .unset, .unset] [(.int (1 : Int32))]) fun _ _ X _ k => XS.goto X.here hx rfl (pc0 := 12) (pc' := 16) rfl (hb hby dl1_12) (by decide) (by decide) k
      simp only [if_neg q8]
      exact A14
  obtain ⟨ng, hng⟩ : ∃ zq_, zq_ = (if (p1 &&& (4 : Int32)) = (0 : Int32) then (0 : Int32) else (1 : Int32)) := ⟨_, rfl⟩
  rw [← hng] at A9
  have A15 := A9.go (f' := mkF m 18 #[.val (.int p1), .val (.long q2), .second, .val (.long q3), .second, .val (.long q4), .second, .val (.int (1 : Int32)), .val (.int ng), .unset, .unset, .unset, .unset, .unset, .unset, .unset, .unset, .unset, .unset] []) fun _ _ X _ k => XS.istore X.here hx rfl (hb hby dl1_16) rfl (l' := #[.val (.int p1), .val (.long q2), .second, .val (.long q3), .second, .val (.long q4), .second, .val (.int (1 : Int32)), .val (.int ng), .unset, .unset, .unset, .unset, .unset, .unset, .unset, .unset, .unset, .unset]) rfl k
  have A16 := A15.go (f' := mkF m 19 #[.val (.int p1), .val (.long q2), .second, .val (.long q3), .second, .val (.long q4), .second, .val (.int (1 : Int32)), .val (.int ng), .unset, .unset, .unset, .unset, .unset, .unset, .unset, .unset, .unset, .unset] [(.int p1)]) fun _ _ X _ k => XS.iloadN X.here hx rfl (hb hby dl1_18) rfl k
  have A17 := A16.go (f' := mkF m 21 #[.val (.int p1), .val (.long q2), .second, .val (.long q3), .second, .val (.long q4), .second, .val (.int (1 : Int32)), .val (.int ng), .unset, .unset, .unset, .unset, .unset, .unset, .unset, .unset, .unset, .unset] [(.int (8 : Int32)), (.int p1)]) fun _ _ X _ k => XS.bipush X.here hx rfl (hb hby dl1_19) k
  have A18 := A17.go (f' := mkF m 22 #[.val (.int p1), .val (.long q2), .second, .val (.long q3), .second, .val (.long q4), .second, .val (.int (1 : Int32)), .val (.int ng), .unset, .unset, .unset, .unset, .unset, .unset, .unset, .unset, .unset, .unset] [(.int (p1 &&& (8 : Int32)))]) fun _ _ X _ k => XS.iand X.here hx rfl (hb hby dl1_21) rfl k
  have A20 : own_R p l e room_1 s m #[(.int p1), (.long q2), (.long q3), (.long q4)] below meth c S0 n0 h0 0 0 (mkF m 30 #[.val (.int p1), .val (.long q2), .second, .val (.long q3), .second, .val (.long q4), .second, .val (.int (1 : Int32)), .val (.int ng), .unset, .unset, .unset, .unset, .unset, .unset, .unset, .unset, .unset, .unset] [(.int (if (p1 &&& (8 : Int32)) = (0 : Int32) then (0 : Int32) else (1 : Int32)))]) := by
    by_cases q19 : (p1 &&& (8 : Int32)) = (0 : Int32)
    · skip
      have A21 := A18.go (f' := mkF m 29 #[.val (.int p1), .val (.long q2), .second, .val (.long q3), .second, .val (.long q4), .second, .val (.int (1 : Int32)), .val (.int ng), .unset, .unset, .unset, .unset, .unset, .unset, .unset, .unset, .unset, .unset] []) fun _ _ X _ k => XS.ifYes X.here hx rfl (pc0 := 22) (pc' := 29) rfl (hb hby dl1_22) rfl ((if0 _ _).trans (teq q19).1) (by decide) (by decide) k
      have A22 := A21.go (f' := mkF m 30 #[.val (.int p1), .val (.long q2), .second, .val (.long q3), .second, .val (.long q4), .second, .val (.int (1 : Int32)), .val (.int ng), .unset, .unset, .unset, .unset, .unset, .unset, .unset, .unset, .unset, .unset] [(.int (0 : Int32))]) fun _ _ X _ k => XS.iconst X.here hx rfl (hb hby dl1_29) k
      simp only [if_pos q19]
      exact A22
    · skip
      have A23 := A18.go (f' := mkF m 25 #[.val (.int p1), .val (.long q2), .second, .val (.long q3), .second, .val (.long q4), .second, .val (.int (1 : Int32)), .val (.int ng), .unset, .unset, .unset, .unset, .unset, .unset, .unset, .unset, .unset, .unset] []) fun _ _ X _ k => XS.ifNo X.here hx rfl (hb hby dl1_22) rfl ((if0 _ _).trans (feq q19).1) k
      have A24 := A23.go (f' := mkF m 26 #[.val (.int p1), .val (.long q2), .second, .val (.long q3), .second, .val (.long q4), .second, .val (.int (1 : Int32)), .val (.int ng), .unset, .unset, .unset, .unset, .unset, .unset, .unset, .unset, .unset, .unset] [(.int (1 : Int32))]) fun _ _ X _ k => XS.iconst X.here hx rfl (hb hby dl1_25) k
      have A25 := A24.go (f' := mkF m 30 #[.val (.int p1), .val (.long q2), .second, .val (.long q3), .second, .val (.long q4), .second, .val (.int (1 : Int32)), .val (.int ng), .unset, .unset, .unset, .unset, .unset, .unset, .unset, .unset, .unset, .unset] [(.int (1 : Int32))]) fun _ _ X _ k => XS.goto X.here hx rfl (pc0 := 26) (pc' := 30) rfl (hb hby dl1_26) (by decide) (by decide) k
      simp only [if_neg q19]
      exact A25
  obtain ⟨mg, hmg⟩ : ∃ zq_, zq_ = (if (p1 &&& (8 : Int32)) = (0 : Int32) then (0 : Int32) else (1 : Int32)) := ⟨_, rfl⟩
  rw [← hmg] at A20
  have A26 := A20.go (f' := mkF m 32 #[.val (.int p1), .val (.long q2), .second, .val (.long q3), .second, .val (.long q4), .second, .val (.int (1 : Int32)), .val (.int ng), .val (.int mg), .unset, .unset, .unset, .unset, .unset, .unset, .unset, .unset, .unset] []) fun _ _ X _ k => XS.istore X.here hx rfl (hb hby dl1_30) rfl (l' := #[.val (.int p1), .val (.long q2), .second, .val (.long q3), .second, .val (.long q4), .second, .val (.int (1 : Int32)), .val (.int ng), .val (.int mg), .unset, .unset, .unset, .unset, .unset, .unset, .unset, .unset, .unset]) rfl k
  have A27 := A26.go (f' := mkF m 33 #[.val (.int p1), .val (.long q2), .second, .val (.long q3), .second, .val (.long q4), .second, .val (.int (1 : Int32)), .val (.int ng), .val (.int mg), .unset, .unset, .unset, .unset, .unset, .unset, .unset, .unset, .unset] [(.long q2)]) fun _ _ X _ k => XS.lloadN X.here hx rfl (hb hby dl1_32) rfl k
  have A28 := A27.go (f' := mkF m 34 #[.val (.int p1), .val (.long q2), .second, .val (.long q3), .second, .val (.long q4), .second, .val (.int (1 : Int32)), .val (.int ng), .val (.int mg), .unset, .unset, .unset, .unset, .unset, .unset, .unset, .unset, .unset] [(.int (q2.toInt32))]) fun _ _ X _ k => XS.l2i X.here hx rfl (hb hby dl1_33) rfl k
  obtain ⟨a0_, ha0_⟩ : ∃ zq_, zq_ = (q2.toInt32) := ⟨_, rfl⟩
  rw [← ha0_] at A28
  have A29 := A28.go (f' := mkF m 36 #[.val (.int p1), .val (.long q2), .second, .val (.long q3), .second, .val (.long q4), .second, .val (.int (1 : Int32)), .val (.int ng), .val (.int mg), .val (.int a0_), .unset, .unset, .unset, .unset, .unset, .unset, .unset, .unset] []) fun _ _ X _ k => XS.istore X.here hx rfl (hb hby dl1_34) rfl (l' := #[.val (.int p1), .val (.long q2), .second, .val (.long q3), .second, .val (.long q4), .second, .val (.int (1 : Int32)), .val (.int ng), .val (.int mg), .val (.int a0_), .unset, .unset, .unset, .unset, .unset, .unset, .unset, .unset]) rfl k
  have A30 := A29.go (f' := mkF m 37 #[.val (.int p1), .val (.long q2), .second, .val (.long q3), .second, .val (.long q4), .second, .val (.int (1 : Int32)), .val (.int ng), .val (.int mg), .val (.int a0_), .unset, .unset, .unset, .unset, .unset, .unset, .unset, .unset] [(.long q2)]) fun _ _ X _ k => XS.lloadN X.here hx rfl (hb hby dl1_36) rfl k
  have A31 := A30.go (f' := mkF m 39 #[.val (.int p1), .val (.long q2), .second, .val (.long q3), .second, .val (.long q4), .second, .val (.int (1 : Int32)), .val (.int ng), .val (.int mg), .val (.int a0_), .unset, .unset, .unset, .unset, .unset, .unset, .unset, .unset] [(.int (32 : Int32)), (.long q2)]) fun _ _ X _ k => XS.bipush X.here hx rfl (hb hby dl1_37) k
  have A32 := A31.go (f' := mkF m 40 #[.val (.int p1), .val (.long q2), .second, .val (.long q3), .second, .val (.long q4), .second, .val (.int (1 : Int32)), .val (.int ng), .val (.int mg), .val (.int a0_), .unset, .unset, .unset, .unset, .unset, .unset, .unset, .unset] [(.long ((q2.toUInt64 >>> ((32 : Int32) &&& 0x3f).toInt64.toUInt64).toInt64))]) fun _ _ X _ k => XS.lushr X.here hx rfl (hb hby dl1_39) rfl k
  have A33 := A32.go (f' := mkF m 41 #[.val (.int p1), .val (.long q2), .second, .val (.long q3), .second, .val (.long q4), .second, .val (.int (1 : Int32)), .val (.int ng), .val (.int mg), .val (.int a0_), .unset, .unset, .unset, .unset, .unset, .unset, .unset, .unset] [(.int (((q2.toUInt64 >>> ((32 : Int32) &&& 0x3f).toInt64.toUInt64).toInt64).toInt32))]) fun _ _ X _ k => XS.l2i X.here hx rfl (hb hby dl1_40) rfl k
  obtain ⟨b0_, hb0_⟩ : ∃ zq_, zq_ = (((q2.toUInt64 >>> ((32 : Int32) &&& 0x3f).toInt64.toUInt64).toInt64).toInt32) := ⟨_, rfl⟩
  rw [← hb0_] at A33
  have A34 := A33.go (f' := mkF m 43 #[.val (.int p1), .val (.long q2), .second, .val (.long q3), .second, .val (.long q4), .second, .val (.int (1 : Int32)), .val (.int ng), .val (.int mg), .val (.int a0_), .val (.int b0_), .unset, .unset, .unset, .unset, .unset, .unset, .unset] []) fun _ _ X _ k => XS.istore X.here hx rfl (hb hby dl1_41) rfl (l' := #[.val (.int p1), .val (.long q2), .second, .val (.long q3), .second, .val (.long q4), .second, .val (.int (1 : Int32)), .val (.int ng), .val (.int mg), .val (.int a0_), .val (.int b0_), .unset, .unset, .unset, .unset, .unset, .unset, .unset]) rfl k
  have A35 := A34.go (f' := mkF m 44 #[.val (.int p1), .val (.long q2), .second, .val (.long q3), .second, .val (.long q4), .second, .val (.int (1 : Int32)), .val (.int ng), .val (.int mg), .val (.int a0_), .val (.int b0_), .unset, .unset, .unset, .unset, .unset, .unset, .unset] [(.long q3)]) fun _ _ X _ k => XS.lloadN X.here hx rfl (hb hby dl1_43) rfl k
  have A36 := A35.go (f' := mkF m 45 #[.val (.int p1), .val (.long q2), .second, .val (.long q3), .second, .val (.long q4), .second, .val (.int (1 : Int32)), .val (.int ng), .val (.int mg), .val (.int a0_), .val (.int b0_), .unset, .unset, .unset, .unset, .unset, .unset, .unset] [(.int (q3.toInt32))]) fun _ _ X _ k => XS.l2i X.here hx rfl (hb hby dl1_44) rfl k
  obtain ⟨a1_, ha1_⟩ : ∃ zq_, zq_ = (q3.toInt32) := ⟨_, rfl⟩
  rw [← ha1_] at A36
  have A37 := A36.go (f' := mkF m 47 #[.val (.int p1), .val (.long q2), .second, .val (.long q3), .second, .val (.long q4), .second, .val (.int (1 : Int32)), .val (.int ng), .val (.int mg), .val (.int a0_), .val (.int b0_), .val (.int a1_), .unset, .unset, .unset, .unset, .unset, .unset] []) fun _ _ X _ k => XS.istore X.here hx rfl (hb hby dl1_45) rfl (l' := #[.val (.int p1), .val (.long q2), .second, .val (.long q3), .second, .val (.long q4), .second, .val (.int (1 : Int32)), .val (.int ng), .val (.int mg), .val (.int a0_), .val (.int b0_), .val (.int a1_), .unset, .unset, .unset, .unset, .unset, .unset]) rfl k
  have A38 := A37.go (f' := mkF m 48 #[.val (.int p1), .val (.long q2), .second, .val (.long q3), .second, .val (.long q4), .second, .val (.int (1 : Int32)), .val (.int ng), .val (.int mg), .val (.int a0_), .val (.int b0_), .val (.int a1_), .unset, .unset, .unset, .unset, .unset, .unset] [(.long q3)]) fun _ _ X _ k => XS.lloadN X.here hx rfl (hb hby dl1_47) rfl k
  have A39 := A38.go (f' := mkF m 50 #[.val (.int p1), .val (.long q2), .second, .val (.long q3), .second, .val (.long q4), .second, .val (.int (1 : Int32)), .val (.int ng), .val (.int mg), .val (.int a0_), .val (.int b0_), .val (.int a1_), .unset, .unset, .unset, .unset, .unset, .unset] [(.int (32 : Int32)), (.long q3)]) fun _ _ X _ k => XS.bipush X.here hx rfl (hb hby dl1_48) k
  have A40 := A39.go (f' := mkF m 51 #[.val (.int p1), .val (.long q2), .second, .val (.long q3), .second, .val (.long q4), .second, .val (.int (1 : Int32)), .val (.int ng), .val (.int mg), .val (.int a0_), .val (.int b0_), .val (.int a1_), .unset, .unset, .unset, .unset, .unset, .unset] [(.long ((q3.toUInt64 >>> ((32 : Int32) &&& 0x3f).toInt64.toUInt64).toInt64))]) fun _ _ X _ k => XS.lushr X.here hx rfl (hb hby dl1_50) rfl k
  have A41 := A40.go (f' := mkF m 52 #[.val (.int p1), .val (.long q2), .second, .val (.long q3), .second, .val (.long q4), .second, .val (.int (1 : Int32)), .val (.int ng), .val (.int mg), .val (.int a0_), .val (.int b0_), .val (.int a1_), .unset, .unset, .unset, .unset, .unset, .unset] [(.int (((q3.toUInt64 >>> ((32 : Int32) &&& 0x3f).toInt64.toUInt64).toInt64).toInt32))]) fun _ _ X _ k => XS.l2i X.here hx rfl (hb hby dl1_51) rfl k
  obtain ⟨b1_, hb1_⟩ : ∃ zq_, zq_ = (((q3.toUInt64 >>> ((32 : Int32) &&& 0x3f).toInt64.toUInt64).toInt64).toInt32) := ⟨_, rfl⟩
  rw [← hb1_] at A41
  have A42 := A41.go (f' := mkF m 54 #[.val (.int p1), .val (.long q2), .second, .val (.long q3), .second, .val (.long q4), .second, .val (.int (1 : Int32)), .val (.int ng), .val (.int mg), .val (.int a0_), .val (.int b0_), .val (.int a1_), .val (.int b1_), .unset, .unset, .unset, .unset, .unset] []) fun _ _ X _ k => XS.istore X.here hx rfl (hb hby dl1_52) rfl (l' := #[.val (.int p1), .val (.long q2), .second, .val (.long q3), .second, .val (.long q4), .second, .val (.int (1 : Int32)), .val (.int ng), .val (.int mg), .val (.int a0_), .val (.int b0_), .val (.int a1_), .val (.int b1_), .unset, .unset, .unset, .unset, .unset]) rfl k
  have A43 := A42.go (f' := mkF m 56 #[.val (.int p1), .val (.long q2), .second, .val (.long q3), .second, .val (.long q4), .second, .val (.int (1 : Int32)), .val (.int ng), .val (.int mg), .val (.int a0_), .val (.int b0_), .val (.int a1_), .val (.int b1_), .unset, .unset, .unset, .unset, .unset] [(.long q4)]) fun _ _ X _ k => XS.lload X.here hx rfl (hb hby dl1_54) rfl k
  have A44 := A43.go (f' := mkF m 57 #[.val (.int p1), .val (.long q2), .second, .val (.long q3), .second, .val (.long q4), .second, .val (.int (1 : Int32)), .val (.int ng), .val (.int mg), .val (.int a0_), .val (.int b0_), .val (.int a1_), .val (.int b1_), .unset, .unset, .unset, .unset, .unset] [(.int (q4.toInt32))]) fun _ _ X _ k => XS.l2i X.here hx rfl (hb hby dl1_56) rfl k
  obtain ⟨a2_, ha2_⟩ : ∃ zq_, zq_ = (q4.toInt32) := ⟨_, rfl⟩
  rw [← ha2_] at A44
  have A45 := A44.go (f' := mkF m 59 #[.val (.int p1), .val (.long q2), .second, .val (.long q3), .second, .val (.long q4), .second, .val (.int (1 : Int32)), .val (.int ng), .val (.int mg), .val (.int a0_), .val (.int b0_), .val (.int a1_), .val (.int b1_), .val (.int a2_), .unset, .unset, .unset, .unset] []) fun _ _ X _ k => XS.istore X.here hx rfl (hb hby dl1_57) rfl (l' := #[.val (.int p1), .val (.long q2), .second, .val (.long q3), .second, .val (.long q4), .second, .val (.int (1 : Int32)), .val (.int ng), .val (.int mg), .val (.int a0_), .val (.int b0_), .val (.int a1_), .val (.int b1_), .val (.int a2_), .unset, .unset, .unset, .unset]) rfl k
  have A46 := A45.go (f' := mkF m 61 #[.val (.int p1), .val (.long q2), .second, .val (.long q3), .second, .val (.long q4), .second, .val (.int (1 : Int32)), .val (.int ng), .val (.int mg), .val (.int a0_), .val (.int b0_), .val (.int a1_), .val (.int b1_), .val (.int a2_), .unset, .unset, .unset, .unset] [(.long q4)]) fun _ _ X _ k => XS.lload X.here hx rfl (hb hby dl1_59) rfl k
  have A47 := A46.go (f' := mkF m 63 #[.val (.int p1), .val (.long q2), .second, .val (.long q3), .second, .val (.long q4), .second, .val (.int (1 : Int32)), .val (.int ng), .val (.int mg), .val (.int a0_), .val (.int b0_), .val (.int a1_), .val (.int b1_), .val (.int a2_), .unset, .unset, .unset, .unset] [(.int (32 : Int32)), (.long q4)]) fun _ _ X _ k => XS.bipush X.here hx rfl (hb hby dl1_61) k
  have A48 := A47.go (f' := mkF m 64 #[.val (.int p1), .val (.long q2), .second, .val (.long q3), .second, .val (.long q4), .second, .val (.int (1 : Int32)), .val (.int ng), .val (.int mg), .val (.int a0_), .val (.int b0_), .val (.int a1_), .val (.int b1_), .val (.int a2_), .unset, .unset, .unset, .unset] [(.long ((q4.toUInt64 >>> ((32 : Int32) &&& 0x3f).toInt64.toUInt64).toInt64))]) fun _ _ X _ k => XS.lushr X.here hx rfl (hb hby dl1_63) rfl k
  have A49 := A48.go (f' := mkF m 65 #[.val (.int p1), .val (.long q2), .second, .val (.long q3), .second, .val (.long q4), .second, .val (.int (1 : Int32)), .val (.int ng), .val (.int mg), .val (.int a0_), .val (.int b0_), .val (.int a1_), .val (.int b1_), .val (.int a2_), .unset, .unset, .unset, .unset] [(.int (((q4.toUInt64 >>> ((32 : Int32) &&& 0x3f).toInt64.toUInt64).toInt64).toInt32))]) fun _ _ X _ k => XS.l2i X.here hx rfl (hb hby dl1_64) rfl k
  obtain ⟨b2_, hb2_⟩ : ∃ zq_, zq_ = (((q4.toUInt64 >>> ((32 : Int32) &&& 0x3f).toInt64.toUInt64).toInt64).toInt32) := ⟨_, rfl⟩
  rw [← hb2_] at A49
  have A50 := A49.go (f' := mkF m 67 #[.val (.int p1), .val (.long q2), .second, .val (.long q3), .second, .val (.long q4), .second, .val (.int (1 : Int32)), .val (.int ng), .val (.int mg), .val (.int a0_), .val (.int b0_), .val (.int a1_), .val (.int b1_), .val (.int a2_), .val (.int b2_), .unset, .unset, .unset] []) fun _ _ X _ k => XS.istore X.here hx rfl (hb hby dl1_65) rfl (l' := #[.val (.int p1), .val (.long q2), .second, .val (.long q3), .second, .val (.long q4), .second, .val (.int (1 : Int32)), .val (.int ng), .val (.int mg), .val (.int a0_), .val (.int b0_), .val (.int a1_), .val (.int b1_), .val (.int a2_), .val (.int b2_), .unset, .unset, .unset]) rfl k
  have A51 := A50.go (f' := mkF m 69 #[.val (.int p1), .val (.long q2), .second, .val (.long q3), .second, .val (.long q4), .second, .val (.int (1 : Int32)), .val (.int ng), .val (.int mg), .val (.int a0_), .val (.int b0_), .val (.int a1_), .val (.int b1_), .val (.int a2_), .val (.int b2_), .unset, .unset, .unset] [(.int (1 : Int32))]) fun _ _ X _ k => XS.iload X.here hx rfl (hb hby dl1_67) rfl k
  have A52 := A51.go (f' := mkF m 71 #[.val (.int p1), .val (.long q2), .second, .val (.long q3), .second, .val (.long q4), .second, .val (.int (1 : Int32)), .val (.int ng), .val (.int mg), .val (.int a0_), .val (.int b0_), .val (.int a1_), .val (.int b1_), .val (.int a2_), .val (.int b2_), .unset, .unset, .unset] [(.int a0_), (.int (1 : Int32))]) fun _ _ X _ k => XS.iload X.here hx rfl (hb hby dl1_69) rfl k
  have A53 := A52.go (f' := mkF m 73 #[.val (.int p1), .val (.long q2), .second, .val (.long q3), .second, .val (.long q4), .second, .val (.int (1 : Int32)), .val (.int ng), .val (.int mg), .val (.int a0_), .val (.int b0_), .val (.int a1_), .val (.int b1_), .val (.int a2_), .val (.int b2_), .unset, .unset, .unset] [(.int ng), (.int a0_), (.int (1 : Int32))]) fun _ _ X _ k => XS.iload X.here hx rfl (hb hby dl1_71) rfl k
  obtain ⟨vA54, hA54, ⟨rfl, rfl⟩, A54⟩ := A53.callS (own_dvM l Z a0 hw a0_ ng h0 n0 Z0) hx hZ hown (hb hby dl1_73) (hw _ (List.mem_of_getElem? (i := 0) rfl)) (hw _ (List.mem_of_getElem? (i := 1) rfl)) (hw _ (List.mem_of_getElem? (i := 2) rfl)) (hw _ (List.mem_of_getElem? (i := 3) rfl)) ⟨by decide, by decide⟩ (lenOf pd__28IZ_29D rfl) (argsL := [(.int a0_), (.int ng)]) (rest := [(.int (1 : Int32))]) rfl rfl (by rw [hml]; rfl) (W := 1) (Nat.le_of_eq rfl) (by decide) (by decide) (by decide) (by decide)
  have A55 : own_R p l e _ _ m _ below meth c S0 n0 h0 0 0 (mkF m 76 #[.val (.int p1), .val (.long q2), .second, .val (.long q3), .second, .val (.long q4), .second, .val (.int (1 : Int32)), .val (.int ng), .val (.int mg), .val (.int a0_), .val (.int b0_), .val (.int a1_), .val (.int b1_), .val (.int a2_), .val (.int b2_), .unset, .unset, .unset] [(.double (own_dv a0_ ng)), (.int (1 : Int32))]) := A54
  have A56 := A55.go (f' := mkF m 78 #[.val (.int p1), .val (.long q2), .second, .val (.long q3), .second, .val (.long q4), .second, .val (.int (1 : Int32)), .val (.int ng), .val (.int mg), .val (.int a0_), .val (.int b0_), .val (.int a1_), .val (.int b1_), .val (.int a2_), .val (.int b2_), .unset, .unset, .unset] [(.int a1_), (.double (own_dv a0_ ng)), (.int (1 : Int32))]) fun _ _ X _ k => XS.iload X.here hx rfl (hb hby dl1_76) rfl k
  have A57 := A56.go (f' := mkF m 80 #[.val (.int p1), .val (.long q2), .second, .val (.long q3), .second, .val (.long q4), .second, .val (.int (1 : Int32)), .val (.int ng), .val (.int mg), .val (.int a0_), .val (.int b0_), .val (.int a1_), .val (.int b1_), .val (.int a2_), .val (.int b2_), .unset, .unset, .unset] [(.int ng), (.int a1_), (.double (own_dv a0_ ng)), (.int (1 : Int32))]) fun _ _ X _ k => XS.iload X.here hx rfl (hb hby dl1_78) rfl k
  obtain ⟨vA58, hA58, ⟨rfl, rfl⟩, A58⟩ := A57.callS (own_dvM l Z a0 hw a1_ ng h0 n0 Z0) hx hZ hown (hb hby dl1_80) (hw _ (List.mem_of_getElem? (i := 0) rfl)) (hw _ (List.mem_of_getElem? (i := 1) rfl)) (hw _ (List.mem_of_getElem? (i := 2) rfl)) (hw _ (List.mem_of_getElem? (i := 3) rfl)) ⟨by decide, by decide⟩ (lenOf pd__28IZ_29D rfl) (argsL := [(.int a1_), (.int ng)]) (rest := [(.double (own_dv a0_ ng)), (.int (1 : Int32))]) rfl rfl (by rw [hml]; rfl) (W := 3) (Nat.le_of_eq rfl) (by decide) (by decide) (by decide) (by decide)
  have A59 : own_R p l e _ _ m _ below meth c S0 n0 h0 0 0 (mkF m 83 #[.val (.int p1), .val (.long q2), .second, .val (.long q3), .second, .val (.long q4), .second, .val (.int (1 : Int32)), .val (.int ng), .val (.int mg), .val (.int a0_), .val (.int b0_), .val (.int a1_), .val (.int b1_), .val (.int a2_), .val (.int b2_), .unset, .unset, .unset] [(.double (own_dv a1_ ng)), (.double (own_dv a0_ ng)), (.int (1 : Int32))]) := A58
  have A60 := A59.go (f' := mkF m 85 #[.val (.int p1), .val (.long q2), .second, .val (.long q3), .second, .val (.long q4), .second, .val (.int (1 : Int32)), .val (.int ng), .val (.int mg), .val (.int a0_), .val (.int b0_), .val (.int a1_), .val (.int b1_), .val (.int a2_), .val (.int b2_), .unset, .unset, .unset] [(.int a2_), (.double (own_dv a1_ ng)), (.double (own_dv a0_ ng)), (.int (1 : Int32))]) fun _ _ X _ k => XS.iload X.here hx rfl (hb hby dl1_83) rfl k
  have A61 := A60.go (f' := mkF m 87 #[.val (.int p1), .val (.long q2), .second, .val (.long q3), .second, .val (.long q4), .second, .val (.int (1 : Int32)), .val (.int ng), .val (.int mg), .val (.int a0_), .val (.int b0_), .val (.int a1_), .val (.int b1_), .val (.int a2_), .val (.int b2_), .unset, .unset, .unset] [(.int ng), (.int a2_), (.double (own_dv a1_ ng)), (.double (own_dv a0_ ng)), (.int (1 : Int32))]) fun _ _ X _ k => XS.iload X.here hx rfl (hb hby dl1_85) rfl k
  obtain ⟨vA62, hA62, ⟨rfl, rfl⟩, A62⟩ := A61.callS (own_dvM l Z a0 hw a2_ ng h0 n0 Z0) hx hZ hown (hb hby dl1_87) (hw _ (List.mem_of_getElem? (i := 0) rfl)) (hw _ (List.mem_of_getElem? (i := 1) rfl)) (hw _ (List.mem_of_getElem? (i := 2) rfl)) (hw _ (List.mem_of_getElem? (i := 3) rfl)) ⟨by decide, by decide⟩ (lenOf pd__28IZ_29D rfl) (argsL := [(.int a2_), (.int ng)]) (rest := [(.double (own_dv a1_ ng)), (.double (own_dv a0_ ng)), (.int (1 : Int32))]) rfl rfl (by rw [hml]; rfl) (W := 5) (Nat.le_of_eq rfl) (by decide) (by decide) (by decide) (by decide)
  have A63 : own_R p l e _ _ m _ below meth c S0 n0 h0 0 0 (mkF m 90 #[.val (.int p1), .val (.long q2), .second, .val (.long q3), .second, .val (.long q4), .second, .val (.int (1 : Int32)), .val (.int ng), .val (.int mg), .val (.int a0_), .val (.int b0_), .val (.int a1_), .val (.int b1_), .val (.int a2_), .val (.int b2_), .unset, .unset, .unset] [(.double (own_dv a2_ ng)), (.double (own_dv a1_ ng)), (.double (own_dv a0_ ng)), (.int (1 : Int32))]) := A62
  obtain ⟨vA64, hA64, ⟨xf, rfl, K_xf, s_xf, g_xf, V_xf⟩, A64⟩ := A63.callS (own_make1 l Z a0 hw (1 : Int32) (own_dv a0_ ng) (own_dv a1_ ng) (own_dv a2_ ng) h0 n0 Z0 rfl) hx hZ hown (hb hby dl1_90) (hw _ (List.mem_of_getElem? (i := 4) rfl)) (hw _ (List.mem_of_getElem? (i := 5) rfl)) (hw _ (List.mem_of_getElem? (i := 2) rfl)) (hw _ (List.mem_of_getElem? (i := 6) rfl)) ⟨by decide, by decide⟩ (lenOf pd__28IDDD_29_5bD rfl) (argsL := [(.int (1 : Int32)), (.double (own_dv a0_ ng)), (.double (own_dv a1_ ng)), (.double (own_dv a2_ ng))]) (rest := []) rfl rfl (by rw [hml]; rfl) (W := 0) (Nat.le_of_eq rfl) (by decide) (by decide) (by decide) (by decide)
  have Z0 : n0 ≤ hA64.size := Nat.le_trans Z0 K_xf.1
  have A65 : own_R p l e _ _ m _ below meth c S0 n0 hA64 1 3 (mkF m 93 #[.val (.int p1), .val (.long q2), .second, .val (.long q3), .second, .val (.long q4), .second, .val (.int (1 : Int32)), .val (.int ng), .val (.int mg), .val (.int a0_), .val (.int b0_), .val (.int a1_), .val (.int b1_), .val (.int a2_), .val (.int b2_), .unset, .unset, .unset] [(.ref xf)]) := A64
  have A66 := A65.go (f' := mkF m 95 #[.val (.int p1), .val (.long q2), .second, .val (.long q3), .second, .val (.long q4), .second, .val (.int (1 : Int32)), .val (.int ng), .val (.int mg), .val (.int a0_), .val (.int b0_), .val (.int a1_), .val (.int b1_), .val (.int a2_), .val (.int b2_), .val (.ref xf), .unset, .unset] []) fun _ _ X _ k => XS.astore X.here hx rfl (hb hby dl1_93) rfl rfl (l' := #[.val (.int p1), .val (.long q2), .second, .val (.long q3), .second, .val (.long q4), .second, .val (.int (1 : Int32)), .val (.int ng), .val (.int mg), .val (.int a0_), .val (.int b0_), .val (.int a1_), .val (.int b1_), .val (.int a2_), .val (.int b2_), .val (.ref xf), .unset, .unset]) rfl k
  have A67 := A66.go (f' := mkF m 97 #[.val (.int p1), .val (.long q2), .second, .val (.long q3), .second, .val (.long q4), .second, .val (.int (1 : Int32)), .val (.int ng), .val (.int mg), .val (.int a0_), .val (.int b0_), .val (.int a1_), .val (.int b1_), .val (.int a2_), .val (.int b2_), .val (.ref xf), .unset, .unset] [(.int (1 : Int32))]) fun _ _ X _ k => XS.iload X.here hx rfl (hb hby dl1_95) rfl k
  have A68 := A67.go (f' := mkF m 99 #[.val (.int p1), .val (.long q2), .second, .val (.long q3), .second, .val (.long q4), .second, .val (.int (1 : Int32)), .val (.int ng), .val (.int mg), .val (.int a0_), .val (.int b0_), .val (.int a1_), .val (.int b1_), .val (.int a2_), .val (.int b2_), .val (.ref xf), .unset, .unset] [(.int b0_), (.int (1 : Int32))]) fun _ _ X _ k => XS.iload X.here hx rfl (hb hby dl1_97) rfl k
  have A69 := A68.go (f' := mkF m 101 #[.val (.int p1), .val (.long q2), .second, .val (.long q3), .second, .val (.long q4), .second, .val (.int (1 : Int32)), .val (.int ng), .val (.int mg), .val (.int a0_), .val (.int b0_), .val (.int a1_), .val (.int b1_), .val (.int a2_), .val (.int b2_), .val (.ref xf), .unset, .unset] [(.int mg), (.int b0_), (.int (1 : Int32))]) fun _ _ X _ k => XS.iload X.here hx rfl (hb hby dl1_99) rfl k
  obtain ⟨vA70, hA70, ⟨rfl, rfl⟩, A70⟩ := A69.callS (own_dvM l Z a0 hw b0_ mg hA64 n0 Z0) hx hZ hown (hb hby dl1_101) (hw _ (List.mem_of_getElem? (i := 0) rfl)) (hw _ (List.mem_of_getElem? (i := 1) rfl)) (hw _ (List.mem_of_getElem? (i := 2) rfl)) (hw _ (List.mem_of_getElem? (i := 3) rfl)) ⟨by decide, by decide⟩ (lenOf pd__28IZ_29D rfl) (argsL := [(.int b0_), (.int mg)]) (rest := [(.int (1 : Int32))]) rfl rfl (by rw [hml]; rfl) (W := 1) (Nat.le_of_eq rfl) (by decide) (by decide) (by decide) (by decide)
  have A71 : own_R p l e _ _ m _ below meth c S0 n0 hA64 1 3 (mkF m 104 #[.val (.int p1), .val (.long q2), .second, .val (.long q3), .second, .val (.long q4), .second, .val (.int (1 : Int32)), .val (.int ng), .val (.int mg), .val (.int a0_), .val (.int b0_), .val (.int a1_), .val (.int b1_), .val (.int a2_), .val (.int b2_), .val (.ref xf), .unset, .unset] [(.double (own_dv b0_ mg)), (.int (1 : Int32))]) := A70
  have A72 := A71.go (f' := mkF m 106 #[.val (.int p1), .val (.long q2), .second, .val (.long q3), .second, .val (.long q4), .second, .val (.int (1 : Int32)), .val (.int ng), .val (.int mg), .val (.int a0_), .val (.int b0_), .val (.int a1_), .val (.int b1_), .val (.int a2_), .val (.int b2_), .val (.ref xf), .unset, .unset] [(.int b1_), (.double (own_dv b0_ mg)), (.int (1 : Int32))]) fun _ _ X _ k => XS.iload X.here hx rfl (hb hby dl1_104) rfl k
  have A73 := A72.go (f' := mkF m 108 #[.val (.int p1), .val (.long q2), .second, .val (.long q3), .second, .val (.long q4), .second, .val (.int (1 : Int32)), .val (.int ng), .val (.int mg), .val (.int a0_), .val (.int b0_), .val (.int a1_), .val (.int b1_), .val (.int a2_), .val (.int b2_), .val (.ref xf), .unset, .unset] [(.int mg), (.int b1_), (.double (own_dv b0_ mg)), (.int (1 : Int32))]) fun _ _ X _ k => XS.iload X.here hx rfl (hb hby dl1_106) rfl k
  obtain ⟨vA74, hA74, ⟨rfl, rfl⟩, A74⟩ := A73.callS (own_dvM l Z a0 hw b1_ mg hA64 n0 Z0) hx hZ hown (hb hby dl1_108) (hw _ (List.mem_of_getElem? (i := 0) rfl)) (hw _ (List.mem_of_getElem? (i := 1) rfl)) (hw _ (List.mem_of_getElem? (i := 2) rfl)) (hw _ (List.mem_of_getElem? (i := 3) rfl)) ⟨by decide, by decide⟩ (lenOf pd__28IZ_29D rfl) (argsL := [(.int b1_), (.int mg)]) (rest := [(.double (own_dv b0_ mg)), (.int (1 : Int32))]) rfl rfl (by rw [hml]; rfl) (W := 3) (Nat.le_of_eq rfl) (by decide) (by decide) (by decide) (by decide)
  have A75 : own_R p l e _ _ m _ below meth c S0 n0 hA64 1 3 (mkF m 111 #[.val (.int p1), .val (.long q2), .second, .val (.long q3), .second, .val (.long q4), .second, .val (.int (1 : Int32)), .val (.int ng), .val (.int mg), .val (.int a0_), .val (.int b0_), .val (.int a1_), .val (.int b1_), .val (.int a2_), .val (.int b2_), .val (.ref xf), .unset, .unset] [(.double (own_dv b1_ mg)), (.double (own_dv b0_ mg)), (.int (1 : Int32))]) := A74
  have A76 := A75.go (f' := mkF m 113 #[.val (.int p1), .val (.long q2), .second, .val (.long q3), .second, .val (.long q4), .second, .val (.int (1 : Int32)), .val (.int ng), .val (.int mg), .val (.int a0_), .val (.int b0_), .val (.int a1_), .val (.int b1_), .val (.int a2_), .val (.int b2_), .val (.ref xf), .unset, .unset] [(.int b2_), (.double (own_dv b1_ mg)), (.double (own_dv b0_ mg)), (.int (1 : Int32))]) fun _ _ X _ k => XS.iload X.here hx rfl (hb hby dl1_111) rfl k
  have A77 := A76.go (f' := mkF m 115 #[.val (.int p1), .val (.long q2), .second, .val (.long q3), .second, .val (.long q4), .second, .val (.int (1 : Int32)), .val (.int ng), .val (.int mg), .val (.int a0_), .val (.int b0_), .val (.int a1_), .val (.int b1_), .val (.int a2_), .val (.int b2_), .val (.ref xf), .unset, .unset] [(.int mg), (.int b2_), (.double (own_dv b1_ mg)), (.double (own_dv b0_ mg)), (.int (1 : Int32))]) fun _ _ X _ k => XS.iload X.here hx rfl (hb hby dl1_113) rfl k
  obtain ⟨vA78, hA78, ⟨rfl, rfl⟩, A78⟩ := A77.callS (own_dvM l Z a0 hw b2_ mg hA64 n0 Z0) hx hZ hown (hb hby dl1_115) (hw _ (List.mem_of_getElem? (i := 0) rfl)) (hw _ (List.mem_of_getElem? (i := 1) rfl)) (hw _ (List.mem_of_getElem? (i := 2) rfl)) (hw _ (List.mem_of_getElem? (i := 3) rfl)) ⟨by decide, by decide⟩ (lenOf pd__28IZ_29D rfl) (argsL := [(.int b2_), (.int mg)]) (rest := [(.double (own_dv b1_ mg)), (.double (own_dv b0_ mg)), (.int (1 : Int32))]) rfl rfl (by rw [hml]; rfl) (W := 5) (Nat.le_of_eq rfl) (by decide) (by decide) (by decide) (by decide)
  have A79 : own_R p l e _ _ m _ below meth c S0 n0 hA64 1 3 (mkF m 118 #[.val (.int p1), .val (.long q2), .second, .val (.long q3), .second, .val (.long q4), .second, .val (.int (1 : Int32)), .val (.int ng), .val (.int mg), .val (.int a0_), .val (.int b0_), .val (.int a1_), .val (.int b1_), .val (.int a2_), .val (.int b2_), .val (.ref xf), .unset, .unset] [(.double (own_dv b2_ mg)), (.double (own_dv b1_ mg)), (.double (own_dv b0_ mg)), (.int (1 : Int32))]) := A78
  obtain ⟨vA80, hA80, ⟨xs, rfl, K_xs, s_xs, g_xs, V_xs⟩, A80⟩ := A79.callS (own_make1 l Z a0 hw (1 : Int32) (own_dv b0_ mg) (own_dv b1_ mg) (own_dv b2_ mg) hA64 n0 Z0 rfl) hx hZ hown (hb hby dl1_118) (hw _ (List.mem_of_getElem? (i := 4) rfl)) (hw _ (List.mem_of_getElem? (i := 5) rfl)) (hw _ (List.mem_of_getElem? (i := 2) rfl)) (hw _ (List.mem_of_getElem? (i := 6) rfl)) ⟨by decide, by decide⟩ (lenOf pd__28IDDD_29_5bD rfl) (argsL := [(.int (1 : Int32)), (.double (own_dv b0_ mg)), (.double (own_dv b1_ mg)), (.double (own_dv b2_ mg))]) (rest := []) rfl rfl (by rw [hml]; rfl) (W := 0) (Nat.le_of_eq rfl) (by decide) (by decide) (by decide) (by decide)
  have ne_xf_xs : xf ≠ xs := Nat.ne_of_lt (Nat.lt_of_lt_of_le V_xf.lt s_xs)
  have V_xf : own_Ar Z hA80 xf .double [(.double (own_dv a0_ ng))] := V_xf.keep K_xs nin0
  have Z0 : n0 ≤ hA80.size := Nat.le_trans Z0 K_xs.1
  have A81 : own_R p l e _ _ m _ below meth c S0 n0 hA80 2 6 (mkF m 121 #[.val (.int p1), .val (.long q2), .second, .val (.long q3), .second, .val (.long q4), .second, .val (.int (1 : Int32)), .val (.int ng), .val (.int mg), .val (.int a0_), .val (.int b0_), .val (.int a1_), .val (.int b1_), .val (.int a2_), .val (.int b2_), .val (.ref xf), .unset, .unset] [(.ref xs)]) := A80
  have A82 := A81.go (f' := mkF m 123 #[.val (.int p1), .val (.long q2), .second, .val (.long q3), .second, .val (.long q4), .second, .val (.int (1 : Int32)), .val (.int ng), .val (.int mg), .val (.int a0_), .val (.int b0_), .val (.int a1_), .val (.int b1_), .val (.int a2_), .val (.int b2_), .val (.ref xf), .val (.ref xs), .unset] []) fun _ _ X _ k => XS.astore X.here hx rfl (hb hby dl1_121) rfl rfl (l' := #[.val (.int p1), .val (.long q2), .second, .val (.long q3), .second, .val (.long q4), .second, .val (.int (1 : Int32)), .val (.int ng), .val (.int mg), .val (.int a0_), .val (.int b0_), .val (.int a1_), .val (.int b1_), .val (.int a2_), .val (.int b2_), .val (.ref xf), .val (.ref xs), .unset]) rfl k
  have A83 := A82.go (f' := mkF m 125 #[.val (.int p1), .val (.long q2), .second, .val (.long q3), .second, .val (.long q4), .second, .val (.int (1 : Int32)), .val (.int ng), .val (.int mg), .val (.int a0_), .val (.int b0_), .val (.int a1_), .val (.int b1_), .val (.int a2_), .val (.int b2_), .val (.ref xf), .val (.ref xs), .unset] [(.int (1 : Int32))]) fun _ _ X _ k => XS.iload X.here hx rfl (hb hby dl1_123) rfl k
  have A84 := A83.go (f' := mkF m 126 #[.val (.int p1), .val (.long q2), .second, .val (.long q3), .second, .val (.long q4), .second, .val (.int (1 : Int32)), .val (.int ng), .val (.int mg), .val (.int a0_), .val (.int b0_), .val (.int a1_), .val (.int b1_), .val (.int a2_), .val (.int b2_), .val (.ref xf), .val (.ref xs), .unset] [(.int (1 : Int32)), (.int (1 : Int32))]) fun _ _ X _ k => XS.iconst X.here hx rfl (hb hby dl1_125) k
  have q85 : ¬ ((1 : Int32) < (1 : Int32)) := by decide
  have A86 := A84.go (f' := mkF m 129 #[.val (.int p1), .val (.long q2), .second, .val (.long q3), .second, .val (.long q4), .second, .val (.int (1 : Int32)), .val (.int ng), .val (.int mg), .val (.int a0_), .val (.int b0_), .val (.int a1_), .val (.int b1_), .val (.int a2_), .val (.int b2_), .val (.ref xf), .val (.ref xs), .unset] []) fun _ _ X _ k => XS.icmpNo X.here hx rfl (hb hby dl1_126) rfl ((flt q85).1) k
  have A87 := A86.go (f' := mkF m 131 #[.val (.int p1), .val (.long q2), .second, .val (.long q3), .second, .val (.long q4), .second, .val (.int (1 : Int32)), .val (.int ng), .val (.int mg), .val (.int a0_), .val (.int b0_), .val (.int a1_), .val (.int b1_), .val (.int a2_), .val (.int b2_), .val (.ref xf), .val (.ref xs), .unset] [(.int a0_)]) fun _ _ X _ k => XS.iload X.here hx rfl (hb hby dl1_129) rfl k
  have A88 := A87.go (f' := mkF m 133 #[.val (.int p1), .val (.long q2), .second, .val (.long q3), .second, .val (.long q4), .second, .val (.int (1 : Int32)), .val (.int ng), .val (.int mg), .val (.int a0_), .val (.int b0_), .val (.int a1_), .val (.int b1_), .val (.int a2_), .val (.int b2_), .val (.ref xf), .val (.ref xs), .unset] [(.int ng), (.int a0_)]) fun _ _ X _ k => XS.iload X.here hx rfl (hb hby dl1_131) rfl k
  obtain ⟨vA89, hA89, ⟨rfl, rfl⟩, A89⟩ := A88.callS (own_lvM l Z a0 hw a0_ ng hA80 n0 Z0) hx hZ hown (hb hby dl1_133) (hw _ (List.mem_of_getElem? (i := 12) rfl)) (hw _ (List.mem_of_getElem? (i := 13) rfl)) (hw _ (List.mem_of_getElem? (i := 2) rfl)) (hw _ (List.mem_of_getElem? (i := 14) rfl)) ⟨by decide, by decide⟩ (lenOf pd__28IZ_29J rfl) (argsL := [(.int a0_), (.int ng)]) (rest := []) rfl rfl (by rw [hml]; rfl) (W := 0) (Nat.le_of_eq rfl) (by decide) (by decide) (by decide) (by decide)
  have A90 : own_R p l e _ _ m _ below meth c S0 n0 hA80 2 6 (mkF m 136 #[.val (.int p1), .val (.long q2), .second, .val (.long q3), .second, .val (.long q4), .second, .val (.int (1 : Int32)), .val (.int ng), .val (.int mg), .val (.int a0_), .val (.int b0_), .val (.int a1_), .val (.int b1_), .val (.int a2_), .val (.int b2_), .val (.ref xf), .val (.ref xs), .unset] [(.long (own_lv a0_ ng))]) := A89
  have A91 := A90.go (f' := mkF m 138 #[.val (.int p1), .val (.long q2), .second, .val (.long q3), .second, .val (.long q4), .second, .val (.int (1 : Int32)), .val (.int ng), .val (.int mg), .val (.int a0_), .val (.int b0_), .val (.int a1_), .val (.int b1_), .val (.int a2_), .val (.int b2_), .val (.ref xf), .val (.ref xs), .unset] [(.int b0_), (.long (own_lv a0_ ng))]) fun _ _ X _ k => XS.iload X.here hx rfl (hb hby dl1_136) rfl k
  have A92 := A91.go (f' := mkF m 140 #[.val (.int p1), .val (.long q2), .second, .val (.long q3), .second, .val (.long q4), .second, .val (.int (1 : Int32)), .val (.int ng), .val (.int mg), .val (.int a0_), .val (.int b0_), .val (.int a1_), .val (.int b1_), .val (.int a2_), .val (.int b2_), .val (.ref xf), .val (.ref xs), .unset] [(.int mg), (.int b0_), (.long (own_lv a0_ ng))]) fun _ _ X _ k => XS.iload X.here hx rfl (hb hby dl1_138) rfl k
  obtain ⟨vA93, hA93, ⟨rfl, rfl⟩, A93⟩ := A92.callS (own_lvM l Z a0 hw b0_ mg hA80 n0 Z0) hx hZ hown (hb hby dl1_140) (hw _ (List.mem_of_getElem? (i := 12) rfl)) (hw _ (List.mem_of_getElem? (i := 13) rfl)) (hw _ (List.mem_of_getElem? (i := 2) rfl)) (hw _ (List.mem_of_getElem? (i := 14) rfl)) ⟨by decide, by decide⟩ (lenOf pd__28IZ_29J rfl) (argsL := [(.int b0_), (.int mg)]) (rest := [(.long (own_lv a0_ ng))]) rfl rfl (by rw [hml]; rfl) (W := 2) (Nat.le_of_eq rfl) (by decide) (by decide) (by decide) (by decide)
  have A94 : own_R p l e _ _ m _ below meth c S0 n0 hA80 2 6 (mkF m 143 #[.val (.int p1), .val (.long q2), .second, .val (.long q3), .second, .val (.long q4), .second, .val (.int (1 : Int32)), .val (.int ng), .val (.int mg), .val (.int a0_), .val (.int b0_), .val (.int a1_), .val (.int b1_), .val (.int a2_), .val (.int b2_), .val (.ref xf), .val (.ref xs), .unset] [(.long (own_lv b0_ mg)), (.long (own_lv a0_ ng))]) := A93
  have A95 := A94.go (f' := mkF m 144 #[.val (.int p1), .val (.long q2), .second, .val (.long q3), .second, .val (.long q4), .second, .val (.int (1 : Int32)), .val (.int ng), .val (.int mg), .val (.int a0_), .val (.int b0_), .val (.int a1_), .val (.int b1_), .val (.int a2_), .val (.int b2_), .val (.ref xf), .val (.ref xs), .unset] [(.int (lcmpW (own_lv a0_ ng) (own_lv b0_ mg)))]) fun _ _ X _ k => XS.lcmp X.here hx rfl (hb hby dl1_143) rfl k
  by_cases q96 : (lcmpW (own_lv a0_ ng) (own_lv b0_ mg)) < (0 : Int32)
  · skip
    have A97 := A95.go (f' := mkF m 199 #[.val (.int p1), .val (.long q2), .second, .val (.long q3), .second, .val (.long q4), .second, .val (.int (1 : Int32)), .val (.int ng), .val (.int mg), .val (.int a0_), .val (.int b0_), .val (.int a1_), .val (.int b1_), .val (.int a2_), .val (.int b2_), .val (.ref xf), .val (.ref xs), .unset] []) fun _ _ X _ k => XS.ifYes X.here hx rfl (pc0 := 144) (pc' := 199) rfl (hb hby dl1_144) rfl ((if0 _ _).trans (tlt q96).1) (by decide) (by decide) k
    have A98 := A97.go (f' := mkF m 200 #[.val (.int p1), .val (.long q2), .second, .val (.long q3), .second, .val (.long q4), .second, .val (.int (1 : Int32)), .val (.int ng), .val (.int mg), .val (.int a0_), .val (.int b0_), .val (.int a1_), .val (.int b1_), .val (.int a2_), .val (.int b2_), .val (.ref xf), .val (.ref xs), .unset] [(.int (0 : Int32))]) fun _ _ X _ k => XS.iconst X.here hx rfl (hb hby dl1_199) k
    have A99 := A98.go (f' := mkF m 202 #[.val (.int p1), .val (.long q2), .second, .val (.long q3), .second, .val (.long q4), .second, .val (.int (1 : Int32)), .val (.int ng), .val (.int mg), .val (.int a0_), .val (.int b0_), .val (.int a1_), .val (.int b1_), .val (.int a2_), .val (.int b2_), .val (.ref xf), .val (.ref xs), .val (.int (0 : Int32))] []) fun _ _ X _ k => XS.istore X.here hx rfl (hb hby dl1_200) rfl (l' := #[.val (.int p1), .val (.long q2), .second, .val (.long q3), .second, .val (.long q4), .second, .val (.int (1 : Int32)), .val (.int ng), .val (.int mg), .val (.int a0_), .val (.int b0_), .val (.int a1_), .val (.int b1_), .val (.int a2_), .val (.int b2_), .val (.ref xf), .val (.ref xs), .val (.int (0 : Int32))]) rfl k
    have A100 := A99.go (f' := mkF m 204 #[.val (.int p1), .val (.long q2), .second, .val (.long q3), .second, .val (.long q4), .second, .val (.int (1 : Int32)), .val (.int ng), .val (.int mg), .val (.int a0_), .val (.int b0_), .val (.int a1_), .val (.int b1_), .val (.int a2_), .val (.int b2_), .val (.ref xf), .val (.ref xs), .val (.int (0 : Int32))] [(.ref xf)]) fun _ _ X _ k => XS.aload X.here hx rfl (hb hby dl1_202) rfl rfl k
    have A101 := A100.go (f' := mkF m 206 #[.val (.int p1), .val (.long q2), .second, .val (.long q3), .second, .val (.long q4), .second, .val (.int (1 : Int32)), .val (.int ng), .val (.int mg), .val (.int a0_), .val (.int b0_), .val (.int a1_), .val (.int b1_), .val (.int a2_), .val (.int b2_), .val (.ref xf), .val (.ref xs), .val (.int (0 : Int32))] [(.ref xs), (.ref xf)]) fun _ _ X _ k => XS.aload X.here hx rfl (hb hby dl1_204) rfl rfl k
    obtain ⟨vA102, hA102, ⟨rfl, rfl⟩, A102⟩ := A101.callS (own_wd1 l Z a0 hw xf xs (0 : Int32) (own_dv a0_ ng) (own_dv b0_ mg) hA80 n0 Z0 V_xf V_xs (by simp [own_wd, own_cmp, q96])) hx hZ hown (hb hby dl1_206) (hw _ (List.mem_of_getElem? (i := 8) rfl)) (hw _ (List.mem_of_getElem? (i := 9) rfl)) (hw _ (List.mem_of_getElem? (i := 10) rfl)) (hw _ (List.mem_of_getElem? (i := 11) rfl)) ⟨by decide, by decide⟩ (lenOf pd__28_5bD_5bD_29Z rfl) (argsL := [(.ref xf), (.ref xs)]) (rest := []) rfl rfl (by rw [hml]; rfl) (W := 0) (Nat.le_of_eq rfl) (by decide) (by decide) (by decide) (by decide)
    have A103 : own_R p l e _ _ m _ below meth c S0 n0 hA80 2 6 (mkF m 209 #[.val (.int p1), .val (.long q2), .second, .val (.long q3), .second, .val (.long q4), .second, .val (.int (1 : Int32)), .val (.int ng), .val (.int mg), .val (.int a0_), .val (.int b0_), .val (.int a1_), .val (.int b1_), .val (.int a2_), .val (.int b2_), .val (.ref xf), .val (.ref xs), .val (.int (0 : Int32))] [(.int (0 : Int32))]) := A102
    have A104 := A103.go (f' := mkF m 211 #[.val (.int p1), .val (.long q2), .second, .val (.long q3), .second, .val (.long q4), .second, .val (.int (1 : Int32)), .val (.int ng), .val (.int mg), .val (.int a0_), .val (.int b0_), .val (.int a1_), .val (.int b1_), .val (.int a2_), .val (.int b2_), .val (.ref xf), .val (.ref xs), .val (.int (0 : Int32))] [(.int (0 : Int32)), (.int (0 : Int32))]) fun _ _ X _ k => XS.iload X.here hx rfl (hb hby dl1_209) rfl k
    have q105 : ((0 : Int32) = (0 : Int32)) := by decide
    have A106 := A104.go (f' := mkF m 214 #[.val (.int p1), .val (.long q2), .second, .val (.long q3), .second, .val (.long q4), .second, .val (.int (1 : Int32)), .val (.int ng), .val (.int mg), .val (.int a0_), .val (.int b0_), .val (.int a1_), .val (.int b1_), .val (.int a2_), .val (.int b2_), .val (.ref xf), .val (.ref xs), .val (.int (0 : Int32))] []) fun _ _ X _ k => XS.icmpNo X.here hx rfl (hb hby dl1_211) rfl ((teq q105).2) k
    have A107 := A106.go (f' := mkF m 215 #[.val (.int p1), .val (.long q2), .second, .val (.long q3), .second, .val (.long q4), .second, .val (.int (1 : Int32)), .val (.int ng), .val (.int mg), .val (.int a0_), .val (.int b0_), .val (.int a1_), .val (.int b1_), .val (.int a2_), .val (.int b2_), .val (.ref xf), .val (.ref xs), .val (.int (0 : Int32))] [(.int (1 : Int32))]) fun _ _ X _ k => XS.iconst X.here hx rfl (hb hby dl1_214) k
    have A108 := A107.go (f' := mkF m 219 #[.val (.int p1), .val (.long q2), .second, .val (.long q3), .second, .val (.long q4), .second, .val (.int (1 : Int32)), .val (.int ng), .val (.int mg), .val (.int a0_), .val (.int b0_), .val (.int a1_), .val (.int b1_), .val (.int a2_), .val (.int b2_), .val (.ref xf), .val (.ref xs), .val (.int (0 : Int32))] [(.int (1 : Int32))]) fun _ _ X _ k => XS.goto X.here hx rfl (pc0 := 215) (pc' := 219) rfl (hb hby dl1_215) (by decide) (by decide) k
    exact A108.ret hx hlk hret (hb hby dl1_219) rfl (Or.inl ⟨rfl, by simp, _, rfl⟩) (by decide) (by decide) ⟨rfl, trivial⟩
  · skip
    have A109 := A95.go (f' := mkF m 147 #[.val (.int p1), .val (.long q2), .second, .val (.long q3), .second, .val (.long q4), .second, .val (.int (1 : Int32)), .val (.int ng), .val (.int mg), .val (.int a0_), .val (.int b0_), .val (.int a1_), .val (.int b1_), .val (.int a2_), .val (.int b2_), .val (.ref xf), .val (.ref xs), .unset] []) fun _ _ X _ k => XS.ifNo X.here hx rfl (hb hby dl1_144) rfl ((if0 _ _).trans (flt q96).1) k
    have A110 := A109.go (f' := mkF m 149 #[.val (.int p1), .val (.long q2), .second, .val (.long q3), .second, .val (.long q4), .second, .val (.int (1 : Int32)), .val (.int ng), .val (.int mg), .val (.int a0_), .val (.int b0_), .val (.int a1_), .val (.int b1_), .val (.int a2_), .val (.int b2_), .val (.ref xf), .val (.ref xs), .unset] [(.int (1 : Int32))]) fun _ _ X _ k => XS.iload X.here hx rfl (hb hby dl1_147) rfl k
    have A111 := A110.go (f' := mkF m 150 #[.val (.int p1), .val (.long q2), .second, .val (.long q3), .second, .val (.long q4), .second, .val (.int (1 : Int32)), .val (.int ng), .val (.int mg), .val (.int a0_), .val (.int b0_), .val (.int a1_), .val (.int b1_), .val (.int a2_), .val (.int b2_), .val (.ref xf), .val (.ref xs), .unset] [(.int (2 : Int32)), (.int (1 : Int32))]) fun _ _ X _ k => XS.iconst X.here hx rfl (hb hby dl1_149) k
    have q112 : ((1 : Int32) < (2 : Int32)) := by decide
    have A113 := A111.go (f' := mkF m 171 #[.val (.int p1), .val (.long q2), .second, .val (.long q3), .second, .val (.long q4), .second, .val (.int (1 : Int32)), .val (.int ng), .val (.int mg), .val (.int a0_), .val (.int b0_), .val (.int a1_), .val (.int b1_), .val (.int a2_), .val (.int b2_), .val (.ref xf), .val (.ref xs), .unset] []) fun _ _ X _ k => XS.icmpYes X.here hx rfl (pc0 := 150) (pc' := 171) rfl (hb hby dl1_150) rfl ((tlt q112).1) (by decide) (by decide) k
    have A114 := A113.go (f' := mkF m 173 #[.val (.int p1), .val (.long q2), .second, .val (.long q3), .second, .val (.long q4), .second, .val (.int (1 : Int32)), .val (.int ng), .val (.int mg), .val (.int a0_), .val (.int b0_), .val (.int a1_), .val (.int b1_), .val (.int a2_), .val (.int b2_), .val (.ref xf), .val (.ref xs), .unset] [(.int (1 : Int32))]) fun _ _ X _ k => XS.iload X.here hx rfl (hb hby dl1_171) rfl k
    have A115 := A114.go (f' := mkF m 174 #[.val (.int p1), .val (.long q2), .second, .val (.long q3), .second, .val (.long q4), .second, .val (.int (1 : Int32)), .val (.int ng), .val (.int mg), .val (.int a0_), .val (.int b0_), .val (.int a1_), .val (.int b1_), .val (.int a2_), .val (.int b2_), .val (.ref xf), .val (.ref xs), .unset] [(.int (3 : Int32)), (.int (1 : Int32))]) fun _ _ X _ k => XS.iconst X.here hx rfl (hb hby dl1_173) k
    have q116 : ((1 : Int32) < (3 : Int32)) := by decide
    have A117 := A115.go (f' := mkF m 195 #[.val (.int p1), .val (.long q2), .second, .val (.long q3), .second, .val (.long q4), .second, .val (.int (1 : Int32)), .val (.int ng), .val (.int mg), .val (.int a0_), .val (.int b0_), .val (.int a1_), .val (.int b1_), .val (.int a2_), .val (.int b2_), .val (.ref xf), .val (.ref xs), .unset] []) fun _ _ X _ k => XS.icmpYes X.here hx rfl (pc0 := 174) (pc' := 195) rfl (hb hby dl1_174) rfl ((tlt q116).1) (by decide) (by decide) k
    have A118 := A117.go (f' := mkF m 196 #[.val (.int p1), .val (.long q2), .second, .val (.long q3), .second, .val (.long q4), .second, .val (.int (1 : Int32)), .val (.int ng), .val (.int mg), .val (.int a0_), .val (.int b0_), .val (.int a1_), .val (.int b1_), .val (.int a2_), .val (.int b2_), .val (.ref xf), .val (.ref xs), .unset] [(.int (1 : Int32))]) fun _ _ X _ k => XS.iconst X.here hx rfl (hb hby dl1_195) k
    have A119 := A118.go (f' := mkF m 200 #[.val (.int p1), .val (.long q2), .second, .val (.long q3), .second, .val (.long q4), .second, .val (.int (1 : Int32)), .val (.int ng), .val (.int mg), .val (.int a0_), .val (.int b0_), .val (.int a1_), .val (.int b1_), .val (.int a2_), .val (.int b2_), .val (.ref xf), .val (.ref xs), .unset] [(.int (1 : Int32))]) fun _ _ X _ k => XS.goto X.here hx rfl (pc0 := 196) (pc' := 200) rfl (hb hby dl1_196) (by decide) (by decide) k
    have A120 := A119.go (f' := mkF m 202 #[.val (.int p1), .val (.long q2), .second, .val (.long q3), .second, .val (.long q4), .second, .val (.int (1 : Int32)), .val (.int ng), .val (.int mg), .val (.int a0_), .val (.int b0_), .val (.int a1_), .val (.int b1_), .val (.int a2_), .val (.int b2_), .val (.ref xf), .val (.ref xs), .val (.int (1 : Int32))] []) fun _ _ X _ k => XS.istore X.here hx rfl (hb hby dl1_200) rfl (l' := #[.val (.int p1), .val (.long q2), .second, .val (.long q3), .second, .val (.long q4), .second, .val (.int (1 : Int32)), .val (.int ng), .val (.int mg), .val (.int a0_), .val (.int b0_), .val (.int a1_), .val (.int b1_), .val (.int a2_), .val (.int b2_), .val (.ref xf), .val (.ref xs), .val (.int (1 : Int32))]) rfl k
    have A121 := A120.go (f' := mkF m 204 #[.val (.int p1), .val (.long q2), .second, .val (.long q3), .second, .val (.long q4), .second, .val (.int (1 : Int32)), .val (.int ng), .val (.int mg), .val (.int a0_), .val (.int b0_), .val (.int a1_), .val (.int b1_), .val (.int a2_), .val (.int b2_), .val (.ref xf), .val (.ref xs), .val (.int (1 : Int32))] [(.ref xf)]) fun _ _ X _ k => XS.aload X.here hx rfl (hb hby dl1_202) rfl rfl k
    have A122 := A121.go (f' := mkF m 206 #[.val (.int p1), .val (.long q2), .second, .val (.long q3), .second, .val (.long q4), .second, .val (.int (1 : Int32)), .val (.int ng), .val (.int mg), .val (.int a0_), .val (.int b0_), .val (.int a1_), .val (.int b1_), .val (.int a2_), .val (.int b2_), .val (.ref xf), .val (.ref xs), .val (.int (1 : Int32))] [(.ref xs), (.ref xf)]) fun _ _ X _ k => XS.aload X.here hx rfl (hb hby dl1_204) rfl rfl k
    obtain ⟨vA123, hA123, ⟨rfl, rfl⟩, A123⟩ := A122.callS (own_wd1 l Z a0 hw xf xs (1 : Int32) (own_dv a0_ ng) (own_dv b0_ mg) hA80 n0 Z0 V_xf V_xs (by simp [own_wd, own_cmp, q96])) hx hZ hown (hb hby dl1_206) (hw _ (List.mem_of_getElem? (i := 8) rfl)) (hw _ (List.mem_of_getElem? (i := 9) rfl)) (hw _ (List.mem_of_getElem? (i := 10) rfl)) (hw _ (List.mem_of_getElem? (i := 11) rfl)) ⟨by decide, by decide⟩ (lenOf pd__28_5bD_5bD_29Z rfl) (argsL := [(.ref xf), (.ref xs)]) (rest := []) rfl rfl (by rw [hml]; rfl) (W := 0) (Nat.le_of_eq rfl) (by decide) (by decide) (by decide) (by decide)
    have A124 : own_R p l e _ _ m _ below meth c S0 n0 hA80 2 6 (mkF m 209 #[.val (.int p1), .val (.long q2), .second, .val (.long q3), .second, .val (.long q4), .second, .val (.int (1 : Int32)), .val (.int ng), .val (.int mg), .val (.int a0_), .val (.int b0_), .val (.int a1_), .val (.int b1_), .val (.int a2_), .val (.int b2_), .val (.ref xf), .val (.ref xs), .val (.int (1 : Int32))] [(.int (1 : Int32))]) := A123
    have A125 := A124.go (f' := mkF m 211 #[.val (.int p1), .val (.long q2), .second, .val (.long q3), .second, .val (.long q4), .second, .val (.int (1 : Int32)), .val (.int ng), .val (.int mg), .val (.int a0_), .val (.int b0_), .val (.int a1_), .val (.int b1_), .val (.int a2_), .val (.int b2_), .val (.ref xf), .val (.ref xs), .val (.int (1 : Int32))] [(.int (1 : Int32)), (.int (1 : Int32))]) fun _ _ X _ k => XS.iload X.here hx rfl (hb hby dl1_209) rfl k
    have q126 : ((1 : Int32) = (1 : Int32)) := by decide
    have A127 := A125.go (f' := mkF m 214 #[.val (.int p1), .val (.long q2), .second, .val (.long q3), .second, .val (.long q4), .second, .val (.int (1 : Int32)), .val (.int ng), .val (.int mg), .val (.int a0_), .val (.int b0_), .val (.int a1_), .val (.int b1_), .val (.int a2_), .val (.int b2_), .val (.ref xf), .val (.ref xs), .val (.int (1 : Int32))] []) fun _ _ X _ k => XS.icmpNo X.here hx rfl (hb hby dl1_211) rfl ((teq q126).2) k
    have A128 := A127.go (f' := mkF m 215 #[.val (.int p1), .val (.long q2), .second, .val (.long q3), .second, .val (.long q4), .second, .val (.int (1 : Int32)), .val (.int ng), .val (.int mg), .val (.int a0_), .val (.int b0_), .val (.int a1_), .val (.int b1_), .val (.int a2_), .val (.int b2_), .val (.ref xf), .val (.ref xs), .val (.int (1 : Int32))] [(.int (1 : Int32))]) fun _ _ X _ k => XS.iconst X.here hx rfl (hb hby dl1_214) k
    have A129 := A128.go (f' := mkF m 219 #[.val (.int p1), .val (.long q2), .second, .val (.long q3), .second, .val (.long q4), .second, .val (.int (1 : Int32)), .val (.int ng), .val (.int mg), .val (.int a0_), .val (.int b0_), .val (.int a1_), .val (.int b1_), .val (.int a2_), .val (.int b2_), .val (.ref xf), .val (.ref xs), .val (.int (1 : Int32))] [(.int (1 : Int32))]) fun _ _ X _ k => XS.goto X.here hx rfl (pc0 := 215) (pc' := 219) rfl (hb hby dl1_215) (by decide) (by decide) k
    exact A129.ret hx hlk hret (hb hby dl1_219) rfl (Or.inl ⟨rfl, by simp, _, rfl⟩) (by decide) (by decide) ⟨rfl, trivial⟩
theorem dl2_0 : decode code 0 = .ok (.iload_n 0, 1) := at_0
theorem dl2_1 : decode code 1 = .ok (.iconst 3, 1) := at_1
theorem dl2_2 : decode code 2 = .ok (.iand, 1) := at_2
theorem dl2_3 : decode code 3 = .ok (.istore 7, 2) := at_3
theorem dl2_5 : decode code 5 = .ok (.iload_n 0, 1) := at_5
theorem dl2_6 : decode code 6 = .ok (.iconst 4, 1) := at_6
theorem dl2_7 : decode code 7 = .ok (.iand, 1) := at_7
theorem dl2_8 : decode code 8 = .ok (.ifCond .eq 7, 3) := at_8
theorem dl2_11 : decode code 11 = .ok (.iconst 1, 1) := at_11
theorem dl2_12 : decode code 12 = .ok (.goto 4, 3) := at_12
theorem dl2_15 : decode code 15 = .ok (.iconst 0, 1) := at_15
theorem dl2_16 : decode code 16 = .ok (.istore 8, 2) := at_16
theorem dl2_18 : decode code 18 = .ok (.iload_n 0, 1) := at_18
theorem dl2_19 : decode code 19 = .ok (.bipush 8, 2) := at_19
theorem dl2_21 : decode code 21 = .ok (.iand, 1) := at_21
theorem dl2_22 : decode code 22 = .ok (.ifCond .eq 7, 3) := at_22
theorem dl2_25 : decode code 25 = .ok (.iconst 1, 1) := at_25
theorem dl2_26 : decode code 26 = .ok (.goto 4, 3) := at_26
theorem dl2_29 : decode code 29 = .ok (.iconst 0, 1) := at_29
theorem dl2_30 : decode code 30 = .ok (.istore 9, 2) := at_30
theorem dl2_32 : decode code 32 = .ok (.lload_n 1, 1) := at_32
theorem dl2_33 : decode code 33 = .ok (.l2i, 1) := at_33
theorem dl2_34 : decode code 34 = .ok (.istore 10, 2) := at_34
theorem dl2_36 : decode code 36 = .ok (.lload_n 1, 1) := at_36
theorem dl2_37 : decode code 37 = .ok (.bipush 32, 2) := at_37
theorem dl2_39 : decode code 39 = .ok (.lushr, 1) := at_39
theorem dl2_40 : decode code 40 = .ok (.l2i, 1) := at_40
theorem dl2_41 : decode code 41 = .ok (.istore 11, 2) := at_41
theorem dl2_43 : decode code 43 = .ok (.lload_n 3, 1) := at_43
theorem dl2_44 : decode code 44 = .ok (.l2i, 1) := at_44
theorem dl2_45 : decode code 45 = .ok (.istore 12, 2) := at_45
theorem dl2_47 : decode code 47 = .ok (.lload_n 3, 1) := at_47
theorem dl2_48 : decode code 48 = .ok (.bipush 32, 2) := at_48
theorem dl2_50 : decode code 50 = .ok (.lushr, 1) := at_50
theorem dl2_51 : decode code 51 = .ok (.l2i, 1) := at_51
theorem dl2_52 : decode code 52 = .ok (.istore 13, 2) := at_52
theorem dl2_54 : decode code 54 = .ok (.lload 5, 2) := at_54
theorem dl2_56 : decode code 56 = .ok (.l2i, 1) := at_56
theorem dl2_57 : decode code 57 = .ok (.istore 14, 2) := at_57
theorem dl2_59 : decode code 59 = .ok (.lload 5, 2) := at_59
theorem dl2_61 : decode code 61 = .ok (.bipush 32, 2) := at_61
theorem dl2_63 : decode code 63 = .ok (.lushr, 1) := at_63
theorem dl2_64 : decode code 64 = .ok (.l2i, 1) := at_64
theorem dl2_65 : decode code 65 = .ok (.istore 15, 2) := at_65
theorem dl2_67 : decode code 67 = .ok (.iload 7, 2) := at_67
theorem dl2_69 : decode code 69 = .ok (.iload 10, 2) := at_69
theorem dl2_71 : decode code 71 = .ok (.iload 8, 2) := at_71
theorem dl2_73 : decode code 73 = .ok (.invokestatic 7, 3) := at_73
theorem dl2_76 : decode code 76 = .ok (.iload 12, 2) := at_76
theorem dl2_78 : decode code 78 = .ok (.iload 8, 2) := at_78
theorem dl2_80 : decode code 80 = .ok (.invokestatic 7, 3) := at_80
theorem dl2_83 : decode code 83 = .ok (.iload 14, 2) := at_83
theorem dl2_85 : decode code 85 = .ok (.iload 8, 2) := at_85
theorem dl2_87 : decode code 87 = .ok (.invokestatic 7, 3) := at_87
theorem dl2_90 : decode code 90 = .ok (.invokestatic 13, 3) := at_90
theorem dl2_93 : decode code 93 = .ok (.astore 16, 2) := at_93
theorem dl2_95 : decode code 95 = .ok (.iload 7, 2) := at_95
theorem dl2_97 : decode code 97 = .ok (.iload 11, 2) := at_97
theorem dl2_99 : decode code 99 = .ok (.iload 9, 2) := at_99
theorem dl2_101 : decode code 101 = .ok (.invokestatic 7, 3) := at_101
theorem dl2_104 : decode code 104 = .ok (.iload 13, 2) := at_104
theorem dl2_106 : decode code 106 = .ok (.iload 9, 2) := at_106
theorem dl2_108 : decode code 108 = .ok (.invokestatic 7, 3) := at_108
theorem dl2_111 : decode code 111 = .ok (.iload 15, 2) := at_111
theorem dl2_113 : decode code 113 = .ok (.iload 9, 2) := at_113
theorem dl2_115 : decode code 115 = .ok (.invokestatic 7, 3) := at_115
theorem dl2_118 : decode code 118 = .ok (.invokestatic 13, 3) := at_118
theorem dl2_121 : decode code 121 = .ok (.astore 17, 2) := at_121
theorem dl2_123 : decode code 123 = .ok (.iload 7, 2) := at_123
theorem dl2_125 : decode code 125 = .ok (.iconst 1, 1) := at_125
theorem dl2_126 : decode code 126 = .ok (.if_icmp .lt 21, 3) := at_126
theorem dl2_129 : decode code 129 = .ok (.iload 10, 2) := at_129
theorem dl2_131 : decode code 131 = .ok (.iload 8, 2) := at_131
theorem dl2_133 : decode code 133 = .ok (.invokestatic 17, 3) := at_133
theorem dl2_136 : decode code 136 = .ok (.iload 11, 2) := at_136
theorem dl2_138 : decode code 138 = .ok (.iload 9, 2) := at_138
theorem dl2_140 : decode code 140 = .ok (.invokestatic 17, 3) := at_140
theorem dl2_143 : decode code 143 = .ok (.lcmp, 1) := at_143
theorem dl2_144 : decode code 144 = .ok (.ifCond .lt 55, 3) := at_144
theorem dl2_147 : decode code 147 = .ok (.iload 7, 2) := at_147
theorem dl2_149 : decode code 149 = .ok (.iconst 2, 1) := at_149
theorem dl2_150 : decode code 150 = .ok (.if_icmp .lt 21, 3) := at_150
theorem dl2_153 : decode code 153 = .ok (.iload 12, 2) := at_153
theorem dl2_155 : decode code 155 = .ok (.iload 8, 2) := at_155
theorem dl2_157 : decode code 157 = .ok (.invokestatic 17, 3) := at_157
theorem dl2_160 : decode code 160 = .ok (.iload 13, 2) := at_160
theorem dl2_162 : decode code 162 = .ok (.iload 9, 2) := at_162
theorem dl2_164 : decode code 164 = .ok (.invokestatic 17, 3) := at_164
theorem dl2_167 : decode code 167 = .ok (.lcmp, 1) := at_167
theorem dl2_168 : decode code 168 = .ok (.ifCond .lt 31, 3) := at_168
theorem dl2_171 : decode code 171 = .ok (.iload 7, 2) := at_171
theorem dl2_173 : decode code 173 = .ok (.iconst 3, 1) := at_173
theorem dl2_174 : decode code 174 = .ok (.if_icmp .lt 21, 3) := at_174
theorem dl2_195 : decode code 195 = .ok (.iconst 1, 1) := at_195
theorem dl2_196 : decode code 196 = .ok (.goto 4, 3) := at_196
theorem dl2_199 : decode code 199 = .ok (.iconst 0, 1) := at_199
theorem dl2_200 : decode code 200 = .ok (.istore 18, 2) := at_200
theorem dl2_202 : decode code 202 = .ok (.aload 16, 2) := at_202
theorem dl2_204 : decode code 204 = .ok (.aload 17, 2) := at_204
theorem dl2_206 : decode code 206 = .ok (.invokestatic 21, 3) := at_206
theorem dl2_209 : decode code 209 = .ok (.iload 18, 2) := at_209
theorem dl2_211 : decode code 211 = .ok (.if_icmp .ne 7, 3) := at_211
theorem dl2_214 : decode code 214 = .ok (.iconst 1, 1) := at_214
theorem dl2_215 : decode code 215 = .ok (.goto 4, 3) := at_215
theorem dl2_219 : decode code 219 = .ok (.ireturn, 1) := at_219
theorem efl2 (m : MethodId) (p1 : Int32) (q2 : Int64) (q3 : Int64) (q4 : Int64) : entryFrame m #[(.int p1), (.long q2), (.long q3), (.long q4)] maxLocals = mkF m 0 #[.val (.int p1), .val (.long q2), .second, .val (.long q3), .second, .val (.long q4), .second, .unset, .unset, .unset, .unset, .unset, .unset, .unset, .unset, .unset, .unset, .unset, .unset] [] := by first | (simp [entryFrame, mkF, argsToLocals, Value.category, maxLocals]; done) | rfl
set_option maxRecDepth 65536 in
set_option maxHeartbeats 40000000 in
theorem own_law2 (l : Launch) (Z : State) (a0 : Array Value) (hw : ∀ d ∈ tables_1, d.before a0 Z = true) (p1 : Int32) (q2 q3 q4 : Int64) (h0 : Heap) (n0 : Nat) (Z0 : n0 ≤ h0.size) (hn : (p1 &&& (3 : Int32)) = (2 : Int32)) :
    own_M l Z x code maxLocals ret tables_1 room_1 #[(.int p1), (.long q2), (.long q3), (.long q4)] h0 n0 (fun v h => v = some (.int 1) ∧ True) := by
  refine own_M.of (plainFor_of_name (by first | (simp [plainName, overriddenIn]; done) | decide +kernel)) ?_
  intro p e s m below meth c S0 hx hby hml hown hnm hret hlk hZ A00
  have A0 := A00.cast (efl2 m p1 q2 q3 q4)
  have A1 := A0.go (f' := mkF m 1 #[.val (.int p1), .val (.long q2), .second, .val (.long q3), .second, .val (.long q4), .second, .unset, .unset, .unset, .unset, .unset, .unset, .unset, .unset, .unset, .unset, .unset, .unset] [(.int p1)]) fun _ _ X _ k => XS.iloadN X.here hx rfl (hb hby dl2_0) rfl k
  have A2 := A1.go (f' := mkF m 2 #[.val (.int p1), .val (.long q2), .second, .val (.long q3), .second, .val (.long q4), .second, .unset, .unset, .unset, .unset, .unset, .unset, .unset, .unset, .unset, .unset, .unset, .unset] [(.int (3 : Int32)), (.int p1)]) fun _ _ X _ k => XS.iconst X.here hx rfl (hb hby dl2_1) k
  have A3 := A2.go (f' := mkF m 3 #[.val (.int p1), .val (.long q2), .second, .val (.long q3), .second, .val (.long q4), .second, .unset, .unset, .unset, .unset, .unset, .unset, .unset, .unset, .unset, .unset, .unset, .unset] [(.int (p1 &&& (3 : Int32)))]) fun _ _ X _ k => XS.iand X.here hx rfl (hb hby dl2_2) rfl k
  rw [hn] at A3
  have A4 := A3.go (f' := mkF m 5 #[.val (.int p1), .val (.long q2), .second, .val (.long q3), .second, .val (.long q4), .second, .val (.int (2 : Int32)), .unset, .unset, .unset, .unset, .unset, .unset, .unset, .unset, .unset, .unset, .unset] []) fun _ _ X _ k => XS.istore X.here hx rfl (hb hby dl2_3) rfl (l' := #[.val (.int p1), .val (.long q2), .second, .val (.long q3), .second, .val (.long q4), .second, .val (.int (2 : Int32)), .unset, .unset, .unset, .unset, .unset, .unset, .unset, .unset, .unset, .unset, .unset]) rfl k
  have A5 := A4.go (f' := mkF m 6 #[.val (.int p1), .val (.long q2), .second, .val (.long q3), .second, .val (.long q4), .second, .val (.int (2 : Int32)), .unset, .unset, .unset, .unset, .unset, .unset, .unset, .unset, .unset, .unset, .unset] [(.int p1)]) fun _ _ X _ k => XS.iloadN X.here hx rfl (hb hby dl2_5) rfl k
  have A6 := A5.go (f' := mkF m 7 #[.val (.int p1), .val (.long q2), .second, .val (.long q3), .second, .val (.long q4), .second, .val (.int (2 : Int32)), .unset, .unset, .unset, .unset, .unset, .unset, .unset, .unset, .unset, .unset, .unset] [(.int (4 : Int32)), (.int p1)]) fun _ _ X _ k => XS.iconst X.here hx rfl (hb hby dl2_6) k
  have A7 := A6.go (f' := mkF m 8 #[.val (.int p1), .val (.long q2), .second, .val (.long q3), .second, .val (.long q4), .second, .val (.int (2 : Int32)), .unset, .unset, .unset, .unset, .unset, .unset, .unset, .unset, .unset, .unset, .unset] [(.int (p1 &&& (4 : Int32)))]) fun _ _ X _ k => XS.iand X.here hx rfl (hb hby dl2_7) rfl k
  have A9 : own_R p l e room_1 s m #[(.int p1), (.long q2), (.long q3), (.long q4)] below meth c S0 n0 h0 0 0 (mkF m 16 #[.val (.int p1), .val (.long q2), .second, .val (.long q3), .second, .val (.long q4), .second, .val (.int (2 : Int32)), .unset, .unset, .unset, .unset, .unset, .unset, .unset, .unset, .unset, .unset, .unset] [(.int (if (p1 &&& (4 : Int32)) = (0 : Int32) then (0 : Int32) else (1 : Int32)))]) := by
    by_cases q8 : (p1 &&& (4 : Int32)) = (0 : Int32)
    · skip
      have A10 := A7.go (f' := mkF m 15 #[.val (.int p1), .val (.long q2), .second, .val (.long q3), .second, .val (.long q4), .second, .val (.int (2 : Int32)), .unset, .unset, .unset, .unset, .unset, .unset, .unset, .unset, .unset, .unset, .unset] []) fun _ _ X _ k => XS.ifYes X.here hx rfl (pc0 := 8) (pc' := 15) rfl (hb hby dl2_8) rfl ((if0 _ _).trans (teq q8).1) (by decide) (by decide) k
      have A11 := A10.go (f' := mkF m 16 #[.val (.int p1), .val (.long q2), .second, .val (.long q3), .second, .val (.long q4), .second, .val (.int (2 : Int32)), .unset, .unset, .unset, .unset, .unset, .unset, .unset, .unset, .unset, .unset, .unset] [(.int (0 : Int32))]) fun _ _ X _ k => XS.iconst X.here hx rfl (hb hby dl2_15) k
      simp only [if_pos q8]
      exact A11
    · skip
      have A12 := A7.go (f' := mkF m 11 #[.val (.int p1), .val (.long q2), .second, .val (.long q3), .second, .val (.long q4), .second, .val (.int (2 : Int32)), .unset, .unset, .unset, .unset, .unset, .unset, .unset, .unset, .unset, .unset, .unset] []) fun _ _ X _ k => XS.ifNo X.here hx rfl (hb hby dl2_8) rfl ((if0 _ _).trans (feq q8).1) k
      have A13 := A12.go (f' := mkF m 12 #[.val (.int p1), .val (.long q2), .second, .val (.long q3), .second, .val (.long q4), .second, .val (.int (2 : Int32)), .unset, .unset, .unset, .unset, .unset, .unset, .unset, .unset, .unset, .unset, .unset] [(.int (1 : Int32))]) fun _ _ X _ k => XS.iconst X.here hx rfl (hb hby dl2_11) k
      have A14 := A13.go (f' := mkF m 16 #[.val (.int p1), .val (.long q2), .second, .val (.long q3), .second, .val (.long q4), .second, .val (.int (2 : Int32)), .unset, .unset, .unset, .unset, .unset, .unset, .unset, .unset, .unset, .unset, .unset] [(.int (1 : Int32))]) fun _ _ X _ k => XS.goto X.here hx rfl (pc0 := 12) (pc' := 16) rfl (hb hby dl2_12) (by decide) (by decide) k
      simp only [if_neg q8]
      exact A14
  obtain ⟨ng, hng⟩ : ∃ zq_, zq_ = (if (p1 &&& (4 : Int32)) = (0 : Int32) then (0 : Int32) else (1 : Int32)) := ⟨_, rfl⟩
  rw [← hng] at A9
  have A15 := A9.go (f' := mkF m 18 #[.val (.int p1), .val (.long q2), .second, .val (.long q3), .second, .val (.long q4), .second, .val (.int (2 : Int32)), .val (.int ng), .unset, .unset, .unset, .unset, .unset, .unset, .unset, .unset, .unset, .unset] []) fun _ _ X _ k => XS.istore X.here hx rfl (hb hby dl2_16) rfl (l' := #[.val (.int p1), .val (.long q2), .second, .val (.long q3), .second, .val (.long q4), .second, .val (.int (2 : Int32)), .val (.int ng), .unset, .unset, .unset, .unset, .unset, .unset, .unset, .unset, .unset, .unset]) rfl k
  have A16 := A15.go (f' := mkF m 19 #[.val (.int p1), .val (.long q2), .second, .val (.long q3), .second, .val (.long q4), .second, .val (.int (2 : Int32)), .val (.int ng), .unset, .unset, .unset, .unset, .unset, .unset, .unset, .unset, .unset, .unset] [(.int p1)]) fun _ _ X _ k => XS.iloadN X.here hx rfl (hb hby dl2_18) rfl k
  have A17 := A16.go (f' := mkF m 21 #[.val (.int p1), .val (.long q2), .second, .val (.long q3), .second, .val (.long q4), .second, .val (.int (2 : Int32)), .val (.int ng), .unset, .unset, .unset, .unset, .unset, .unset, .unset, .unset, .unset, .unset] [(.int (8 : Int32)), (.int p1)]) fun _ _ X _ k => XS.bipush X.here hx rfl (hb hby dl2_19) k
  have A18 := A17.go (f' := mkF m 22 #[.val (.int p1), .val (.long q2), .second, .val (.long q3), .second, .val (.long q4), .second, .val (.int (2 : Int32)), .val (.int ng), .unset, .unset, .unset, .unset, .unset, .unset, .unset, .unset, .unset, .unset] [(.int (p1 &&& (8 : Int32)))]) fun _ _ X _ k => XS.iand X.here hx rfl (hb hby dl2_21) rfl k
  have A20 : own_R p l e room_1 s m #[(.int p1), (.long q2), (.long q3), (.long q4)] below meth c S0 n0 h0 0 0 (mkF m 30 #[.val (.int p1), .val (.long q2), .second, .val (.long q3), .second, .val (.long q4), .second, .val (.int (2 : Int32)), .val (.int ng), .unset, .unset, .unset, .unset, .unset, .unset, .unset, .unset, .unset, .unset] [(.int (if (p1 &&& (8 : Int32)) = (0 : Int32) then (0 : Int32) else (1 : Int32)))]) := by
    by_cases q19 : (p1 &&& (8 : Int32)) = (0 : Int32)
    · skip
      have A21 := A18.go (f' := mkF m 29 #[.val (.int p1), .val (.long q2), .second, .val (.long q3), .second, .val (.long q4), .second, .val (.int (2 : Int32)), .val (.int ng), .unset, .unset, .unset, .unset, .unset, .unset, .unset, .unset, .unset, .unset] []) fun _ _ X _ k => XS.ifYes X.here hx rfl (pc0 := 22) (pc' := 29) rfl (hb hby dl2_22) rfl ((if0 _ _).trans (teq q19).1) (by decide) (by decide) k
      have A22 := A21.go (f' := mkF m 30 #[.val (.int p1), .val (.long q2), .second, .val (.long q3), .second, .val (.long q4), .second, .val (.int (2 : Int32)), .val (.int ng), .unset, .unset, .unset, .unset, .unset, .unset, .unset, .unset, .unset, .unset] [(.int (0 : Int32))]) fun _ _ X _ k => XS.iconst X.here hx rfl (hb hby dl2_29) k
      simp only [if_pos q19]
      exact A22
    · skip
      have A23 := A18.go (f' := mkF m 25 #[.val (.int p1), .val (.long q2), .second, .val (.long q3), .second, .val (.long q4), .second, .val (.int (2 : Int32)), .val (.int ng), .unset, .unset, .unset, .unset, .unset, .unset, .unset, .unset, .unset, .unset] []) fun _ _ X _ k => XS.ifNo X.here hx rfl (hb hby dl2_22) rfl ((if0 _ _).trans (feq q19).1) k
      have A24 := A23.go (f' := mkF m 26 #[.val (.int p1), .val (.long q2), .second, .val (.long q3), .second, .val (.long q4), .second, .val (.int (2 : Int32)), .val (.int ng), .unset, .unset, .unset, .unset, .unset, .unset, .unset, .unset, .unset, .unset] [(.int (1 : Int32))]) fun _ _ X _ k => XS.iconst X.here hx rfl (hb hby dl2_25) k
      have A25 := A24.go (f' := mkF m 30 #[.val (.int p1), .val (.long q2), .second, .val (.long q3), .second, .val (.long q4), .second, .val (.int (2 : Int32)), .val (.int ng), .unset, .unset, .unset, .unset, .unset, .unset, .unset, .unset, .unset, .unset] [(.int (1 : Int32))]) fun _ _ X _ k => XS.goto X.here hx rfl (pc0 := 26) (pc' := 30) rfl (hb hby dl2_26) (by decide) (by decide) k
      simp only [if_neg q19]
      exact A25
  obtain ⟨mg, hmg⟩ : ∃ zq_, zq_ = (if (p1 &&& (8 : Int32)) = (0 : Int32) then (0 : Int32) else (1 : Int32)) := ⟨_, rfl⟩
  rw [← hmg] at A20
  have A26 := A20.go (f' := mkF m 32 #[.val (.int p1), .val (.long q2), .second, .val (.long q3), .second, .val (.long q4), .second, .val (.int (2 : Int32)), .val (.int ng), .val (.int mg), .unset, .unset, .unset, .unset, .unset, .unset, .unset, .unset, .unset] []) fun _ _ X _ k => XS.istore X.here hx rfl (hb hby dl2_30) rfl (l' := #[.val (.int p1), .val (.long q2), .second, .val (.long q3), .second, .val (.long q4), .second, .val (.int (2 : Int32)), .val (.int ng), .val (.int mg), .unset, .unset, .unset, .unset, .unset, .unset, .unset, .unset, .unset]) rfl k
  have A27 := A26.go (f' := mkF m 33 #[.val (.int p1), .val (.long q2), .second, .val (.long q3), .second, .val (.long q4), .second, .val (.int (2 : Int32)), .val (.int ng), .val (.int mg), .unset, .unset, .unset, .unset, .unset, .unset, .unset, .unset, .unset] [(.long q2)]) fun _ _ X _ k => XS.lloadN X.here hx rfl (hb hby dl2_32) rfl k
  have A28 := A27.go (f' := mkF m 34 #[.val (.int p1), .val (.long q2), .second, .val (.long q3), .second, .val (.long q4), .second, .val (.int (2 : Int32)), .val (.int ng), .val (.int mg), .unset, .unset, .unset, .unset, .unset, .unset, .unset, .unset, .unset] [(.int (q2.toInt32))]) fun _ _ X _ k => XS.l2i X.here hx rfl (hb hby dl2_33) rfl k
  obtain ⟨a0_, ha0_⟩ : ∃ zq_, zq_ = (q2.toInt32) := ⟨_, rfl⟩
  rw [← ha0_] at A28
  have A29 := A28.go (f' := mkF m 36 #[.val (.int p1), .val (.long q2), .second, .val (.long q3), .second, .val (.long q4), .second, .val (.int (2 : Int32)), .val (.int ng), .val (.int mg), .val (.int a0_), .unset, .unset, .unset, .unset, .unset, .unset, .unset, .unset] []) fun _ _ X _ k => XS.istore X.here hx rfl (hb hby dl2_34) rfl (l' := #[.val (.int p1), .val (.long q2), .second, .val (.long q3), .second, .val (.long q4), .second, .val (.int (2 : Int32)), .val (.int ng), .val (.int mg), .val (.int a0_), .unset, .unset, .unset, .unset, .unset, .unset, .unset, .unset]) rfl k
  have A30 := A29.go (f' := mkF m 37 #[.val (.int p1), .val (.long q2), .second, .val (.long q3), .second, .val (.long q4), .second, .val (.int (2 : Int32)), .val (.int ng), .val (.int mg), .val (.int a0_), .unset, .unset, .unset, .unset, .unset, .unset, .unset, .unset] [(.long q2)]) fun _ _ X _ k => XS.lloadN X.here hx rfl (hb hby dl2_36) rfl k
  have A31 := A30.go (f' := mkF m 39 #[.val (.int p1), .val (.long q2), .second, .val (.long q3), .second, .val (.long q4), .second, .val (.int (2 : Int32)), .val (.int ng), .val (.int mg), .val (.int a0_), .unset, .unset, .unset, .unset, .unset, .unset, .unset, .unset] [(.int (32 : Int32)), (.long q2)]) fun _ _ X _ k => XS.bipush X.here hx rfl (hb hby dl2_37) k
  have A32 := A31.go (f' := mkF m 40 #[.val (.int p1), .val (.long q2), .second, .val (.long q3), .second, .val (.long q4), .second, .val (.int (2 : Int32)), .val (.int ng), .val (.int mg), .val (.int a0_), .unset, .unset, .unset, .unset, .unset, .unset, .unset, .unset] [(.long ((q2.toUInt64 >>> ((32 : Int32) &&& 0x3f).toInt64.toUInt64).toInt64))]) fun _ _ X _ k => XS.lushr X.here hx rfl (hb hby dl2_39) rfl k
  have A33 := A32.go (f' := mkF m 41 #[.val (.int p1), .val (.long q2), .second, .val (.long q3), .second, .val (.long q4), .second, .val (.int (2 : Int32)), .val (.int ng), .val (.int mg), .val (.int a0_), .unset, .unset, .unset, .unset, .unset, .unset, .unset, .unset] [(.int (((q2.toUInt64 >>> ((32 : Int32) &&& 0x3f).toInt64.toUInt64).toInt64).toInt32))]) fun _ _ X _ k => XS.l2i X.here hx rfl (hb hby dl2_40) rfl k
  obtain ⟨b0_, hb0_⟩ : ∃ zq_, zq_ = (((q2.toUInt64 >>> ((32 : Int32) &&& 0x3f).toInt64.toUInt64).toInt64).toInt32) := ⟨_, rfl⟩
  rw [← hb0_] at A33
  have A34 := A33.go (f' := mkF m 43 #[.val (.int p1), .val (.long q2), .second, .val (.long q3), .second, .val (.long q4), .second, .val (.int (2 : Int32)), .val (.int ng), .val (.int mg), .val (.int a0_), .val (.int b0_), .unset, .unset, .unset, .unset, .unset, .unset, .unset] []) fun _ _ X _ k => XS.istore X.here hx rfl (hb hby dl2_41) rfl (l' := #[.val (.int p1), .val (.long q2), .second, .val (.long q3), .second, .val (.long q4), .second, .val (.int (2 : Int32)), .val (.int ng), .val (.int mg), .val (.int a0_), .val (.int b0_), .unset, .unset, .unset, .unset, .unset, .unset, .unset]) rfl k
  have A35 := A34.go (f' := mkF m 44 #[.val (.int p1), .val (.long q2), .second, .val (.long q3), .second, .val (.long q4), .second, .val (.int (2 : Int32)), .val (.int ng), .val (.int mg), .val (.int a0_), .val (.int b0_), .unset, .unset, .unset, .unset, .unset, .unset, .unset] [(.long q3)]) fun _ _ X _ k => XS.lloadN X.here hx rfl (hb hby dl2_43) rfl k
  have A36 := A35.go (f' := mkF m 45 #[.val (.int p1), .val (.long q2), .second, .val (.long q3), .second, .val (.long q4), .second, .val (.int (2 : Int32)), .val (.int ng), .val (.int mg), .val (.int a0_), .val (.int b0_), .unset, .unset, .unset, .unset, .unset, .unset, .unset] [(.int (q3.toInt32))]) fun _ _ X _ k => XS.l2i X.here hx rfl (hb hby dl2_44) rfl k
  obtain ⟨a1_, ha1_⟩ : ∃ zq_, zq_ = (q3.toInt32) := ⟨_, rfl⟩
  rw [← ha1_] at A36
  have A37 := A36.go (f' := mkF m 47 #[.val (.int p1), .val (.long q2), .second, .val (.long q3), .second, .val (.long q4), .second, .val (.int (2 : Int32)), .val (.int ng), .val (.int mg), .val (.int a0_), .val (.int b0_), .val (.int a1_), .unset, .unset, .unset, .unset, .unset, .unset] []) fun _ _ X _ k => XS.istore X.here hx rfl (hb hby dl2_45) rfl (l' := #[.val (.int p1), .val (.long q2), .second, .val (.long q3), .second, .val (.long q4), .second, .val (.int (2 : Int32)), .val (.int ng), .val (.int mg), .val (.int a0_), .val (.int b0_), .val (.int a1_), .unset, .unset, .unset, .unset, .unset, .unset]) rfl k
  have A38 := A37.go (f' := mkF m 48 #[.val (.int p1), .val (.long q2), .second, .val (.long q3), .second, .val (.long q4), .second, .val (.int (2 : Int32)), .val (.int ng), .val (.int mg), .val (.int a0_), .val (.int b0_), .val (.int a1_), .unset, .unset, .unset, .unset, .unset, .unset] [(.long q3)]) fun _ _ X _ k => XS.lloadN X.here hx rfl (hb hby dl2_47) rfl k
  have A39 := A38.go (f' := mkF m 50 #[.val (.int p1), .val (.long q2), .second, .val (.long q3), .second, .val (.long q4), .second, .val (.int (2 : Int32)), .val (.int ng), .val (.int mg), .val (.int a0_), .val (.int b0_), .val (.int a1_), .unset, .unset, .unset, .unset, .unset, .unset] [(.int (32 : Int32)), (.long q3)]) fun _ _ X _ k => XS.bipush X.here hx rfl (hb hby dl2_48) k
  have A40 := A39.go (f' := mkF m 51 #[.val (.int p1), .val (.long q2), .second, .val (.long q3), .second, .val (.long q4), .second, .val (.int (2 : Int32)), .val (.int ng), .val (.int mg), .val (.int a0_), .val (.int b0_), .val (.int a1_), .unset, .unset, .unset, .unset, .unset, .unset] [(.long ((q3.toUInt64 >>> ((32 : Int32) &&& 0x3f).toInt64.toUInt64).toInt64))]) fun _ _ X _ k => XS.lushr X.here hx rfl (hb hby dl2_50) rfl k
  have A41 := A40.go (f' := mkF m 52 #[.val (.int p1), .val (.long q2), .second, .val (.long q3), .second, .val (.long q4), .second, .val (.int (2 : Int32)), .val (.int ng), .val (.int mg), .val (.int a0_), .val (.int b0_), .val (.int a1_), .unset, .unset, .unset, .unset, .unset, .unset] [(.int (((q3.toUInt64 >>> ((32 : Int32) &&& 0x3f).toInt64.toUInt64).toInt64).toInt32))]) fun _ _ X _ k => XS.l2i X.here hx rfl (hb hby dl2_51) rfl k
  obtain ⟨b1_, hb1_⟩ : ∃ zq_, zq_ = (((q3.toUInt64 >>> ((32 : Int32) &&& 0x3f).toInt64.toUInt64).toInt64).toInt32) := ⟨_, rfl⟩
  rw [← hb1_] at A41
  have A42 := A41.go (f' := mkF m 54 #[.val (.int p1), .val (.long q2), .second, .val (.long q3), .second, .val (.long q4), .second, .val (.int (2 : Int32)), .val (.int ng), .val (.int mg), .val (.int a0_), .val (.int b0_), .val (.int a1_), .val (.int b1_), .unset, .unset, .unset, .unset, .unset] []) fun _ _ X _ k => XS.istore X.here hx rfl (hb hby dl2_52) rfl (l' := #[.val (.int p1), .val (.long q2), .second, .val (.long q3), .second, .val (.long q4), .second, .val (.int (2 : Int32)), .val (.int ng), .val (.int mg), .val (.int a0_), .val (.int b0_), .val (.int a1_), .val (.int b1_), .unset, .unset, .unset, .unset, .unset]) rfl k
  have A43 := A42.go (f' := mkF m 56 #[.val (.int p1), .val (.long q2), .second, .val (.long q3), .second, .val (.long q4), .second, .val (.int (2 : Int32)), .val (.int ng), .val (.int mg), .val (.int a0_), .val (.int b0_), .val (.int a1_), .val (.int b1_), .unset, .unset, .unset, .unset, .unset] [(.long q4)]) fun _ _ X _ k => XS.lload X.here hx rfl (hb hby dl2_54) rfl k
  have A44 := A43.go (f' := mkF m 57 #[.val (.int p1), .val (.long q2), .second, .val (.long q3), .second, .val (.long q4), .second, .val (.int (2 : Int32)), .val (.int ng), .val (.int mg), .val (.int a0_), .val (.int b0_), .val (.int a1_), .val (.int b1_), .unset, .unset, .unset, .unset, .unset] [(.int (q4.toInt32))]) fun _ _ X _ k => XS.l2i X.here hx rfl (hb hby dl2_56) rfl k
  obtain ⟨a2_, ha2_⟩ : ∃ zq_, zq_ = (q4.toInt32) := ⟨_, rfl⟩
  rw [← ha2_] at A44
  have A45 := A44.go (f' := mkF m 59 #[.val (.int p1), .val (.long q2), .second, .val (.long q3), .second, .val (.long q4), .second, .val (.int (2 : Int32)), .val (.int ng), .val (.int mg), .val (.int a0_), .val (.int b0_), .val (.int a1_), .val (.int b1_), .val (.int a2_), .unset, .unset, .unset, .unset] []) fun _ _ X _ k => XS.istore X.here hx rfl (hb hby dl2_57) rfl (l' := #[.val (.int p1), .val (.long q2), .second, .val (.long q3), .second, .val (.long q4), .second, .val (.int (2 : Int32)), .val (.int ng), .val (.int mg), .val (.int a0_), .val (.int b0_), .val (.int a1_), .val (.int b1_), .val (.int a2_), .unset, .unset, .unset, .unset]) rfl k
  have A46 := A45.go (f' := mkF m 61 #[.val (.int p1), .val (.long q2), .second, .val (.long q3), .second, .val (.long q4), .second, .val (.int (2 : Int32)), .val (.int ng), .val (.int mg), .val (.int a0_), .val (.int b0_), .val (.int a1_), .val (.int b1_), .val (.int a2_), .unset, .unset, .unset, .unset] [(.long q4)]) fun _ _ X _ k => XS.lload X.here hx rfl (hb hby dl2_59) rfl k
  have A47 := A46.go (f' := mkF m 63 #[.val (.int p1), .val (.long q2), .second, .val (.long q3), .second, .val (.long q4), .second, .val (.int (2 : Int32)), .val (.int ng), .val (.int mg), .val (.int a0_), .val (.int b0_), .val (.int a1_), .val (.int b1_), .val (.int a2_), .unset, .unset, .unset, .unset] [(.int (32 : Int32)), (.long q4)]) fun _ _ X _ k => XS.bipush X.here hx rfl (hb hby dl2_61) k
  have A48 := A47.go (f' := mkF m 64 #[.val (.int p1), .val (.long q2), .second, .val (.long q3), .second, .val (.long q4), .second, .val (.int (2 : Int32)), .val (.int ng), .val (.int mg), .val (.int a0_), .val (.int b0_), .val (.int a1_), .val (.int b1_), .val (.int a2_), .unset, .unset, .unset, .unset] [(.long ((q4.toUInt64 >>> ((32 : Int32) &&& 0x3f).toInt64.toUInt64).toInt64))]) fun _ _ X _ k => XS.lushr X.here hx rfl (hb hby dl2_63) rfl k
  have A49 := A48.go (f' := mkF m 65 #[.val (.int p1), .val (.long q2), .second, .val (.long q3), .second, .val (.long q4), .second, .val (.int (2 : Int32)), .val (.int ng), .val (.int mg), .val (.int a0_), .val (.int b0_), .val (.int a1_), .val (.int b1_), .val (.int a2_), .unset, .unset, .unset, .unset] [(.int (((q4.toUInt64 >>> ((32 : Int32) &&& 0x3f).toInt64.toUInt64).toInt64).toInt32))]) fun _ _ X _ k => XS.l2i X.here hx rfl (hb hby dl2_64) rfl k
  obtain ⟨b2_, hb2_⟩ : ∃ zq_, zq_ = (((q4.toUInt64 >>> ((32 : Int32) &&& 0x3f).toInt64.toUInt64).toInt64).toInt32) := ⟨_, rfl⟩
  rw [← hb2_] at A49
  have A50 := A49.go (f' := mkF m 67 #[.val (.int p1), .val (.long q2), .second, .val (.long q3), .second, .val (.long q4), .second, .val (.int (2 : Int32)), .val (.int ng), .val (.int mg), .val (.int a0_), .val (.int b0_), .val (.int a1_), .val (.int b1_), .val (.int a2_), .val (.int b2_), .unset, .unset, .unset] []) fun _ _ X _ k => XS.istore X.here hx rfl (hb hby dl2_65) rfl (l' := #[.val (.int p1), .val (.long q2), .second, .val (.long q3), .second, .val (.long q4), .second, .val (.int (2 : Int32)), .val (.int ng), .val (.int mg), .val (.int a0_), .val (.int b0_), .val (.int a1_), .val (.int b1_), .val (.int a2_), .val (.int b2_), .unset, .unset, .unset]) rfl k
  have A51 := A50.go (f' := mkF m 69 #[.val (.int p1), .val (.long q2), .second, .val (.long q3), .second, .val (.long q4), .second, .val (.int (2 : Int32)), .val (.int ng), .val (.int mg), .val (.int a0_), .val (.int b0_), .val (.int a1_), .val (.int b1_), .val (.int a2_), .val (.int b2_), .unset, .unset, .unset] [(.int (2 : Int32))]) fun _ _ X _ k => XS.iload X.here hx rfl (hb hby dl2_67) rfl k
  have A52 := A51.go (f' := mkF m 71 #[.val (.int p1), .val (.long q2), .second, .val (.long q3), .second, .val (.long q4), .second, .val (.int (2 : Int32)), .val (.int ng), .val (.int mg), .val (.int a0_), .val (.int b0_), .val (.int a1_), .val (.int b1_), .val (.int a2_), .val (.int b2_), .unset, .unset, .unset] [(.int a0_), (.int (2 : Int32))]) fun _ _ X _ k => XS.iload X.here hx rfl (hb hby dl2_69) rfl k
  have A53 := A52.go (f' := mkF m 73 #[.val (.int p1), .val (.long q2), .second, .val (.long q3), .second, .val (.long q4), .second, .val (.int (2 : Int32)), .val (.int ng), .val (.int mg), .val (.int a0_), .val (.int b0_), .val (.int a1_), .val (.int b1_), .val (.int a2_), .val (.int b2_), .unset, .unset, .unset] [(.int ng), (.int a0_), (.int (2 : Int32))]) fun _ _ X _ k => XS.iload X.here hx rfl (hb hby dl2_71) rfl k
  obtain ⟨vA54, hA54, ⟨rfl, rfl⟩, A54⟩ := A53.callS (own_dvM l Z a0 hw a0_ ng h0 n0 Z0) hx hZ hown (hb hby dl2_73) (hw _ (List.mem_of_getElem? (i := 0) rfl)) (hw _ (List.mem_of_getElem? (i := 1) rfl)) (hw _ (List.mem_of_getElem? (i := 2) rfl)) (hw _ (List.mem_of_getElem? (i := 3) rfl)) ⟨by decide, by decide⟩ (lenOf pd__28IZ_29D rfl) (argsL := [(.int a0_), (.int ng)]) (rest := [(.int (2 : Int32))]) rfl rfl (by rw [hml]; rfl) (W := 1) (Nat.le_of_eq rfl) (by decide) (by decide) (by decide) (by decide)
  have A55 : own_R p l e _ _ m _ below meth c S0 n0 h0 0 0 (mkF m 76 #[.val (.int p1), .val (.long q2), .second, .val (.long q3), .second, .val (.long q4), .second, .val (.int (2 : Int32)), .val (.int ng), .val (.int mg), .val (.int a0_), .val (.int b0_), .val (.int a1_), .val (.int b1_), .val (.int a2_), .val (.int b2_), .unset, .unset, .unset] [(.double (own_dv a0_ ng)), (.int (2 : Int32))]) := A54
  have A56 := A55.go (f' := mkF m 78 #[.val (.int p1), .val (.long q2), .second, .val (.long q3), .second, .val (.long q4), .second, .val (.int (2 : Int32)), .val (.int ng), .val (.int mg), .val (.int a0_), .val (.int b0_), .val (.int a1_), .val (.int b1_), .val (.int a2_), .val (.int b2_), .unset, .unset, .unset] [(.int a1_), (.double (own_dv a0_ ng)), (.int (2 : Int32))]) fun _ _ X _ k => XS.iload X.here hx rfl (hb hby dl2_76) rfl k
  have A57 := A56.go (f' := mkF m 80 #[.val (.int p1), .val (.long q2), .second, .val (.long q3), .second, .val (.long q4), .second, .val (.int (2 : Int32)), .val (.int ng), .val (.int mg), .val (.int a0_), .val (.int b0_), .val (.int a1_), .val (.int b1_), .val (.int a2_), .val (.int b2_), .unset, .unset, .unset] [(.int ng), (.int a1_), (.double (own_dv a0_ ng)), (.int (2 : Int32))]) fun _ _ X _ k => XS.iload X.here hx rfl (hb hby dl2_78) rfl k
  obtain ⟨vA58, hA58, ⟨rfl, rfl⟩, A58⟩ := A57.callS (own_dvM l Z a0 hw a1_ ng h0 n0 Z0) hx hZ hown (hb hby dl2_80) (hw _ (List.mem_of_getElem? (i := 0) rfl)) (hw _ (List.mem_of_getElem? (i := 1) rfl)) (hw _ (List.mem_of_getElem? (i := 2) rfl)) (hw _ (List.mem_of_getElem? (i := 3) rfl)) ⟨by decide, by decide⟩ (lenOf pd__28IZ_29D rfl) (argsL := [(.int a1_), (.int ng)]) (rest := [(.double (own_dv a0_ ng)), (.int (2 : Int32))]) rfl rfl (by rw [hml]; rfl) (W := 3) (Nat.le_of_eq rfl) (by decide) (by decide) (by decide) (by decide)
  have A59 : own_R p l e _ _ m _ below meth c S0 n0 h0 0 0 (mkF m 83 #[.val (.int p1), .val (.long q2), .second, .val (.long q3), .second, .val (.long q4), .second, .val (.int (2 : Int32)), .val (.int ng), .val (.int mg), .val (.int a0_), .val (.int b0_), .val (.int a1_), .val (.int b1_), .val (.int a2_), .val (.int b2_), .unset, .unset, .unset] [(.double (own_dv a1_ ng)), (.double (own_dv a0_ ng)), (.int (2 : Int32))]) := A58
  have A60 := A59.go (f' := mkF m 85 #[.val (.int p1), .val (.long q2), .second, .val (.long q3), .second, .val (.long q4), .second, .val (.int (2 : Int32)), .val (.int ng), .val (.int mg), .val (.int a0_), .val (.int b0_), .val (.int a1_), .val (.int b1_), .val (.int a2_), .val (.int b2_), .unset, .unset, .unset] [(.int a2_), (.double (own_dv a1_ ng)), (.double (own_dv a0_ ng)), (.int (2 : Int32))]) fun _ _ X _ k => XS.iload X.here hx rfl (hb hby dl2_83) rfl k
  have A61 := A60.go (f' := mkF m 87 #[.val (.int p1), .val (.long q2), .second, .val (.long q3), .second, .val (.long q4), .second, .val (.int (2 : Int32)), .val (.int ng), .val (.int mg), .val (.int a0_), .val (.int b0_), .val (.int a1_), .val (.int b1_), .val (.int a2_), .val (.int b2_), .unset, .unset, .unset] [(.int ng), (.int a2_), (.double (own_dv a1_ ng)), (.double (own_dv a0_ ng)), (.int (2 : Int32))]) fun _ _ X _ k => XS.iload X.here hx rfl (hb hby dl2_85) rfl k
  obtain ⟨vA62, hA62, ⟨rfl, rfl⟩, A62⟩ := A61.callS (own_dvM l Z a0 hw a2_ ng h0 n0 Z0) hx hZ hown (hb hby dl2_87) (hw _ (List.mem_of_getElem? (i := 0) rfl)) (hw _ (List.mem_of_getElem? (i := 1) rfl)) (hw _ (List.mem_of_getElem? (i := 2) rfl)) (hw _ (List.mem_of_getElem? (i := 3) rfl)) ⟨by decide, by decide⟩ (lenOf pd__28IZ_29D rfl) (argsL := [(.int a2_), (.int ng)]) (rest := [(.double (own_dv a1_ ng)), (.double (own_dv a0_ ng)), (.int (2 : Int32))]) rfl rfl (by rw [hml]; rfl) (W := 5) (Nat.le_of_eq rfl) (by decide) (by decide) (by decide) (by decide)
  have A63 : own_R p l e _ _ m _ below meth c S0 n0 h0 0 0 (mkF m 90 #[.val (.int p1), .val (.long q2), .second, .val (.long q3), .second, .val (.long q4), .second, .val (.int (2 : Int32)), .val (.int ng), .val (.int mg), .val (.int a0_), .val (.int b0_), .val (.int a1_), .val (.int b1_), .val (.int a2_), .val (.int b2_), .unset, .unset, .unset] [(.double (own_dv a2_ ng)), (.double (own_dv a1_ ng)), (.double (own_dv a0_ ng)), (.int (2 : Int32))]) := A62
  obtain ⟨vA64, hA64, ⟨xf, rfl, K_xf, s_xf, g_xf, V_xf⟩, A64⟩ := A63.callS (own_make2 l Z a0 hw (2 : Int32) (own_dv a0_ ng) (own_dv a1_ ng) (own_dv a2_ ng) h0 n0 Z0 rfl) hx hZ hown (hb hby dl2_90) (hw _ (List.mem_of_getElem? (i := 4) rfl)) (hw _ (List.mem_of_getElem? (i := 5) rfl)) (hw _ (List.mem_of_getElem? (i := 2) rfl)) (hw _ (List.mem_of_getElem? (i := 6) rfl)) ⟨by decide, by decide⟩ (lenOf pd__28IDDD_29_5bD rfl) (argsL := [(.int (2 : Int32)), (.double (own_dv a0_ ng)), (.double (own_dv a1_ ng)), (.double (own_dv a2_ ng))]) (rest := []) rfl rfl (by rw [hml]; rfl) (W := 0) (Nat.le_of_eq rfl) (by decide) (by decide) (by decide) (by decide)
  have Z0 : n0 ≤ hA64.size := Nat.le_trans Z0 K_xf.1
  have A65 : own_R p l e _ _ m _ below meth c S0 n0 hA64 1 3 (mkF m 93 #[.val (.int p1), .val (.long q2), .second, .val (.long q3), .second, .val (.long q4), .second, .val (.int (2 : Int32)), .val (.int ng), .val (.int mg), .val (.int a0_), .val (.int b0_), .val (.int a1_), .val (.int b1_), .val (.int a2_), .val (.int b2_), .unset, .unset, .unset] [(.ref xf)]) := A64
  have A66 := A65.go (f' := mkF m 95 #[.val (.int p1), .val (.long q2), .second, .val (.long q3), .second, .val (.long q4), .second, .val (.int (2 : Int32)), .val (.int ng), .val (.int mg), .val (.int a0_), .val (.int b0_), .val (.int a1_), .val (.int b1_), .val (.int a2_), .val (.int b2_), .val (.ref xf), .unset, .unset] []) fun _ _ X _ k => XS.astore X.here hx rfl (hb hby dl2_93) rfl rfl (l' := #[.val (.int p1), .val (.long q2), .second, .val (.long q3), .second, .val (.long q4), .second, .val (.int (2 : Int32)), .val (.int ng), .val (.int mg), .val (.int a0_), .val (.int b0_), .val (.int a1_), .val (.int b1_), .val (.int a2_), .val (.int b2_), .val (.ref xf), .unset, .unset]) rfl k
  have A67 := A66.go (f' := mkF m 97 #[.val (.int p1), .val (.long q2), .second, .val (.long q3), .second, .val (.long q4), .second, .val (.int (2 : Int32)), .val (.int ng), .val (.int mg), .val (.int a0_), .val (.int b0_), .val (.int a1_), .val (.int b1_), .val (.int a2_), .val (.int b2_), .val (.ref xf), .unset, .unset] [(.int (2 : Int32))]) fun _ _ X _ k => XS.iload X.here hx rfl (hb hby dl2_95) rfl k
  have A68 := A67.go (f' := mkF m 99 #[.val (.int p1), .val (.long q2), .second, .val (.long q3), .second, .val (.long q4), .second, .val (.int (2 : Int32)), .val (.int ng), .val (.int mg), .val (.int a0_), .val (.int b0_), .val (.int a1_), .val (.int b1_), .val (.int a2_), .val (.int b2_), .val (.ref xf), .unset, .unset] [(.int b0_), (.int (2 : Int32))]) fun _ _ X _ k => XS.iload X.here hx rfl (hb hby dl2_97) rfl k
  have A69 := A68.go (f' := mkF m 101 #[.val (.int p1), .val (.long q2), .second, .val (.long q3), .second, .val (.long q4), .second, .val (.int (2 : Int32)), .val (.int ng), .val (.int mg), .val (.int a0_), .val (.int b0_), .val (.int a1_), .val (.int b1_), .val (.int a2_), .val (.int b2_), .val (.ref xf), .unset, .unset] [(.int mg), (.int b0_), (.int (2 : Int32))]) fun _ _ X _ k => XS.iload X.here hx rfl (hb hby dl2_99) rfl k
  obtain ⟨vA70, hA70, ⟨rfl, rfl⟩, A70⟩ := A69.callS (own_dvM l Z a0 hw b0_ mg hA64 n0 Z0) hx hZ hown (hb hby dl2_101) (hw _ (List.mem_of_getElem? (i := 0) rfl)) (hw _ (List.mem_of_getElem? (i := 1) rfl)) (hw _ (List.mem_of_getElem? (i := 2) rfl)) (hw _ (List.mem_of_getElem? (i := 3) rfl)) ⟨by decide, by decide⟩ (lenOf pd__28IZ_29D rfl) (argsL := [(.int b0_), (.int mg)]) (rest := [(.int (2 : Int32))]) rfl rfl (by rw [hml]; rfl) (W := 1) (Nat.le_of_eq rfl) (by decide) (by decide) (by decide) (by decide)
  have A71 : own_R p l e _ _ m _ below meth c S0 n0 hA64 1 3 (mkF m 104 #[.val (.int p1), .val (.long q2), .second, .val (.long q3), .second, .val (.long q4), .second, .val (.int (2 : Int32)), .val (.int ng), .val (.int mg), .val (.int a0_), .val (.int b0_), .val (.int a1_), .val (.int b1_), .val (.int a2_), .val (.int b2_), .val (.ref xf), .unset, .unset] [(.double (own_dv b0_ mg)), (.int (2 : Int32))]) := A70
  have A72 := A71.go (f' := mkF m 106 #[.val (.int p1), .val (.long q2), .second, .val (.long q3), .second, .val (.long q4), .second, .val (.int (2 : Int32)), .val (.int ng), .val (.int mg), .val (.int a0_), .val (.int b0_), .val (.int a1_), .val (.int b1_), .val (.int a2_), .val (.int b2_), .val (.ref xf), .unset, .unset] [(.int b1_), (.double (own_dv b0_ mg)), (.int (2 : Int32))]) fun _ _ X _ k => XS.iload X.here hx rfl (hb hby dl2_104) rfl k
  have A73 := A72.go (f' := mkF m 108 #[.val (.int p1), .val (.long q2), .second, .val (.long q3), .second, .val (.long q4), .second, .val (.int (2 : Int32)), .val (.int ng), .val (.int mg), .val (.int a0_), .val (.int b0_), .val (.int a1_), .val (.int b1_), .val (.int a2_), .val (.int b2_), .val (.ref xf), .unset, .unset] [(.int mg), (.int b1_), (.double (own_dv b0_ mg)), (.int (2 : Int32))]) fun _ _ X _ k => XS.iload X.here hx rfl (hb hby dl2_106) rfl k
  obtain ⟨vA74, hA74, ⟨rfl, rfl⟩, A74⟩ := A73.callS (own_dvM l Z a0 hw b1_ mg hA64 n0 Z0) hx hZ hown (hb hby dl2_108) (hw _ (List.mem_of_getElem? (i := 0) rfl)) (hw _ (List.mem_of_getElem? (i := 1) rfl)) (hw _ (List.mem_of_getElem? (i := 2) rfl)) (hw _ (List.mem_of_getElem? (i := 3) rfl)) ⟨by decide, by decide⟩ (lenOf pd__28IZ_29D rfl) (argsL := [(.int b1_), (.int mg)]) (rest := [(.double (own_dv b0_ mg)), (.int (2 : Int32))]) rfl rfl (by rw [hml]; rfl) (W := 3) (Nat.le_of_eq rfl) (by decide) (by decide) (by decide) (by decide)
  have A75 : own_R p l e _ _ m _ below meth c S0 n0 hA64 1 3 (mkF m 111 #[.val (.int p1), .val (.long q2), .second, .val (.long q3), .second, .val (.long q4), .second, .val (.int (2 : Int32)), .val (.int ng), .val (.int mg), .val (.int a0_), .val (.int b0_), .val (.int a1_), .val (.int b1_), .val (.int a2_), .val (.int b2_), .val (.ref xf), .unset, .unset] [(.double (own_dv b1_ mg)), (.double (own_dv b0_ mg)), (.int (2 : Int32))]) := A74
  have A76 := A75.go (f' := mkF m 113 #[.val (.int p1), .val (.long q2), .second, .val (.long q3), .second, .val (.long q4), .second, .val (.int (2 : Int32)), .val (.int ng), .val (.int mg), .val (.int a0_), .val (.int b0_), .val (.int a1_), .val (.int b1_), .val (.int a2_), .val (.int b2_), .val (.ref xf), .unset, .unset] [(.int b2_), (.double (own_dv b1_ mg)), (.double (own_dv b0_ mg)), (.int (2 : Int32))]) fun _ _ X _ k => XS.iload X.here hx rfl (hb hby dl2_111) rfl k
  have A77 := A76.go (f' := mkF m 115 #[.val (.int p1), .val (.long q2), .second, .val (.long q3), .second, .val (.long q4), .second, .val (.int (2 : Int32)), .val (.int ng), .val (.int mg), .val (.int a0_), .val (.int b0_), .val (.int a1_), .val (.int b1_), .val (.int a2_), .val (.int b2_), .val (.ref xf), .unset, .unset] [(.int mg), (.int b2_), (.double (own_dv b1_ mg)), (.double (own_dv b0_ mg)), (.int (2 : Int32))]) fun _ _ X _ k => XS.iload X.here hx rfl (hb hby dl2_113) rfl k
  obtain ⟨vA78, hA78, ⟨rfl, rfl⟩, A78⟩ := A77.callS (own_dvM l Z a0 hw b2_ mg hA64 n0 Z0) hx hZ hown (hb hby dl2_115) (hw _ (List.mem_of_getElem? (i := 0) rfl)) (hw _ (List.mem_of_getElem? (i := 1) rfl)) (hw _ (List.mem_of_getElem? (i := 2) rfl)) (hw _ (List.mem_of_getElem? (i := 3) rfl)) ⟨by decide, by decide⟩ (lenOf pd__28IZ_29D rfl) (argsL := [(.int b2_), (.int mg)]) (rest := [(.double (own_dv b1_ mg)), (.double (own_dv b0_ mg)), (.int (2 : Int32))]) rfl rfl (by rw [hml]; rfl) (W := 5) (Nat.le_of_eq rfl) (by decide) (by decide) (by decide) (by decide)
  have A79 : own_R p l e _ _ m _ below meth c S0 n0 hA64 1 3 (mkF m 118 #[.val (.int p1), .val (.long q2), .second, .val (.long q3), .second, .val (.long q4), .second, .val (.int (2 : Int32)), .val (.int ng), .val (.int mg), .val (.int a0_), .val (.int b0_), .val (.int a1_), .val (.int b1_), .val (.int a2_), .val (.int b2_), .val (.ref xf), .unset, .unset] [(.double (own_dv b2_ mg)), (.double (own_dv b1_ mg)), (.double (own_dv b0_ mg)), (.int (2 : Int32))]) := A78
  obtain ⟨vA80, hA80, ⟨xs, rfl, K_xs, s_xs, g_xs, V_xs⟩, A80⟩ := A79.callS (own_make2 l Z a0 hw (2 : Int32) (own_dv b0_ mg) (own_dv b1_ mg) (own_dv b2_ mg) hA64 n0 Z0 rfl) hx hZ hown (hb hby dl2_118) (hw _ (List.mem_of_getElem? (i := 4) rfl)) (hw _ (List.mem_of_getElem? (i := 5) rfl)) (hw _ (List.mem_of_getElem? (i := 2) rfl)) (hw _ (List.mem_of_getElem? (i := 6) rfl)) ⟨by decide, by decide⟩ (lenOf pd__28IDDD_29_5bD rfl) (argsL := [(.int (2 : Int32)), (.double (own_dv b0_ mg)), (.double (own_dv b1_ mg)), (.double (own_dv b2_ mg))]) (rest := []) rfl rfl (by rw [hml]; rfl) (W := 0) (Nat.le_of_eq rfl) (by decide) (by decide) (by decide) (by decide)
  have ne_xf_xs : xf ≠ xs := Nat.ne_of_lt (Nat.lt_of_lt_of_le V_xf.lt s_xs)
  have V_xf : own_Ar Z hA80 xf .double [(.double (own_dv a0_ ng)), (.double (own_dv a1_ ng))] := V_xf.keep K_xs nin0
  have Z0 : n0 ≤ hA80.size := Nat.le_trans Z0 K_xs.1
  have A81 : own_R p l e _ _ m _ below meth c S0 n0 hA80 2 6 (mkF m 121 #[.val (.int p1), .val (.long q2), .second, .val (.long q3), .second, .val (.long q4), .second, .val (.int (2 : Int32)), .val (.int ng), .val (.int mg), .val (.int a0_), .val (.int b0_), .val (.int a1_), .val (.int b1_), .val (.int a2_), .val (.int b2_), .val (.ref xf), .unset, .unset] [(.ref xs)]) := A80
  have A82 := A81.go (f' := mkF m 123 #[.val (.int p1), .val (.long q2), .second, .val (.long q3), .second, .val (.long q4), .second, .val (.int (2 : Int32)), .val (.int ng), .val (.int mg), .val (.int a0_), .val (.int b0_), .val (.int a1_), .val (.int b1_), .val (.int a2_), .val (.int b2_), .val (.ref xf), .val (.ref xs), .unset] []) fun _ _ X _ k => XS.astore X.here hx rfl (hb hby dl2_121) rfl rfl (l' := #[.val (.int p1), .val (.long q2), .second, .val (.long q3), .second, .val (.long q4), .second, .val (.int (2 : Int32)), .val (.int ng), .val (.int mg), .val (.int a0_), .val (.int b0_), .val (.int a1_), .val (.int b1_), .val (.int a2_), .val (.int b2_), .val (.ref xf), .val (.ref xs), .unset]) rfl k
  have A83 := A82.go (f' := mkF m 125 #[.val (.int p1), .val (.long q2), .second, .val (.long q3), .second, .val (.long q4), .second, .val (.int (2 : Int32)), .val (.int ng), .val (.int mg), .val (.int a0_), .val (.int b0_), .val (.int a1_), .val (.int b1_), .val (.int a2_), .val (.int b2_), .val (.ref xf), .val (.ref xs), .unset] [(.int (2 : Int32))]) fun _ _ X _ k => XS.iload X.here hx rfl (hb hby dl2_123) rfl k
  have A84 := A83.go (f' := mkF m 126 #[.val (.int p1), .val (.long q2), .second, .val (.long q3), .second, .val (.long q4), .second, .val (.int (2 : Int32)), .val (.int ng), .val (.int mg), .val (.int a0_), .val (.int b0_), .val (.int a1_), .val (.int b1_), .val (.int a2_), .val (.int b2_), .val (.ref xf), .val (.ref xs), .unset] [(.int (1 : Int32)), (.int (2 : Int32))]) fun _ _ X _ k => XS.iconst X.here hx rfl (hb hby dl2_125) k
  have q85 : ¬ ((2 : Int32) < (1 : Int32)) := by decide
  have A86 := A84.go (f' := mkF m 129 #[.val (.int p1), .val (.long q2), .second, .val (.long q3), .second, .val (.long q4), .second, .val (.int (2 : Int32)), .val (.int ng), .val (.int mg), .val (.int a0_), .val (.int b0_), .val (.int a1_), .val (.int b1_), .val (.int a2_), .val (.int b2_), .val (.ref xf), .val (.ref xs), .unset] []) fun _ _ X _ k => XS.icmpNo X.here hx rfl (hb hby dl2_126) rfl ((flt q85).1) k
  have A87 := A86.go (f' := mkF m 131 #[.val (.int p1), .val (.long q2), .second, .val (.long q3), .second, .val (.long q4), .second, .val (.int (2 : Int32)), .val (.int ng), .val (.int mg), .val (.int a0_), .val (.int b0_), .val (.int a1_), .val (.int b1_), .val (.int a2_), .val (.int b2_), .val (.ref xf), .val (.ref xs), .unset] [(.int a0_)]) fun _ _ X _ k => XS.iload X.here hx rfl (hb hby dl2_129) rfl k
  have A88 := A87.go (f' := mkF m 133 #[.val (.int p1), .val (.long q2), .second, .val (.long q3), .second, .val (.long q4), .second, .val (.int (2 : Int32)), .val (.int ng), .val (.int mg), .val (.int a0_), .val (.int b0_), .val (.int a1_), .val (.int b1_), .val (.int a2_), .val (.int b2_), .val (.ref xf), .val (.ref xs), .unset] [(.int ng), (.int a0_)]) fun _ _ X _ k => XS.iload X.here hx rfl (hb hby dl2_131) rfl k
  obtain ⟨vA89, hA89, ⟨rfl, rfl⟩, A89⟩ := A88.callS (own_lvM l Z a0 hw a0_ ng hA80 n0 Z0) hx hZ hown (hb hby dl2_133) (hw _ (List.mem_of_getElem? (i := 12) rfl)) (hw _ (List.mem_of_getElem? (i := 13) rfl)) (hw _ (List.mem_of_getElem? (i := 2) rfl)) (hw _ (List.mem_of_getElem? (i := 14) rfl)) ⟨by decide, by decide⟩ (lenOf pd__28IZ_29J rfl) (argsL := [(.int a0_), (.int ng)]) (rest := []) rfl rfl (by rw [hml]; rfl) (W := 0) (Nat.le_of_eq rfl) (by decide) (by decide) (by decide) (by decide)
  have A90 : own_R p l e _ _ m _ below meth c S0 n0 hA80 2 6 (mkF m 136 #[.val (.int p1), .val (.long q2), .second, .val (.long q3), .second, .val (.long q4), .second, .val (.int (2 : Int32)), .val (.int ng), .val (.int mg), .val (.int a0_), .val (.int b0_), .val (.int a1_), .val (.int b1_), .val (.int a2_), .val (.int b2_), .val (.ref xf), .val (.ref xs), .unset] [(.long (own_lv a0_ ng))]) := A89
  have A91 := A90.go (f' := mkF m 138 #[.val (.int p1), .val (.long q2), .second, .val (.long q3), .second, .val (.long q4), .second, .val (.int (2 : Int32)), .val (.int ng), .val (.int mg), .val (.int a0_), .val (.int b0_), .val (.int a1_), .val (.int b1_), .val (.int a2_), .val (.int b2_), .val (.ref xf), .val (.ref xs), .unset] [(.int b0_), (.long (own_lv a0_ ng))]) fun _ _ X _ k => XS.iload X.here hx rfl (hb hby dl2_136) rfl k
  have A92 := A91.go (f' := mkF m 140 #[.val (.int p1), .val (.long q2), .second, .val (.long q3), .second, .val (.long q4), .second, .val (.int (2 : Int32)), .val (.int ng), .val (.int mg), .val (.int a0_), .val (.int b0_), .val (.int a1_), .val (.int b1_), .val (.int a2_), .val (.int b2_), .val (.ref xf), .val (.ref xs), .unset] [(.int mg), (.int b0_), (.long (own_lv a0_ ng))]) fun _ _ X _ k => XS.iload X.here hx rfl (hb hby dl2_138) rfl k
  obtain ⟨vA93, hA93, ⟨rfl, rfl⟩, A93⟩ := A92.callS (own_lvM l Z a0 hw b0_ mg hA80 n0 Z0) hx hZ hown (hb hby dl2_140) (hw _ (List.mem_of_getElem? (i := 12) rfl)) (hw _ (List.mem_of_getElem? (i := 13) rfl)) (hw _ (List.mem_of_getElem? (i := 2) rfl)) (hw _ (List.mem_of_getElem? (i := 14) rfl)) ⟨by decide, by decide⟩ (lenOf pd__28IZ_29J rfl) (argsL := [(.int b0_), (.int mg)]) (rest := [(.long (own_lv a0_ ng))]) rfl rfl (by rw [hml]; rfl) (W := 2) (Nat.le_of_eq rfl) (by decide) (by decide) (by decide) (by decide)
  have A94 : own_R p l e _ _ m _ below meth c S0 n0 hA80 2 6 (mkF m 143 #[.val (.int p1), .val (.long q2), .second, .val (.long q3), .second, .val (.long q4), .second, .val (.int (2 : Int32)), .val (.int ng), .val (.int mg), .val (.int a0_), .val (.int b0_), .val (.int a1_), .val (.int b1_), .val (.int a2_), .val (.int b2_), .val (.ref xf), .val (.ref xs), .unset] [(.long (own_lv b0_ mg)), (.long (own_lv a0_ ng))]) := A93
  have A95 := A94.go (f' := mkF m 144 #[.val (.int p1), .val (.long q2), .second, .val (.long q3), .second, .val (.long q4), .second, .val (.int (2 : Int32)), .val (.int ng), .val (.int mg), .val (.int a0_), .val (.int b0_), .val (.int a1_), .val (.int b1_), .val (.int a2_), .val (.int b2_), .val (.ref xf), .val (.ref xs), .unset] [(.int (lcmpW (own_lv a0_ ng) (own_lv b0_ mg)))]) fun _ _ X _ k => XS.lcmp X.here hx rfl (hb hby dl2_143) rfl k
  by_cases q96 : (lcmpW (own_lv a0_ ng) (own_lv b0_ mg)) < (0 : Int32)
  · skip
    have A97 := A95.go (f' := mkF m 199 #[.val (.int p1), .val (.long q2), .second, .val (.long q3), .second, .val (.long q4), .second, .val (.int (2 : Int32)), .val (.int ng), .val (.int mg), .val (.int a0_), .val (.int b0_), .val (.int a1_), .val (.int b1_), .val (.int a2_), .val (.int b2_), .val (.ref xf), .val (.ref xs), .unset] []) fun _ _ X _ k => XS.ifYes X.here hx rfl (pc0 := 144) (pc' := 199) rfl (hb hby dl2_144) rfl ((if0 _ _).trans (tlt q96).1) (by decide) (by decide) k
    have A98 := A97.go (f' := mkF m 200 #[.val (.int p1), .val (.long q2), .second, .val (.long q3), .second, .val (.long q4), .second, .val (.int (2 : Int32)), .val (.int ng), .val (.int mg), .val (.int a0_), .val (.int b0_), .val (.int a1_), .val (.int b1_), .val (.int a2_), .val (.int b2_), .val (.ref xf), .val (.ref xs), .unset] [(.int (0 : Int32))]) fun _ _ X _ k => XS.iconst X.here hx rfl (hb hby dl2_199) k
    have A99 := A98.go (f' := mkF m 202 #[.val (.int p1), .val (.long q2), .second, .val (.long q3), .second, .val (.long q4), .second, .val (.int (2 : Int32)), .val (.int ng), .val (.int mg), .val (.int a0_), .val (.int b0_), .val (.int a1_), .val (.int b1_), .val (.int a2_), .val (.int b2_), .val (.ref xf), .val (.ref xs), .val (.int (0 : Int32))] []) fun _ _ X _ k => XS.istore X.here hx rfl (hb hby dl2_200) rfl (l' := #[.val (.int p1), .val (.long q2), .second, .val (.long q3), .second, .val (.long q4), .second, .val (.int (2 : Int32)), .val (.int ng), .val (.int mg), .val (.int a0_), .val (.int b0_), .val (.int a1_), .val (.int b1_), .val (.int a2_), .val (.int b2_), .val (.ref xf), .val (.ref xs), .val (.int (0 : Int32))]) rfl k
    have A100 := A99.go (f' := mkF m 204 #[.val (.int p1), .val (.long q2), .second, .val (.long q3), .second, .val (.long q4), .second, .val (.int (2 : Int32)), .val (.int ng), .val (.int mg), .val (.int a0_), .val (.int b0_), .val (.int a1_), .val (.int b1_), .val (.int a2_), .val (.int b2_), .val (.ref xf), .val (.ref xs), .val (.int (0 : Int32))] [(.ref xf)]) fun _ _ X _ k => XS.aload X.here hx rfl (hb hby dl2_202) rfl rfl k
    have A101 := A100.go (f' := mkF m 206 #[.val (.int p1), .val (.long q2), .second, .val (.long q3), .second, .val (.long q4), .second, .val (.int (2 : Int32)), .val (.int ng), .val (.int mg), .val (.int a0_), .val (.int b0_), .val (.int a1_), .val (.int b1_), .val (.int a2_), .val (.int b2_), .val (.ref xf), .val (.ref xs), .val (.int (0 : Int32))] [(.ref xs), (.ref xf)]) fun _ _ X _ k => XS.aload X.here hx rfl (hb hby dl2_204) rfl rfl k
    obtain ⟨vA102, hA102, ⟨rfl, rfl⟩, A102⟩ := A101.callS (own_wd2 l Z a0 hw xf xs (0 : Int32) (own_dv a0_ ng) (own_dv b0_ mg) (own_dv a1_ ng) (own_dv b1_ mg) hA80 n0 Z0 V_xf V_xs (by simp [own_wd, own_cmp, q96])) hx hZ hown (hb hby dl2_206) (hw _ (List.mem_of_getElem? (i := 8) rfl)) (hw _ (List.mem_of_getElem? (i := 9) rfl)) (hw _ (List.mem_of_getElem? (i := 10) rfl)) (hw _ (List.mem_of_getElem? (i := 11) rfl)) ⟨by decide, by decide⟩ (lenOf pd__28_5bD_5bD_29Z rfl) (argsL := [(.ref xf), (.ref xs)]) (rest := []) rfl rfl (by rw [hml]; rfl) (W := 0) (Nat.le_of_eq rfl) (by decide) (by decide) (by decide) (by decide)
    have A103 : own_R p l e _ _ m _ below meth c S0 n0 hA80 2 6 (mkF m 209 #[.val (.int p1), .val (.long q2), .second, .val (.long q3), .second, .val (.long q4), .second, .val (.int (2 : Int32)), .val (.int ng), .val (.int mg), .val (.int a0_), .val (.int b0_), .val (.int a1_), .val (.int b1_), .val (.int a2_), .val (.int b2_), .val (.ref xf), .val (.ref xs), .val (.int (0 : Int32))] [(.int (0 : Int32))]) := A102
    have A104 := A103.go (f' := mkF m 211 #[.val (.int p1), .val (.long q2), .second, .val (.long q3), .second, .val (.long q4), .second, .val (.int (2 : Int32)), .val (.int ng), .val (.int mg), .val (.int a0_), .val (.int b0_), .val (.int a1_), .val (.int b1_), .val (.int a2_), .val (.int b2_), .val (.ref xf), .val (.ref xs), .val (.int (0 : Int32))] [(.int (0 : Int32)), (.int (0 : Int32))]) fun _ _ X _ k => XS.iload X.here hx rfl (hb hby dl2_209) rfl k
    have q105 : ((0 : Int32) = (0 : Int32)) := by decide
    have A106 := A104.go (f' := mkF m 214 #[.val (.int p1), .val (.long q2), .second, .val (.long q3), .second, .val (.long q4), .second, .val (.int (2 : Int32)), .val (.int ng), .val (.int mg), .val (.int a0_), .val (.int b0_), .val (.int a1_), .val (.int b1_), .val (.int a2_), .val (.int b2_), .val (.ref xf), .val (.ref xs), .val (.int (0 : Int32))] []) fun _ _ X _ k => XS.icmpNo X.here hx rfl (hb hby dl2_211) rfl ((teq q105).2) k
    have A107 := A106.go (f' := mkF m 215 #[.val (.int p1), .val (.long q2), .second, .val (.long q3), .second, .val (.long q4), .second, .val (.int (2 : Int32)), .val (.int ng), .val (.int mg), .val (.int a0_), .val (.int b0_), .val (.int a1_), .val (.int b1_), .val (.int a2_), .val (.int b2_), .val (.ref xf), .val (.ref xs), .val (.int (0 : Int32))] [(.int (1 : Int32))]) fun _ _ X _ k => XS.iconst X.here hx rfl (hb hby dl2_214) k
    have A108 := A107.go (f' := mkF m 219 #[.val (.int p1), .val (.long q2), .second, .val (.long q3), .second, .val (.long q4), .second, .val (.int (2 : Int32)), .val (.int ng), .val (.int mg), .val (.int a0_), .val (.int b0_), .val (.int a1_), .val (.int b1_), .val (.int a2_), .val (.int b2_), .val (.ref xf), .val (.ref xs), .val (.int (0 : Int32))] [(.int (1 : Int32))]) fun _ _ X _ k => XS.goto X.here hx rfl (pc0 := 215) (pc' := 219) rfl (hb hby dl2_215) (by decide) (by decide) k
    exact A108.ret hx hlk hret (hb hby dl2_219) rfl (Or.inl ⟨rfl, by simp, _, rfl⟩) (by decide) (by decide) ⟨rfl, trivial⟩
  · skip
    have A109 := A95.go (f' := mkF m 147 #[.val (.int p1), .val (.long q2), .second, .val (.long q3), .second, .val (.long q4), .second, .val (.int (2 : Int32)), .val (.int ng), .val (.int mg), .val (.int a0_), .val (.int b0_), .val (.int a1_), .val (.int b1_), .val (.int a2_), .val (.int b2_), .val (.ref xf), .val (.ref xs), .unset] []) fun _ _ X _ k => XS.ifNo X.here hx rfl (hb hby dl2_144) rfl ((if0 _ _).trans (flt q96).1) k
    have A110 := A109.go (f' := mkF m 149 #[.val (.int p1), .val (.long q2), .second, .val (.long q3), .second, .val (.long q4), .second, .val (.int (2 : Int32)), .val (.int ng), .val (.int mg), .val (.int a0_), .val (.int b0_), .val (.int a1_), .val (.int b1_), .val (.int a2_), .val (.int b2_), .val (.ref xf), .val (.ref xs), .unset] [(.int (2 : Int32))]) fun _ _ X _ k => XS.iload X.here hx rfl (hb hby dl2_147) rfl k
    have A111 := A110.go (f' := mkF m 150 #[.val (.int p1), .val (.long q2), .second, .val (.long q3), .second, .val (.long q4), .second, .val (.int (2 : Int32)), .val (.int ng), .val (.int mg), .val (.int a0_), .val (.int b0_), .val (.int a1_), .val (.int b1_), .val (.int a2_), .val (.int b2_), .val (.ref xf), .val (.ref xs), .unset] [(.int (2 : Int32)), (.int (2 : Int32))]) fun _ _ X _ k => XS.iconst X.here hx rfl (hb hby dl2_149) k
    have q112 : ¬ ((2 : Int32) < (2 : Int32)) := by decide
    have A113 := A111.go (f' := mkF m 153 #[.val (.int p1), .val (.long q2), .second, .val (.long q3), .second, .val (.long q4), .second, .val (.int (2 : Int32)), .val (.int ng), .val (.int mg), .val (.int a0_), .val (.int b0_), .val (.int a1_), .val (.int b1_), .val (.int a2_), .val (.int b2_), .val (.ref xf), .val (.ref xs), .unset] []) fun _ _ X _ k => XS.icmpNo X.here hx rfl (hb hby dl2_150) rfl ((flt q112).1) k
    have A114 := A113.go (f' := mkF m 155 #[.val (.int p1), .val (.long q2), .second, .val (.long q3), .second, .val (.long q4), .second, .val (.int (2 : Int32)), .val (.int ng), .val (.int mg), .val (.int a0_), .val (.int b0_), .val (.int a1_), .val (.int b1_), .val (.int a2_), .val (.int b2_), .val (.ref xf), .val (.ref xs), .unset] [(.int a1_)]) fun _ _ X _ k => XS.iload X.here hx rfl (hb hby dl2_153) rfl k
    have A115 := A114.go (f' := mkF m 157 #[.val (.int p1), .val (.long q2), .second, .val (.long q3), .second, .val (.long q4), .second, .val (.int (2 : Int32)), .val (.int ng), .val (.int mg), .val (.int a0_), .val (.int b0_), .val (.int a1_), .val (.int b1_), .val (.int a2_), .val (.int b2_), .val (.ref xf), .val (.ref xs), .unset] [(.int ng), (.int a1_)]) fun _ _ X _ k => XS.iload X.here hx rfl (hb hby dl2_155) rfl k
    obtain ⟨vA116, hA116, ⟨rfl, rfl⟩, A116⟩ := A115.callS (own_lvM l Z a0 hw a1_ ng hA80 n0 Z0) hx hZ hown (hb hby dl2_157) (hw _ (List.mem_of_getElem? (i := 12) rfl)) (hw _ (List.mem_of_getElem? (i := 13) rfl)) (hw _ (List.mem_of_getElem? (i := 2) rfl)) (hw _ (List.mem_of_getElem? (i := 14) rfl)) ⟨by decide, by decide⟩ (lenOf pd__28IZ_29J rfl) (argsL := [(.int a1_), (.int ng)]) (rest := []) rfl rfl (by rw [hml]; rfl) (W := 0) (Nat.le_of_eq rfl) (by decide) (by decide) (by decide) (by decide)
    have A117 : own_R p l e _ _ m _ below meth c S0 n0 hA80 2 6 (mkF m 160 #[.val (.int p1), .val (.long q2), .second, .val (.long q3), .second, .val (.long q4), .second, .val (.int (2 : Int32)), .val (.int ng), .val (.int mg), .val (.int a0_), .val (.int b0_), .val (.int a1_), .val (.int b1_), .val (.int a2_), .val (.int b2_), .val (.ref xf), .val (.ref xs), .unset] [(.long (own_lv a1_ ng))]) := A116
    have A118 := A117.go (f' := mkF m 162 #[.val (.int p1), .val (.long q2), .second, .val (.long q3), .second, .val (.long q4), .second, .val (.int (2 : Int32)), .val (.int ng), .val (.int mg), .val (.int a0_), .val (.int b0_), .val (.int a1_), .val (.int b1_), .val (.int a2_), .val (.int b2_), .val (.ref xf), .val (.ref xs), .unset] [(.int b1_), (.long (own_lv a1_ ng))]) fun _ _ X _ k => XS.iload X.here hx rfl (hb hby dl2_160) rfl k
    have A119 := A118.go (f' := mkF m 164 #[.val (.int p1), .val (.long q2), .second, .val (.long q3), .second, .val (.long q4), .second, .val (.int (2 : Int32)), .val (.int ng), .val (.int mg), .val (.int a0_), .val (.int b0_), .val (.int a1_), .val (.int b1_), .val (.int a2_), .val (.int b2_), .val (.ref xf), .val (.ref xs), .unset] [(.int mg), (.int b1_), (.long (own_lv a1_ ng))]) fun _ _ X _ k => XS.iload X.here hx rfl (hb hby dl2_162) rfl k
    obtain ⟨vA120, hA120, ⟨rfl, rfl⟩, A120⟩ := A119.callS (own_lvM l Z a0 hw b1_ mg hA80 n0 Z0) hx hZ hown (hb hby dl2_164) (hw _ (List.mem_of_getElem? (i := 12) rfl)) (hw _ (List.mem_of_getElem? (i := 13) rfl)) (hw _ (List.mem_of_getElem? (i := 2) rfl)) (hw _ (List.mem_of_getElem? (i := 14) rfl)) ⟨by decide, by decide⟩ (lenOf pd__28IZ_29J rfl) (argsL := [(.int b1_), (.int mg)]) (rest := [(.long (own_lv a1_ ng))]) rfl rfl (by rw [hml]; rfl) (W := 2) (Nat.le_of_eq rfl) (by decide) (by decide) (by decide) (by decide)
    have A121 : own_R p l e _ _ m _ below meth c S0 n0 hA80 2 6 (mkF m 167 #[.val (.int p1), .val (.long q2), .second, .val (.long q3), .second, .val (.long q4), .second, .val (.int (2 : Int32)), .val (.int ng), .val (.int mg), .val (.int a0_), .val (.int b0_), .val (.int a1_), .val (.int b1_), .val (.int a2_), .val (.int b2_), .val (.ref xf), .val (.ref xs), .unset] [(.long (own_lv b1_ mg)), (.long (own_lv a1_ ng))]) := A120
    have A122 := A121.go (f' := mkF m 168 #[.val (.int p1), .val (.long q2), .second, .val (.long q3), .second, .val (.long q4), .second, .val (.int (2 : Int32)), .val (.int ng), .val (.int mg), .val (.int a0_), .val (.int b0_), .val (.int a1_), .val (.int b1_), .val (.int a2_), .val (.int b2_), .val (.ref xf), .val (.ref xs), .unset] [(.int (lcmpW (own_lv a1_ ng) (own_lv b1_ mg)))]) fun _ _ X _ k => XS.lcmp X.here hx rfl (hb hby dl2_167) rfl k
    by_cases q123 : (lcmpW (own_lv a1_ ng) (own_lv b1_ mg)) < (0 : Int32)
    · skip
      have A124 := A122.go (f' := mkF m 199 #[.val (.int p1), .val (.long q2), .second, .val (.long q3), .second, .val (.long q4), .second, .val (.int (2 : Int32)), .val (.int ng), .val (.int mg), .val (.int a0_), .val (.int b0_), .val (.int a1_), .val (.int b1_), .val (.int a2_), .val (.int b2_), .val (.ref xf), .val (.ref xs), .unset] []) fun _ _ X _ k => XS.ifYes X.here hx rfl (pc0 := 168) (pc' := 199) rfl (hb hby dl2_168) rfl ((if0 _ _).trans (tlt q123).1) (by decide) (by decide) k
      have A125 := A124.go (f' := mkF m 200 #[.val (.int p1), .val (.long q2), .second, .val (.long q3), .second, .val (.long q4), .second, .val (.int (2 : Int32)), .val (.int ng), .val (.int mg), .val (.int a0_), .val (.int b0_), .val (.int a1_), .val (.int b1_), .val (.int a2_), .val (.int b2_), .val (.ref xf), .val (.ref xs), .unset] [(.int (0 : Int32))]) fun _ _ X _ k => XS.iconst X.here hx rfl (hb hby dl2_199) k
      have A126 := A125.go (f' := mkF m 202 #[.val (.int p1), .val (.long q2), .second, .val (.long q3), .second, .val (.long q4), .second, .val (.int (2 : Int32)), .val (.int ng), .val (.int mg), .val (.int a0_), .val (.int b0_), .val (.int a1_), .val (.int b1_), .val (.int a2_), .val (.int b2_), .val (.ref xf), .val (.ref xs), .val (.int (0 : Int32))] []) fun _ _ X _ k => XS.istore X.here hx rfl (hb hby dl2_200) rfl (l' := #[.val (.int p1), .val (.long q2), .second, .val (.long q3), .second, .val (.long q4), .second, .val (.int (2 : Int32)), .val (.int ng), .val (.int mg), .val (.int a0_), .val (.int b0_), .val (.int a1_), .val (.int b1_), .val (.int a2_), .val (.int b2_), .val (.ref xf), .val (.ref xs), .val (.int (0 : Int32))]) rfl k
      have A127 := A126.go (f' := mkF m 204 #[.val (.int p1), .val (.long q2), .second, .val (.long q3), .second, .val (.long q4), .second, .val (.int (2 : Int32)), .val (.int ng), .val (.int mg), .val (.int a0_), .val (.int b0_), .val (.int a1_), .val (.int b1_), .val (.int a2_), .val (.int b2_), .val (.ref xf), .val (.ref xs), .val (.int (0 : Int32))] [(.ref xf)]) fun _ _ X _ k => XS.aload X.here hx rfl (hb hby dl2_202) rfl rfl k
      have A128 := A127.go (f' := mkF m 206 #[.val (.int p1), .val (.long q2), .second, .val (.long q3), .second, .val (.long q4), .second, .val (.int (2 : Int32)), .val (.int ng), .val (.int mg), .val (.int a0_), .val (.int b0_), .val (.int a1_), .val (.int b1_), .val (.int a2_), .val (.int b2_), .val (.ref xf), .val (.ref xs), .val (.int (0 : Int32))] [(.ref xs), (.ref xf)]) fun _ _ X _ k => XS.aload X.here hx rfl (hb hby dl2_204) rfl rfl k
      obtain ⟨vA129, hA129, ⟨rfl, rfl⟩, A129⟩ := A128.callS (own_wd2 l Z a0 hw xf xs (0 : Int32) (own_dv a0_ ng) (own_dv b0_ mg) (own_dv a1_ ng) (own_dv b1_ mg) hA80 n0 Z0 V_xf V_xs (by simp [own_wd, own_cmp, q96, q123])) hx hZ hown (hb hby dl2_206) (hw _ (List.mem_of_getElem? (i := 8) rfl)) (hw _ (List.mem_of_getElem? (i := 9) rfl)) (hw _ (List.mem_of_getElem? (i := 10) rfl)) (hw _ (List.mem_of_getElem? (i := 11) rfl)) ⟨by decide, by decide⟩ (lenOf pd__28_5bD_5bD_29Z rfl) (argsL := [(.ref xf), (.ref xs)]) (rest := []) rfl rfl (by rw [hml]; rfl) (W := 0) (Nat.le_of_eq rfl) (by decide) (by decide) (by decide) (by decide)
      have A130 : own_R p l e _ _ m _ below meth c S0 n0 hA80 2 6 (mkF m 209 #[.val (.int p1), .val (.long q2), .second, .val (.long q3), .second, .val (.long q4), .second, .val (.int (2 : Int32)), .val (.int ng), .val (.int mg), .val (.int a0_), .val (.int b0_), .val (.int a1_), .val (.int b1_), .val (.int a2_), .val (.int b2_), .val (.ref xf), .val (.ref xs), .val (.int (0 : Int32))] [(.int (0 : Int32))]) := A129
      have A131 := A130.go (f' := mkF m 211 #[.val (.int p1), .val (.long q2), .second, .val (.long q3), .second, .val (.long q4), .second, .val (.int (2 : Int32)), .val (.int ng), .val (.int mg), .val (.int a0_), .val (.int b0_), .val (.int a1_), .val (.int b1_), .val (.int a2_), .val (.int b2_), .val (.ref xf), .val (.ref xs), .val (.int (0 : Int32))] [(.int (0 : Int32)), (.int (0 : Int32))]) fun _ _ X _ k => XS.iload X.here hx rfl (hb hby dl2_209) rfl k
      have q132 : ((0 : Int32) = (0 : Int32)) := by decide
      have A133 := A131.go (f' := mkF m 214 #[.val (.int p1), .val (.long q2), .second, .val (.long q3), .second, .val (.long q4), .second, .val (.int (2 : Int32)), .val (.int ng), .val (.int mg), .val (.int a0_), .val (.int b0_), .val (.int a1_), .val (.int b1_), .val (.int a2_), .val (.int b2_), .val (.ref xf), .val (.ref xs), .val (.int (0 : Int32))] []) fun _ _ X _ k => XS.icmpNo X.here hx rfl (hb hby dl2_211) rfl ((teq q132).2) k
      have A134 := A133.go (f' := mkF m 215 #[.val (.int p1), .val (.long q2), .second, .val (.long q3), .second, .val (.long q4), .second, .val (.int (2 : Int32)), .val (.int ng), .val (.int mg), .val (.int a0_), .val (.int b0_), .val (.int a1_), .val (.int b1_), .val (.int a2_), .val (.int b2_), .val (.ref xf), .val (.ref xs), .val (.int (0 : Int32))] [(.int (1 : Int32))]) fun _ _ X _ k => XS.iconst X.here hx rfl (hb hby dl2_214) k
      have A135 := A134.go (f' := mkF m 219 #[.val (.int p1), .val (.long q2), .second, .val (.long q3), .second, .val (.long q4), .second, .val (.int (2 : Int32)), .val (.int ng), .val (.int mg), .val (.int a0_), .val (.int b0_), .val (.int a1_), .val (.int b1_), .val (.int a2_), .val (.int b2_), .val (.ref xf), .val (.ref xs), .val (.int (0 : Int32))] [(.int (1 : Int32))]) fun _ _ X _ k => XS.goto X.here hx rfl (pc0 := 215) (pc' := 219) rfl (hb hby dl2_215) (by decide) (by decide) k
      exact A135.ret hx hlk hret (hb hby dl2_219) rfl (Or.inl ⟨rfl, by simp, _, rfl⟩) (by decide) (by decide) ⟨rfl, trivial⟩
    · skip
      have A136 := A122.go (f' := mkF m 171 #[.val (.int p1), .val (.long q2), .second, .val (.long q3), .second, .val (.long q4), .second, .val (.int (2 : Int32)), .val (.int ng), .val (.int mg), .val (.int a0_), .val (.int b0_), .val (.int a1_), .val (.int b1_), .val (.int a2_), .val (.int b2_), .val (.ref xf), .val (.ref xs), .unset] []) fun _ _ X _ k => XS.ifNo X.here hx rfl (hb hby dl2_168) rfl ((if0 _ _).trans (flt q123).1) k
      have A137 := A136.go (f' := mkF m 173 #[.val (.int p1), .val (.long q2), .second, .val (.long q3), .second, .val (.long q4), .second, .val (.int (2 : Int32)), .val (.int ng), .val (.int mg), .val (.int a0_), .val (.int b0_), .val (.int a1_), .val (.int b1_), .val (.int a2_), .val (.int b2_), .val (.ref xf), .val (.ref xs), .unset] [(.int (2 : Int32))]) fun _ _ X _ k => XS.iload X.here hx rfl (hb hby dl2_171) rfl k
      have A138 := A137.go (f' := mkF m 174 #[.val (.int p1), .val (.long q2), .second, .val (.long q3), .second, .val (.long q4), .second, .val (.int (2 : Int32)), .val (.int ng), .val (.int mg), .val (.int a0_), .val (.int b0_), .val (.int a1_), .val (.int b1_), .val (.int a2_), .val (.int b2_), .val (.ref xf), .val (.ref xs), .unset] [(.int (3 : Int32)), (.int (2 : Int32))]) fun _ _ X _ k => XS.iconst X.here hx rfl (hb hby dl2_173) k
      have q139 : ((2 : Int32) < (3 : Int32)) := by decide
      have A140 := A138.go (f' := mkF m 195 #[.val (.int p1), .val (.long q2), .second, .val (.long q3), .second, .val (.long q4), .second, .val (.int (2 : Int32)), .val (.int ng), .val (.int mg), .val (.int a0_), .val (.int b0_), .val (.int a1_), .val (.int b1_), .val (.int a2_), .val (.int b2_), .val (.ref xf), .val (.ref xs), .unset] []) fun _ _ X _ k => XS.icmpYes X.here hx rfl (pc0 := 174) (pc' := 195) rfl (hb hby dl2_174) rfl ((tlt q139).1) (by decide) (by decide) k
      have A141 := A140.go (f' := mkF m 196 #[.val (.int p1), .val (.long q2), .second, .val (.long q3), .second, .val (.long q4), .second, .val (.int (2 : Int32)), .val (.int ng), .val (.int mg), .val (.int a0_), .val (.int b0_), .val (.int a1_), .val (.int b1_), .val (.int a2_), .val (.int b2_), .val (.ref xf), .val (.ref xs), .unset] [(.int (1 : Int32))]) fun _ _ X _ k => XS.iconst X.here hx rfl (hb hby dl2_195) k
      have A142 := A141.go (f' := mkF m 200 #[.val (.int p1), .val (.long q2), .second, .val (.long q3), .second, .val (.long q4), .second, .val (.int (2 : Int32)), .val (.int ng), .val (.int mg), .val (.int a0_), .val (.int b0_), .val (.int a1_), .val (.int b1_), .val (.int a2_), .val (.int b2_), .val (.ref xf), .val (.ref xs), .unset] [(.int (1 : Int32))]) fun _ _ X _ k => XS.goto X.here hx rfl (pc0 := 196) (pc' := 200) rfl (hb hby dl2_196) (by decide) (by decide) k
      have A143 := A142.go (f' := mkF m 202 #[.val (.int p1), .val (.long q2), .second, .val (.long q3), .second, .val (.long q4), .second, .val (.int (2 : Int32)), .val (.int ng), .val (.int mg), .val (.int a0_), .val (.int b0_), .val (.int a1_), .val (.int b1_), .val (.int a2_), .val (.int b2_), .val (.ref xf), .val (.ref xs), .val (.int (1 : Int32))] []) fun _ _ X _ k => XS.istore X.here hx rfl (hb hby dl2_200) rfl (l' := #[.val (.int p1), .val (.long q2), .second, .val (.long q3), .second, .val (.long q4), .second, .val (.int (2 : Int32)), .val (.int ng), .val (.int mg), .val (.int a0_), .val (.int b0_), .val (.int a1_), .val (.int b1_), .val (.int a2_), .val (.int b2_), .val (.ref xf), .val (.ref xs), .val (.int (1 : Int32))]) rfl k
      have A144 := A143.go (f' := mkF m 204 #[.val (.int p1), .val (.long q2), .second, .val (.long q3), .second, .val (.long q4), .second, .val (.int (2 : Int32)), .val (.int ng), .val (.int mg), .val (.int a0_), .val (.int b0_), .val (.int a1_), .val (.int b1_), .val (.int a2_), .val (.int b2_), .val (.ref xf), .val (.ref xs), .val (.int (1 : Int32))] [(.ref xf)]) fun _ _ X _ k => XS.aload X.here hx rfl (hb hby dl2_202) rfl rfl k
      have A145 := A144.go (f' := mkF m 206 #[.val (.int p1), .val (.long q2), .second, .val (.long q3), .second, .val (.long q4), .second, .val (.int (2 : Int32)), .val (.int ng), .val (.int mg), .val (.int a0_), .val (.int b0_), .val (.int a1_), .val (.int b1_), .val (.int a2_), .val (.int b2_), .val (.ref xf), .val (.ref xs), .val (.int (1 : Int32))] [(.ref xs), (.ref xf)]) fun _ _ X _ k => XS.aload X.here hx rfl (hb hby dl2_204) rfl rfl k
      obtain ⟨vA146, hA146, ⟨rfl, rfl⟩, A146⟩ := A145.callS (own_wd2 l Z a0 hw xf xs (1 : Int32) (own_dv a0_ ng) (own_dv b0_ mg) (own_dv a1_ ng) (own_dv b1_ mg) hA80 n0 Z0 V_xf V_xs (by simp [own_wd, own_cmp, q96, q123])) hx hZ hown (hb hby dl2_206) (hw _ (List.mem_of_getElem? (i := 8) rfl)) (hw _ (List.mem_of_getElem? (i := 9) rfl)) (hw _ (List.mem_of_getElem? (i := 10) rfl)) (hw _ (List.mem_of_getElem? (i := 11) rfl)) ⟨by decide, by decide⟩ (lenOf pd__28_5bD_5bD_29Z rfl) (argsL := [(.ref xf), (.ref xs)]) (rest := []) rfl rfl (by rw [hml]; rfl) (W := 0) (Nat.le_of_eq rfl) (by decide) (by decide) (by decide) (by decide)
      have A147 : own_R p l e _ _ m _ below meth c S0 n0 hA80 2 6 (mkF m 209 #[.val (.int p1), .val (.long q2), .second, .val (.long q3), .second, .val (.long q4), .second, .val (.int (2 : Int32)), .val (.int ng), .val (.int mg), .val (.int a0_), .val (.int b0_), .val (.int a1_), .val (.int b1_), .val (.int a2_), .val (.int b2_), .val (.ref xf), .val (.ref xs), .val (.int (1 : Int32))] [(.int (1 : Int32))]) := A146
      have A148 := A147.go (f' := mkF m 211 #[.val (.int p1), .val (.long q2), .second, .val (.long q3), .second, .val (.long q4), .second, .val (.int (2 : Int32)), .val (.int ng), .val (.int mg), .val (.int a0_), .val (.int b0_), .val (.int a1_), .val (.int b1_), .val (.int a2_), .val (.int b2_), .val (.ref xf), .val (.ref xs), .val (.int (1 : Int32))] [(.int (1 : Int32)), (.int (1 : Int32))]) fun _ _ X _ k => XS.iload X.here hx rfl (hb hby dl2_209) rfl k
      have q149 : ((1 : Int32) = (1 : Int32)) := by decide
      have A150 := A148.go (f' := mkF m 214 #[.val (.int p1), .val (.long q2), .second, .val (.long q3), .second, .val (.long q4), .second, .val (.int (2 : Int32)), .val (.int ng), .val (.int mg), .val (.int a0_), .val (.int b0_), .val (.int a1_), .val (.int b1_), .val (.int a2_), .val (.int b2_), .val (.ref xf), .val (.ref xs), .val (.int (1 : Int32))] []) fun _ _ X _ k => XS.icmpNo X.here hx rfl (hb hby dl2_211) rfl ((teq q149).2) k
      have A151 := A150.go (f' := mkF m 215 #[.val (.int p1), .val (.long q2), .second, .val (.long q3), .second, .val (.long q4), .second, .val (.int (2 : Int32)), .val (.int ng), .val (.int mg), .val (.int a0_), .val (.int b0_), .val (.int a1_), .val (.int b1_), .val (.int a2_), .val (.int b2_), .val (.ref xf), .val (.ref xs), .val (.int (1 : Int32))] [(.int (1 : Int32))]) fun _ _ X _ k => XS.iconst X.here hx rfl (hb hby dl2_214) k
      have A152 := A151.go (f' := mkF m 219 #[.val (.int p1), .val (.long q2), .second, .val (.long q3), .second, .val (.long q4), .second, .val (.int (2 : Int32)), .val (.int ng), .val (.int mg), .val (.int a0_), .val (.int b0_), .val (.int a1_), .val (.int b1_), .val (.int a2_), .val (.int b2_), .val (.ref xf), .val (.ref xs), .val (.int (1 : Int32))] [(.int (1 : Int32))]) fun _ _ X _ k => XS.goto X.here hx rfl (pc0 := 215) (pc' := 219) rfl (hb hby dl2_215) (by decide) (by decide) k
      exact A152.ret hx hlk hret (hb hby dl2_219) rfl (Or.inl ⟨rfl, by simp, _, rfl⟩) (by decide) (by decide) ⟨rfl, trivial⟩
theorem dl3_0 : decode code 0 = .ok (.iload_n 0, 1) := at_0
theorem dl3_1 : decode code 1 = .ok (.iconst 3, 1) := at_1
theorem dl3_2 : decode code 2 = .ok (.iand, 1) := at_2
theorem dl3_3 : decode code 3 = .ok (.istore 7, 2) := at_3
theorem dl3_5 : decode code 5 = .ok (.iload_n 0, 1) := at_5
theorem dl3_6 : decode code 6 = .ok (.iconst 4, 1) := at_6
theorem dl3_7 : decode code 7 = .ok (.iand, 1) := at_7
theorem dl3_8 : decode code 8 = .ok (.ifCond .eq 7, 3) := at_8
theorem dl3_11 : decode code 11 = .ok (.iconst 1, 1) := at_11
theorem dl3_12 : decode code 12 = .ok (.goto 4, 3) := at_12
theorem dl3_15 : decode code 15 = .ok (.iconst 0, 1) := at_15
theorem dl3_16 : decode code 16 = .ok (.istore 8, 2) := at_16
theorem dl3_18 : decode code 18 = .ok (.iload_n 0, 1) := at_18
theorem dl3_19 : decode code 19 = .ok (.bipush 8, 2) := at_19
theorem dl3_21 : decode code 21 = .ok (.iand, 1) := at_21
theorem dl3_22 : decode code 22 = .ok (.ifCond .eq 7, 3) := at_22
theorem dl3_25 : decode code 25 = .ok (.iconst 1, 1) := at_25
theorem dl3_26 : decode code 26 = .ok (.goto 4, 3) := at_26
theorem dl3_29 : decode code 29 = .ok (.iconst 0, 1) := at_29
theorem dl3_30 : decode code 30 = .ok (.istore 9, 2) := at_30
theorem dl3_32 : decode code 32 = .ok (.lload_n 1, 1) := at_32
theorem dl3_33 : decode code 33 = .ok (.l2i, 1) := at_33
theorem dl3_34 : decode code 34 = .ok (.istore 10, 2) := at_34
theorem dl3_36 : decode code 36 = .ok (.lload_n 1, 1) := at_36
theorem dl3_37 : decode code 37 = .ok (.bipush 32, 2) := at_37
theorem dl3_39 : decode code 39 = .ok (.lushr, 1) := at_39
theorem dl3_40 : decode code 40 = .ok (.l2i, 1) := at_40
theorem dl3_41 : decode code 41 = .ok (.istore 11, 2) := at_41
theorem dl3_43 : decode code 43 = .ok (.lload_n 3, 1) := at_43
theorem dl3_44 : decode code 44 = .ok (.l2i, 1) := at_44
theorem dl3_45 : decode code 45 = .ok (.istore 12, 2) := at_45
theorem dl3_47 : decode code 47 = .ok (.lload_n 3, 1) := at_47
theorem dl3_48 : decode code 48 = .ok (.bipush 32, 2) := at_48
theorem dl3_50 : decode code 50 = .ok (.lushr, 1) := at_50
theorem dl3_51 : decode code 51 = .ok (.l2i, 1) := at_51
theorem dl3_52 : decode code 52 = .ok (.istore 13, 2) := at_52
theorem dl3_54 : decode code 54 = .ok (.lload 5, 2) := at_54
theorem dl3_56 : decode code 56 = .ok (.l2i, 1) := at_56
theorem dl3_57 : decode code 57 = .ok (.istore 14, 2) := at_57
theorem dl3_59 : decode code 59 = .ok (.lload 5, 2) := at_59
theorem dl3_61 : decode code 61 = .ok (.bipush 32, 2) := at_61
theorem dl3_63 : decode code 63 = .ok (.lushr, 1) := at_63
theorem dl3_64 : decode code 64 = .ok (.l2i, 1) := at_64
theorem dl3_65 : decode code 65 = .ok (.istore 15, 2) := at_65
theorem dl3_67 : decode code 67 = .ok (.iload 7, 2) := at_67
theorem dl3_69 : decode code 69 = .ok (.iload 10, 2) := at_69
theorem dl3_71 : decode code 71 = .ok (.iload 8, 2) := at_71
theorem dl3_73 : decode code 73 = .ok (.invokestatic 7, 3) := at_73
theorem dl3_76 : decode code 76 = .ok (.iload 12, 2) := at_76
theorem dl3_78 : decode code 78 = .ok (.iload 8, 2) := at_78
theorem dl3_80 : decode code 80 = .ok (.invokestatic 7, 3) := at_80
theorem dl3_83 : decode code 83 = .ok (.iload 14, 2) := at_83
theorem dl3_85 : decode code 85 = .ok (.iload 8, 2) := at_85
theorem dl3_87 : decode code 87 = .ok (.invokestatic 7, 3) := at_87
theorem dl3_90 : decode code 90 = .ok (.invokestatic 13, 3) := at_90
theorem dl3_93 : decode code 93 = .ok (.astore 16, 2) := at_93
theorem dl3_95 : decode code 95 = .ok (.iload 7, 2) := at_95
theorem dl3_97 : decode code 97 = .ok (.iload 11, 2) := at_97
theorem dl3_99 : decode code 99 = .ok (.iload 9, 2) := at_99
theorem dl3_101 : decode code 101 = .ok (.invokestatic 7, 3) := at_101
theorem dl3_104 : decode code 104 = .ok (.iload 13, 2) := at_104
theorem dl3_106 : decode code 106 = .ok (.iload 9, 2) := at_106
theorem dl3_108 : decode code 108 = .ok (.invokestatic 7, 3) := at_108
theorem dl3_111 : decode code 111 = .ok (.iload 15, 2) := at_111
theorem dl3_113 : decode code 113 = .ok (.iload 9, 2) := at_113
theorem dl3_115 : decode code 115 = .ok (.invokestatic 7, 3) := at_115
theorem dl3_118 : decode code 118 = .ok (.invokestatic 13, 3) := at_118
theorem dl3_121 : decode code 121 = .ok (.astore 17, 2) := at_121
theorem dl3_123 : decode code 123 = .ok (.iload 7, 2) := at_123
theorem dl3_125 : decode code 125 = .ok (.iconst 1, 1) := at_125
theorem dl3_126 : decode code 126 = .ok (.if_icmp .lt 21, 3) := at_126
theorem dl3_129 : decode code 129 = .ok (.iload 10, 2) := at_129
theorem dl3_131 : decode code 131 = .ok (.iload 8, 2) := at_131
theorem dl3_133 : decode code 133 = .ok (.invokestatic 17, 3) := at_133
theorem dl3_136 : decode code 136 = .ok (.iload 11, 2) := at_136
theorem dl3_138 : decode code 138 = .ok (.iload 9, 2) := at_138
theorem dl3_140 : decode code 140 = .ok (.invokestatic 17, 3) := at_140
theorem dl3_143 : decode code 143 = .ok (.lcmp, 1) := at_143
theorem dl3_144 : decode code 144 = .ok (.ifCond .lt 55, 3) := at_144
theorem dl3_147 : decode code 147 = .ok (.iload 7, 2) := at_147
theorem dl3_149 : decode code 149 = .ok (.iconst 2, 1) := at_149
theorem dl3_150 : decode code 150 = .ok (.if_icmp .lt 21, 3) := at_150
theorem dl3_153 : decode code 153 = .ok (.iload 12, 2) := at_153
theorem dl3_155 : decode code 155 = .ok (.iload 8, 2) := at_155
theorem dl3_157 : decode code 157 = .ok (.invokestatic 17, 3) := at_157
theorem dl3_160 : decode code 160 = .ok (.iload 13, 2) := at_160
theorem dl3_162 : decode code 162 = .ok (.iload 9, 2) := at_162
theorem dl3_164 : decode code 164 = .ok (.invokestatic 17, 3) := at_164
theorem dl3_167 : decode code 167 = .ok (.lcmp, 1) := at_167
theorem dl3_168 : decode code 168 = .ok (.ifCond .lt 31, 3) := at_168
theorem dl3_171 : decode code 171 = .ok (.iload 7, 2) := at_171
theorem dl3_173 : decode code 173 = .ok (.iconst 3, 1) := at_173
theorem dl3_174 : decode code 174 = .ok (.if_icmp .lt 21, 3) := at_174
theorem dl3_177 : decode code 177 = .ok (.iload 14, 2) := at_177
theorem dl3_179 : decode code 179 = .ok (.iload 8, 2) := at_179
theorem dl3_181 : decode code 181 = .ok (.invokestatic 17, 3) := at_181
theorem dl3_184 : decode code 184 = .ok (.iload 15, 2) := at_184
theorem dl3_186 : decode code 186 = .ok (.iload 9, 2) := at_186
theorem dl3_188 : decode code 188 = .ok (.invokestatic 17, 3) := at_188
theorem dl3_191 : decode code 191 = .ok (.lcmp, 1) := at_191
theorem dl3_192 : decode code 192 = .ok (.ifCond .lt 7, 3) := at_192
theorem dl3_195 : decode code 195 = .ok (.iconst 1, 1) := at_195
theorem dl3_196 : decode code 196 = .ok (.goto 4, 3) := at_196
theorem dl3_199 : decode code 199 = .ok (.iconst 0, 1) := at_199
theorem dl3_200 : decode code 200 = .ok (.istore 18, 2) := at_200
theorem dl3_202 : decode code 202 = .ok (.aload 16, 2) := at_202
theorem dl3_204 : decode code 204 = .ok (.aload 17, 2) := at_204
theorem dl3_206 : decode code 206 = .ok (.invokestatic 21, 3) := at_206
theorem dl3_209 : decode code 209 = .ok (.iload 18, 2) := at_209
theorem dl3_211 : decode code 211 = .ok (.if_icmp .ne 7, 3) := at_211
theorem dl3_214 : decode code 214 = .ok (.iconst 1, 1) := at_214
theorem dl3_215 : decode code 215 = .ok (.goto 4, 3) := at_215
theorem dl3_219 : decode code 219 = .ok (.ireturn, 1) := at_219
theorem efl3 (m : MethodId) (p1 : Int32) (q2 : Int64) (q3 : Int64) (q4 : Int64) : entryFrame m #[(.int p1), (.long q2), (.long q3), (.long q4)] maxLocals = mkF m 0 #[.val (.int p1), .val (.long q2), .second, .val (.long q3), .second, .val (.long q4), .second, .unset, .unset, .unset, .unset, .unset, .unset, .unset, .unset, .unset, .unset, .unset, .unset] [] := by first | (simp [entryFrame, mkF, argsToLocals, Value.category, maxLocals]; done) | rfl
set_option maxRecDepth 65536 in
set_option maxHeartbeats 40000000 in
theorem own_law3 (l : Launch) (Z : State) (a0 : Array Value) (hw : ∀ d ∈ tables_1, d.before a0 Z = true) (p1 : Int32) (q2 q3 q4 : Int64) (h0 : Heap) (n0 : Nat) (Z0 : n0 ≤ h0.size) (hn : (p1 &&& (3 : Int32)) = (3 : Int32)) :
    own_M l Z x code maxLocals ret tables_1 room_1 #[(.int p1), (.long q2), (.long q3), (.long q4)] h0 n0 (fun v h => v = some (.int 1) ∧ True) := by
  refine own_M.of (plainFor_of_name (by first | (simp [plainName, overriddenIn]; done) | decide +kernel)) ?_
  intro p e s m below meth c S0 hx hby hml hown hnm hret hlk hZ A00
  have A0 := A00.cast (efl3 m p1 q2 q3 q4)
  have A1 := A0.go (f' := mkF m 1 #[.val (.int p1), .val (.long q2), .second, .val (.long q3), .second, .val (.long q4), .second, .unset, .unset, .unset, .unset, .unset, .unset, .unset, .unset, .unset, .unset, .unset, .unset] [(.int p1)]) fun _ _ X _ k => XS.iloadN X.here hx rfl (hb hby dl3_0) rfl k
  have A2 := A1.go (f' := mkF m 2 #[.val (.int p1), .val (.long q2), .second, .val (.long q3), .second, .val (.long q4), .second, .unset, .unset, .unset, .unset, .unset, .unset, .unset, .unset, .unset, .unset, .unset, .unset] [(.int (3 : Int32)), (.int p1)]) fun _ _ X _ k => XS.iconst X.here hx rfl (hb hby dl3_1) k
  have A3 := A2.go (f' := mkF m 3 #[.val (.int p1), .val (.long q2), .second, .val (.long q3), .second, .val (.long q4), .second, .unset, .unset, .unset, .unset, .unset, .unset, .unset, .unset, .unset, .unset, .unset, .unset] [(.int (p1 &&& (3 : Int32)))]) fun _ _ X _ k => XS.iand X.here hx rfl (hb hby dl3_2) rfl k
  rw [hn] at A3
  have A4 := A3.go (f' := mkF m 5 #[.val (.int p1), .val (.long q2), .second, .val (.long q3), .second, .val (.long q4), .second, .val (.int (3 : Int32)), .unset, .unset, .unset, .unset, .unset, .unset, .unset, .unset, .unset, .unset, .unset] []) fun _ _ X _ k => XS.istore X.here hx rfl (hb hby dl3_3) rfl (l' := #[.val (.int p1), .val (.long q2), .second, .val (.long q3), .second, .val (.long q4), .second, .val (.int (3 : Int32)), .unset, .unset, .unset, .unset, .unset, .unset, .unset, .unset, .unset, .unset, .unset]) rfl k
  have A5 := A4.go (f' := mkF m 6 #[.val (.int p1), .val (.long q2), .second, .val (.long q3), .second, .val (.long q4), .second, .val (.int (3 : Int32)), .unset, .unset, .unset, .unset, .unset, .unset, .unset, .unset, .unset, .unset, .unset] [(.int p1)]) fun _ _ X _ k => XS.iloadN X.here hx rfl (hb hby dl3_5) rfl k
  have A6 := A5.go (f' := mkF m 7 #[.val (.int p1), .val (.long q2), .second, .val (.long q3), .second, .val (.long q4), .second, .val (.int (3 : Int32)), .unset, .unset, .unset, .unset, .unset, .unset, .unset, .unset, .unset, .unset, .unset] [(.int (4 : Int32)), (.int p1)]) fun _ _ X _ k => XS.iconst X.here hx rfl (hb hby dl3_6) k
  have A7 := A6.go (f' := mkF m 8 #[.val (.int p1), .val (.long q2), .second, .val (.long q3), .second, .val (.long q4), .second, .val (.int (3 : Int32)), .unset, .unset, .unset, .unset, .unset, .unset, .unset, .unset, .unset, .unset, .unset] [(.int (p1 &&& (4 : Int32)))]) fun _ _ X _ k => XS.iand X.here hx rfl (hb hby dl3_7) rfl k
  have A9 : own_R p l e room_1 s m #[(.int p1), (.long q2), (.long q3), (.long q4)] below meth c S0 n0 h0 0 0 (mkF m 16 #[.val (.int p1), .val (.long q2), .second, .val (.long q3), .second, .val (.long q4), .second, .val (.int (3 : Int32)), .unset, .unset, .unset, .unset, .unset, .unset, .unset, .unset, .unset, .unset, .unset] [(.int (if (p1 &&& (4 : Int32)) = (0 : Int32) then (0 : Int32) else (1 : Int32)))]) := by
    by_cases q8 : (p1 &&& (4 : Int32)) = (0 : Int32)
    · skip
      have A10 := A7.go (f' := mkF m 15 #[.val (.int p1), .val (.long q2), .second, .val (.long q3), .second, .val (.long q4), .second, .val (.int (3 : Int32)), .unset, .unset, .unset, .unset, .unset, .unset, .unset, .unset, .unset, .unset, .unset] []) fun _ _ X _ k => XS.ifYes X.here hx rfl (pc0 := 8) (pc' := 15) rfl (hb hby dl3_8) rfl ((if0 _ _).trans (teq q8).1) (by decide) (by decide) k
      have A11 := A10.go (f' := mkF m 16 #[.val (.int p1), .val (.long q2), .second, .val (.long q3), .second, .val (.long q4), .second, .val (.int (3 : Int32)), .unset, .unset, .unset, .unset, .unset, .unset, .unset, .unset, .unset, .unset, .unset] [(.int (0 : Int32))]) fun _ _ X _ k => XS.iconst X.here hx rfl (hb hby dl3_15) k
      simp only [if_pos q8]
      exact A11
    · skip
      have A12 := A7.go (f' := mkF m 11 #[.val (.int p1), .val (.long q2), .second, .val (.long q3), .second, .val (.long q4), .second, .val (.int (3 : Int32)), .unset, .unset, .unset, .unset, .unset, .unset, .unset, .unset, .unset, .unset, .unset] []) fun _ _ X _ k => XS.ifNo X.here hx rfl (hb hby dl3_8) rfl ((if0 _ _).trans (feq q8).1) k
      have A13 := A12.go (f' := mkF m 12 #[.val (.int p1), .val (.long q2), .second, .val (.long q3), .second, .val (.long q4), .second, .val (.int (3 : Int32)), .unset, .unset, .unset, .unset, .unset, .unset, .unset, .unset, .unset, .unset, .unset] [(.int (1 : Int32))]) fun _ _ X _ k => XS.iconst X.here hx rfl (hb hby dl3_11) k
      have A14 := A13.go (f' := mkF m 16 #[.val (.int p1), .val (.long q2), .second, .val (.long q3), .second, .val (.long q4), .second, .val (.int (3 : Int32)), .unset, .unset, .unset, .unset, .unset, .unset, .unset, .unset, .unset, .unset, .unset] [(.int (1 : Int32))]) fun _ _ X _ k => XS.goto X.here hx rfl (pc0 := 12) (pc' := 16) rfl (hb hby dl3_12) (by decide) (by decide) k
      simp only [if_neg q8]
      exact A14
  obtain ⟨ng, hng⟩ : ∃ zq_, zq_ = (if (p1 &&& (4 : Int32)) = (0 : Int32) then (0 : Int32) else (1 : Int32)) := ⟨_, rfl⟩
  rw [← hng] at A9
  have A15 := A9.go (f' := mkF m 18 #[.val (.int p1), .val (.long q2), .second, .val (.long q3), .second, .val (.long q4), .second, .val (.int (3 : Int32)), .val (.int ng), .unset, .unset, .unset, .unset, .unset, .unset, .unset, .unset, .unset, .unset] []) fun _ _ X _ k => XS.istore X.here hx rfl (hb hby dl3_16) rfl (l' := #[.val (.int p1), .val (.long q2), .second, .val (.long q3), .second, .val (.long q4), .second, .val (.int (3 : Int32)), .val (.int ng), .unset, .unset, .unset, .unset, .unset, .unset, .unset, .unset, .unset, .unset]) rfl k
  have A16 := A15.go (f' := mkF m 19 #[.val (.int p1), .val (.long q2), .second, .val (.long q3), .second, .val (.long q4), .second, .val (.int (3 : Int32)), .val (.int ng), .unset, .unset, .unset, .unset, .unset, .unset, .unset, .unset, .unset, .unset] [(.int p1)]) fun _ _ X _ k => XS.iloadN X.here hx rfl (hb hby dl3_18) rfl k
  have A17 := A16.go (f' := mkF m 21 #[.val (.int p1), .val (.long q2), .second, .val (.long q3), .second, .val (.long q4), .second, .val (.int (3 : Int32)), .val (.int ng), .unset, .unset, .unset, .unset, .unset, .unset, .unset, .unset, .unset, .unset] [(.int (8 : Int32)), (.int p1)]) fun _ _ X _ k => XS.bipush X.here hx rfl (hb hby dl3_19) k
  have A18 := A17.go (f' := mkF m 22 #[.val (.int p1), .val (.long q2), .second, .val (.long q3), .second, .val (.long q4), .second, .val (.int (3 : Int32)), .val (.int ng), .unset, .unset, .unset, .unset, .unset, .unset, .unset, .unset, .unset, .unset] [(.int (p1 &&& (8 : Int32)))]) fun _ _ X _ k => XS.iand X.here hx rfl (hb hby dl3_21) rfl k
  have A20 : own_R p l e room_1 s m #[(.int p1), (.long q2), (.long q3), (.long q4)] below meth c S0 n0 h0 0 0 (mkF m 30 #[.val (.int p1), .val (.long q2), .second, .val (.long q3), .second, .val (.long q4), .second, .val (.int (3 : Int32)), .val (.int ng), .unset, .unset, .unset, .unset, .unset, .unset, .unset, .unset, .unset, .unset] [(.int (if (p1 &&& (8 : Int32)) = (0 : Int32) then (0 : Int32) else (1 : Int32)))]) := by
    by_cases q19 : (p1 &&& (8 : Int32)) = (0 : Int32)
    · skip
      have A21 := A18.go (f' := mkF m 29 #[.val (.int p1), .val (.long q2), .second, .val (.long q3), .second, .val (.long q4), .second, .val (.int (3 : Int32)), .val (.int ng), .unset, .unset, .unset, .unset, .unset, .unset, .unset, .unset, .unset, .unset] []) fun _ _ X _ k => XS.ifYes X.here hx rfl (pc0 := 22) (pc' := 29) rfl (hb hby dl3_22) rfl ((if0 _ _).trans (teq q19).1) (by decide) (by decide) k
      have A22 := A21.go (f' := mkF m 30 #[.val (.int p1), .val (.long q2), .second, .val (.long q3), .second, .val (.long q4), .second, .val (.int (3 : Int32)), .val (.int ng), .unset, .unset, .unset, .unset, .unset, .unset, .unset, .unset, .unset, .unset] [(.int (0 : Int32))]) fun _ _ X _ k => XS.iconst X.here hx rfl (hb hby dl3_29) k
      simp only [if_pos q19]
      exact A22
    · skip
      have A23 := A18.go (f' := mkF m 25 #[.val (.int p1), .val (.long q2), .second, .val (.long q3), .second, .val (.long q4), .second, .val (.int (3 : Int32)), .val (.int ng), .unset, .unset, .unset, .unset, .unset, .unset, .unset, .unset, .unset, .unset] []) fun _ _ X _ k => XS.ifNo X.here hx rfl (hb hby dl3_22) rfl ((if0 _ _).trans (feq q19).1) k
      have A24 := A23.go (f' := mkF m 26 #[.val (.int p1), .val (.long q2), .second, .val (.long q3), .second, .val (.long q4), .second, .val (.int (3 : Int32)), .val (.int ng), .unset, .unset, .unset, .unset, .unset, .unset, .unset, .unset, .unset, .unset] [(.int (1 : Int32))]) fun _ _ X _ k => XS.iconst X.here hx rfl (hb hby dl3_25) k
      have A25 := A24.go (f' := mkF m 30 #[.val (.int p1), .val (.long q2), .second, .val (.long q3), .second, .val (.long q4), .second, .val (.int (3 : Int32)), .val (.int ng), .unset, .unset, .unset, .unset, .unset, .unset, .unset, .unset, .unset, .unset] [(.int (1 : Int32))]) fun _ _ X _ k => XS.goto X.here hx rfl (pc0 := 26) (pc' := 30) rfl (hb hby dl3_26) (by decide) (by decide) k
      simp only [if_neg q19]
      exact A25
  obtain ⟨mg, hmg⟩ : ∃ zq_, zq_ = (if (p1 &&& (8 : Int32)) = (0 : Int32) then (0 : Int32) else (1 : Int32)) := ⟨_, rfl⟩
  rw [← hmg] at A20
  have A26 := A20.go (f' := mkF m 32 #[.val (.int p1), .val (.long q2), .second, .val (.long q3), .second, .val (.long q4), .second, .val (.int (3 : Int32)), .val (.int ng), .val (.int mg), .unset, .unset, .unset, .unset, .unset, .unset, .unset, .unset, .unset] []) fun _ _ X _ k => XS.istore X.here hx rfl (hb hby dl3_30) rfl (l' := #[.val (.int p1), .val (.long q2), .second, .val (.long q3), .second, .val (.long q4), .second, .val (.int (3 : Int32)), .val (.int ng), .val (.int mg), .unset, .unset, .unset, .unset, .unset, .unset, .unset, .unset, .unset]) rfl k
  have A27 := A26.go (f' := mkF m 33 #[.val (.int p1), .val (.long q2), .second, .val (.long q3), .second, .val (.long q4), .second, .val (.int (3 : Int32)), .val (.int ng), .val (.int mg), .unset, .unset, .unset, .unset, .unset, .unset, .unset, .unset, .unset] [(.long q2)]) fun _ _ X _ k => XS.lloadN X.here hx rfl (hb hby dl3_32) rfl k
  have A28 := A27.go (f' := mkF m 34 #[.val (.int p1), .val (.long q2), .second, .val (.long q3), .second, .val (.long q4), .second, .val (.int (3 : Int32)), .val (.int ng), .val (.int mg), .unset, .unset, .unset, .unset, .unset, .unset, .unset, .unset, .unset] [(.int (q2.toInt32))]) fun _ _ X _ k => XS.l2i X.here hx rfl (hb hby dl3_33) rfl k
  obtain ⟨a0_, ha0_⟩ : ∃ zq_, zq_ = (q2.toInt32) := ⟨_, rfl⟩
  rw [← ha0_] at A28
  have A29 := A28.go (f' := mkF m 36 #[.val (.int p1), .val (.long q2), .second, .val (.long q3), .second, .val (.long q4), .second, .val (.int (3 : Int32)), .val (.int ng), .val (.int mg), .val (.int a0_), .unset, .unset, .unset, .unset, .unset, .unset, .unset, .unset] []) fun _ _ X _ k => XS.istore X.here hx rfl (hb hby dl3_34) rfl (l' := #[.val (.int p1), .val (.long q2), .second, .val (.long q3), .second, .val (.long q4), .second, .val (.int (3 : Int32)), .val (.int ng), .val (.int mg), .val (.int a0_), .unset, .unset, .unset, .unset, .unset, .unset, .unset, .unset]) rfl k
  have A30 := A29.go (f' := mkF m 37 #[.val (.int p1), .val (.long q2), .second, .val (.long q3), .second, .val (.long q4), .second, .val (.int (3 : Int32)), .val (.int ng), .val (.int mg), .val (.int a0_), .unset, .unset, .unset, .unset, .unset, .unset, .unset, .unset] [(.long q2)]) fun _ _ X _ k => XS.lloadN X.here hx rfl (hb hby dl3_36) rfl k
  have A31 := A30.go (f' := mkF m 39 #[.val (.int p1), .val (.long q2), .second, .val (.long q3), .second, .val (.long q4), .second, .val (.int (3 : Int32)), .val (.int ng), .val (.int mg), .val (.int a0_), .unset, .unset, .unset, .unset, .unset, .unset, .unset, .unset] [(.int (32 : Int32)), (.long q2)]) fun _ _ X _ k => XS.bipush X.here hx rfl (hb hby dl3_37) k
  have A32 := A31.go (f' := mkF m 40 #[.val (.int p1), .val (.long q2), .second, .val (.long q3), .second, .val (.long q4), .second, .val (.int (3 : Int32)), .val (.int ng), .val (.int mg), .val (.int a0_), .unset, .unset, .unset, .unset, .unset, .unset, .unset, .unset] [(.long ((q2.toUInt64 >>> ((32 : Int32) &&& 0x3f).toInt64.toUInt64).toInt64))]) fun _ _ X _ k => XS.lushr X.here hx rfl (hb hby dl3_39) rfl k
  have A33 := A32.go (f' := mkF m 41 #[.val (.int p1), .val (.long q2), .second, .val (.long q3), .second, .val (.long q4), .second, .val (.int (3 : Int32)), .val (.int ng), .val (.int mg), .val (.int a0_), .unset, .unset, .unset, .unset, .unset, .unset, .unset, .unset] [(.int (((q2.toUInt64 >>> ((32 : Int32) &&& 0x3f).toInt64.toUInt64).toInt64).toInt32))]) fun _ _ X _ k => XS.l2i X.here hx rfl (hb hby dl3_40) rfl k
  obtain ⟨b0_, hb0_⟩ : ∃ zq_, zq_ = (((q2.toUInt64 >>> ((32 : Int32) &&& 0x3f).toInt64.toUInt64).toInt64).toInt32) := ⟨_, rfl⟩
  rw [← hb0_] at A33
  have A34 := A33.go (f' := mkF m 43 #[.val (.int p1), .val (.long q2), .second, .val (.long q3), .second, .val (.long q4), .second, .val (.int (3 : Int32)), .val (.int ng), .val (.int mg), .val (.int a0_), .val (.int b0_), .unset, .unset, .unset, .unset, .unset, .unset, .unset] []) fun _ _ X _ k => XS.istore X.here hx rfl (hb hby dl3_41) rfl (l' := #[.val (.int p1), .val (.long q2), .second, .val (.long q3), .second, .val (.long q4), .second, .val (.int (3 : Int32)), .val (.int ng), .val (.int mg), .val (.int a0_), .val (.int b0_), .unset, .unset, .unset, .unset, .unset, .unset, .unset]) rfl k
  have A35 := A34.go (f' := mkF m 44 #[.val (.int p1), .val (.long q2), .second, .val (.long q3), .second, .val (.long q4), .second, .val (.int (3 : Int32)), .val (.int ng), .val (.int mg), .val (.int a0_), .val (.int b0_), .unset, .unset, .unset, .unset, .unset, .unset, .unset] [(.long q3)]) fun _ _ X _ k => XS.lloadN X.here hx rfl (hb hby dl3_43) rfl k
  have A36 := A35.go (f' := mkF m 45 #[.val (.int p1), .val (.long q2), .second, .val (.long q3), .second, .val (.long q4), .second, .val (.int (3 : Int32)), .val (.int ng), .val (.int mg), .val (.int a0_), .val (.int b0_), .unset, .unset, .unset, .unset, .unset, .unset, .unset] [(.int (q3.toInt32))]) fun _ _ X _ k => XS.l2i X.here hx rfl (hb hby dl3_44) rfl k
  obtain ⟨a1_, ha1_⟩ : ∃ zq_, zq_ = (q3.toInt32) := ⟨_, rfl⟩
  rw [← ha1_] at A36
  have A37 := A36.go (f' := mkF m 47 #[.val (.int p1), .val (.long q2), .second, .val (.long q3), .second, .val (.long q4), .second, .val (.int (3 : Int32)), .val (.int ng), .val (.int mg), .val (.int a0_), .val (.int b0_), .val (.int a1_), .unset, .unset, .unset, .unset, .unset, .unset] []) fun _ _ X _ k => XS.istore X.here hx rfl (hb hby dl3_45) rfl (l' := #[.val (.int p1), .val (.long q2), .second, .val (.long q3), .second, .val (.long q4), .second, .val (.int (3 : Int32)), .val (.int ng), .val (.int mg), .val (.int a0_), .val (.int b0_), .val (.int a1_), .unset, .unset, .unset, .unset, .unset, .unset]) rfl k
  have A38 := A37.go (f' := mkF m 48 #[.val (.int p1), .val (.long q2), .second, .val (.long q3), .second, .val (.long q4), .second, .val (.int (3 : Int32)), .val (.int ng), .val (.int mg), .val (.int a0_), .val (.int b0_), .val (.int a1_), .unset, .unset, .unset, .unset, .unset, .unset] [(.long q3)]) fun _ _ X _ k => XS.lloadN X.here hx rfl (hb hby dl3_47) rfl k
  have A39 := A38.go (f' := mkF m 50 #[.val (.int p1), .val (.long q2), .second, .val (.long q3), .second, .val (.long q4), .second, .val (.int (3 : Int32)), .val (.int ng), .val (.int mg), .val (.int a0_), .val (.int b0_), .val (.int a1_), .unset, .unset, .unset, .unset, .unset, .unset] [(.int (32 : Int32)), (.long q3)]) fun _ _ X _ k => XS.bipush X.here hx rfl (hb hby dl3_48) k
  have A40 := A39.go (f' := mkF m 51 #[.val (.int p1), .val (.long q2), .second, .val (.long q3), .second, .val (.long q4), .second, .val (.int (3 : Int32)), .val (.int ng), .val (.int mg), .val (.int a0_), .val (.int b0_), .val (.int a1_), .unset, .unset, .unset, .unset, .unset, .unset] [(.long ((q3.toUInt64 >>> ((32 : Int32) &&& 0x3f).toInt64.toUInt64).toInt64))]) fun _ _ X _ k => XS.lushr X.here hx rfl (hb hby dl3_50) rfl k
  have A41 := A40.go (f' := mkF m 52 #[.val (.int p1), .val (.long q2), .second, .val (.long q3), .second, .val (.long q4), .second, .val (.int (3 : Int32)), .val (.int ng), .val (.int mg), .val (.int a0_), .val (.int b0_), .val (.int a1_), .unset, .unset, .unset, .unset, .unset, .unset] [(.int (((q3.toUInt64 >>> ((32 : Int32) &&& 0x3f).toInt64.toUInt64).toInt64).toInt32))]) fun _ _ X _ k => XS.l2i X.here hx rfl (hb hby dl3_51) rfl k
  obtain ⟨b1_, hb1_⟩ : ∃ zq_, zq_ = (((q3.toUInt64 >>> ((32 : Int32) &&& 0x3f).toInt64.toUInt64).toInt64).toInt32) := ⟨_, rfl⟩
  rw [← hb1_] at A41
  have A42 := A41.go (f' := mkF m 54 #[.val (.int p1), .val (.long q2), .second, .val (.long q3), .second, .val (.long q4), .second, .val (.int (3 : Int32)), .val (.int ng), .val (.int mg), .val (.int a0_), .val (.int b0_), .val (.int a1_), .val (.int b1_), .unset, .unset, .unset, .unset, .unset] []) fun _ _ X _ k => XS.istore X.here hx rfl (hb hby dl3_52) rfl (l' := #[.val (.int p1), .val (.long q2), .second, .val (.long q3), .second, .val (.long q4), .second, .val (.int (3 : Int32)), .val (.int ng), .val (.int mg), .val (.int a0_), .val (.int b0_), .val (.int a1_), .val (.int b1_), .unset, .unset, .unset, .unset, .unset]) rfl k
  have A43 := A42.go (f' := mkF m 56 #[.val (.int p1), .val (.long q2), .second, .val (.long q3), .second, .val (.long q4), .second, .val (.int (3 : Int32)), .val (.int ng), .val (.int mg), .val (.int a0_), .val (.int b0_), .val (.int a1_), .val (.int b1_), .unset, .unset, .unset, .unset, .unset] [(.long q4)]) fun _ _ X _ k => XS.lload X.here hx rfl (hb hby dl3_54) rfl k
  have A44 := A43.go (f' := mkF m 57 #[.val (.int p1), .val (.long q2), .second, .val (.long q3), .second, .val (.long q4), .second, .val (.int (3 : Int32)), .val (.int ng), .val (.int mg), .val (.int a0_), .val (.int b0_), .val (.int a1_), .val (.int b1_), .unset, .unset, .unset, .unset, .unset] [(.int (q4.toInt32))]) fun _ _ X _ k => XS.l2i X.here hx rfl (hb hby dl3_56) rfl k
  obtain ⟨a2_, ha2_⟩ : ∃ zq_, zq_ = (q4.toInt32) := ⟨_, rfl⟩
  rw [← ha2_] at A44
  have A45 := A44.go (f' := mkF m 59 #[.val (.int p1), .val (.long q2), .second, .val (.long q3), .second, .val (.long q4), .second, .val (.int (3 : Int32)), .val (.int ng), .val (.int mg), .val (.int a0_), .val (.int b0_), .val (.int a1_), .val (.int b1_), .val (.int a2_), .unset, .unset, .unset, .unset] []) fun _ _ X _ k => XS.istore X.here hx rfl (hb hby dl3_57) rfl (l' := #[.val (.int p1), .val (.long q2), .second, .val (.long q3), .second, .val (.long q4), .second, .val (.int (3 : Int32)), .val (.int ng), .val (.int mg), .val (.int a0_), .val (.int b0_), .val (.int a1_), .val (.int b1_), .val (.int a2_), .unset, .unset, .unset, .unset]) rfl k
  have A46 := A45.go (f' := mkF m 61 #[.val (.int p1), .val (.long q2), .second, .val (.long q3), .second, .val (.long q4), .second, .val (.int (3 : Int32)), .val (.int ng), .val (.int mg), .val (.int a0_), .val (.int b0_), .val (.int a1_), .val (.int b1_), .val (.int a2_), .unset, .unset, .unset, .unset] [(.long q4)]) fun _ _ X _ k => XS.lload X.here hx rfl (hb hby dl3_59) rfl k
  have A47 := A46.go (f' := mkF m 63 #[.val (.int p1), .val (.long q2), .second, .val (.long q3), .second, .val (.long q4), .second, .val (.int (3 : Int32)), .val (.int ng), .val (.int mg), .val (.int a0_), .val (.int b0_), .val (.int a1_), .val (.int b1_), .val (.int a2_), .unset, .unset, .unset, .unset] [(.int (32 : Int32)), (.long q4)]) fun _ _ X _ k => XS.bipush X.here hx rfl (hb hby dl3_61) k
  have A48 := A47.go (f' := mkF m 64 #[.val (.int p1), .val (.long q2), .second, .val (.long q3), .second, .val (.long q4), .second, .val (.int (3 : Int32)), .val (.int ng), .val (.int mg), .val (.int a0_), .val (.int b0_), .val (.int a1_), .val (.int b1_), .val (.int a2_), .unset, .unset, .unset, .unset] [(.long ((q4.toUInt64 >>> ((32 : Int32) &&& 0x3f).toInt64.toUInt64).toInt64))]) fun _ _ X _ k => XS.lushr X.here hx rfl (hb hby dl3_63) rfl k
  have A49 := A48.go (f' := mkF m 65 #[.val (.int p1), .val (.long q2), .second, .val (.long q3), .second, .val (.long q4), .second, .val (.int (3 : Int32)), .val (.int ng), .val (.int mg), .val (.int a0_), .val (.int b0_), .val (.int a1_), .val (.int b1_), .val (.int a2_), .unset, .unset, .unset, .unset] [(.int (((q4.toUInt64 >>> ((32 : Int32) &&& 0x3f).toInt64.toUInt64).toInt64).toInt32))]) fun _ _ X _ k => XS.l2i X.here hx rfl (hb hby dl3_64) rfl k
  obtain ⟨b2_, hb2_⟩ : ∃ zq_, zq_ = (((q4.toUInt64 >>> ((32 : Int32) &&& 0x3f).toInt64.toUInt64).toInt64).toInt32) := ⟨_, rfl⟩
  rw [← hb2_] at A49
  have A50 := A49.go (f' := mkF m 67 #[.val (.int p1), .val (.long q2), .second, .val (.long q3), .second, .val (.long q4), .second, .val (.int (3 : Int32)), .val (.int ng), .val (.int mg), .val (.int a0_), .val (.int b0_), .val (.int a1_), .val (.int b1_), .val (.int a2_), .val (.int b2_), .unset, .unset, .unset] []) fun _ _ X _ k => XS.istore X.here hx rfl (hb hby dl3_65) rfl (l' := #[.val (.int p1), .val (.long q2), .second, .val (.long q3), .second, .val (.long q4), .second, .val (.int (3 : Int32)), .val (.int ng), .val (.int mg), .val (.int a0_), .val (.int b0_), .val (.int a1_), .val (.int b1_), .val (.int a2_), .val (.int b2_), .unset, .unset, .unset]) rfl k
  have A51 := A50.go (f' := mkF m 69 #[.val (.int p1), .val (.long q2), .second, .val (.long q3), .second, .val (.long q4), .second, .val (.int (3 : Int32)), .val (.int ng), .val (.int mg), .val (.int a0_), .val (.int b0_), .val (.int a1_), .val (.int b1_), .val (.int a2_), .val (.int b2_), .unset, .unset, .unset] [(.int (3 : Int32))]) fun _ _ X _ k => XS.iload X.here hx rfl (hb hby dl3_67) rfl k
  have A52 := A51.go (f' := mkF m 71 #[.val (.int p1), .val (.long q2), .second, .val (.long q3), .second, .val (.long q4), .second, .val (.int (3 : Int32)), .val (.int ng), .val (.int mg), .val (.int a0_), .val (.int b0_), .val (.int a1_), .val (.int b1_), .val (.int a2_), .val (.int b2_), .unset, .unset, .unset] [(.int a0_), (.int (3 : Int32))]) fun _ _ X _ k => XS.iload X.here hx rfl (hb hby dl3_69) rfl k
  have A53 := A52.go (f' := mkF m 73 #[.val (.int p1), .val (.long q2), .second, .val (.long q3), .second, .val (.long q4), .second, .val (.int (3 : Int32)), .val (.int ng), .val (.int mg), .val (.int a0_), .val (.int b0_), .val (.int a1_), .val (.int b1_), .val (.int a2_), .val (.int b2_), .unset, .unset, .unset] [(.int ng), (.int a0_), (.int (3 : Int32))]) fun _ _ X _ k => XS.iload X.here hx rfl (hb hby dl3_71) rfl k
  obtain ⟨vA54, hA54, ⟨rfl, rfl⟩, A54⟩ := A53.callS (own_dvM l Z a0 hw a0_ ng h0 n0 Z0) hx hZ hown (hb hby dl3_73) (hw _ (List.mem_of_getElem? (i := 0) rfl)) (hw _ (List.mem_of_getElem? (i := 1) rfl)) (hw _ (List.mem_of_getElem? (i := 2) rfl)) (hw _ (List.mem_of_getElem? (i := 3) rfl)) ⟨by decide, by decide⟩ (lenOf pd__28IZ_29D rfl) (argsL := [(.int a0_), (.int ng)]) (rest := [(.int (3 : Int32))]) rfl rfl (by rw [hml]; rfl) (W := 1) (Nat.le_of_eq rfl) (by decide) (by decide) (by decide) (by decide)
  have A55 : own_R p l e _ _ m _ below meth c S0 n0 h0 0 0 (mkF m 76 #[.val (.int p1), .val (.long q2), .second, .val (.long q3), .second, .val (.long q4), .second, .val (.int (3 : Int32)), .val (.int ng), .val (.int mg), .val (.int a0_), .val (.int b0_), .val (.int a1_), .val (.int b1_), .val (.int a2_), .val (.int b2_), .unset, .unset, .unset] [(.double (own_dv a0_ ng)), (.int (3 : Int32))]) := A54
  have A56 := A55.go (f' := mkF m 78 #[.val (.int p1), .val (.long q2), .second, .val (.long q3), .second, .val (.long q4), .second, .val (.int (3 : Int32)), .val (.int ng), .val (.int mg), .val (.int a0_), .val (.int b0_), .val (.int a1_), .val (.int b1_), .val (.int a2_), .val (.int b2_), .unset, .unset, .unset] [(.int a1_), (.double (own_dv a0_ ng)), (.int (3 : Int32))]) fun _ _ X _ k => XS.iload X.here hx rfl (hb hby dl3_76) rfl k
  have A57 := A56.go (f' := mkF m 80 #[.val (.int p1), .val (.long q2), .second, .val (.long q3), .second, .val (.long q4), .second, .val (.int (3 : Int32)), .val (.int ng), .val (.int mg), .val (.int a0_), .val (.int b0_), .val (.int a1_), .val (.int b1_), .val (.int a2_), .val (.int b2_), .unset, .unset, .unset] [(.int ng), (.int a1_), (.double (own_dv a0_ ng)), (.int (3 : Int32))]) fun _ _ X _ k => XS.iload X.here hx rfl (hb hby dl3_78) rfl k
  obtain ⟨vA58, hA58, ⟨rfl, rfl⟩, A58⟩ := A57.callS (own_dvM l Z a0 hw a1_ ng h0 n0 Z0) hx hZ hown (hb hby dl3_80) (hw _ (List.mem_of_getElem? (i := 0) rfl)) (hw _ (List.mem_of_getElem? (i := 1) rfl)) (hw _ (List.mem_of_getElem? (i := 2) rfl)) (hw _ (List.mem_of_getElem? (i := 3) rfl)) ⟨by decide, by decide⟩ (lenOf pd__28IZ_29D rfl) (argsL := [(.int a1_), (.int ng)]) (rest := [(.double (own_dv a0_ ng)), (.int (3 : Int32))]) rfl rfl (by rw [hml]; rfl) (W := 3) (Nat.le_of_eq rfl) (by decide) (by decide) (by decide) (by decide)
  have A59 : own_R p l e _ _ m _ below meth c S0 n0 h0 0 0 (mkF m 83 #[.val (.int p1), .val (.long q2), .second, .val (.long q3), .second, .val (.long q4), .second, .val (.int (3 : Int32)), .val (.int ng), .val (.int mg), .val (.int a0_), .val (.int b0_), .val (.int a1_), .val (.int b1_), .val (.int a2_), .val (.int b2_), .unset, .unset, .unset] [(.double (own_dv a1_ ng)), (.double (own_dv a0_ ng)), (.int (3 : Int32))]) := A58
  have A60 := A59.go (f' := mkF m 85 #[.val (.int p1), .val (.long q2), .second, .val (.long q3), .second, .val (.long q4), .second, .val (.int (3 : Int32)), .val (.int ng), .val (.int mg), .val (.int a0_), .val (.int b0_), .val (.int a1_), .val (.int b1_), .val (.int a2_), .val (.int b2_), .unset, .unset, .unset] [(.int a2_), (.double (own_dv a1_ ng)), (.double (own_dv a0_ ng)), (.int (3 : Int32))]) fun _ _ X _ k => XS.iload X.here hx rfl (hb hby dl3_83) rfl k
  have A61 := A60.go (f' := mkF m 87 #[.val (.int p1), .val (.long q2), .second, .val (.long q3), .second, .val (.long q4), .second, .val (.int (3 : Int32)), .val (.int ng), .val (.int mg), .val (.int a0_), .val (.int b0_), .val (.int a1_), .val (.int b1_), .val (.int a2_), .val (.int b2_), .unset, .unset, .unset] [(.int ng), (.int a2_), (.double (own_dv a1_ ng)), (.double (own_dv a0_ ng)), (.int (3 : Int32))]) fun _ _ X _ k => XS.iload X.here hx rfl (hb hby dl3_85) rfl k
  obtain ⟨vA62, hA62, ⟨rfl, rfl⟩, A62⟩ := A61.callS (own_dvM l Z a0 hw a2_ ng h0 n0 Z0) hx hZ hown (hb hby dl3_87) (hw _ (List.mem_of_getElem? (i := 0) rfl)) (hw _ (List.mem_of_getElem? (i := 1) rfl)) (hw _ (List.mem_of_getElem? (i := 2) rfl)) (hw _ (List.mem_of_getElem? (i := 3) rfl)) ⟨by decide, by decide⟩ (lenOf pd__28IZ_29D rfl) (argsL := [(.int a2_), (.int ng)]) (rest := [(.double (own_dv a1_ ng)), (.double (own_dv a0_ ng)), (.int (3 : Int32))]) rfl rfl (by rw [hml]; rfl) (W := 5) (Nat.le_of_eq rfl) (by decide) (by decide) (by decide) (by decide)
  have A63 : own_R p l e _ _ m _ below meth c S0 n0 h0 0 0 (mkF m 90 #[.val (.int p1), .val (.long q2), .second, .val (.long q3), .second, .val (.long q4), .second, .val (.int (3 : Int32)), .val (.int ng), .val (.int mg), .val (.int a0_), .val (.int b0_), .val (.int a1_), .val (.int b1_), .val (.int a2_), .val (.int b2_), .unset, .unset, .unset] [(.double (own_dv a2_ ng)), (.double (own_dv a1_ ng)), (.double (own_dv a0_ ng)), (.int (3 : Int32))]) := A62
  obtain ⟨vA64, hA64, ⟨xf, rfl, K_xf, s_xf, g_xf, V_xf⟩, A64⟩ := A63.callS (own_make3 l Z a0 hw (3 : Int32) (own_dv a0_ ng) (own_dv a1_ ng) (own_dv a2_ ng) h0 n0 Z0 rfl) hx hZ hown (hb hby dl3_90) (hw _ (List.mem_of_getElem? (i := 4) rfl)) (hw _ (List.mem_of_getElem? (i := 5) rfl)) (hw _ (List.mem_of_getElem? (i := 2) rfl)) (hw _ (List.mem_of_getElem? (i := 6) rfl)) ⟨by decide, by decide⟩ (lenOf pd__28IDDD_29_5bD rfl) (argsL := [(.int (3 : Int32)), (.double (own_dv a0_ ng)), (.double (own_dv a1_ ng)), (.double (own_dv a2_ ng))]) (rest := []) rfl rfl (by rw [hml]; rfl) (W := 0) (Nat.le_of_eq rfl) (by decide) (by decide) (by decide) (by decide)
  have Z0 : n0 ≤ hA64.size := Nat.le_trans Z0 K_xf.1
  have A65 : own_R p l e _ _ m _ below meth c S0 n0 hA64 1 3 (mkF m 93 #[.val (.int p1), .val (.long q2), .second, .val (.long q3), .second, .val (.long q4), .second, .val (.int (3 : Int32)), .val (.int ng), .val (.int mg), .val (.int a0_), .val (.int b0_), .val (.int a1_), .val (.int b1_), .val (.int a2_), .val (.int b2_), .unset, .unset, .unset] [(.ref xf)]) := A64
  have A66 := A65.go (f' := mkF m 95 #[.val (.int p1), .val (.long q2), .second, .val (.long q3), .second, .val (.long q4), .second, .val (.int (3 : Int32)), .val (.int ng), .val (.int mg), .val (.int a0_), .val (.int b0_), .val (.int a1_), .val (.int b1_), .val (.int a2_), .val (.int b2_), .val (.ref xf), .unset, .unset] []) fun _ _ X _ k => XS.astore X.here hx rfl (hb hby dl3_93) rfl rfl (l' := #[.val (.int p1), .val (.long q2), .second, .val (.long q3), .second, .val (.long q4), .second, .val (.int (3 : Int32)), .val (.int ng), .val (.int mg), .val (.int a0_), .val (.int b0_), .val (.int a1_), .val (.int b1_), .val (.int a2_), .val (.int b2_), .val (.ref xf), .unset, .unset]) rfl k
  have A67 := A66.go (f' := mkF m 97 #[.val (.int p1), .val (.long q2), .second, .val (.long q3), .second, .val (.long q4), .second, .val (.int (3 : Int32)), .val (.int ng), .val (.int mg), .val (.int a0_), .val (.int b0_), .val (.int a1_), .val (.int b1_), .val (.int a2_), .val (.int b2_), .val (.ref xf), .unset, .unset] [(.int (3 : Int32))]) fun _ _ X _ k => XS.iload X.here hx rfl (hb hby dl3_95) rfl k
  have A68 := A67.go (f' := mkF m 99 #[.val (.int p1), .val (.long q2), .second, .val (.long q3), .second, .val (.long q4), .second, .val (.int (3 : Int32)), .val (.int ng), .val (.int mg), .val (.int a0_), .val (.int b0_), .val (.int a1_), .val (.int b1_), .val (.int a2_), .val (.int b2_), .val (.ref xf), .unset, .unset] [(.int b0_), (.int (3 : Int32))]) fun _ _ X _ k => XS.iload X.here hx rfl (hb hby dl3_97) rfl k
  have A69 := A68.go (f' := mkF m 101 #[.val (.int p1), .val (.long q2), .second, .val (.long q3), .second, .val (.long q4), .second, .val (.int (3 : Int32)), .val (.int ng), .val (.int mg), .val (.int a0_), .val (.int b0_), .val (.int a1_), .val (.int b1_), .val (.int a2_), .val (.int b2_), .val (.ref xf), .unset, .unset] [(.int mg), (.int b0_), (.int (3 : Int32))]) fun _ _ X _ k => XS.iload X.here hx rfl (hb hby dl3_99) rfl k
  obtain ⟨vA70, hA70, ⟨rfl, rfl⟩, A70⟩ := A69.callS (own_dvM l Z a0 hw b0_ mg hA64 n0 Z0) hx hZ hown (hb hby dl3_101) (hw _ (List.mem_of_getElem? (i := 0) rfl)) (hw _ (List.mem_of_getElem? (i := 1) rfl)) (hw _ (List.mem_of_getElem? (i := 2) rfl)) (hw _ (List.mem_of_getElem? (i := 3) rfl)) ⟨by decide, by decide⟩ (lenOf pd__28IZ_29D rfl) (argsL := [(.int b0_), (.int mg)]) (rest := [(.int (3 : Int32))]) rfl rfl (by rw [hml]; rfl) (W := 1) (Nat.le_of_eq rfl) (by decide) (by decide) (by decide) (by decide)
  have A71 : own_R p l e _ _ m _ below meth c S0 n0 hA64 1 3 (mkF m 104 #[.val (.int p1), .val (.long q2), .second, .val (.long q3), .second, .val (.long q4), .second, .val (.int (3 : Int32)), .val (.int ng), .val (.int mg), .val (.int a0_), .val (.int b0_), .val (.int a1_), .val (.int b1_), .val (.int a2_), .val (.int b2_), .val (.ref xf), .unset, .unset] [(.double (own_dv b0_ mg)), (.int (3 : Int32))]) := A70
  have A72 := A71.go (f' := mkF m 106 #[.val (.int p1), .val (.long q2), .second, .val (.long q3), .second, .val (.long q4), .second, .val (.int (3 : Int32)), .val (.int ng), .val (.int mg), .val (.int a0_), .val (.int b0_), .val (.int a1_), .val (.int b1_), .val (.int a2_), .val (.int b2_), .val (.ref xf), .unset, .unset] [(.int b1_), (.double (own_dv b0_ mg)), (.int (3 : Int32))]) fun _ _ X _ k => XS.iload X.here hx rfl (hb hby dl3_104) rfl k
  have A73 := A72.go (f' := mkF m 108 #[.val (.int p1), .val (.long q2), .second, .val (.long q3), .second, .val (.long q4), .second, .val (.int (3 : Int32)), .val (.int ng), .val (.int mg), .val (.int a0_), .val (.int b0_), .val (.int a1_), .val (.int b1_), .val (.int a2_), .val (.int b2_), .val (.ref xf), .unset, .unset] [(.int mg), (.int b1_), (.double (own_dv b0_ mg)), (.int (3 : Int32))]) fun _ _ X _ k => XS.iload X.here hx rfl (hb hby dl3_106) rfl k
  obtain ⟨vA74, hA74, ⟨rfl, rfl⟩, A74⟩ := A73.callS (own_dvM l Z a0 hw b1_ mg hA64 n0 Z0) hx hZ hown (hb hby dl3_108) (hw _ (List.mem_of_getElem? (i := 0) rfl)) (hw _ (List.mem_of_getElem? (i := 1) rfl)) (hw _ (List.mem_of_getElem? (i := 2) rfl)) (hw _ (List.mem_of_getElem? (i := 3) rfl)) ⟨by decide, by decide⟩ (lenOf pd__28IZ_29D rfl) (argsL := [(.int b1_), (.int mg)]) (rest := [(.double (own_dv b0_ mg)), (.int (3 : Int32))]) rfl rfl (by rw [hml]; rfl) (W := 3) (Nat.le_of_eq rfl) (by decide) (by decide) (by decide) (by decide)
  have A75 : own_R p l e _ _ m _ below meth c S0 n0 hA64 1 3 (mkF m 111 #[.val (.int p1), .val (.long q2), .second, .val (.long q3), .second, .val (.long q4), .second, .val (.int (3 : Int32)), .val (.int ng), .val (.int mg), .val (.int a0_), .val (.int b0_), .val (.int a1_), .val (.int b1_), .val (.int a2_), .val (.int b2_), .val (.ref xf), .unset, .unset] [(.double (own_dv b1_ mg)), (.double (own_dv b0_ mg)), (.int (3 : Int32))]) := A74
  have A76 := A75.go (f' := mkF m 113 #[.val (.int p1), .val (.long q2), .second, .val (.long q3), .second, .val (.long q4), .second, .val (.int (3 : Int32)), .val (.int ng), .val (.int mg), .val (.int a0_), .val (.int b0_), .val (.int a1_), .val (.int b1_), .val (.int a2_), .val (.int b2_), .val (.ref xf), .unset, .unset] [(.int b2_), (.double (own_dv b1_ mg)), (.double (own_dv b0_ mg)), (.int (3 : Int32))]) fun _ _ X _ k => XS.iload X.here hx rfl (hb hby dl3_111) rfl k
  have A77 := A76.go (f' := mkF m 115 #[.val (.int p1), .val (.long q2), .second, .val (.long q3), .second, .val (.long q4), .second, .val (.int (3 : Int32)), .val (.int ng), .val (.int mg), .val (.int a0_), .val (.int b0_), .val (.int a1_), .val (.int b1_), .val (.int a2_), .val (.int b2_), .val (.ref xf), .unset, .unset] [(.int mg), (.int b2_), (.double (own_dv b1_ mg)), (.double (own_dv b0_ mg)), (.int (3 : Int32))]) fun _ _ X _ k => XS.iload X.here hx rfl (hb hby dl3_113) rfl k
  obtain ⟨vA78, hA78, ⟨rfl, rfl⟩, A78⟩ := A77.callS (own_dvM l Z a0 hw b2_ mg hA64 n0 Z0) hx hZ hown (hb hby dl3_115) (hw _ (List.mem_of_getElem? (i := 0) rfl)) (hw _ (List.mem_of_getElem? (i := 1) rfl)) (hw _ (List.mem_of_getElem? (i := 2) rfl)) (hw _ (List.mem_of_getElem? (i := 3) rfl)) ⟨by decide, by decide⟩ (lenOf pd__28IZ_29D rfl) (argsL := [(.int b2_), (.int mg)]) (rest := [(.double (own_dv b1_ mg)), (.double (own_dv b0_ mg)), (.int (3 : Int32))]) rfl rfl (by rw [hml]; rfl) (W := 5) (Nat.le_of_eq rfl) (by decide) (by decide) (by decide) (by decide)
  have A79 : own_R p l e _ _ m _ below meth c S0 n0 hA64 1 3 (mkF m 118 #[.val (.int p1), .val (.long q2), .second, .val (.long q3), .second, .val (.long q4), .second, .val (.int (3 : Int32)), .val (.int ng), .val (.int mg), .val (.int a0_), .val (.int b0_), .val (.int a1_), .val (.int b1_), .val (.int a2_), .val (.int b2_), .val (.ref xf), .unset, .unset] [(.double (own_dv b2_ mg)), (.double (own_dv b1_ mg)), (.double (own_dv b0_ mg)), (.int (3 : Int32))]) := A78
  obtain ⟨vA80, hA80, ⟨xs, rfl, K_xs, s_xs, g_xs, V_xs⟩, A80⟩ := A79.callS (own_make3 l Z a0 hw (3 : Int32) (own_dv b0_ mg) (own_dv b1_ mg) (own_dv b2_ mg) hA64 n0 Z0 rfl) hx hZ hown (hb hby dl3_118) (hw _ (List.mem_of_getElem? (i := 4) rfl)) (hw _ (List.mem_of_getElem? (i := 5) rfl)) (hw _ (List.mem_of_getElem? (i := 2) rfl)) (hw _ (List.mem_of_getElem? (i := 6) rfl)) ⟨by decide, by decide⟩ (lenOf pd__28IDDD_29_5bD rfl) (argsL := [(.int (3 : Int32)), (.double (own_dv b0_ mg)), (.double (own_dv b1_ mg)), (.double (own_dv b2_ mg))]) (rest := []) rfl rfl (by rw [hml]; rfl) (W := 0) (Nat.le_of_eq rfl) (by decide) (by decide) (by decide) (by decide)
  have ne_xf_xs : xf ≠ xs := Nat.ne_of_lt (Nat.lt_of_lt_of_le V_xf.lt s_xs)
  have V_xf : own_Ar Z hA80 xf .double [(.double (own_dv a0_ ng)), (.double (own_dv a1_ ng)), (.double (own_dv a2_ ng))] := V_xf.keep K_xs nin0
  have Z0 : n0 ≤ hA80.size := Nat.le_trans Z0 K_xs.1
  have A81 : own_R p l e _ _ m _ below meth c S0 n0 hA80 2 6 (mkF m 121 #[.val (.int p1), .val (.long q2), .second, .val (.long q3), .second, .val (.long q4), .second, .val (.int (3 : Int32)), .val (.int ng), .val (.int mg), .val (.int a0_), .val (.int b0_), .val (.int a1_), .val (.int b1_), .val (.int a2_), .val (.int b2_), .val (.ref xf), .unset, .unset] [(.ref xs)]) := A80
  have A82 := A81.go (f' := mkF m 123 #[.val (.int p1), .val (.long q2), .second, .val (.long q3), .second, .val (.long q4), .second, .val (.int (3 : Int32)), .val (.int ng), .val (.int mg), .val (.int a0_), .val (.int b0_), .val (.int a1_), .val (.int b1_), .val (.int a2_), .val (.int b2_), .val (.ref xf), .val (.ref xs), .unset] []) fun _ _ X _ k => XS.astore X.here hx rfl (hb hby dl3_121) rfl rfl (l' := #[.val (.int p1), .val (.long q2), .second, .val (.long q3), .second, .val (.long q4), .second, .val (.int (3 : Int32)), .val (.int ng), .val (.int mg), .val (.int a0_), .val (.int b0_), .val (.int a1_), .val (.int b1_), .val (.int a2_), .val (.int b2_), .val (.ref xf), .val (.ref xs), .unset]) rfl k
  have A83 := A82.go (f' := mkF m 125 #[.val (.int p1), .val (.long q2), .second, .val (.long q3), .second, .val (.long q4), .second, .val (.int (3 : Int32)), .val (.int ng), .val (.int mg), .val (.int a0_), .val (.int b0_), .val (.int a1_), .val (.int b1_), .val (.int a2_), .val (.int b2_), .val (.ref xf), .val (.ref xs), .unset] [(.int (3 : Int32))]) fun _ _ X _ k => XS.iload X.here hx rfl (hb hby dl3_123) rfl k
  have A84 := A83.go (f' := mkF m 126 #[.val (.int p1), .val (.long q2), .second, .val (.long q3), .second, .val (.long q4), .second, .val (.int (3 : Int32)), .val (.int ng), .val (.int mg), .val (.int a0_), .val (.int b0_), .val (.int a1_), .val (.int b1_), .val (.int a2_), .val (.int b2_), .val (.ref xf), .val (.ref xs), .unset] [(.int (1 : Int32)), (.int (3 : Int32))]) fun _ _ X _ k => XS.iconst X.here hx rfl (hb hby dl3_125) k
  have q85 : ¬ ((3 : Int32) < (1 : Int32)) := by decide
  have A86 := A84.go (f' := mkF m 129 #[.val (.int p1), .val (.long q2), .second, .val (.long q3), .second, .val (.long q4), .second, .val (.int (3 : Int32)), .val (.int ng), .val (.int mg), .val (.int a0_), .val (.int b0_), .val (.int a1_), .val (.int b1_), .val (.int a2_), .val (.int b2_), .val (.ref xf), .val (.ref xs), .unset] []) fun _ _ X _ k => XS.icmpNo X.here hx rfl (hb hby dl3_126) rfl ((flt q85).1) k
  have A87 := A86.go (f' := mkF m 131 #[.val (.int p1), .val (.long q2), .second, .val (.long q3), .second, .val (.long q4), .second, .val (.int (3 : Int32)), .val (.int ng), .val (.int mg), .val (.int a0_), .val (.int b0_), .val (.int a1_), .val (.int b1_), .val (.int a2_), .val (.int b2_), .val (.ref xf), .val (.ref xs), .unset] [(.int a0_)]) fun _ _ X _ k => XS.iload X.here hx rfl (hb hby dl3_129) rfl k
  have A88 := A87.go (f' := mkF m 133 #[.val (.int p1), .val (.long q2), .second, .val (.long q3), .second, .val (.long q4), .second, .val (.int (3 : Int32)), .val (.int ng), .val (.int mg), .val (.int a0_), .val (.int b0_), .val (.int a1_), .val (.int b1_), .val (.int a2_), .val (.int b2_), .val (.ref xf), .val (.ref xs), .unset] [(.int ng), (.int a0_)]) fun _ _ X _ k => XS.iload X.here hx rfl (hb hby dl3_131) rfl k
  obtain ⟨vA89, hA89, ⟨rfl, rfl⟩, A89⟩ := A88.callS (own_lvM l Z a0 hw a0_ ng hA80 n0 Z0) hx hZ hown (hb hby dl3_133) (hw _ (List.mem_of_getElem? (i := 12) rfl)) (hw _ (List.mem_of_getElem? (i := 13) rfl)) (hw _ (List.mem_of_getElem? (i := 2) rfl)) (hw _ (List.mem_of_getElem? (i := 14) rfl)) ⟨by decide, by decide⟩ (lenOf pd__28IZ_29J rfl) (argsL := [(.int a0_), (.int ng)]) (rest := []) rfl rfl (by rw [hml]; rfl) (W := 0) (Nat.le_of_eq rfl) (by decide) (by decide) (by decide) (by decide)
  have A90 : own_R p l e _ _ m _ below meth c S0 n0 hA80 2 6 (mkF m 136 #[.val (.int p1), .val (.long q2), .second, .val (.long q3), .second, .val (.long q4), .second, .val (.int (3 : Int32)), .val (.int ng), .val (.int mg), .val (.int a0_), .val (.int b0_), .val (.int a1_), .val (.int b1_), .val (.int a2_), .val (.int b2_), .val (.ref xf), .val (.ref xs), .unset] [(.long (own_lv a0_ ng))]) := A89
  have A91 := A90.go (f' := mkF m 138 #[.val (.int p1), .val (.long q2), .second, .val (.long q3), .second, .val (.long q4), .second, .val (.int (3 : Int32)), .val (.int ng), .val (.int mg), .val (.int a0_), .val (.int b0_), .val (.int a1_), .val (.int b1_), .val (.int a2_), .val (.int b2_), .val (.ref xf), .val (.ref xs), .unset] [(.int b0_), (.long (own_lv a0_ ng))]) fun _ _ X _ k => XS.iload X.here hx rfl (hb hby dl3_136) rfl k
  have A92 := A91.go (f' := mkF m 140 #[.val (.int p1), .val (.long q2), .second, .val (.long q3), .second, .val (.long q4), .second, .val (.int (3 : Int32)), .val (.int ng), .val (.int mg), .val (.int a0_), .val (.int b0_), .val (.int a1_), .val (.int b1_), .val (.int a2_), .val (.int b2_), .val (.ref xf), .val (.ref xs), .unset] [(.int mg), (.int b0_), (.long (own_lv a0_ ng))]) fun _ _ X _ k => XS.iload X.here hx rfl (hb hby dl3_138) rfl k
  obtain ⟨vA93, hA93, ⟨rfl, rfl⟩, A93⟩ := A92.callS (own_lvM l Z a0 hw b0_ mg hA80 n0 Z0) hx hZ hown (hb hby dl3_140) (hw _ (List.mem_of_getElem? (i := 12) rfl)) (hw _ (List.mem_of_getElem? (i := 13) rfl)) (hw _ (List.mem_of_getElem? (i := 2) rfl)) (hw _ (List.mem_of_getElem? (i := 14) rfl)) ⟨by decide, by decide⟩ (lenOf pd__28IZ_29J rfl) (argsL := [(.int b0_), (.int mg)]) (rest := [(.long (own_lv a0_ ng))]) rfl rfl (by rw [hml]; rfl) (W := 2) (Nat.le_of_eq rfl) (by decide) (by decide) (by decide) (by decide)
  have A94 : own_R p l e _ _ m _ below meth c S0 n0 hA80 2 6 (mkF m 143 #[.val (.int p1), .val (.long q2), .second, .val (.long q3), .second, .val (.long q4), .second, .val (.int (3 : Int32)), .val (.int ng), .val (.int mg), .val (.int a0_), .val (.int b0_), .val (.int a1_), .val (.int b1_), .val (.int a2_), .val (.int b2_), .val (.ref xf), .val (.ref xs), .unset] [(.long (own_lv b0_ mg)), (.long (own_lv a0_ ng))]) := A93
  have A95 := A94.go (f' := mkF m 144 #[.val (.int p1), .val (.long q2), .second, .val (.long q3), .second, .val (.long q4), .second, .val (.int (3 : Int32)), .val (.int ng), .val (.int mg), .val (.int a0_), .val (.int b0_), .val (.int a1_), .val (.int b1_), .val (.int a2_), .val (.int b2_), .val (.ref xf), .val (.ref xs), .unset] [(.int (lcmpW (own_lv a0_ ng) (own_lv b0_ mg)))]) fun _ _ X _ k => XS.lcmp X.here hx rfl (hb hby dl3_143) rfl k
  by_cases q96 : (lcmpW (own_lv a0_ ng) (own_lv b0_ mg)) < (0 : Int32)
  · skip
    have A97 := A95.go (f' := mkF m 199 #[.val (.int p1), .val (.long q2), .second, .val (.long q3), .second, .val (.long q4), .second, .val (.int (3 : Int32)), .val (.int ng), .val (.int mg), .val (.int a0_), .val (.int b0_), .val (.int a1_), .val (.int b1_), .val (.int a2_), .val (.int b2_), .val (.ref xf), .val (.ref xs), .unset] []) fun _ _ X _ k => XS.ifYes X.here hx rfl (pc0 := 144) (pc' := 199) rfl (hb hby dl3_144) rfl ((if0 _ _).trans (tlt q96).1) (by decide) (by decide) k
    have A98 := A97.go (f' := mkF m 200 #[.val (.int p1), .val (.long q2), .second, .val (.long q3), .second, .val (.long q4), .second, .val (.int (3 : Int32)), .val (.int ng), .val (.int mg), .val (.int a0_), .val (.int b0_), .val (.int a1_), .val (.int b1_), .val (.int a2_), .val (.int b2_), .val (.ref xf), .val (.ref xs), .unset] [(.int (0 : Int32))]) fun _ _ X _ k => XS.iconst X.here hx rfl (hb hby dl3_199) k
    have A99 := A98.go (f' := mkF m 202 #[.val (.int p1), .val (.long q2), .second, .val (.long q3), .second, .val (.long q4), .second, .val (.int (3 : Int32)), .val (.int ng), .val (.int mg), .val (.int a0_), .val (.int b0_), .val (.int a1_), .val (.int b1_), .val (.int a2_), .val (.int b2_), .val (.ref xf), .val (.ref xs), .val (.int (0 : Int32))] []) fun _ _ X _ k => XS.istore X.here hx rfl (hb hby dl3_200) rfl (l' := #[.val (.int p1), .val (.long q2), .second, .val (.long q3), .second, .val (.long q4), .second, .val (.int (3 : Int32)), .val (.int ng), .val (.int mg), .val (.int a0_), .val (.int b0_), .val (.int a1_), .val (.int b1_), .val (.int a2_), .val (.int b2_), .val (.ref xf), .val (.ref xs), .val (.int (0 : Int32))]) rfl k
    have A100 := A99.go (f' := mkF m 204 #[.val (.int p1), .val (.long q2), .second, .val (.long q3), .second, .val (.long q4), .second, .val (.int (3 : Int32)), .val (.int ng), .val (.int mg), .val (.int a0_), .val (.int b0_), .val (.int a1_), .val (.int b1_), .val (.int a2_), .val (.int b2_), .val (.ref xf), .val (.ref xs), .val (.int (0 : Int32))] [(.ref xf)]) fun _ _ X _ k => XS.aload X.here hx rfl (hb hby dl3_202) rfl rfl k
    have A101 := A100.go (f' := mkF m 206 #[.val (.int p1), .val (.long q2), .second, .val (.long q3), .second, .val (.long q4), .second, .val (.int (3 : Int32)), .val (.int ng), .val (.int mg), .val (.int a0_), .val (.int b0_), .val (.int a1_), .val (.int b1_), .val (.int a2_), .val (.int b2_), .val (.ref xf), .val (.ref xs), .val (.int (0 : Int32))] [(.ref xs), (.ref xf)]) fun _ _ X _ k => XS.aload X.here hx rfl (hb hby dl3_204) rfl rfl k
    obtain ⟨vA102, hA102, ⟨rfl, rfl⟩, A102⟩ := A101.callS (own_wd3 l Z a0 hw xf xs (0 : Int32) (own_dv a0_ ng) (own_dv b0_ mg) (own_dv a1_ ng) (own_dv b1_ mg) (own_dv a2_ ng) (own_dv b2_ mg) hA80 n0 Z0 V_xf V_xs (by simp [own_wd, own_cmp, q96])) hx hZ hown (hb hby dl3_206) (hw _ (List.mem_of_getElem? (i := 8) rfl)) (hw _ (List.mem_of_getElem? (i := 9) rfl)) (hw _ (List.mem_of_getElem? (i := 10) rfl)) (hw _ (List.mem_of_getElem? (i := 11) rfl)) ⟨by decide, by decide⟩ (lenOf pd__28_5bD_5bD_29Z rfl) (argsL := [(.ref xf), (.ref xs)]) (rest := []) rfl rfl (by rw [hml]; rfl) (W := 0) (Nat.le_of_eq rfl) (by decide) (by decide) (by decide) (by decide)
    have A103 : own_R p l e _ _ m _ below meth c S0 n0 hA80 2 6 (mkF m 209 #[.val (.int p1), .val (.long q2), .second, .val (.long q3), .second, .val (.long q4), .second, .val (.int (3 : Int32)), .val (.int ng), .val (.int mg), .val (.int a0_), .val (.int b0_), .val (.int a1_), .val (.int b1_), .val (.int a2_), .val (.int b2_), .val (.ref xf), .val (.ref xs), .val (.int (0 : Int32))] [(.int (0 : Int32))]) := A102
    have A104 := A103.go (f' := mkF m 211 #[.val (.int p1), .val (.long q2), .second, .val (.long q3), .second, .val (.long q4), .second, .val (.int (3 : Int32)), .val (.int ng), .val (.int mg), .val (.int a0_), .val (.int b0_), .val (.int a1_), .val (.int b1_), .val (.int a2_), .val (.int b2_), .val (.ref xf), .val (.ref xs), .val (.int (0 : Int32))] [(.int (0 : Int32)), (.int (0 : Int32))]) fun _ _ X _ k => XS.iload X.here hx rfl (hb hby dl3_209) rfl k
    have q105 : ((0 : Int32) = (0 : Int32)) := by decide
    have A106 := A104.go (f' := mkF m 214 #[.val (.int p1), .val (.long q2), .second, .val (.long q3), .second, .val (.long q4), .second, .val (.int (3 : Int32)), .val (.int ng), .val (.int mg), .val (.int a0_), .val (.int b0_), .val (.int a1_), .val (.int b1_), .val (.int a2_), .val (.int b2_), .val (.ref xf), .val (.ref xs), .val (.int (0 : Int32))] []) fun _ _ X _ k => XS.icmpNo X.here hx rfl (hb hby dl3_211) rfl ((teq q105).2) k
    have A107 := A106.go (f' := mkF m 215 #[.val (.int p1), .val (.long q2), .second, .val (.long q3), .second, .val (.long q4), .second, .val (.int (3 : Int32)), .val (.int ng), .val (.int mg), .val (.int a0_), .val (.int b0_), .val (.int a1_), .val (.int b1_), .val (.int a2_), .val (.int b2_), .val (.ref xf), .val (.ref xs), .val (.int (0 : Int32))] [(.int (1 : Int32))]) fun _ _ X _ k => XS.iconst X.here hx rfl (hb hby dl3_214) k
    have A108 := A107.go (f' := mkF m 219 #[.val (.int p1), .val (.long q2), .second, .val (.long q3), .second, .val (.long q4), .second, .val (.int (3 : Int32)), .val (.int ng), .val (.int mg), .val (.int a0_), .val (.int b0_), .val (.int a1_), .val (.int b1_), .val (.int a2_), .val (.int b2_), .val (.ref xf), .val (.ref xs), .val (.int (0 : Int32))] [(.int (1 : Int32))]) fun _ _ X _ k => XS.goto X.here hx rfl (pc0 := 215) (pc' := 219) rfl (hb hby dl3_215) (by decide) (by decide) k
    exact A108.ret hx hlk hret (hb hby dl3_219) rfl (Or.inl ⟨rfl, by simp, _, rfl⟩) (by decide) (by decide) ⟨rfl, trivial⟩
  · skip
    have A109 := A95.go (f' := mkF m 147 #[.val (.int p1), .val (.long q2), .second, .val (.long q3), .second, .val (.long q4), .second, .val (.int (3 : Int32)), .val (.int ng), .val (.int mg), .val (.int a0_), .val (.int b0_), .val (.int a1_), .val (.int b1_), .val (.int a2_), .val (.int b2_), .val (.ref xf), .val (.ref xs), .unset] []) fun _ _ X _ k => XS.ifNo X.here hx rfl (hb hby dl3_144) rfl ((if0 _ _).trans (flt q96).1) k
    have A110 := A109.go (f' := mkF m 149 #[.val (.int p1), .val (.long q2), .second, .val (.long q3), .second, .val (.long q4), .second, .val (.int (3 : Int32)), .val (.int ng), .val (.int mg), .val (.int a0_), .val (.int b0_), .val (.int a1_), .val (.int b1_), .val (.int a2_), .val (.int b2_), .val (.ref xf), .val (.ref xs), .unset] [(.int (3 : Int32))]) fun _ _ X _ k => XS.iload X.here hx rfl (hb hby dl3_147) rfl k
    have A111 := A110.go (f' := mkF m 150 #[.val (.int p1), .val (.long q2), .second, .val (.long q3), .second, .val (.long q4), .second, .val (.int (3 : Int32)), .val (.int ng), .val (.int mg), .val (.int a0_), .val (.int b0_), .val (.int a1_), .val (.int b1_), .val (.int a2_), .val (.int b2_), .val (.ref xf), .val (.ref xs), .unset] [(.int (2 : Int32)), (.int (3 : Int32))]) fun _ _ X _ k => XS.iconst X.here hx rfl (hb hby dl3_149) k
    have q112 : ¬ ((3 : Int32) < (2 : Int32)) := by decide
    have A113 := A111.go (f' := mkF m 153 #[.val (.int p1), .val (.long q2), .second, .val (.long q3), .second, .val (.long q4), .second, .val (.int (3 : Int32)), .val (.int ng), .val (.int mg), .val (.int a0_), .val (.int b0_), .val (.int a1_), .val (.int b1_), .val (.int a2_), .val (.int b2_), .val (.ref xf), .val (.ref xs), .unset] []) fun _ _ X _ k => XS.icmpNo X.here hx rfl (hb hby dl3_150) rfl ((flt q112).1) k
    have A114 := A113.go (f' := mkF m 155 #[.val (.int p1), .val (.long q2), .second, .val (.long q3), .second, .val (.long q4), .second, .val (.int (3 : Int32)), .val (.int ng), .val (.int mg), .val (.int a0_), .val (.int b0_), .val (.int a1_), .val (.int b1_), .val (.int a2_), .val (.int b2_), .val (.ref xf), .val (.ref xs), .unset] [(.int a1_)]) fun _ _ X _ k => XS.iload X.here hx rfl (hb hby dl3_153) rfl k
    have A115 := A114.go (f' := mkF m 157 #[.val (.int p1), .val (.long q2), .second, .val (.long q3), .second, .val (.long q4), .second, .val (.int (3 : Int32)), .val (.int ng), .val (.int mg), .val (.int a0_), .val (.int b0_), .val (.int a1_), .val (.int b1_), .val (.int a2_), .val (.int b2_), .val (.ref xf), .val (.ref xs), .unset] [(.int ng), (.int a1_)]) fun _ _ X _ k => XS.iload X.here hx rfl (hb hby dl3_155) rfl k
    obtain ⟨vA116, hA116, ⟨rfl, rfl⟩, A116⟩ := A115.callS (own_lvM l Z a0 hw a1_ ng hA80 n0 Z0) hx hZ hown (hb hby dl3_157) (hw _ (List.mem_of_getElem? (i := 12) rfl)) (hw _ (List.mem_of_getElem? (i := 13) rfl)) (hw _ (List.mem_of_getElem? (i := 2) rfl)) (hw _ (List.mem_of_getElem? (i := 14) rfl)) ⟨by decide, by decide⟩ (lenOf pd__28IZ_29J rfl) (argsL := [(.int a1_), (.int ng)]) (rest := []) rfl rfl (by rw [hml]; rfl) (W := 0) (Nat.le_of_eq rfl) (by decide) (by decide) (by decide) (by decide)
    have A117 : own_R p l e _ _ m _ below meth c S0 n0 hA80 2 6 (mkF m 160 #[.val (.int p1), .val (.long q2), .second, .val (.long q3), .second, .val (.long q4), .second, .val (.int (3 : Int32)), .val (.int ng), .val (.int mg), .val (.int a0_), .val (.int b0_), .val (.int a1_), .val (.int b1_), .val (.int a2_), .val (.int b2_), .val (.ref xf), .val (.ref xs), .unset] [(.long (own_lv a1_ ng))]) := A116
    have A118 := A117.go (f' := mkF m 162 #[.val (.int p1), .val (.long q2), .second, .val (.long q3), .second, .val (.long q4), .second, .val (.int (3 : Int32)), .val (.int ng), .val (.int mg), .val (.int a0_), .val (.int b0_), .val (.int a1_), .val (.int b1_), .val (.int a2_), .val (.int b2_), .val (.ref xf), .val (.ref xs), .unset] [(.int b1_), (.long (own_lv a1_ ng))]) fun _ _ X _ k => XS.iload X.here hx rfl (hb hby dl3_160) rfl k
    have A119 := A118.go (f' := mkF m 164 #[.val (.int p1), .val (.long q2), .second, .val (.long q3), .second, .val (.long q4), .second, .val (.int (3 : Int32)), .val (.int ng), .val (.int mg), .val (.int a0_), .val (.int b0_), .val (.int a1_), .val (.int b1_), .val (.int a2_), .val (.int b2_), .val (.ref xf), .val (.ref xs), .unset] [(.int mg), (.int b1_), (.long (own_lv a1_ ng))]) fun _ _ X _ k => XS.iload X.here hx rfl (hb hby dl3_162) rfl k
    obtain ⟨vA120, hA120, ⟨rfl, rfl⟩, A120⟩ := A119.callS (own_lvM l Z a0 hw b1_ mg hA80 n0 Z0) hx hZ hown (hb hby dl3_164) (hw _ (List.mem_of_getElem? (i := 12) rfl)) (hw _ (List.mem_of_getElem? (i := 13) rfl)) (hw _ (List.mem_of_getElem? (i := 2) rfl)) (hw _ (List.mem_of_getElem? (i := 14) rfl)) ⟨by decide, by decide⟩ (lenOf pd__28IZ_29J rfl) (argsL := [(.int b1_), (.int mg)]) (rest := [(.long (own_lv a1_ ng))]) rfl rfl (by rw [hml]; rfl) (W := 2) (Nat.le_of_eq rfl) (by decide) (by decide) (by decide) (by decide)
    have A121 : own_R p l e _ _ m _ below meth c S0 n0 hA80 2 6 (mkF m 167 #[.val (.int p1), .val (.long q2), .second, .val (.long q3), .second, .val (.long q4), .second, .val (.int (3 : Int32)), .val (.int ng), .val (.int mg), .val (.int a0_), .val (.int b0_), .val (.int a1_), .val (.int b1_), .val (.int a2_), .val (.int b2_), .val (.ref xf), .val (.ref xs), .unset] [(.long (own_lv b1_ mg)), (.long (own_lv a1_ ng))]) := A120
    have A122 := A121.go (f' := mkF m 168 #[.val (.int p1), .val (.long q2), .second, .val (.long q3), .second, .val (.long q4), .second, .val (.int (3 : Int32)), .val (.int ng), .val (.int mg), .val (.int a0_), .val (.int b0_), .val (.int a1_), .val (.int b1_), .val (.int a2_), .val (.int b2_), .val (.ref xf), .val (.ref xs), .unset] [(.int (lcmpW (own_lv a1_ ng) (own_lv b1_ mg)))]) fun _ _ X _ k => XS.lcmp X.here hx rfl (hb hby dl3_167) rfl k
    by_cases q123 : (lcmpW (own_lv a1_ ng) (own_lv b1_ mg)) < (0 : Int32)
    · skip
      have A124 := A122.go (f' := mkF m 199 #[.val (.int p1), .val (.long q2), .second, .val (.long q3), .second, .val (.long q4), .second, .val (.int (3 : Int32)), .val (.int ng), .val (.int mg), .val (.int a0_), .val (.int b0_), .val (.int a1_), .val (.int b1_), .val (.int a2_), .val (.int b2_), .val (.ref xf), .val (.ref xs), .unset] []) fun _ _ X _ k => XS.ifYes X.here hx rfl (pc0 := 168) (pc' := 199) rfl (hb hby dl3_168) rfl ((if0 _ _).trans (tlt q123).1) (by decide) (by decide) k
      have A125 := A124.go (f' := mkF m 200 #[.val (.int p1), .val (.long q2), .second, .val (.long q3), .second, .val (.long q4), .second, .val (.int (3 : Int32)), .val (.int ng), .val (.int mg), .val (.int a0_), .val (.int b0_), .val (.int a1_), .val (.int b1_), .val (.int a2_), .val (.int b2_), .val (.ref xf), .val (.ref xs), .unset] [(.int (0 : Int32))]) fun _ _ X _ k => XS.iconst X.here hx rfl (hb hby dl3_199) k
      have A126 := A125.go (f' := mkF m 202 #[.val (.int p1), .val (.long q2), .second, .val (.long q3), .second, .val (.long q4), .second, .val (.int (3 : Int32)), .val (.int ng), .val (.int mg), .val (.int a0_), .val (.int b0_), .val (.int a1_), .val (.int b1_), .val (.int a2_), .val (.int b2_), .val (.ref xf), .val (.ref xs), .val (.int (0 : Int32))] []) fun _ _ X _ k => XS.istore X.here hx rfl (hb hby dl3_200) rfl (l' := #[.val (.int p1), .val (.long q2), .second, .val (.long q3), .second, .val (.long q4), .second, .val (.int (3 : Int32)), .val (.int ng), .val (.int mg), .val (.int a0_), .val (.int b0_), .val (.int a1_), .val (.int b1_), .val (.int a2_), .val (.int b2_), .val (.ref xf), .val (.ref xs), .val (.int (0 : Int32))]) rfl k
      have A127 := A126.go (f' := mkF m 204 #[.val (.int p1), .val (.long q2), .second, .val (.long q3), .second, .val (.long q4), .second, .val (.int (3 : Int32)), .val (.int ng), .val (.int mg), .val (.int a0_), .val (.int b0_), .val (.int a1_), .val (.int b1_), .val (.int a2_), .val (.int b2_), .val (.ref xf), .val (.ref xs), .val (.int (0 : Int32))] [(.ref xf)]) fun _ _ X _ k => XS.aload X.here hx rfl (hb hby dl3_202) rfl rfl k
      have A128 := A127.go (f' := mkF m 206 #[.val (.int p1), .val (.long q2), .second, .val (.long q3), .second, .val (.long q4), .second, .val (.int (3 : Int32)), .val (.int ng), .val (.int mg), .val (.int a0_), .val (.int b0_), .val (.int a1_), .val (.int b1_), .val (.int a2_), .val (.int b2_), .val (.ref xf), .val (.ref xs), .val (.int (0 : Int32))] [(.ref xs), (.ref xf)]) fun _ _ X _ k => XS.aload X.here hx rfl (hb hby dl3_204) rfl rfl k
      obtain ⟨vA129, hA129, ⟨rfl, rfl⟩, A129⟩ := A128.callS (own_wd3 l Z a0 hw xf xs (0 : Int32) (own_dv a0_ ng) (own_dv b0_ mg) (own_dv a1_ ng) (own_dv b1_ mg) (own_dv a2_ ng) (own_dv b2_ mg) hA80 n0 Z0 V_xf V_xs (by simp [own_wd, own_cmp, q96, q123])) hx hZ hown (hb hby dl3_206) (hw _ (List.mem_of_getElem? (i := 8) rfl)) (hw _ (List.mem_of_getElem? (i := 9) rfl)) (hw _ (List.mem_of_getElem? (i := 10) rfl)) (hw _ (List.mem_of_getElem? (i := 11) rfl)) ⟨by decide, by decide⟩ (lenOf pd__28_5bD_5bD_29Z rfl) (argsL := [(.ref xf), (.ref xs)]) (rest := []) rfl rfl (by rw [hml]; rfl) (W := 0) (Nat.le_of_eq rfl) (by decide) (by decide) (by decide) (by decide)
      have A130 : own_R p l e _ _ m _ below meth c S0 n0 hA80 2 6 (mkF m 209 #[.val (.int p1), .val (.long q2), .second, .val (.long q3), .second, .val (.long q4), .second, .val (.int (3 : Int32)), .val (.int ng), .val (.int mg), .val (.int a0_), .val (.int b0_), .val (.int a1_), .val (.int b1_), .val (.int a2_), .val (.int b2_), .val (.ref xf), .val (.ref xs), .val (.int (0 : Int32))] [(.int (0 : Int32))]) := A129
      have A131 := A130.go (f' := mkF m 211 #[.val (.int p1), .val (.long q2), .second, .val (.long q3), .second, .val (.long q4), .second, .val (.int (3 : Int32)), .val (.int ng), .val (.int mg), .val (.int a0_), .val (.int b0_), .val (.int a1_), .val (.int b1_), .val (.int a2_), .val (.int b2_), .val (.ref xf), .val (.ref xs), .val (.int (0 : Int32))] [(.int (0 : Int32)), (.int (0 : Int32))]) fun _ _ X _ k => XS.iload X.here hx rfl (hb hby dl3_209) rfl k
      have q132 : ((0 : Int32) = (0 : Int32)) := by decide
      have A133 := A131.go (f' := mkF m 214 #[.val (.int p1), .val (.long q2), .second, .val (.long q3), .second, .val (.long q4), .second, .val (.int (3 : Int32)), .val (.int ng), .val (.int mg), .val (.int a0_), .val (.int b0_), .val (.int a1_), .val (.int b1_), .val (.int a2_), .val (.int b2_), .val (.ref xf), .val (.ref xs), .val (.int (0 : Int32))] []) fun _ _ X _ k => XS.icmpNo X.here hx rfl (hb hby dl3_211) rfl ((teq q132).2) k
      have A134 := A133.go (f' := mkF m 215 #[.val (.int p1), .val (.long q2), .second, .val (.long q3), .second, .val (.long q4), .second, .val (.int (3 : Int32)), .val (.int ng), .val (.int mg), .val (.int a0_), .val (.int b0_), .val (.int a1_), .val (.int b1_), .val (.int a2_), .val (.int b2_), .val (.ref xf), .val (.ref xs), .val (.int (0 : Int32))] [(.int (1 : Int32))]) fun _ _ X _ k => XS.iconst X.here hx rfl (hb hby dl3_214) k
      have A135 := A134.go (f' := mkF m 219 #[.val (.int p1), .val (.long q2), .second, .val (.long q3), .second, .val (.long q4), .second, .val (.int (3 : Int32)), .val (.int ng), .val (.int mg), .val (.int a0_), .val (.int b0_), .val (.int a1_), .val (.int b1_), .val (.int a2_), .val (.int b2_), .val (.ref xf), .val (.ref xs), .val (.int (0 : Int32))] [(.int (1 : Int32))]) fun _ _ X _ k => XS.goto X.here hx rfl (pc0 := 215) (pc' := 219) rfl (hb hby dl3_215) (by decide) (by decide) k
      exact A135.ret hx hlk hret (hb hby dl3_219) rfl (Or.inl ⟨rfl, by simp, _, rfl⟩) (by decide) (by decide) ⟨rfl, trivial⟩
    · skip
      have A136 := A122.go (f' := mkF m 171 #[.val (.int p1), .val (.long q2), .second, .val (.long q3), .second, .val (.long q4), .second, .val (.int (3 : Int32)), .val (.int ng), .val (.int mg), .val (.int a0_), .val (.int b0_), .val (.int a1_), .val (.int b1_), .val (.int a2_), .val (.int b2_), .val (.ref xf), .val (.ref xs), .unset] []) fun _ _ X _ k => XS.ifNo X.here hx rfl (hb hby dl3_168) rfl ((if0 _ _).trans (flt q123).1) k
      have A137 := A136.go (f' := mkF m 173 #[.val (.int p1), .val (.long q2), .second, .val (.long q3), .second, .val (.long q4), .second, .val (.int (3 : Int32)), .val (.int ng), .val (.int mg), .val (.int a0_), .val (.int b0_), .val (.int a1_), .val (.int b1_), .val (.int a2_), .val (.int b2_), .val (.ref xf), .val (.ref xs), .unset] [(.int (3 : Int32))]) fun _ _ X _ k => XS.iload X.here hx rfl (hb hby dl3_171) rfl k
      have A138 := A137.go (f' := mkF m 174 #[.val (.int p1), .val (.long q2), .second, .val (.long q3), .second, .val (.long q4), .second, .val (.int (3 : Int32)), .val (.int ng), .val (.int mg), .val (.int a0_), .val (.int b0_), .val (.int a1_), .val (.int b1_), .val (.int a2_), .val (.int b2_), .val (.ref xf), .val (.ref xs), .unset] [(.int (3 : Int32)), (.int (3 : Int32))]) fun _ _ X _ k => XS.iconst X.here hx rfl (hb hby dl3_173) k
      have q139 : ¬ ((3 : Int32) < (3 : Int32)) := by decide
      have A140 := A138.go (f' := mkF m 177 #[.val (.int p1), .val (.long q2), .second, .val (.long q3), .second, .val (.long q4), .second, .val (.int (3 : Int32)), .val (.int ng), .val (.int mg), .val (.int a0_), .val (.int b0_), .val (.int a1_), .val (.int b1_), .val (.int a2_), .val (.int b2_), .val (.ref xf), .val (.ref xs), .unset] []) fun _ _ X _ k => XS.icmpNo X.here hx rfl (hb hby dl3_174) rfl ((flt q139).1) k
      have A141 := A140.go (f' := mkF m 179 #[.val (.int p1), .val (.long q2), .second, .val (.long q3), .second, .val (.long q4), .second, .val (.int (3 : Int32)), .val (.int ng), .val (.int mg), .val (.int a0_), .val (.int b0_), .val (.int a1_), .val (.int b1_), .val (.int a2_), .val (.int b2_), .val (.ref xf), .val (.ref xs), .unset] [(.int a2_)]) fun _ _ X _ k => XS.iload X.here hx rfl (hb hby dl3_177) rfl k
      have A142 := A141.go (f' := mkF m 181 #[.val (.int p1), .val (.long q2), .second, .val (.long q3), .second, .val (.long q4), .second, .val (.int (3 : Int32)), .val (.int ng), .val (.int mg), .val (.int a0_), .val (.int b0_), .val (.int a1_), .val (.int b1_), .val (.int a2_), .val (.int b2_), .val (.ref xf), .val (.ref xs), .unset] [(.int ng), (.int a2_)]) fun _ _ X _ k => XS.iload X.here hx rfl (hb hby dl3_179) rfl k
      obtain ⟨vA143, hA143, ⟨rfl, rfl⟩, A143⟩ := A142.callS (own_lvM l Z a0 hw a2_ ng hA80 n0 Z0) hx hZ hown (hb hby dl3_181) (hw _ (List.mem_of_getElem? (i := 12) rfl)) (hw _ (List.mem_of_getElem? (i := 13) rfl)) (hw _ (List.mem_of_getElem? (i := 2) rfl)) (hw _ (List.mem_of_getElem? (i := 14) rfl)) ⟨by decide, by decide⟩ (lenOf pd__28IZ_29J rfl) (argsL := [(.int a2_), (.int ng)]) (rest := []) rfl rfl (by rw [hml]; rfl) (W := 0) (Nat.le_of_eq rfl) (by decide) (by decide) (by decide) (by decide)
      have A144 : own_R p l e _ _ m _ below meth c S0 n0 hA80 2 6 (mkF m 184 #[.val (.int p1), .val (.long q2), .second, .val (.long q3), .second, .val (.long q4), .second, .val (.int (3 : Int32)), .val (.int ng), .val (.int mg), .val (.int a0_), .val (.int b0_), .val (.int a1_), .val (.int b1_), .val (.int a2_), .val (.int b2_), .val (.ref xf), .val (.ref xs), .unset] [(.long (own_lv a2_ ng))]) := A143
      have A145 := A144.go (f' := mkF m 186 #[.val (.int p1), .val (.long q2), .second, .val (.long q3), .second, .val (.long q4), .second, .val (.int (3 : Int32)), .val (.int ng), .val (.int mg), .val (.int a0_), .val (.int b0_), .val (.int a1_), .val (.int b1_), .val (.int a2_), .val (.int b2_), .val (.ref xf), .val (.ref xs), .unset] [(.int b2_), (.long (own_lv a2_ ng))]) fun _ _ X _ k => XS.iload X.here hx rfl (hb hby dl3_184) rfl k
      have A146 := A145.go (f' := mkF m 188 #[.val (.int p1), .val (.long q2), .second, .val (.long q3), .second, .val (.long q4), .second, .val (.int (3 : Int32)), .val (.int ng), .val (.int mg), .val (.int a0_), .val (.int b0_), .val (.int a1_), .val (.int b1_), .val (.int a2_), .val (.int b2_), .val (.ref xf), .val (.ref xs), .unset] [(.int mg), (.int b2_), (.long (own_lv a2_ ng))]) fun _ _ X _ k => XS.iload X.here hx rfl (hb hby dl3_186) rfl k
      obtain ⟨vA147, hA147, ⟨rfl, rfl⟩, A147⟩ := A146.callS (own_lvM l Z a0 hw b2_ mg hA80 n0 Z0) hx hZ hown (hb hby dl3_188) (hw _ (List.mem_of_getElem? (i := 12) rfl)) (hw _ (List.mem_of_getElem? (i := 13) rfl)) (hw _ (List.mem_of_getElem? (i := 2) rfl)) (hw _ (List.mem_of_getElem? (i := 14) rfl)) ⟨by decide, by decide⟩ (lenOf pd__28IZ_29J rfl) (argsL := [(.int b2_), (.int mg)]) (rest := [(.long (own_lv a2_ ng))]) rfl rfl (by rw [hml]; rfl) (W := 2) (Nat.le_of_eq rfl) (by decide) (by decide) (by decide) (by decide)
      have A148 : own_R p l e _ _ m _ below meth c S0 n0 hA80 2 6 (mkF m 191 #[.val (.int p1), .val (.long q2), .second, .val (.long q3), .second, .val (.long q4), .second, .val (.int (3 : Int32)), .val (.int ng), .val (.int mg), .val (.int a0_), .val (.int b0_), .val (.int a1_), .val (.int b1_), .val (.int a2_), .val (.int b2_), .val (.ref xf), .val (.ref xs), .unset] [(.long (own_lv b2_ mg)), (.long (own_lv a2_ ng))]) := A147
      have A149 := A148.go (f' := mkF m 192 #[.val (.int p1), .val (.long q2), .second, .val (.long q3), .second, .val (.long q4), .second, .val (.int (3 : Int32)), .val (.int ng), .val (.int mg), .val (.int a0_), .val (.int b0_), .val (.int a1_), .val (.int b1_), .val (.int a2_), .val (.int b2_), .val (.ref xf), .val (.ref xs), .unset] [(.int (lcmpW (own_lv a2_ ng) (own_lv b2_ mg)))]) fun _ _ X _ k => XS.lcmp X.here hx rfl (hb hby dl3_191) rfl k
      by_cases q150 : (lcmpW (own_lv a2_ ng) (own_lv b2_ mg)) < (0 : Int32)
      · skip
        have A151 := A149.go (f' := mkF m 199 #[.val (.int p1), .val (.long q2), .second, .val (.long q3), .second, .val (.long q4), .second, .val (.int (3 : Int32)), .val (.int ng), .val (.int mg), .val (.int a0_), .val (.int b0_), .val (.int a1_), .val (.int b1_), .val (.int a2_), .val (.int b2_), .val (.ref xf), .val (.ref xs), .unset] []) fun _ _ X _ k => XS.ifYes X.here hx rfl (pc0 := 192) (pc' := 199) rfl (hb hby dl3_192) rfl ((if0 _ _).trans (tlt q150).1) (by decide) (by decide) k
        have A152 := A151.go (f' := mkF m 200 #[.val (.int p1), .val (.long q2), .second, .val (.long q3), .second, .val (.long q4), .second, .val (.int (3 : Int32)), .val (.int ng), .val (.int mg), .val (.int a0_), .val (.int b0_), .val (.int a1_), .val (.int b1_), .val (.int a2_), .val (.int b2_), .val (.ref xf), .val (.ref xs), .unset] [(.int (0 : Int32))]) fun _ _ X _ k => XS.iconst X.here hx rfl (hb hby dl3_199) k
        have A153 := A152.go (f' := mkF m 202 #[.val (.int p1), .val (.long q2), .second, .val (.long q3), .second, .val (.long q4), .second, .val (.int (3 : Int32)), .val (.int ng), .val (.int mg), .val (.int a0_), .val (.int b0_), .val (.int a1_), .val (.int b1_), .val (.int a2_), .val (.int b2_), .val (.ref xf), .val (.ref xs), .val (.int (0 : Int32))] []) fun _ _ X _ k => XS.istore X.here hx rfl (hb hby dl3_200) rfl (l' := #[.val (.int p1), .val (.long q2), .second, .val (.long q3), .second, .val (.long q4), .second, .val (.int (3 : Int32)), .val (.int ng), .val (.int mg), .val (.int a0_), .val (.int b0_), .val (.int a1_), .val (.int b1_), .val (.int a2_), .val (.int b2_), .val (.ref xf), .val (.ref xs), .val (.int (0 : Int32))]) rfl k
        have A154 := A153.go (f' := mkF m 204 #[.val (.int p1), .val (.long q2), .second, .val (.long q3), .second, .val (.long q4), .second, .val (.int (3 : Int32)), .val (.int ng), .val (.int mg), .val (.int a0_), .val (.int b0_), .val (.int a1_), .val (.int b1_), .val (.int a2_), .val (.int b2_), .val (.ref xf), .val (.ref xs), .val (.int (0 : Int32))] [(.ref xf)]) fun _ _ X _ k => XS.aload X.here hx rfl (hb hby dl3_202) rfl rfl k
        have A155 := A154.go (f' := mkF m 206 #[.val (.int p1), .val (.long q2), .second, .val (.long q3), .second, .val (.long q4), .second, .val (.int (3 : Int32)), .val (.int ng), .val (.int mg), .val (.int a0_), .val (.int b0_), .val (.int a1_), .val (.int b1_), .val (.int a2_), .val (.int b2_), .val (.ref xf), .val (.ref xs), .val (.int (0 : Int32))] [(.ref xs), (.ref xf)]) fun _ _ X _ k => XS.aload X.here hx rfl (hb hby dl3_204) rfl rfl k
        obtain ⟨vA156, hA156, ⟨rfl, rfl⟩, A156⟩ := A155.callS (own_wd3 l Z a0 hw xf xs (0 : Int32) (own_dv a0_ ng) (own_dv b0_ mg) (own_dv a1_ ng) (own_dv b1_ mg) (own_dv a2_ ng) (own_dv b2_ mg) hA80 n0 Z0 V_xf V_xs (by simp [own_wd, own_cmp, q96, q123, q150])) hx hZ hown (hb hby dl3_206) (hw _ (List.mem_of_getElem? (i := 8) rfl)) (hw _ (List.mem_of_getElem? (i := 9) rfl)) (hw _ (List.mem_of_getElem? (i := 10) rfl)) (hw _ (List.mem_of_getElem? (i := 11) rfl)) ⟨by decide, by decide⟩ (lenOf pd__28_5bD_5bD_29Z rfl) (argsL := [(.ref xf), (.ref xs)]) (rest := []) rfl rfl (by rw [hml]; rfl) (W := 0) (Nat.le_of_eq rfl) (by decide) (by decide) (by decide) (by decide)
        have A157 : own_R p l e _ _ m _ below meth c S0 n0 hA80 2 6 (mkF m 209 #[.val (.int p1), .val (.long q2), .second, .val (.long q3), .second, .val (.long q4), .second, .val (.int (3 : Int32)), .val (.int ng), .val (.int mg), .val (.int a0_), .val (.int b0_), .val (.int a1_), .val (.int b1_), .val (.int a2_), .val (.int b2_), .val (.ref xf), .val (.ref xs), .val (.int (0 : Int32))] [(.int (0 : Int32))]) := A156
        have A158 := A157.go (f' := mkF m 211 #[.val (.int p1), .val (.long q2), .second, .val (.long q3), .second, .val (.long q4), .second, .val (.int (3 : Int32)), .val (.int ng), .val (.int mg), .val (.int a0_), .val (.int b0_), .val (.int a1_), .val (.int b1_), .val (.int a2_), .val (.int b2_), .val (.ref xf), .val (.ref xs), .val (.int (0 : Int32))] [(.int (0 : Int32)), (.int (0 : Int32))]) fun _ _ X _ k => XS.iload X.here hx rfl (hb hby dl3_209) rfl k
        have q159 : ((0 : Int32) = (0 : Int32)) := by decide
        have A160 := A158.go (f' := mkF m 214 #[.val (.int p1), .val (.long q2), .second, .val (.long q3), .second, .val (.long q4), .second, .val (.int (3 : Int32)), .val (.int ng), .val (.int mg), .val (.int a0_), .val (.int b0_), .val (.int a1_), .val (.int b1_), .val (.int a2_), .val (.int b2_), .val (.ref xf), .val (.ref xs), .val (.int (0 : Int32))] []) fun _ _ X _ k => XS.icmpNo X.here hx rfl (hb hby dl3_211) rfl ((teq q159).2) k
        have A161 := A160.go (f' := mkF m 215 #[.val (.int p1), .val (.long q2), .second, .val (.long q3), .second, .val (.long q4), .second, .val (.int (3 : Int32)), .val (.int ng), .val (.int mg), .val (.int a0_), .val (.int b0_), .val (.int a1_), .val (.int b1_), .val (.int a2_), .val (.int b2_), .val (.ref xf), .val (.ref xs), .val (.int (0 : Int32))] [(.int (1 : Int32))]) fun _ _ X _ k => XS.iconst X.here hx rfl (hb hby dl3_214) k
        have A162 := A161.go (f' := mkF m 219 #[.val (.int p1), .val (.long q2), .second, .val (.long q3), .second, .val (.long q4), .second, .val (.int (3 : Int32)), .val (.int ng), .val (.int mg), .val (.int a0_), .val (.int b0_), .val (.int a1_), .val (.int b1_), .val (.int a2_), .val (.int b2_), .val (.ref xf), .val (.ref xs), .val (.int (0 : Int32))] [(.int (1 : Int32))]) fun _ _ X _ k => XS.goto X.here hx rfl (pc0 := 215) (pc' := 219) rfl (hb hby dl3_215) (by decide) (by decide) k
        exact A162.ret hx hlk hret (hb hby dl3_219) rfl (Or.inl ⟨rfl, by simp, _, rfl⟩) (by decide) (by decide) ⟨rfl, trivial⟩
      · skip
        have A163 := A149.go (f' := mkF m 195 #[.val (.int p1), .val (.long q2), .second, .val (.long q3), .second, .val (.long q4), .second, .val (.int (3 : Int32)), .val (.int ng), .val (.int mg), .val (.int a0_), .val (.int b0_), .val (.int a1_), .val (.int b1_), .val (.int a2_), .val (.int b2_), .val (.ref xf), .val (.ref xs), .unset] []) fun _ _ X _ k => XS.ifNo X.here hx rfl (hb hby dl3_192) rfl ((if0 _ _).trans (flt q150).1) k
        have A164 := A163.go (f' := mkF m 196 #[.val (.int p1), .val (.long q2), .second, .val (.long q3), .second, .val (.long q4), .second, .val (.int (3 : Int32)), .val (.int ng), .val (.int mg), .val (.int a0_), .val (.int b0_), .val (.int a1_), .val (.int b1_), .val (.int a2_), .val (.int b2_), .val (.ref xf), .val (.ref xs), .unset] [(.int (1 : Int32))]) fun _ _ X _ k => XS.iconst X.here hx rfl (hb hby dl3_195) k
        have A165 := A164.go (f' := mkF m 200 #[.val (.int p1), .val (.long q2), .second, .val (.long q3), .second, .val (.long q4), .second, .val (.int (3 : Int32)), .val (.int ng), .val (.int mg), .val (.int a0_), .val (.int b0_), .val (.int a1_), .val (.int b1_), .val (.int a2_), .val (.int b2_), .val (.ref xf), .val (.ref xs), .unset] [(.int (1 : Int32))]) fun _ _ X _ k => XS.goto X.here hx rfl (pc0 := 196) (pc' := 200) rfl (hb hby dl3_196) (by decide) (by decide) k
        have A166 := A165.go (f' := mkF m 202 #[.val (.int p1), .val (.long q2), .second, .val (.long q3), .second, .val (.long q4), .second, .val (.int (3 : Int32)), .val (.int ng), .val (.int mg), .val (.int a0_), .val (.int b0_), .val (.int a1_), .val (.int b1_), .val (.int a2_), .val (.int b2_), .val (.ref xf), .val (.ref xs), .val (.int (1 : Int32))] []) fun _ _ X _ k => XS.istore X.here hx rfl (hb hby dl3_200) rfl (l' := #[.val (.int p1), .val (.long q2), .second, .val (.long q3), .second, .val (.long q4), .second, .val (.int (3 : Int32)), .val (.int ng), .val (.int mg), .val (.int a0_), .val (.int b0_), .val (.int a1_), .val (.int b1_), .val (.int a2_), .val (.int b2_), .val (.ref xf), .val (.ref xs), .val (.int (1 : Int32))]) rfl k
        have A167 := A166.go (f' := mkF m 204 #[.val (.int p1), .val (.long q2), .second, .val (.long q3), .second, .val (.long q4), .second, .val (.int (3 : Int32)), .val (.int ng), .val (.int mg), .val (.int a0_), .val (.int b0_), .val (.int a1_), .val (.int b1_), .val (.int a2_), .val (.int b2_), .val (.ref xf), .val (.ref xs), .val (.int (1 : Int32))] [(.ref xf)]) fun _ _ X _ k => XS.aload X.here hx rfl (hb hby dl3_202) rfl rfl k
        have A168 := A167.go (f' := mkF m 206 #[.val (.int p1), .val (.long q2), .second, .val (.long q3), .second, .val (.long q4), .second, .val (.int (3 : Int32)), .val (.int ng), .val (.int mg), .val (.int a0_), .val (.int b0_), .val (.int a1_), .val (.int b1_), .val (.int a2_), .val (.int b2_), .val (.ref xf), .val (.ref xs), .val (.int (1 : Int32))] [(.ref xs), (.ref xf)]) fun _ _ X _ k => XS.aload X.here hx rfl (hb hby dl3_204) rfl rfl k
        obtain ⟨vA169, hA169, ⟨rfl, rfl⟩, A169⟩ := A168.callS (own_wd3 l Z a0 hw xf xs (1 : Int32) (own_dv a0_ ng) (own_dv b0_ mg) (own_dv a1_ ng) (own_dv b1_ mg) (own_dv a2_ ng) (own_dv b2_ mg) hA80 n0 Z0 V_xf V_xs (by simp [own_wd, own_cmp, q96, q123, q150])) hx hZ hown (hb hby dl3_206) (hw _ (List.mem_of_getElem? (i := 8) rfl)) (hw _ (List.mem_of_getElem? (i := 9) rfl)) (hw _ (List.mem_of_getElem? (i := 10) rfl)) (hw _ (List.mem_of_getElem? (i := 11) rfl)) ⟨by decide, by decide⟩ (lenOf pd__28_5bD_5bD_29Z rfl) (argsL := [(.ref xf), (.ref xs)]) (rest := []) rfl rfl (by rw [hml]; rfl) (W := 0) (Nat.le_of_eq rfl) (by decide) (by decide) (by decide) (by decide)
        have A170 : own_R p l e _ _ m _ below meth c S0 n0 hA80 2 6 (mkF m 209 #[.val (.int p1), .val (.long q2), .second, .val (.long q3), .second, .val (.long q4), .second, .val (.int (3 : Int32)), .val (.int ng), .val (.int mg), .val (.int a0_), .val (.int b0_), .val (.int a1_), .val (.int b1_), .val (.int a2_), .val (.int b2_), .val (.ref xf), .val (.ref xs), .val (.int (1 : Int32))] [(.int (1 : Int32))]) := A169
        have A171 := A170.go (f' := mkF m 211 #[.val (.int p1), .val (.long q2), .second, .val (.long q3), .second, .val (.long q4), .second, .val (.int (3 : Int32)), .val (.int ng), .val (.int mg), .val (.int a0_), .val (.int b0_), .val (.int a1_), .val (.int b1_), .val (.int a2_), .val (.int b2_), .val (.ref xf), .val (.ref xs), .val (.int (1 : Int32))] [(.int (1 : Int32)), (.int (1 : Int32))]) fun _ _ X _ k => XS.iload X.here hx rfl (hb hby dl3_209) rfl k
        have q172 : ((1 : Int32) = (1 : Int32)) := by decide
        have A173 := A171.go (f' := mkF m 214 #[.val (.int p1), .val (.long q2), .second, .val (.long q3), .second, .val (.long q4), .second, .val (.int (3 : Int32)), .val (.int ng), .val (.int mg), .val (.int a0_), .val (.int b0_), .val (.int a1_), .val (.int b1_), .val (.int a2_), .val (.int b2_), .val (.ref xf), .val (.ref xs), .val (.int (1 : Int32))] []) fun _ _ X _ k => XS.icmpNo X.here hx rfl (hb hby dl3_211) rfl ((teq q172).2) k
        have A174 := A173.go (f' := mkF m 215 #[.val (.int p1), .val (.long q2), .second, .val (.long q3), .second, .val (.long q4), .second, .val (.int (3 : Int32)), .val (.int ng), .val (.int mg), .val (.int a0_), .val (.int b0_), .val (.int a1_), .val (.int b1_), .val (.int a2_), .val (.int b2_), .val (.ref xf), .val (.ref xs), .val (.int (1 : Int32))] [(.int (1 : Int32))]) fun _ _ X _ k => XS.iconst X.here hx rfl (hb hby dl3_214) k
        have A175 := A174.go (f' := mkF m 219 #[.val (.int p1), .val (.long q2), .second, .val (.long q3), .second, .val (.long q4), .second, .val (.int (3 : Int32)), .val (.int ng), .val (.int mg), .val (.int a0_), .val (.int b0_), .val (.int a1_), .val (.int b1_), .val (.int a2_), .val (.int b2_), .val (.ref xf), .val (.ref xs), .val (.int (1 : Int32))] [(.int (1 : Int32))]) fun _ _ X _ k => XS.goto X.here hx rfl (pc0 := 215) (pc' := 219) rfl (hb hby dl3_215) (by decide) (by decide) k
        exact A175.ret hx hlk hret (hb hby dl3_219) rfl (Or.inl ⟨rfl, by simp, _, rfl⟩) (by decide) (by decide) ⟨rfl, trivial⟩
theorem own_m3 (x : Int32) : (x &&& (3 : Int32)) = 0 ∨ (x &&& (3 : Int32)) = 1 ∨ (x &&& (3 : Int32)) = 2 ∨ (x &&& (3 : Int32)) = 3 := by
  have e := Jvm.Kit.i32_mask x 3 (k := 2) (by decide) (by decide)
  have c0 : (0 : Int32).toInt = 0 := by decide
  have c1 : (1 : Int32).toInt = 1 := by decide
  have c2 : (2 : Int32).toInt = 2 := by decide
  have c3 : (3 : Int32).toInt = 3 := by decide
  simp only [← Int32.toInt_inj, c0, c1, c2, c3, e]
  omega
theorem own_law (l : Launch) (Z : State) (a0 : Array Value) (hw : ∀ d ∈ tables_1, d.before a0 Z = true) (p1 : Int32) (q2 q3 q4 : Int64) (h0 : Heap) (n0 : Nat) (Z0 : n0 ≤ h0.size) :
    own_M l Z x code maxLocals ret tables_1 room_1 #[(.int p1), (.long q2), (.long q3), (.long q4)] h0 n0 (fun v h => v = some (.int 1) ∧ True) := by
  rcases own_m3 p1 with h | h | h | h
  · exact own_law0 l Z a0 hw p1 q2 q3 q4 h0 n0 Z0 h
  · exact own_law1 l Z a0 hw p1 q2 q3 q4 h0 n0 Z0 h
  · exact own_law2 l Z a0 hw p1 q2 q3 q4 h0 n0 Z0 h
  · exact own_law3 l Z a0 hw p1 q2 q3 q4 h0 n0 Z0 h
set_option maxRecDepth 65536 in
set_option maxHeartbeats 40000000 in
theorem comes_1 {Post : Tables → Env → Array Value → State → Outcome → State → Prop} (hpost : ∀ tb e args s v u, (limb_1_1.after args s (.returned v) u = true ∧ limb_1_2.after args s (.returned v) u = true ∧ True) → FrameEnd s (.returned v) u (Jvm.fieldLocs frame_1_writes args s ++ Jvm.arrayLocs frame_1_arrays args s ++ Jvm.staticLocs frame_1_statics s) 16 128 → Post tb e args s (.returned v) u) :
    ArmFor flags0 classFile x code maxLocals ret World_1 tables_1 room_1 Calls_1 rest_1 Pre_1 Post := by
  intro l hfl _ _ p e ha hc hk s m args below hf hA hF happ hP
  obtain ⟨hcalls, hrest, hpre⟩ := hP
  obtain ⟨-, -, -, hnamed, -, -, -, hat⟩ := (Spec.applies_iff hf).mp happ
  obtain ⟨hg, hn⟩ := and_e (Cond.before_iff.mp (show (Jvm.Cond.and given_1 narrow_1).before args s = true from hpre))
  obtain ⟨h1, g0⟩ := and_e hg
  obtain ⟨w0, w1, w2, w3, rfl⟩ : ∃ w0 w1 w2 w3 : Value, args = #[w0, w1, w2, w3] := by
    have hs : args.size = 4 := by simpa [Cond.value, given_1] using h1
    obtain ⟨L⟩ := args
    match L, hs with
    | [w0, w1, w2, w3], _ => exact ⟨w0, w1, w2, w3, rfl⟩
  have hw := fun d (hd : d ∈ tables_1) => atoms_spec (ws := Jvm.Cond.code x code maxLocals ret :: tables_1) hat d (List.mem_cons_of_mem _ hd)
  have hfit : Fit s := fun {y c} hc i hi => by
    obtain ⟨ha, rfl⟩ := Array.getElem?_eq_some_iff.mp hc
    have q := List.all_eq_true.mp ((Array.all_eq_true_iff_forall_mem.mp hF) _ (Array.getElem_mem ha)) i (List.mem_range.mpr hi)
    simpa [Array.getElem?_eq_getElem hi] using q
  obtain ⟨k0, g1⟩ := and_e g0
  obtain ⟨i0, e0⟩ := is_v k0
  obtain rfl : w0 = (.int i0) := Option.some.inj e0
  obtain ⟨k1, g2⟩ := and_e g1
  obtain ⟨i1, e1⟩ := isL_v k1
  obtain rfl : w1 = (.long i1) := Option.some.inj e1
  obtain ⟨k2, g3⟩ := and_e g2
  obtain ⟨i2, e2⟩ := isL_v k2
  obtain rfl : w2 = (.long i2) := Option.some.inj e2
  obtain ⟨i3, e3⟩ := isL_v g3
  obtain rfl : w3 = (.long i3) := Option.some.inj e3
  obtain ⟨n, o, h1, h2, h3, _, L, rfl, ⟨⟨rfl, -⟩, N⟩, hq⟩ := (own_law l s _ hw i0 i1 i2 i3 s.heap s.heap.size (Nat.le_refl _)) p e ha hc hk s m _ below hf ((Spec.applies_iff_loose hf).mp happ).1 ⟨rfl, State.Warmed39.refl s, rfl⟩ trivial
  refine ⟨n, _, h1, h2, h3, hpost _ _ _ _ _ _ ⟨Cond.after_iff.mpr rfl, Cond.after_iff.mpr (eq_i res_at (Term.int_eval (1)) rfl), trivial⟩ ⟨hq.1, hq.2.1, (hq.2.2.sift fun y hy => Or.inr (N y hy)).mono (by decide) (by decide)⟩⟩
theorem main_1_1 : Claimed_1_1 := comes_1 fun _ _ _ _ _ _ h hF => ⟨h.1, hF⟩
theorem main_1_2 : Claimed_1_2 := comes_1 fun _ _ _ _ _ _ h hF => ⟨h.2.1, hF⟩
end Jvm.Pilot.@@N@@
namespace Jvm.Pilot.@@N@@
open Jvm Jvm.ClassFile Sem Op Lib Jvm.Free Jvm.Stand Jvm.Pilot.@@N@@.Jvm.D
/-! MADE BY PROGRAM (witnessworld.py) out of the Statement's table words and the real class files: 11 classes; the members and pool entries that the words name. The judged class is class 1, her method 1. -/
namespace start1
open Jvm.ClassFile
def u (s : String) : CpInfo := .utf8 (stringToUtf16 s)
/-- a pool by its gaps: so many unusable entries, then the entry; so many at the end -/
def gap : Nat → List CpInfo → List CpInfo
  | 0, r => r
  | n + 1, r => .unusable :: gap n r
def poolList (es : List (Nat × CpInfo)) (last : Nat) : List CpInfo := es.foldr (fun e r => gap e.1 (e.2 :: r)) (gap last [])
def pool (es : List (Nat × CpInfo)) (last : Nat) : Array CpInfo := ⟨poolList es last⟩
def fileOf (pool : Array CpInfo) (this : Nat) (attrs : Array Attribute := #[]) (ms : Array MethodInfo := #[]) (fl : Nat := 33) (sup : Nat := 0) (ifs : Array Nat := #[]) (fds : Array FieldInfo := #[]) : ClassFile where
  minorVersion := 0
  majorVersion := 65
  constantPool := pool
  accessFlags := fl
  thisClass := this
  superClass := sup
  interfaces := ifs
  fields := fds
  methods := ms
  attributes := attrs
def plain (name : String) (sup : Option ClassId) : Class where
  name := name
  kind := .ordinary
  loader := none
  accessFlags := 33
  super := sup
  interfaces := #[]
  cf := none
  fields := #[]
  methods := #[]
  instanceTypes := #[]
  staticTypes := #[]
  resolved := #[]
  callSites := []
  init := .initialized
  statics := none
  mirror := none

def pool0 : Array CpInfo := pool [(5, u "<init>"), (0, u "()V"), (1, .class_ 10), (1, u "java/lang/Object")] 113

def k0m0 : Method := { name := "<init>", desc := "()V", sig := { parameters := [], returnType := none }, accessFlags := 1, code := none }
/-- java/lang/Object -/
def k0 : Class := { plain "java/lang/Object" none with
  accessFlags := 33
  interfaces := #[]
  cf := some (fileOf pool0 8 #[] #[{ accessFlags := 1, nameIndex := 5, descriptorIndex := 6, attributes := #[] }] 33 0 #[] #[])
  fields := #[]
  methods := #[k0m0]
  instanceTypes := #[]
  staticTypes := #[]
  resolved := Array.replicate 124 none
  statics := none }

def pool1 : Array CpInfo := pool [(2, .class_ 4), (1, u "java/lang/Object"), (0, u "<init>"), (0, u "()V"), (0, .methodref 8 9), (0, .class_ 10), (0, .nameAndType 11 12), (0, u "com/example/paretolio/paretolio/measure/NonDominatedWeaklyDominatesPinLaw"), (0, u "dv"), (0, u "(IZ)D"), (0, .methodref 8 14), (0, .nameAndType 15 16), (0, u "make"), (0, u "(IDDD)[D"), (0, .methodref 8 18), (0, .nameAndType 19 20), (0, u "lv"), (0, u "(IZ)J"), (0, .methodref 22 23), (0, .class_ 24), (0, .nameAndType 25 26), (0, u "com/example/paretolio/paretolio/measure/NonDominated"), (0, u "weaklyDominates"), (0, u "([D[D)Z"), (2, u "law"), (0, u "(IJJJ)Z")] 5

def k1m0 : Method := { name := "<init>", desc := "()V", sig := { parameters := [], returnType := none }, accessFlags := 1, code := none }
def k1c1 : Code := { maxStack := 7, maxLocals := 19, code := code, exceptionTable := #[], attributes := #[] }
def k1m1 : Method := { name := "law", desc := "(IJJJ)Z", sig := { parameters := [.int, .long, .long, .long], returnType := some .boolean }, accessFlags := 9, code := some k1c1 }
def k1c2 : Code := { maxStack := 2, maxLocals := 2, code := method_3_code, exceptionTable := #[], attributes := #[] }
def k1m2 : Method := { name := "dv", desc := "(IZ)D", sig := { parameters := [.int, .boolean], returnType := some .double }, accessFlags := 10, code := some k1c2 }
def k1c3 : Code := { maxStack := 2, maxLocals := 2, code := method_4_code, exceptionTable := #[], attributes := #[] }
def k1m3 : Method := { name := "lv", desc := "(IZ)J", sig := { parameters := [.int, .boolean], returnType := some .long }, accessFlags := 10, code := some k1c3 }
def k1c4 : Code := { maxStack := 5, maxLocals := 7, code := method_5_code, exceptionTable := #[], attributes := #[] }
def k1m4 : Method := { name := "make", desc := "(IDDD)[D", sig := { parameters := [.int, .double, .double, .double], returnType := some (.array .double) }, accessFlags := 10, code := some k1c4 }
/-- com/example/paretolio/paretolio/measure/NonDominatedWeaklyDominatesPinLaw -/
def k1 : Class := { plain "com/example/paretolio/paretolio/measure/NonDominatedWeaklyDominatesPinLaw" (some 0) with
  accessFlags := 49
  interfaces := #[]
  cf := some (fileOf pool1 8 #[] #[{ accessFlags := 1, nameIndex := 5, descriptorIndex := 6, attributes := #[] }, { accessFlags := 9, nameIndex := 29, descriptorIndex := 30, attributes := #[] }, { accessFlags := 10, nameIndex := 11, descriptorIndex := 12, attributes := #[] }, { accessFlags := 10, nameIndex := 19, descriptorIndex := 20, attributes := #[] }, { accessFlags := 10, nameIndex := 15, descriptorIndex := 16, attributes := #[] }] 49 2 #[] #[])
  fields := #[]
  methods := #[k1m0, k1m1, k1m2, k1m3, k1m4]
  instanceTypes := #[]
  staticTypes := #[]
  resolved := Array.replicate 36 none
  statics := none }

def pool2 : Array CpInfo := pool [(2, .class_ 4), (1, u "java/lang/Object"), (0, u "<init>"), (0, u "()V"), (11, .class_ 20), (1, u "com/example/paretolio/paretolio/measure/NonDominated"), (19, u "SWEEP_ORDER"), (0, u "Ljava/util/Comparator;"), (6, u "weaklyDominates"), (0, u "([D[D)Z")] 44

def k2m0 : Method := { name := "<init>", desc := "()V", sig := { parameters := [], returnType := none }, accessFlags := 2, code := none }
def k2c1 : Code := { maxStack := 4, maxLocals := 3, code := prog_31_method_3_code, exceptionTable := #[], attributes := #[] }
def k2m1 : Method := { name := "weaklyDominates", desc := "([D[D)Z", sig := { parameters := [(.array .double), (.array .double)], returnType := some .boolean }, accessFlags := 9, code := some k2c1 }
/-- com/example/paretolio/paretolio/measure/NonDominated -/
def k2 : Class := { plain "com/example/paretolio/paretolio/measure/NonDominated" (some 0) with
  accessFlags := 49
  interfaces := #[]
  cf := some (fileOf pool2 18 #[] #[{ accessFlags := 2, nameIndex := 5, descriptorIndex := 6, attributes := #[] }, { accessFlags := 9, nameIndex := 48, descriptorIndex := 49, attributes := #[] }] 49 2 #[] #[{ accessFlags := 26, nameIndex := 40, descriptorIndex := 41, attributes := #[] }])
  fields := #[{ name := "SWEEP_ORDER", type := (.object "java/util/Comparator"), accessFlags := 26, slot := 0, constantValue := 0 }]
  methods := #[k2m0, k2m1]
  instanceTypes := #[]
  staticTypes := #[(.object "java/util/Comparator")]
  resolved := Array.replicate 94 none
  statics := none }

def pool3 : Array CpInfo := pool [(1, u "java/lang/Cloneable"), (0, .class_ 1), (0, u "java/lang/Object"), (0, .class_ 3)] 3

/-- java/lang/Cloneable -/
def k3 : Class := { plain "java/lang/Cloneable" (some 0) with
  accessFlags := 1537
  interfaces := #[]
  cf := some (fileOf pool3 2 #[] #[] 1537 4 #[] #[])
  fields := #[]
  methods := #[]
  instanceTypes := #[]
  staticTypes := #[]
  resolved := Array.replicate 8 none
  statics := none }

def pool4 : Array CpInfo := pool [(1, u "java/io/Serializable"), (0, .class_ 1), (0, u "java/lang/Object"), (0, .class_ 3)] 3

/-- java/io/Serializable -/
def k4 : Class := { plain "java/io/Serializable" (some 0) with
  accessFlags := 1537
  interfaces := #[]
  cf := some (fileOf pool4 2 #[] #[] 1537 4 #[] #[])
  fields := #[]
  methods := #[]
  instanceTypes := #[]
  staticTypes := #[]
  resolved := Array.replicate 8 none
  statics := none }

/-- the primitive byte -/
def k5 : Class := { plain "byte" none with kind := .primitive 'B', accessFlags := 0x411 }
/-- [B -/
def k6 : Class := { plain "[B" (some 0) with kind := .array 5 .byte, interfaces := #[3, 4], accessFlags := 1041 }

/-- the primitive double -/
def k7 : Class := { plain "double" none with kind := .primitive 'D', accessFlags := 0x411 }
/-- [D -/
def k8 : Class := { plain "[D" (some 0) with kind := .array 7 .double, interfaces := #[3, 4], accessFlags := 1041 }

/-- the primitive int -/
def k9 : Class := { plain "int" none with kind := .primitive 'I', accessFlags := 0x411 }
/-- [I -/
def k10 : Class := { plain "[I" (some 0) with kind := .array 9 .int, interfaces := #[3, 4], accessFlags := 1041 }

def heap : Heap := #[]
def classes : Array Class := #[k0, k1, k2, k3, k4, k5, k6, k7, k8, k9, k10]
def interned : List (Array UInt16 × Addr) := []
def slotsUsed : Nat := 0
def theMethod : MethodId := ⟨1, 1⟩
def args0 : Array Value := #[.int 5, .long 1, .long 2, .long 3]
def aboutOver (below : List Frame) : State where
  vm := { classes := classes, interned := interned.toArray }
  heap := heap
  slotsUsed := slotsUsed
  threads := #[{ frames := .invoking theMethod args0 :: below }]
def below0 : List Frame := [.native { method := ⟨0, 0⟩, args := #[] }]
def about1 : State := aboutOver below0
def p0 : Program := .bare "" "" ""
def e0 : Env := launch0.env 0 0 0
theorem w_frames : about1.frames = Frame.invoking theMethod args0 :: below0 := rfl
set_option maxRecDepth 65536 in
theorem w_args : argsFit about1.vm theMethod args0 = true := by decide +kernel
set_option maxRecDepth 65536 in
theorem w_heap : heapFits about1 = true := by decide +kernel
set_option maxRecDepth 65536 in
theorem w_runnable : about1.curStatus? = some .runnable := by decide +kernel
set_option maxRecDepth 65536 in
theorem w_alone : about1.alone = true := by decide +kernel
set_option maxRecDepth 65536 in
theorem w_named : about1.methodNamed? x = some theMethod := by decide +kernel
set_option maxRecDepth 65536 in
theorem w_hears : about1.hears theMethod below0 = true := by decide +kernel
set_option maxRecDepth 65536 in
theorem w_ripe : about1.ripe theMethod args0 below0 = true := by decide +kernel
theorem w_running : about1.status = .running := rfl
set_option maxRecDepth 65536 in
theorem w_room : about1.hasRoom e0.platform room_1 = true :=
  launch0.hasRoom_least _ room_1 (by decide +kernel) (by decide +kernel) (by decide +kernel) (by decide +kernel) (by decide +kernel) (by decide +kernel)
theorem allAtoms_all (ts : List Jvm.Cond) (a : Array Jvm.Value) (st : Jvm.State) : (allAtoms ts).before a st = ts.all (fun c => c.before a st) := by
  induction ts with
  | nil => rfl
  | cons c t ih =>
    show (Jvm.Cond.and c (allAtoms t)).before a st = _
    rw [Jvm.Cond.before_and, ih, List.all_cons]
def words1 : List Jvm.Cond := Jvm.Cond.code x code maxLocals ret :: tables_1
/-- a 'code' word, met by the world's own term for the bytes: nothing is compared byte by byte -/
theorem code_word {y : MethodName} {bytes : ByteArray} {mx : Nat} {rt : Option FieldType} {a : Array Value} {s : State} {m : MethodId} {meth : Method} {c : Code} (h1 : s.methodNamed? y = some m) (h2 : s.vm.method? m = some meth) (h3 : meth.code = some c) (h4 : c.code = bytes)
    (h5 : (c.maxLocals == mx && c.exceptionTable.isEmpty && decide (c.maxStack ≤ mostOperands) && decide (meth.sig.returnType = rt) && !meth.locks && decide (parseMethodDescriptor y.desc = some meth.sig)) = true) : (Jvm.Cond.code y bytes mx rt).before a s = true := by
  simp only [Bool.and_eq_true, beq_iff_eq, Bool.not_eq_true', decide_eq_true_eq] at h5
  obtain ⟨⟨⟨⟨⟨g1, g2⟩, g3⟩, g4⟩, g5⟩, g6⟩ := h5
  simp [Cond.before, Cond.holds, Cond.value, h1, h2, h3, h4, g1, g2, g3, g4, g5, g6]
def isCode : Jvm.Cond → Bool
  | .code _ _ _ _ => true
  | _ => false
theorem all_split {L : List Jvm.Cond} {P : Jvm.Cond → Bool} (h1 : L.all (fun c => isCode c || P c) = true) (h2 : ∀ c ∈ L.filter isCode, P c = true) : L.all P = true := by
  refine List.all_eq_true.mpr fun c hc => ?_
  have h := List.all_eq_true.mp h1 c hc
  rcases Bool.eq_false_or_eq_true (isCode c) with hi | hi
  · exact h2 c (List.mem_filter.mpr ⟨hc, hi⟩)
  · simpa [hi] using h
set_option maxRecDepth 65536 in
theorem w_c0 : (Jvm.Cond.code x code maxLocals ret).before args0 about1 = true := code_word (m := ⟨1, 1⟩) (meth := k1m1) (c := k1c1) (by decide +kernel) rfl rfl rfl (by decide +kernel)
set_option maxRecDepth 65536 in
theorem w_c1 : (Jvm.Cond.code ({ cls := "com/example/paretolio/paretolio/measure/NonDominatedWeaklyDominatesPinLaw", name := "dv", desc := "(IZ)D" } : Jvm.MethodName) method_3_code (2 : Nat) (Option.some Jvm.ClassFile.FieldType.double)).before args0 about1 = true := code_word (m := ⟨1, 2⟩) (meth := k1m2) (c := k1c2) (by decide +kernel) rfl rfl rfl (by decide +kernel)
set_option maxRecDepth 65536 in
theorem w_c2 : (Jvm.Cond.code ({ cls := "com/example/paretolio/paretolio/measure/NonDominatedWeaklyDominatesPinLaw", name := "make", desc := "(IDDD)[D" } : Jvm.MethodName) method_5_code (7 : Nat) (Option.some (Jvm.ClassFile.FieldType.array Jvm.ClassFile.FieldType.double))).before args0 about1 = true := code_word (m := ⟨1, 4⟩) (meth := k1m4) (c := k1c4) (by decide +kernel) rfl rfl rfl (by decide +kernel)
set_option maxRecDepth 65536 in
theorem w_c3 : (Jvm.Cond.code ({ cls := "com/example/paretolio/paretolio/measure/NonDominated", name := "weaklyDominates", desc := "([D[D)Z" } : Jvm.MethodName) prog_31_method_3_code (3 : Nat) (Option.some Jvm.ClassFile.FieldType.boolean)).before args0 about1 = true := code_word (m := ⟨2, 1⟩) (meth := k2m1) (c := k2c1) (by decide +kernel) rfl rfl rfl (by decide +kernel)
set_option maxRecDepth 65536 in
theorem w_c4 : (Jvm.Cond.code ({ cls := "com/example/paretolio/paretolio/measure/NonDominatedWeaklyDominatesPinLaw", name := "lv", desc := "(IZ)J" } : Jvm.MethodName) method_4_code (2 : Nat) (Option.some Jvm.ClassFile.FieldType.long)).before args0 about1 = true := code_word (m := ⟨1, 3⟩) (meth := k1m3) (c := k1c3) (by decide +kernel) rfl rfl rfl (by decide +kernel)
def codes1 : List Jvm.Cond := [Jvm.Cond.code x code maxLocals ret, Jvm.Cond.code ({ cls := "com/example/paretolio/paretolio/measure/NonDominatedWeaklyDominatesPinLaw", name := "dv", desc := "(IZ)D" } : Jvm.MethodName) method_3_code (2 : Nat) (Option.some Jvm.ClassFile.FieldType.double), Jvm.Cond.code ({ cls := "com/example/paretolio/paretolio/measure/NonDominatedWeaklyDominatesPinLaw", name := "make", desc := "(IDDD)[D" } : Jvm.MethodName) method_5_code (7 : Nat) (Option.some (Jvm.ClassFile.FieldType.array Jvm.ClassFile.FieldType.double)), Jvm.Cond.code ({ cls := "com/example/paretolio/paretolio/measure/NonDominated", name := "weaklyDominates", desc := "([D[D)Z" } : Jvm.MethodName) prog_31_method_3_code (3 : Nat) (Option.some Jvm.ClassFile.FieldType.boolean), Jvm.Cond.code ({ cls := "com/example/paretolio/paretolio/measure/NonDominatedWeaklyDominatesPinLaw", name := "lv", desc := "(IZ)J" } : Jvm.MethodName) method_4_code (2 : Nat) (Option.some Jvm.ClassFile.FieldType.long)]
set_option maxRecDepth 65536 in
theorem codes_eq : words1.filter isCode = codes1 := rfl
theorem w_codes : ∀ c ∈ words1.filter isCode, c.before args0 about1 = true := by
  rw [codes_eq]
  intro c hc
  simp only [codes1, List.mem_cons, List.not_mem_nil, or_false] at hc
  rcases hc with rfl | rfl | rfl | rfl | rfl
  · exact w_c0
  · exact w_c1
  · exact w_c2
  · exact w_c3
  · exact w_c4
set_option maxRecDepth 65536 in
theorem w_t1 : words1.all (fun c => isCode c || c.before args0 about1) = true := by decide +kernel
theorem w_tables : (allAtoms (Jvm.Cond.code x code maxLocals ret :: tables_1)).before args0 about1 = true := by
  rw [allAtoms_all]
  show words1.all (fun c => c.before args0 about1) = true
  refine all_split ?_ w_codes
  rw [w_t1]
set_option maxRecDepth 65536 in
theorem w_case : (Jvm.Cond.and given_1 narrow_1).before args0 about1 = true := by decide +kernel
theorem w_applies : (headSpec (Jvm.Cond.code x code maxLocals ret :: tables_1) room_1).applies x e0.platform about1 = true :=
  (Spec.applies_iff w_frames).mpr ⟨w_running, w_runnable, w_alone, w_named, w_hears, w_ripe, w_room, w_tables⟩
theorem atStart : AtStart classFile x code maxLocals ret World_1 tables_1 room_1 Calls_1 rest_1 Pre_1 launch0 p0 e0 about1 theMethod args0 below0 :=
  ⟨lists_1, trivial, launch0.admits_env _ _ _, launch0.least_env, fairChoices_fair.cas, fairChoices_fair.clock, w_frames, w_args, w_heap, w_applies, trivial, trivial, w_case⟩
end start1
theorem witness_1 : WitnessClaimed_1 := ⟨start1.p0, start1.e0, start1.about1, start1.theMethod, start1.args0, start1.below0, start1.atStart⟩
end Jvm.Pilot.@@N@@
