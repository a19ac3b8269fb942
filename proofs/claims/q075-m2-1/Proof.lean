import JvmDerived
import JvmDerived.Pilot.@@N@@Statement
import JvmDerived.Pilot.@@N@@Code
set_option linter.unusedVariables false
set_option linter.unusedSimpArgs false
@@BLOCK:NumsL.lean.txt@@
namespace Jvm.Pilot.@@N@@
open Jvm Jvm.ClassFile Sem Op Lib Jvm.Free Jvm.Stand Jvm.LawKit Jvm.RoadKit Bundle Jvm.Pilot.@@N@@.Jvm.D

section Own
variable {p : Program} {l : Launch} {e : Env} {R : Room} {s : State} {m : MethodId} {args : Array Value} {below : List Frame} {meth : Method} {c : Code} {S0 : State} {n0 : Nat} {h h' : Heap} {ce sl ce' sl' : Nat} {f f' : JFrame} {Z : State} {a0 : Array Value}
/-- the walk stands at the frame f over the heap h; it has made ce cells and sl slots; what it wrote lies at or above n0 -/
def own_R (p : Program) (l : Launch) (e : Env) (R : Room) (s : State) (m : MethodId) (args : Array Value) (below : List Frame) (meth : Method) (c : Code) (S0 : State) (n0 : Nat) (h : Heap) (ce sl : Nat) (f : JFrame) : Prop :=
  ∃ T L, Stand p l e R s m args below meth c T L ce sl ∧ T.heap = h ∧ Fr n0 L ∧ Steps p.tables e below S0 (T.setTop f)
/-- the walk has returned, and Q holds of what it returned and of the heap -/
def own_E (p : Program) (e : Env) (R : Room) (s : State) (below : List Frame) (S0 : State) (n0 : Nat) (Q : Option Value → Heap → Prop) : Prop :=
  ∃ s₂ v L, Steps p.tables e below S0 s₂ ∧ s₂.status = .running ∧ Ended s₂ below (.returned v) ∧ (Q v s₂.heap ∧ Fr n0 L) ∧ FrameEnd s (.returned v) s₂ L R.cells R.slots
/-- a body's contract -/
def own_M (l : Launch) (Z : State) (y : MethodName) (bytes : ByteArray) (maxL : Nat) (ret : Option FieldType) (ws : List Cond) (rm : Room) (as : Array Value) (h0 : Heap) (n0 : Nat) (Q : Option Value → Heap → Prop) : Prop :=
  MetFree l y (head1 (Cond.code y bytes maxL ret :: ws) rm) (fun a U => a = as ∧ Z.Warmed39 U.vm ∧ U.heap = h0) (fun _ _ _ _ _ => True) (fun _ U o U' => ∃ v L, o = .returned v ∧ (Q v U'.heap ∧ Fr n0 L) ∧ FrameEnd U o U' L rm.cells rm.slots)
theorem own_M.of {y : MethodName} {bytes : ByteArray} {maxL : Nat} {ret : Option FieldType} {ws : List Cond} {rm : Room} {as : Array Value} {h0 : Heap} {Q : Option Value → Heap → Prop} (pn : plainFor y = true)
    (body : ∀ (p : Program) (e : Env) (s : State) (m : MethodId) (below : List Frame) (meth : Method) (c : Code) (S0 : State), p.tables.exec = Jvm.exec → c.code = bytes → c.maxLocals = maxL → s.vm.findClass y.cls = some m.cls → meth.name = y.name → meth.sig.returnType = ret → meth.locks = false → Z.Warmed39 s.vm →
      own_R p l e rm s m as below meth c S0 n0 h0 0 0 (entryFrame m as maxL) → own_E p e rm s below S0 n0 Q) :
    own_M l Z y bytes maxL ret ws rm as h0 n0 Q := by
  refine MetFree.of_bodySF pn hisR ?_
  intro p e s m args below meth c s₁ Bd hml0 hP hK
  obtain ⟨rfl, hZ, hh⟩ := hP
  have e0 : s₁.heap = h0 := by rw [← hh, Bd.state]; rfl
  obtain ⟨s₂, v, L, k, hrun, hend, hq, hF⟩ := body p e s m below meth c _ Bd.exec Bd.bytes hml0 (findClass_of_methodNamed Bd.named) (name_of_methodNamed Bd.named Bd.method).1 Bd.returns Bd.notSynchronized hZ ⟨s₁, [], Stand.of_body Bd, e0, Fr.nil n0, Steps.refl _⟩
  exact ⟨s₂, _, k, hrun, hend, v, L, rfl, hq, hF⟩
theorem own_R.cast (A : own_R p l e R s m args below meth c S0 n0 h ce sl f) (q : f = f') : own_R p l e R s m args below meth c S0 n0 h ce sl f' := q ▸ A
theorem own_R.go (A : own_R p l e R s m args below meth c S0 n0 h ce sl f)
    (st : ∀ T L, Stand p l e R s m args below meth c T L ce sl → ∀ target, Steps p.tables e below (T.setTop f') target → Steps p.tables e below (T.setTop f) target) :
    own_R p l e R s m args below meth c S0 n0 h ce sl f' := by
  obtain ⟨T, L, X, eT, N, k⟩ := A
  exact ⟨T, L, X, eT, N, k.trans (st T L X _ (Steps.refl _))⟩
theorem own_R.law (A : own_R p l e R s m args below meth c S0 n0 h ce sl f)
    (st : ∀ T L, Stand p l e R s m args below meth c T L ce sl → T.heap = h → Fr n0 L → ∃ T' L', Stand p l e R s m args below meth c T' L' ce' sl' ∧ T'.heap = h' ∧ Fr n0 L' ∧ ∀ target, Steps p.tables e below (T'.setTop f') target → Steps p.tables e below (T.setTop f) target) :
    own_R p l e R s m args below meth c S0 n0 h' ce' sl' f' := by
  obtain ⟨T, L, X, eT, N, k⟩ := A
  obtain ⟨T', L', X', e', N', k'⟩ := st T L X eT N
  exact ⟨T', L', X', e', N', k.trans (k' _ (Steps.refl _))⟩
theorem own_R.getF {pc : Nat} {Ls : Array Slot} {rest : List Value} {a : Addr} {v : Value} {own R0 O n d : String} {index : Nat}
    (A : own_R p l e R s m args below meth c S0 n0 h ce sl (mkF m pc Ls (.ref a :: rest))) (hx : p.tables.exec = Jvm.exec) (hZ : Z.Warmed39 s.vm) (hown : s.vm.findClass own = some m.cls)
    (hd : decode c.code pc = .ok (.getfield index, 3)) (w : (Cond.fieldLink own index R0 n d).before a0 Z = true) (via : Via Z R0 O n d) (F : Fld Z h a O n d v) :
    own_R p l e R s m args below meth c S0 n0 h ce sl (mkF m (pc + 3) Ls (v :: rest)) := A.law fun T L X eT N => by
  obtain ⟨T', X', e', st⟩ := RoadKit.getF X hx hZ hown (host := "") (Or.inl w) via eT F (g := mkF m pc Ls (.ref a :: rest)) rfl rfl hd
  exact ⟨T', L, X', e', N, st⟩
theorem own_R.getS {pc : Nat} {Ls : Array Slot} {st : List Value} {v : Value} {own R0 O n d : String} {index : Nat}
    (A : own_R p l e R s m args below meth c S0 n0 h ce sl (mkF m pc Ls st)) (hx : p.tables.exec = Jvm.exec) (hZ : Z.Warmed39 s.vm) (hown : s.vm.findClass own = some m.cls)
    (hd : decode c.code pc = .ok (.getstatic index, 3)) (w : (Cond.fieldLink own index R0 n d).before a0 Z = true) (via : Via Z R0 O n d) (F : Sta Z h O n d v) :
    own_R p l e R s m args below meth c S0 n0 h ce sl (mkF m (pc + 3) Ls (v :: st)) := A.law fun T L X eT N => by
  obtain ⟨T', X', e', k⟩ := RoadKit.getS X hx hZ hown (host := "") w via eT F (g := mkF m pc Ls st) rfl hd
  exact ⟨T', L, X', e', N, k⟩
theorem own_R.ldcI {pc : Nat} {Ls : Array Slot} {st : List Value} {v : Int32} {own : String} {index : Nat}
    (A : own_R p l e R s m args below meth c S0 n0 h ce sl (mkF m pc Ls st)) (hx : p.tables.exec = Jvm.exec) (hZ : Z.Warmed39 s.vm) (hown : s.vm.findClass own = some m.cls)
    (hd : decode c.code pc = .ok (.ldc index, 2)) (w : (Cond.constant own index v).before a0 Z = true) :
    own_R p l e R s m args below meth c S0 n0 h ce sl (mkF m (pc + 2) Ls (.int v :: st)) := A.go fun T L X t k =>
  X.ldcInt hx hown (mvT hZ w) (g := mkF m pc Ls st) rfl hd t k
theorem own_R.ldcL {pc : Nat} {Ls : Array Slot} {st : List Value} {v : Int64} {own : String} {index : Nat}
    (A : own_R p l e R s m args below meth c S0 n0 h ce sl (mkF m pc Ls st)) (hx : p.tables.exec = Jvm.exec) (hZ : Z.Warmed39 s.vm) (hown : s.vm.findClass own = some m.cls)
    (hd : decode c.code pc = .ok (.ldc2_w index, 3)) (w : (Cond.constantLong own index v).before a0 Z = true) :
    own_R p l e R s m args below meth c S0 n0 h ce sl (mkF m (pc + 3) Ls (.long v :: st)) := A.go fun T L X t k =>
  X.ldc2Long hx hown (mvT hZ w) (g := mkF m pc Ls st) rfl hd t k
theorem own_R.ldcD {pc : Nat} {Ls : Array Slot} {st : List Value} {v : UInt64} {own : String} {index : Nat}
    (A : own_R p l e R s m args below meth c S0 n0 h ce sl (mkF m pc Ls st)) (hx : p.tables.exec = Jvm.exec) (hZ : Z.Warmed39 s.vm) (hown : s.vm.findClass own = some m.cls)
    (hd : decode c.code pc = .ok (.ldc2_w index, 3)) (w : (Cond.constantDouble own index v).before a0 Z = true) :
    own_R p l e R s m args below meth c S0 n0 h ce sl (mkF m (pc + 3) Ls (.double v :: st)) := A.go fun T L X t k =>
  X.ldc2DoubleC hx hown (mvT hZ w) (g := mkF m pc Ls st) rfl hd t k
theorem own_R.callS {pc : Nat} {Ls : Array Slot} {st : List Value} {own : String} {index W : Nat} {y : MethodName} {bytes : ByteArray} {maxL : Nat} {ret : Option FieldType} {rm : Room} {as : Array Value} {Q : Option Value → Heap → Prop} {argsL rest : List Value}
    (A : own_R p l e R s m args below meth c S0 n0 h ce sl (mkF m pc Ls st)) (M : own_M l Z y bytes maxL ret [] rm as h n0 Q) (hx : p.tables.exec = Jvm.exec) (hZ : Z.Warmed39 s.vm) (hown : s.vm.findClass own = some m.cls)
    (hd : decode c.code pc = .ok (.invokestatic index, 3)) (w1 : (Cond.methodLink own index y).before a0 Z = true) (w2 : (Cond.static y).before a0 Z = true) (w3 : (Cond.initialized y.cls).before a0 Z = true) (w4 : (Cond.code y bytes maxL ret).before a0 Z = true)
    (hy : y.cls ≠ "java/lang/invoke/MethodHandle" ∧ y.cls ≠ "java/lang/invoke/VarHandle") (hlen : ∀ sig, parseMethodDescriptor y.desc = some sig → argsL.length = sig.parameters.length) (hst : st = argsL.reverse ++ rest) (has : argsL.toArray = as)
    (hsz : Ls.size = c.maxLocals) (hW : (rest.map fun v => v.category).sum ≤ W) (hf : rm.frames + 1 ≤ R.frames) (hl : W + (maxL + 11) + rm.locals ≤ R.locals) (hc : ce + rm.cells ≤ R.cells) (hs : sl + rm.slots ≤ R.slots) :
    ∃ v h', Q v h' ∧ own_R p l e R s m args below meth c S0 n0 h' (ce + rm.cells) (sl + rm.slots) (mkF m (pc + 3) Ls (v.toList ++ rest)) := by
  obtain ⟨T, L, X, eT, N, k⟩ := A
  obtain ⟨v, vm₁, ⟨T', L', k', n'⟩, -, X', ⟨Lc, hQ, l1, l2, l3⟩, sT⟩ := Jvm.LawKit.callS X hx (y := y) hown (mvT hZ w1) (mvT hZ w2) (mvT hZ w3) (mvT hZ w4) hy (backOf (W := W) (Q := fun v h' L => Q v h' ∧ Fr n0 L) M hZ w4 w3 hf hl) (g := mkF m pc Ls st) rfl hsz (argsL := argsL) (rest := rest) hlen hst (by show 2 * 0 + _ ≤ _; omega) hd (fun _ _ => ⟨has, eT, hc, hs⟩)
  dsimp only [Pt.U, Pt.locs, Pt.cells, Pt.slots] at X' l1 l2 l3 sT hQ
  subst l1 l2 l3
  exact ⟨v, _, hQ.1, T', _, X', rfl, Fr.app N hQ.2, k.trans (sT _ (Steps.refl _))⟩
theorem own_R.callV {pc : Nat} {Ls : Array Slot} {st : List Value} {own C : String} {index W : Nat} {y z : MethodName} {bytes : ByteArray} {maxL : Nat} {ret : Option FieldType} {rm : Room} {as : Array Value} {Q : Option Value → Heap → Prop} {b : Addr} {argsL rest : List Value}
    (A : own_R p l e R s m args below meth c S0 n0 h ce sl (mkF m pc Ls st)) (M : own_M l Z z bytes maxL ret [] rm as h n0 Q) (E : Exa Z h b C) (hx : p.tables.exec = Jvm.exec) (hZ : Z.Warmed39 s.vm) (hown : s.vm.findClass own = some m.cls)
    (hd : decode c.code pc = .ok (.invokevirtual index, 3)) (w1 : (Cond.methodLink own index y).before a0 Z = true) (w2 : (Cond.declares y).before a0 Z = true) (w3 : (Cond.selects C y z).before a0 Z = true) (w4 : (Cond.instanceMethod z).before a0 Z = true) (w5 : (Cond.code z bytes maxL ret).before a0 Z = true) (w6 : (Cond.initialized z.cls).before a0 Z = true) (hnf : ∀ s' : State, Z.Warmed39 s'.vm → NotFace s' y)
    (hy : y.cls ≠ "java/lang/invoke/MethodHandle" ∧ y.cls ≠ "java/lang/invoke/VarHandle") (hlen : ∀ sig, parseMethodDescriptor y.desc = some sig → argsL.length = sig.parameters.length) (hst : st = argsL.reverse ++ .ref b :: rest) (has : (Value.ref b :: argsL).toArray = as)
    (hsz : Ls.size = c.maxLocals) (hW : (rest.map fun v => v.category).sum ≤ W) (hf : rm.frames + 1 ≤ R.frames) (hl : W + (maxL + 11) + rm.locals ≤ R.locals) (hc : ce + rm.cells ≤ R.cells) (hs : sl + rm.slots ≤ R.slots) :
    ∃ v h', Q v h' ∧ own_R p l e R s m args below meth c S0 n0 h' (ce + rm.cells) (sl + rm.slots) (mkF m (pc + 3) Ls (v.toList ++ rest)) := by
  obtain ⟨T, L, X, eT, N, k⟩ := A
  obtain ⟨cq, kq, qa, qb, qc⟩ := isOf hZ eT E
  obtain ⟨v, vm₁, ⟨T', L', k', n'⟩, -, X', ⟨Lc, hQ, l1, l2, l3⟩, sT⟩ := X.virtualBack hx (y := y) (z := z) hown (mvT hZ w1) (mvT hZ w2) (hnf s hZ) (mvT hZ w3) (mvT hZ w4) hy (backOf (W := W) (Q := fun v h' L => Q v h' ∧ Fr n0 L) M hZ w5 w6 hf hl) qa qc (g := mkF m pc Ls st) rfl hsz (Steps.refl _) (argsL := argsL) (rest := rest) hlen hst (by show 2 * 0 + _ ≤ _; omega) hd (fun _ _ => ⟨has, eT, hc, hs⟩)
  dsimp only [Pt.U, Pt.locs, Pt.cells, Pt.slots] at X' l1 l2 l3 sT hQ
  subst l1 l2 l3
  exact ⟨v, _, hQ.1, T', _, X', rfl, Fr.app N hQ.2, k.trans sT⟩
theorem own_R.callI {pc : Nat} {Ls : Array Slot} {st : List Value} {own : String} {index W : Nat} {y : MethodName} {bytes : ByteArray} {maxL : Nat} {rm : Room} {as : Array Value} {Q : Option Value → Heap → Prop} {b : Addr} {argsL rest : List Value}
    (A : own_R p l e R s m args below meth c S0 n0 h ce sl (mkF m pc Ls st)) (M : own_M l Z y bytes maxL none [] rm as h n0 Q) (hx : p.tables.exec = Jvm.exec) (hZ : Z.Warmed39 s.vm) (hown : s.vm.findClass own = some m.cls)
    (hd : decode c.code pc = .ok (.invokespecial index, 3)) (hy1 : y.name = "<init>") (w1 : (Cond.methodLink own index y).before a0 Z = true) (w2 : (Cond.instanceMethod y).before a0 Z = true) (w3 : (Cond.code y bytes maxL none).before a0 Z = true) (w4 : (Cond.initialized y.cls).before a0 Z = true)
    (hy : y.cls ≠ "java/lang/invoke/MethodHandle" ∧ y.cls ≠ "java/lang/invoke/VarHandle") (hlen : ∀ sig, parseMethodDescriptor y.desc = some sig → argsL.length = sig.parameters.length) (hst : st = argsL.reverse ++ .ref b :: rest) (has : (Value.ref b :: argsL).toArray = as)
    (hsz : Ls.size = c.maxLocals) (hW : (rest.map fun v => v.category).sum ≤ W) (hf : rm.frames + 1 ≤ R.frames) (hl : W + (maxL + 11) + rm.locals ≤ R.locals) (hc : ce + rm.cells ≤ R.cells) (hs : sl + rm.slots ≤ R.slots) :
    ∃ v h', Q v h' ∧ own_R p l e R s m args below meth c S0 n0 h' (ce + rm.cells) (sl + rm.slots) (mkF m (pc + 3) Ls (v.toList ++ rest)) := by
  obtain ⟨T, L, X, eT, N, k⟩ := A
  obtain ⟨v, vm₁, ⟨T', L', k', n'⟩, -, X', ⟨Lc, hQ, l1, l2, l3⟩, sT⟩ := X.specialBack hx (y := y) hy1 hown (mvT hZ w1) (mvT hZ w2) (mvT hZ w3) hy (backOf (W := W) (Q := fun v h' L => Q v h' ∧ Fr n0 L) M hZ w3 w4 hf hl) (g := mkF m pc Ls st) rfl hsz (Steps.refl _) (a := b) (argsL := argsL) (rest := rest) hlen hst (by show 2 * 0 + _ ≤ _; omega) hd (fun _ _ => ⟨has, eT, hc, hs⟩)
  dsimp only [Pt.U, Pt.locs, Pt.cells, Pt.slots] at X' l1 l2 l3 sT hQ
  subst l1 l2 l3
  exact ⟨v, _, hQ.1, T', _, X', rfl, Fr.app N hQ.2, k.trans sT⟩
theorem own_R.ret {pc : Nat} {Ls : Array Slot} {rest : List Value} {w : Value} {t : FieldType} {i : Instr} {Q : Option Value → Heap → Prop}
    (A : own_R p l e R s m args below meth c S0 n0 h ce sl (mkF m pc Ls (w :: rest))) (hx : p.tables.exec = Jvm.exec) (hlk : meth.locks = false) (hret : meth.sig.returnType = some t) (hd : decode c.code pc = .ok (i, 1)) (hn : narrow t w = w)
    (hi : (i = .ireturn ∧ (t = .int ∨ t = .boolean ∨ t = .byte ∨ t = .char ∨ t = .short) ∧ ∃ z, w = .int z) ∨ (i = .lreturn ∧ t = .long ∧ ∃ z, w = .long z) ∨ (i = .dreturn ∧ t = .double ∧ ∃ z, w = .double z) ∨ (i = .freturn ∧ t = .float ∧ ∃ z, w = .float z) ∨ (i = .areturn ∧ t.isReference = true ∧ w.isRef = true))
    (hc : ce ≤ R.cells) (hs : sl ≤ R.slots) (q : Q (some w) h) : own_E p e R s below S0 n0 Q := by
  obtain ⟨T, L, X, eT, N, k⟩ := A
  obtain ⟨fs, hr, hrun, hended, hW, hsame⟩ := X.leave (v := some w) (fun h => by rw [hret] at h; cases h) hlk
  refine ⟨_, _, _, k.trans (retOut X hx hret hn hi hd hr), hrun, hended, ⟨?_, N⟩, ⟨_, rfl⟩, hW, hsame.mono hc hs⟩
  show Q _ T.heap
  rw [eT]; exact q
theorem own_R.retV {pc : Nat} {Ls : Array Slot} {Q : Option Value → Heap → Prop}
    (A : own_R p l e R s m args below meth c S0 n0 h ce sl (mkF m pc Ls [])) (hx : p.tables.exec = Jvm.exec) (hlk : meth.locks = false) (hret : meth.sig.returnType = none) (hd : decode c.code pc = .ok (.return_, 1))
    (hc : ce ≤ R.cells) (hs : sl ≤ R.slots) (q : Q none h) : own_E p e R s below S0 n0 Q := by
  obtain ⟨T, L, X, eT, N, k⟩ := A
  obtain ⟨fs, hr, hrun, hended, hW, hsame⟩ := X.leave (v := none) (fun _ => rfl) hlk
  refine ⟨_, _, _, k.trans (X.returnOut hx hret hd hr), hrun, hended, ⟨?_, N⟩, ⟨_, rfl⟩, hW, hsame.mono hc hs⟩
  show Q _ T.heap
  rw [eT]; exact q
end Own
section Own2
variable {p : Program} {l : Launch} {e : Env} {R : Room} {s : State} {m : MethodId} {args : Array Value} {below : List Frame} {meth : Method} {c : Code} {S0 : State} {n0 : Nat} {h h' : Heap} {ce sl : Nat} {Z : State} {a0 : Array Value} {pc : Nat} {Ls : Array Slot} {rest : List Value} {a b : Addr} {ty : FieldType} {vs : List Value} {ws : List Addr} {v : Value} {i : Nat}
/-- an array whose components are listed -/
def own_Ar (Z : State) (h : Heap) (a : Addr) (ty : FieldType) (vs : List Value) : Prop := ∃ cl : Cell, Arr Z h a cl ty ∧ cl.slots.toList = vs
theorem own_Ar.ext (F : own_Ar Z h a ty vs) (E : Ext h h') : own_Ar Z h' a ty vs := by obtain ⟨cl, A, q⟩ := F; exact ⟨cl, A.ext E, q⟩
theorem own_Ar.other (F : own_Ar Z h a ty vs) (W : Wr h h' b i v) (q : a ≠ b) : own_Ar Z h' a ty vs := by obtain ⟨cl, A, r⟩ := F; exact ⟨cl, A.other W q, r⟩
theorem own_Ar.same (F : own_Ar Z h a ty vs) (W : Wr h h' a i v) : own_Ar Z h' a ty (vs.set i v) := by
  obtain ⟨cl, A, rfl⟩ := F
  exact ⟨_, A.same W, by simp [Cell.setSlot, Array.toList_setIfInBounds]⟩
theorem own_Ar.keep (F : own_Ar Z h a ty vs) (K : Keep h h' ws) (q : a ∉ ws) : own_Ar Z h' a ty vs := by obtain ⟨cl, A, r⟩ := F; exact ⟨cl, ⟨K.2.1 a cl A.1 q, A.2⟩, r⟩
theorem own_Ar.lt (F : own_Ar Z h a ty vs) : a < h.size := by obtain ⟨cl, A, -⟩ := F; exact A.lt
theorem own_R.newP {n : Int32} {aty : ArrayType} {cap : Nat} (A : own_R p l e R s m args below meth c S0 n0 h ce sl (mkF m pc Ls (.int n :: rest))) (hx : p.tables.exec = Jvm.exec) (hZ : Z.Warmed39 s.vm)
    (hd : decode c.code pc = .ok (.newarray aty, 2)) (w : (Cond.arrayClass (newarray.typeOf aty)).before a0 Z = true) (hn : ¬ n < 0) (hcap : n.toNatClampNeg ≤ cap) (hb : cap * 8 ≤ 536870912) (hc : ce + 1 ≤ R.cells) (hl : sl + cap ≤ R.slots) :
    ∃ h', Ext h h' ∧ own_Ar Z h' h.size (newarray.typeOf aty) (List.replicate n.toNatClampNeg (defaultValue (newarray.typeOf aty))) ∧ own_R p l e R s m args below meth c S0 n0 h' (ce + 1) (sl + cap) (mkF m (pc + 2) Ls (.ref h.size :: rest)) := by
  obtain ⟨T, L, X, eT, N, k⟩ := A
  obtain ⟨T', h', cA, X', e', E, AA, st⟩ := RoadKit.newP X hx hZ w eT (g := mkF m pc Ls (.int n :: rest)) rfl hd rfl hn hcap hb hc hl
  exact ⟨h', E, ⟨_, AA, by simp [newA]⟩, T', L, X', e', N, k.trans (st _ (Steps.refl _))⟩
theorem own_R.newO {own C : String} {index n : Nat} (A : own_R p l e R s m args below meth c S0 n0 h ce sl (mkF m pc Ls rest)) (hx : p.tables.exec = Jvm.exec) (hZ : Z.Warmed39 s.vm) (hown : s.vm.findClass own = some m.cls)
    (hd : decode c.code pc = .ok (.new index, 3)) (w : (Cond.classLink own index C).before a0 Z = true) (wi : (Cond.instantiable C n).before a0 Z = true) (wz : (Cond.initialized C).before a0 Z = true) (hc : ce + 1 ≤ R.cells) (hl : sl + n ≤ R.slots) :
    ∃ h', Ext h h' ∧ Exa Z h' h.size C ∧ (∀ {O nm d : String} {ty : FieldType}, Laid Z a0 C O nm d → parseFieldDescriptor d = some ty → Fld Z h' h.size O nm d (defaultValue ty)) ∧ own_R p l e R s m args below meth c S0 n0 h' (ce + 1) (sl + n) (mkF m (pc + 3) Ls (.ref h.size :: rest)) := by
  obtain ⟨T, L, X, eT, N, k⟩ := A
  obtain ⟨T', h', X', e', E, AA, D, -, st⟩ := RoadKit.newO X hx hZ hown w wi wz eT (g := mkF m pc Ls rest) rfl hd hc hl
  exact ⟨h', E, AA, D, T', L, X', e', N, k.trans (st _ (Steps.refl _))⟩
theorem own_R.putF {own O n d C : String} {index kk : Nat} {v old : Value} (A : own_R p l e R s m args below meth c S0 n0 h ce sl (mkF m pc Ls (v :: .ref a :: rest))) (hx : p.tables.exec = Jvm.exec) (hZ : Z.Warmed39 s.vm) (hown : s.vm.findClass own = some m.cls)
    (hd : decode c.code pc = .ok (.putfield index, 3)) (w : (Cond.fieldLink own index O n d).before a0 Z = true) (F : Fld Z h a O n d old) (E : Exa Z h a C) (L : (Cond.lays C O n d).before a0 Z = true ∨ ((Cond.laysFinal C O n d).before a0 Z = true ∧ own = O ∧ meth.name = "<init>")) (wi : (Cond.instantiable C kk).before a0 Z = true)
    (hty : parseFieldDescriptor d = some ty) (hn : narrow ty v = v) (hf : fits ty v = true) (q : n0 ≤ a) :
    ∃ h', Wr h h' a (RoadKit.slotOf Z O n d) v ∧ own_R p l e R s m args below meth c S0 n0 h' ce sl (mkF m (pc + 3) Ls rest) := by
  obtain ⟨T, Lc, X, eT, N, k⟩ := A
  obtain ⟨T', h', X', e', W, st⟩ := RoadKit.putF X hx hZ hown (host := "") (Or.inl w) Via.refl eT F E L wi hty hn hf (g := mkF m pc Ls (v :: .ref a :: rest)) rfl rfl hd
  exact ⟨h', W, T', _, X', e', Fr.snoc X' N q, k.trans (st _ (Steps.refl _))⟩
theorem own_R.initO {own : String} {idx W : Nat} (A : own_R p l e R s m args below meth c S0 n0 h ce sl (mkF m pc Ls (.ref a :: rest))) (hx : p.tables.exec = Jvm.exec) (hZ : Z.Warmed39 s.vm) (hown : s.vm.findClass own = some m.cls)
    (hd : decode c.code pc = .ok (.invokespecial idx, 3)) (w1 : (Cond.methodLink own idx Lib.objectInit).before a0 Z = true) (w2 : (Cond.instanceMethod Lib.objectInit).before a0 Z = true) (w3 : (Cond.code Lib.objectInit ⟨#[0xb1]⟩ 1 none).before a0 Z = true)
    (hsz : Ls.size = c.maxLocals) (hW : (rest.map fun v => v.category).sum ≤ W) (hf : 1 ≤ R.frames) (hl : W + 12 ≤ R.locals) : own_R p l e R s m args below meth c S0 n0 h ce sl (mkF m (pc + 3) Ls rest) := A.law fun T L X eT N => by
  obtain ⟨T', X', e', st⟩ := RoadKit.initO X hx hZ hown w1 w2 w3 eT (g := mkF m pc Ls (.ref a :: rest)) rfl hsz rfl hd hf (by show 2 * 0 + _ ≤ _; exact (Nat.zero_add _).symm ▸ hW) hl
  exact ⟨T', L, X', e', N, st⟩
theorem own_R.stI {j x : Int32} (A : own_R p l e R s m args below meth c S0 n0 h ce sl (mkF m pc Ls (.int x :: .int j :: .ref a :: rest))) (hx : p.tables.exec = Jvm.exec) (hZ : Z.Warmed39 s.vm)
    (hd : decode c.code pc = .ok (.iastore, 1)) (F : own_Ar Z h a .int vs) (hj : ¬ j < 0) (hi : j.toNatClampNeg < vs.length) (q : n0 ≤ a) :
    ∃ h', Wr h h' a j.toNatClampNeg (.int x) ∧ own_R p l e R s m args below meth c S0 n0 h' ce sl (mkF m (pc + 1) Ls rest) := by
  obtain ⟨cl, F, rfl⟩ := F
  obtain ⟨T, Lc, X, eT, N, k⟩ := A
  obtain ⟨T', h', X', e', W, st⟩ := RoadKit.stI X hx hZ eT F (j := j) (fun z => z.elim hj fun u => by rw [Array.length_toList] at hi; omega) (g := mkF m pc Ls (.int x :: .int j :: .ref a :: rest)) rfl rfl hd
  exact ⟨h', W, T', _, X', e', Fr.snoc X' N q, k.trans (st _ (Steps.refl _))⟩
theorem own_R.stB {j x : Int32} (A : own_R p l e R s m args below meth c S0 n0 h ce sl (mkF m pc Ls (.int x :: .int j :: .ref a :: rest))) (hx : p.tables.exec = Jvm.exec) (hZ : Z.Warmed39 s.vm)
    (hd : decode c.code pc = .ok (.bastore, 1)) (F : own_Ar Z h a .byte vs) (hj : ¬ j < 0) (hi : j.toNatClampNeg < vs.length) (q : n0 ≤ a) :
    ∃ h', Wr h h' a j.toNatClampNeg (.int (nar .byte x)) ∧ own_R p l e R s m args below meth c S0 n0 h' ce sl (mkF m (pc + 1) Ls rest) := by
  obtain ⟨cl, F, rfl⟩ := F
  obtain ⟨T, Lc, X, eT, N, k⟩ := A
  obtain ⟨T', h', X', e', W, st⟩ := RoadKit.stB X hx hZ eT F (j := j) (fun z => z.elim hj fun u => by rw [Array.length_toList] at hi; omega) (g := mkF m pc Ls (.int x :: .int j :: .ref a :: rest)) rfl rfl hd
  exact ⟨h', W, T', _, X', e', Fr.snoc X' N q, k.trans (st _ (Steps.refl _))⟩
theorem own_R.ldI {j : Int32} (A : own_R p l e R s m args below meth c S0 n0 h ce sl (mkF m pc Ls (.int j :: .ref a :: rest))) (hx : p.tables.exec = Jvm.exec) (hZ : Z.Warmed39 s.vm)
    (hd : decode c.code pc = .ok (.iaload, 1)) (F : own_Ar Z h a .int vs) (hj : ¬ j < 0) (hv : vs[j.toNatClampNeg]? = some v) :
    own_R p l e R s m args below meth c S0 n0 h ce sl (mkF m (pc + 1) Ls (v :: rest)) := A.law fun T L X eT N => by
  obtain ⟨cl, F, rfl⟩ := F
  rw [Array.getElem?_toList] at hv
  have hlt := (Array.getElem?_eq_some_iff.mp hv).1
  exact ⟨T, L, X, eT, N, fun t k => X.iaload hx (j := j) (v := v) (by rw [eT]; exact F.1) (State.isArrayOf_alike hZ.alike F.2.1) F.2.2 (fun z => z.elim hj fun u => by omega) hv (g := mkF m pc Ls (.int j :: .ref a :: rest)) rfl rfl hd t k⟩
theorem own_R.ldB {j : Int32} (A : own_R p l e R s m args below meth c S0 n0 h ce sl (mkF m pc Ls (.int j :: .ref a :: rest))) (hx : p.tables.exec = Jvm.exec) (hZ : Z.Warmed39 s.vm)
    (hd : decode c.code pc = .ok (.baload, 1)) (F : own_Ar Z h a .byte vs) (hj : ¬ j < 0) (hv : vs[j.toNatClampNeg]? = some v) :
    own_R p l e R s m args below meth c S0 n0 h ce sl (mkF m (pc + 1) Ls (v :: rest)) := A.law fun T L X eT N => by
  obtain ⟨cl, F, rfl⟩ := F
  rw [Array.getElem?_toList] at hv
  have hlt := (Array.getElem?_eq_some_iff.mp hv).1
  exact ⟨T, L, X, eT, N, fun t k => X.baloadBytes hx (j := j) (v := v) (by rw [eT]; exact F.1) (State.isArrayOf_alike hZ.alike F.2.1) F.2.2 (fun z => z.elim hj fun u => by omega) hv (g := mkF m pc Ls (.int j :: .ref a :: rest)) rfl rfl hd t k⟩
theorem own_R.stD {j : Int32} {x : UInt64} (A : own_R p l e R s m args below meth c S0 n0 h ce sl (mkF m pc Ls (.double x :: .int j :: .ref a :: rest))) (hx : p.tables.exec = Jvm.exec) (hZ : Z.Warmed39 s.vm)
    (hd : decode c.code pc = .ok (.dastore, 1)) (F : own_Ar Z h a .double vs) (hj : ¬ j < 0) (hi : j.toNatClampNeg < vs.length) (q : n0 ≤ a) :
    ∃ h', Wr h h' a j.toNatClampNeg (.double x) ∧ own_R p l e R s m args below meth c S0 n0 h' ce sl (mkF m (pc + 1) Ls rest) := by
  obtain ⟨cl, F, rfl⟩ := F
  obtain ⟨T, Lc, X, eT, N, k⟩ := A
  obtain ⟨T', h', X', e', W, st⟩ := RoadKit.stD X hx hZ eT F (j := j) (fun z => z.elim hj fun u => by rw [Array.length_toList] at hi; omega) (g := mkF m pc Ls (.double x :: .int j :: .ref a :: rest)) rfl rfl hd
  exact ⟨h', W, T', _, X', e', Fr.snoc X' N q, k.trans (st _ (Steps.refl _))⟩
theorem own_R.stC {j : Int32} {x : Int32} (A : own_R p l e R s m args below meth c S0 n0 h ce sl (mkF m pc Ls (.int x :: .int j :: .ref a :: rest))) (hx : p.tables.exec = Jvm.exec) (hZ : Z.Warmed39 s.vm)
    (hd : decode c.code pc = .ok (.castore, 1)) (F : own_Ar Z h a .char vs) (hj : ¬ j < 0) (hi : j.toNatClampNeg < vs.length) (q : n0 ≤ a) :
    ∃ h', Wr h h' a j.toNatClampNeg (.int (nar .char x)) ∧ own_R p l e R s m args below meth c S0 n0 h' ce sl (mkF m (pc + 1) Ls rest) := by
  obtain ⟨cl, F, rfl⟩ := F
  obtain ⟨T, Lc, X, eT, N, k⟩ := A
  obtain ⟨T', h', X', e', W, st⟩ := RoadKit.stC X hx hZ eT F (j := j) (fun z => z.elim hj fun u => by rw [Array.length_toList] at hi; omega) (g := mkF m pc Ls (.int x :: .int j :: .ref a :: rest)) rfl rfl hd
  exact ⟨h', W, T', _, X', e', Fr.snoc X' N q, k.trans (st _ (Steps.refl _))⟩
theorem own_R.stL {j : Int32} {x : Int64} (A : own_R p l e R s m args below meth c S0 n0 h ce sl (mkF m pc Ls (.long x :: .int j :: .ref a :: rest))) (hx : p.tables.exec = Jvm.exec) (hZ : Z.Warmed39 s.vm)
    (hd : decode c.code pc = .ok (.lastore, 1)) (F : own_Ar Z h a .long vs) (hj : ¬ j < 0) (hi : j.toNatClampNeg < vs.length) (q : n0 ≤ a) :
    ∃ h', Wr h h' a j.toNatClampNeg (.long x) ∧ own_R p l e R s m args below meth c S0 n0 h' ce sl (mkF m (pc + 1) Ls rest) := by
  obtain ⟨cl, F, rfl⟩ := F
  obtain ⟨T, Lc, X, eT, N, k⟩ := A
  obtain ⟨T', h', X', e', W, st⟩ := RoadKit.stJ X hx hZ eT F (j := j) (fun z => z.elim hj fun u => by rw [Array.length_toList] at hi; omega) (g := mkF m pc Ls (.long x :: .int j :: .ref a :: rest)) rfl rfl hd
  exact ⟨h', W, T', _, X', e', Fr.snoc X' N q, k.trans (st _ (Steps.refl _))⟩
theorem own_R.ldD {j : Int32} (A : own_R p l e R s m args below meth c S0 n0 h ce sl (mkF m pc Ls (.int j :: .ref a :: rest))) (hx : p.tables.exec = Jvm.exec) (hZ : Z.Warmed39 s.vm)
    (hd : decode c.code pc = .ok (.daload, 1)) (F : own_Ar Z h a .double vs) (hj : ¬ j < 0) (hv : vs[j.toNatClampNeg]? = some v) :
    own_R p l e R s m args below meth c S0 n0 h ce sl (mkF m (pc + 1) Ls (v :: rest)) := A.law fun T L X eT N => by
  obtain ⟨cl, F, rfl⟩ := F
  rw [Array.getElem?_toList] at hv
  have hlt := (Array.getElem?_eq_some_iff.mp hv).1
  exact ⟨T, L, X, eT, N, fun t k => X.daload hx (j := j) (v := v) (by rw [eT]; exact F.1) (State.isArrayOf_alike hZ.alike F.2.1) F.2.2 (fun z => z.elim hj fun u => by omega) hv (g := mkF m pc Ls (.int j :: .ref a :: rest)) rfl rfl hd t k⟩
theorem own_R.ldC {j : Int32} (A : own_R p l e R s m args below meth c S0 n0 h ce sl (mkF m pc Ls (.int j :: .ref a :: rest))) (hx : p.tables.exec = Jvm.exec) (hZ : Z.Warmed39 s.vm)
    (hd : decode c.code pc = .ok (.caload, 1)) (F : own_Ar Z h a .char vs) (hj : ¬ j < 0) (hv : vs[j.toNatClampNeg]? = some v) :
    own_R p l e R s m args below meth c S0 n0 h ce sl (mkF m (pc + 1) Ls (v :: rest)) := A.law fun T L X eT N => by
  obtain ⟨cl, F, rfl⟩ := F
  rw [Array.getElem?_toList] at hv
  have hlt := (Array.getElem?_eq_some_iff.mp hv).1
  exact ⟨T, L, X, eT, N, fun t k => X.caload hx (j := j) (v := v) (by rw [eT]; exact F.1) (State.isArrayOf_alike hZ.alike F.2.1) F.2.2 (fun z => z.elim hj fun u => by omega) hv (g := mkF m pc Ls (.int j :: .ref a :: rest)) rfl rfl hd t k⟩
theorem own_R.ldL {j : Int32} (A : own_R p l e R s m args below meth c S0 n0 h ce sl (mkF m pc Ls (.int j :: .ref a :: rest))) (hx : p.tables.exec = Jvm.exec) (hZ : Z.Warmed39 s.vm)
    (hd : decode c.code pc = .ok (.laload, 1)) (F : own_Ar Z h a .long vs) (hj : ¬ j < 0) (hv : vs[j.toNatClampNeg]? = some v) :
    own_R p l e R s m args below meth c S0 n0 h ce sl (mkF m (pc + 1) Ls (v :: rest)) := A.law fun T L X eT N => by
  obtain ⟨cl, F, rfl⟩ := F
  rw [Array.getElem?_toList] at hv
  have hlt := (Array.getElem?_eq_some_iff.mp hv).1
  exact ⟨T, L, X, eT, N, fun t k => X.laload hx (j := j) (v := v) (by rw [eT]; exact F.1) (State.isArrayOf_alike hZ.alike F.2.1) F.2.2 (fun z => z.elim hj fun u => by omega) hv (g := mkF m pc Ls (.int j :: .ref a :: rest)) rfl rfl hd t k⟩
theorem own_R.len (A : own_R p l e R s m args below meth c S0 n0 h ce sl (mkF m pc Ls (.ref a :: rest))) (hx : p.tables.exec = Jvm.exec) (hZ : Z.Warmed39 s.vm)
    (hd : decode c.code pc = .ok (.arraylength, 1)) (F : own_Ar Z h a ty vs) :
    own_R p l e R s m args below meth c S0 n0 h ce sl (mkF m (pc + 1) Ls (.int vs.length.toInt32 :: rest)) := A.law fun T L X eT N => by
  obtain ⟨cl, F, rfl⟩ := F
  exact ⟨T, L, X, eT, N, fun t k => X.arraylength hx (by rw [eT]; exact F.1) (State.isArrayOf_alike hZ.alike F.2.1) (g := mkF m pc Ls (.ref a :: rest)) rfl rfl hd t (by rw [Array.length_toList] at k; exact k)⟩
end Own2
section Own2b
variable {p : Program} {l : Launch} {e : Env} {R : Room} {s : State} {m : MethodId} {args : Array Value} {below : List Frame} {meth : Method} {c : Code} {S0 : State} {n0 : Nat} {h h' : Heap} {ce sl : Nat} {Z : State} {a0 : Array Value} {pc : Nat} {Ls : Array Slot} {rest : List Value} {a : Addr}
theorem own_R.instY {own K : String} {index : Nat} (A : own_R p l e R s m args below meth c S0 n0 h ce sl (mkF m pc Ls (.ref a :: rest))) (hx : p.tables.exec = Jvm.exec) (hZ : Z.Warmed39 s.vm) (hown : s.vm.findClass own = some m.cls)
    (hd : decode c.code pc = .ok (.instanceof index, 3)) (w : (Cond.classLink own index K).before a0 Z = true) (F : Ins Z h a K true) : own_R p l e R s m args below meth c S0 n0 h ce sl (mkF m (pc + 3) Ls (.int 1 :: rest)) := A.law fun T L X eT N => by
  obtain ⟨T', X', e', st⟩ := RoadKit.instY X hx hZ hown w eT F (g := mkF m pc Ls (.ref a :: rest)) rfl rfl hd
  exact ⟨T', L, X', e', N, st⟩
theorem own_R.castY {own K : String} {index : Nat} (A : own_R p l e R s m args below meth c S0 n0 h ce sl (mkF m pc Ls (.ref a :: rest))) (hx : p.tables.exec = Jvm.exec) (hZ : Z.Warmed39 s.vm) (hown : s.vm.findClass own = some m.cls)
    (hd : decode c.code pc = .ok (.checkcast index, 3)) (w : (Cond.classLink own index K).before a0 Z = true) (F : Ins Z h a K true) : own_R p l e R s m args below meth c S0 n0 h ce sl (mkF m (pc + 3) Ls (.ref a :: rest)) := A.law fun T L X eT N => by
  obtain ⟨T', X', e', st⟩ := RoadKit.castY X hx hZ hown w eT F (g := mkF m pc Ls (.ref a :: rest)) rfl rfl hd
  exact ⟨T', L, X', e', N, st⟩
theorem own_eqI {args : Array Value} {t : Term} {k : Int32} (h : (Cond.eq t (.int k)).value args Z none Z [] = some true) : t.eval args Z none [] Z = some (.int k) := by
  simp only [Cond.value, Term.int_eval] at h
  cases hv : t.eval args Z none [] Z with
  | none => rw [hv] at h; cases h
  | some w =>
    rw [hv] at h
    cases w <;> simp at h
    rw [h]
theorem own_Ar.start3 {args : Array Value} {t : Term} {x y z : Int32} (ev : t.eval args Z none [] Z = some (.ref a)) (hA : (Cond.arrayOf t .byte).value args Z none Z [] = some true) (hL : (Cond.eq (.length t) (.int 3)).value args Z none Z [] = some true)
    (h0 : (Cond.eq (.elem t (.int 0)) (.int x)).value args Z none Z [] = some true) (h1 : (Cond.eq (.elem t (.int 1)) (.int y)).value args Z none Z [] = some true) (h2 : (Cond.eq (.elem t (.int 2)) (.int z)).value args Z none Z [] = some true) : own_Ar Z Z.heap a .byte [.int x, .int y, .int z] := by
  obtain ⟨cl, A⟩ := Arr.start ev hA
  have e0 := (elem_in (own_eqI h0) ev (Term.int_eval _) A.1).2
  have e1 := (elem_in (own_eqI h1) ev (Term.int_eval _) A.1).2
  have e2 := (elem_in (own_eqI h2) ev (Term.int_eval _) A.1).2
  have q0 : (0 : Int32).toNatClampNeg = 0 := by decide
  have q1 : (1 : Int32).toNatClampNeg = 1 := by decide
  have q2 : (2 : Int32).toNatClampNeg = 2 := by decide
  rw [q0] at e0
  rw [q1] at e1
  rw [q2] at e2
  have ha : Z.arrayAt? a = some cl := Arr.fin (U := Z) (State.Warmed39.refl Z).alike A
  have hl := own_eqI hL
  simp only [Term.eval, ev, ha, Option.bind_eq_bind, Option.bind_some, Option.pure_def] at hl
  have hsz : cl.slots.size = 3 := by
    split at hl
    · rename_i hlt
      have e3 : cl.slots.size.toInt32 = 3 := by simpa using hl
      have e4 := len_toInt hlt
      rw [e3] at e4
      have e5 : (3 : Int32).toInt = 3 := by decide
      omega
    · cases hl
  refine ⟨cl, A, ?_⟩
  apply List.ext_getElem?
  intro i
  rw [Array.getElem?_toList]
  match i with
  | 0 => exact e0
  | 1 => exact e1
  | 2 => exact e2
  | n + 3 => rw [Array.getElem?_eq_none (by omega)]; rfl
end Own2b
section Own3
variable {p : Program} {l : Launch} {e : Env} {R : Room} {s : State} {vm0 vmS : Vm} {k0 : Nat} {m : MethodId} {args : Array Value} {below : List Frame} {meth : Method} {c : Code} {S0 : State} {n0 : Nat} {h h' hS0 : Heap} {ce sl : Nat} {Z : State} {a0 : Array Value} {pc : Nat} {Ls : Array Slot} {rest st : List Value} {EL : List (String × Nat)} {own : String}
/-- the end of a walk that may have interned -/
def own_ES (Z : State) (EL : List (String × Nat)) (p : Program) (e : Env) (R : Room) (s : State) (below : List Frame) (S0 : State) (n0 : Nat) (Q : Option Value → Heap → Prop) : Prop :=
  ∃ s₂ v L, Steps p.tables e below S0 s₂ ∧ s₂.status = .running ∧ Ended s₂ below (.returned v) ∧ (Q v s₂.heap ∧ Fr n0 L) ∧ CHr Z EL s.vm s.heap s₂.vm s₂.heap ∧ ReturnedEndW s (.returned v) s₂ L R.cells R.slots
/-- the contract of a body that may intern -/
def own_MS (l : Launch) (Z : State) (EL : List (String × Nat)) (y : MethodName) (bytes : ByteArray) (maxL : Nat) (ret : Option FieldType) (ws : List Cond) (rm : Room) (as : Array Value) (h0 : Heap) (n0 : Nat) (Q : Option Value → Heap → Prop) : Prop :=
  MetFree l y (head1 (Cond.code y bytes maxL ret :: ws) rm) (fun a U => a = as ∧ Z.Warmed39 U.vm ∧ U.heap = h0 ∧ CHv Z EL U.vm h0) (fun _ _ _ _ _ => True) (fun _ U o U' => ∃ v L, o = .returned v ∧ (Q v U'.heap ∧ Fr n0 L) ∧ CHr Z EL U.vm U.heap U'.vm U'.heap ∧ ReturnedEndW U o U' L rm.cells rm.slots)
theorem own_MS.of {y : MethodName} {bytes : ByteArray} {maxL : Nat} {ret : Option FieldType} {ws : List Cond} {rm : Room} {as : Array Value} {h0 : Heap} {Q : Option Value → Heap → Prop} (pn : plainFor y = true)
    (body : ∀ (p : Program) (e : Env) (s : State) (m : MethodId) (below : List Frame) (meth : Method) (c : Code) (S0 : State) (vm0 : Vm) (k0 : Nat), p.tables.exec = Jvm.exec → c.code = bytes → c.maxLocals = maxL → vm0.findClass y.cls = some m.cls → meth.name = y.name → meth.sig.returnType = ret → meth.locks = false → Z.Warmed39 vm0 →
      s.Since vm0 k0 → k0 ≤ h0.size → CHr Z EL s.vm s.heap vm0 h0 → own_R p l e rm (s.setVm vm0) m as below meth c S0 n0 h0 0 0 (entryFrame m as maxL) → own_ES Z EL p e rm s below S0 n0 Q) :
    own_MS l Z EL y bytes maxL ret ws rm as h0 n0 Q := by
  refine MetFree.of_bodySF pn hisR ?_
  intro p e s m args below meth c s₁ Bd hml0 hP hK
  obtain ⟨rfl, hZ, hh, HC⟩ := hP
  have e0 : s₁.heap = h0 := by rw [← hh, Bd.state]; rfl
  have X0 : Stand p l e rm (s.setVm s.vm) m args below meth c s₁ [] 0 0 := Stand.of_body Bd
  obtain ⟨s₂, v, L, k, hrun, hend, hq, hC, hF⟩ := body p e s m below meth c _ s.vm h0.size Bd.exec Bd.bytes hml0 (findClass_of_methodNamed Bd.named) (name_of_methodNamed Bd.named Bd.method).1 Bd.returns Bd.notSynchronized hZ ((State.WarmedH.refl s).since _) (Nat.le_refl _) (by rw [hh]; exact CHr.refl HC) ⟨s₁, [], X0, e0, Fr.nil n0, Steps.refl _⟩
  exact ⟨s₂, _, k, hrun, hend, v, L, rfl, hq, hC, hF⟩
theorem own_Ar.safe {a : Addr} {ty : FieldType} {vs : List Value} {vm : Vm} (hal : Z.vm.Alike vm) (F : own_Ar Z h a ty vs) (ht : ty ≠ .byte) : Safe Z EL vm h a := by
  obtain ⟨cl, A, -⟩ := F
  exact Safe.arr hal A ht
theorem own_Ar.of_arv {a : Addr} {k : ClassId} {ty : FieldType} {z : Int32} {vs : List Value} {d : Value} (A : Arv Z h a k ty z vs d) (hl : z.toNatClampNeg = vs.length) : own_Ar Z h a ty vs := by
  obtain ⟨cl, A1, -, hs, -, hH, -⟩ := A
  refine ⟨cl, A1, ?_⟩
  apply List.ext_getElem?
  intro i
  rw [Array.getElem?_toList]
  by_cases hi : i < cl.slots.size
  · have hi' : i < vs.length := by omega
    rw [hH i hi, List.getD_eq_getElem?_getD, List.getElem?_eq_getElem hi']
    rfl
  · have hi' : ¬ i < vs.length := by omega
    rw [List.getElem?_eq_none (Nat.le_of_not_lt hi'), Array.getElem?_eq_none (Nat.le_of_not_lt hi)]
theorem own_R.ldcS {text : String} {index n : Nat} {vs : List Value} {z : Int32} (A : own_R p l e R (s.setVm vm0) m args below meth c S0 n0 h ce sl (mkF m pc Ls st)) (hx : p.tables.exec = Jvm.exec) (hZ : Z.Warmed39 vm0) (hown : vm0.findClass own = some m.cls)
    (hd : decode c.code pc = .ok (.ldc index, 2)) (w : (Cond.stringLink own index text).before a0 Z = true) (wS : ∀ a ∈ Bundle.stringAtoms, a.before a0 Z = true) (hS : s.Since vm0 k0) (hk : k0 ≤ h.size) (hEL : EW Z a0 EL) (hmem : (own, index) ∈ EL) (HC : CHr Z EL vmS hS0 vm0 h)
    (ht : (∀ c ∈ text.toList, c.toNat < 256) ∧ text.toList.map (fun c => Value.int (Jvm.Lit.byteI c.toNat.toUInt16)) = vs) (hz : ¬ z < 0) (hl : z.toNatClampNeg = vs.length) (hn : 4 * text.toList.length ≤ n) (hbig : n ≤ 536870912) (hc : ce + 2 ≤ R.cells) (hl' : sl + (n + 4) ≤ R.slots) :
    ∃ a b vm1 k1 h', Ext h h' ∧ Exa Z h' a "java/lang/String" ∧ Fld Z h' a "java/lang/String" "coder" "B" (.int 0) ∧ Fld Z h' a "java/lang/String" "value" "[B" (.ref b) ∧ own_Ar Z h' b .byte vs ∧ (∀ x, Safe Z EL vm1 h' x → x ≠ a ∧ x ≠ b) ∧
      s.Since vm1 k1 ∧ k1 ≤ h'.size ∧ Z.Warmed39 vm1 ∧ vm1.findClass own = some m.cls ∧ CHr Z EL vmS hS0 vm1 h' ∧ Lit (s.setVm vm1) own index a ∧ own_R p l e R (s.setVm vm1) m args below meth c S0 n0 h' (ce + 2) (sl + (n + 4)) (mkF m (pc + 2) Ls (.ref a :: st)) := by
  obtain ⟨T, L, X, eT, N, k⟩ := A
  obtain ⟨a, T', h', k1, b, kc, X', e', E, hS', hk', hZ', hown', E1, F1, F2, V, -, -, HC', HL, hne, sT⟩ := ldcCH X hx hZ hown w wS eT hS hk hEL hmem HC.1 ht hz hl (g := mkF m pc Ls st) rfl hd hn hbig hc hl'
  exact ⟨a, b, T'.vm, k1, h', E, E1, F1, F2, own_Ar.of_arv V hl, hne, hS', hk', hZ', hown', HC.trans HC', HL, T', L, X', e', N, k.trans (sT _ (Steps.refl _))⟩
theorem own_R.ldcO {text : String} {index n : Nat} (A : own_R p l e R (s.setVm vm0) m args below meth c S0 n0 h ce sl (mkF m pc Ls st)) (hx : p.tables.exec = Jvm.exec) (hZ : Z.Warmed39 vm0) (hown : vm0.findClass own = some m.cls)
    (hd : decode c.code pc = .ok (.ldc index, 2)) (w : (Cond.stringLink own index text).before a0 Z = true) (wS : ∀ a ∈ Bundle.stringAtoms, a.before a0 Z = true) (hS : s.Since vm0 k0) (hk : k0 ≤ h.size) (hEL : EW Z a0 EL) (HC : CHr Z EL vmS hS0 vm0 h)
    (hn : 4 * text.toList.length ≤ n) (hbig : n ≤ 536870912) (hc : ce + 2 ≤ R.cells) (hl' : sl + (n + 4) ≤ R.slots) :
    ∃ a vm1 k1 h', Ext h h' ∧ s.Since vm1 k1 ∧ k1 ≤ h'.size ∧ Z.Warmed39 vm1 ∧ vm1.findClass own = some m.cls ∧ CHr Z EL vmS hS0 vm1 h' ∧ own_R p l e R (s.setVm vm1) m args below meth c S0 n0 h' (ce + 2) (sl + (n + 4)) (mkF m (pc + 2) Ls (.ref a :: st)) := by
  obtain ⟨T, L, X, eT, N, k⟩ := A
  obtain ⟨a, T', h', k1, X', e', E, hS', hk', hZ', hown', HC', HL, sT⟩ := ldcOH X hx hZ hown w wS eT hS hk hEL HC.1 (g := mkF m pc Ls st) rfl hd hn hbig hc hl'
  exact ⟨a, T'.vm, k1, h', E, hS', hk', hZ', hown', HC.trans HC', T', L, X', e', N, k.trans (sT _ (Steps.refl _))⟩
theorem own_R.callSS {index W : Nat} {y : MethodName} {bytes : ByteArray} {maxL : Nat} {ret : Option FieldType} {rm : Room} {as : Array Value} {Q : Option Value → Heap → Prop} {argsL : List Value}
    (A : own_R p l e R (s.setVm vm0) m args below meth c S0 n0 h ce sl (mkF m pc Ls st)) (M : own_MS l Z EL y bytes maxL ret [] rm as h n0 Q) (hx : p.tables.exec = Jvm.exec) (hZ : Z.Warmed39 vm0) (hown : vm0.findClass own = some m.cls)
    (hd : decode c.code pc = .ok (.invokestatic index, 3)) (w1 : (Cond.methodLink own index y).before a0 Z = true) (w2 : (Cond.static y).before a0 Z = true) (w3 : (Cond.initialized y.cls).before a0 Z = true) (w4 : (Cond.code y bytes maxL ret).before a0 Z = true) (hS : s.Since vm0 k0) (hk : k0 ≤ h.size) (hEL : EW Z a0 EL) (HC : CHr Z EL vmS hS0 vm0 h)
    (hy : y.cls ≠ "java/lang/invoke/MethodHandle" ∧ y.cls ≠ "java/lang/invoke/VarHandle") (hlen : ∀ sig, parseMethodDescriptor y.desc = some sig → argsL.length = sig.parameters.length) (hst : st = argsL.reverse ++ rest) (has : argsL.toArray = as)
    (hsz : Ls.size = c.maxLocals) (hW : (rest.map fun v => v.category).sum ≤ W) (hf : rm.frames + 1 ≤ R.frames) (hl : W + (maxL + 11) + rm.locals ≤ R.locals) (hc : ce + rm.cells ≤ R.cells) (hs : sl + rm.slots ≤ R.slots) :
    ∃ v vm1 k1 h', Q v h' ∧ s.Since vm1 k1 ∧ k1 ≤ h'.size ∧ Z.Warmed39 vm1 ∧ vm1.findClass own = some m.cls ∧ CHr Z EL vmS hS0 vm1 h' ∧ h.size ≤ h'.size ∧ (∀ vm2, vm2 = vm0 → (s.setVm vm2).Warmed39 vm1) ∧ own_R p l e R (s.setVm vm1) m args below meth c S0 n0 h' (ce + rm.cells) (sl + rm.slots) (mkF m (pc + 3) Ls (v.toList ++ rest)) := by
  obtain ⟨T, L, X, eT, N, k⟩ := A
  have hZs : Z.Warmed39 (s.setVm vm0).vm := hZ
  obtain ⟨v, vm₁, ⟨T', L', k', n'⟩, -, X', hS', hgr, ⟨Lc, hQ, l1, l2, l3, HC'⟩, sT⟩ := RoadKit.callSS X hx (y := y) hown (mvT hZs w1) (mvT hZs w2) (mvT hZs w3) (mvT hZs w4) hy (backOfSH (W := W) (Q := fun v h' L => Q v h' ∧ Fr n0 L) M hZ w4 w3 hf hl hEL HC.1) (g := mkF m pc Ls st) rfl hsz (argsL := argsL) (rest := rest) hlen hst (by show 2 * 0 + _ ≤ _; omega) hd (fun _ _ => ⟨has, eT, hc, hs⟩)
  dsimp only [Pt.U, Pt.locs, Pt.cells, Pt.slots] at X' l1 l2 l3 sT hQ hS' hgr HC'
  subst l1 l2 l3
  rw [eT] at hgr
  obtain ⟨X2, hS2, hZ2, hown2⟩ := rebS hS hk X' hS' hgr hZs hown
  exact ⟨v, T'.vm, _, _, hQ.1, hS2, Nat.le_refl _, hZ2, hown2, HC.trans HC', hgr, fun _ q => q ▸ hS'.1, T', _, X2, rfl, Fr.app N hQ.2, k.trans sT⟩
theorem own_R.callVS {C : String} {index W : Nat} {y z : MethodName} {bytes : ByteArray} {maxL : Nat} {ret : Option FieldType} {rm : Room} {as : Array Value} {Q : Option Value → Heap → Prop} {b : Addr} {argsL : List Value}
    (A : own_R p l e R (s.setVm vm0) m args below meth c S0 n0 h ce sl (mkF m pc Ls st)) (M : own_MS l Z EL z bytes maxL ret [] rm as h n0 Q) (E : Exa Z h b C) (hx : p.tables.exec = Jvm.exec) (hZ : Z.Warmed39 vm0) (hown : vm0.findClass own = some m.cls)
    (hd : decode c.code pc = .ok (.invokevirtual index, 3)) (w1 : (Cond.methodLink own index y).before a0 Z = true) (w2 : (Cond.declares y).before a0 Z = true) (w3 : (Cond.selects C y z).before a0 Z = true) (w4 : (Cond.instanceMethod z).before a0 Z = true) (w5 : (Cond.code z bytes maxL ret).before a0 Z = true) (w6 : (Cond.initialized z.cls).before a0 Z = true) (hnf : ∀ s' : State, Z.Warmed39 s'.vm → NotFace s' y) (hS : s.Since vm0 k0) (hk : k0 ≤ h.size) (hEL : EW Z a0 EL) (HC : CHr Z EL vmS hS0 vm0 h)
    (hy : y.cls ≠ "java/lang/invoke/MethodHandle" ∧ y.cls ≠ "java/lang/invoke/VarHandle") (hlen : ∀ sig, parseMethodDescriptor y.desc = some sig → argsL.length = sig.parameters.length) (hst : st = argsL.reverse ++ .ref b :: rest) (has : (Value.ref b :: argsL).toArray = as)
    (hsz : Ls.size = c.maxLocals) (hW : (rest.map fun v => v.category).sum ≤ W) (hf : rm.frames + 1 ≤ R.frames) (hl : W + (maxL + 11) + rm.locals ≤ R.locals) (hc : ce + rm.cells ≤ R.cells) (hs : sl + rm.slots ≤ R.slots) :
    ∃ v vm1 k1 h', Q v h' ∧ s.Since vm1 k1 ∧ k1 ≤ h'.size ∧ Z.Warmed39 vm1 ∧ vm1.findClass own = some m.cls ∧ CHr Z EL vmS hS0 vm1 h' ∧ h.size ≤ h'.size ∧ (∀ vm2, vm2 = vm0 → (s.setVm vm2).Warmed39 vm1) ∧ own_R p l e R (s.setVm vm1) m args below meth c S0 n0 h' (ce + rm.cells) (sl + rm.slots) (mkF m (pc + 3) Ls (v.toList ++ rest)) := by
  obtain ⟨T, L, X, eT, N, k⟩ := A
  have hZs : Z.Warmed39 (s.setVm vm0).vm := hZ
  obtain ⟨cq, kq, qa, qb, qc⟩ := isOf hZs eT E
  obtain ⟨v, vm₁, ⟨T', L', k', n'⟩, -, X', hS', hgr, ⟨Lc, hQ, l1, l2, l3, HC'⟩, sT⟩ := X.virtualBackS hx (y := y) (z := z) hown (mvT hZs w1) (mvT hZs w2) (hnf _ hZs) (mvT hZs w3) (mvT hZs w4) hy (backOfSH (W := W) (Q := fun v h' L => Q v h' ∧ Fr n0 L) M hZ w5 w6 hf hl hEL HC.1) qa qc (g := mkF m pc Ls st) rfl hsz (Steps.refl _) (argsL := argsL) (rest := rest) hlen hst (by show 2 * 0 + _ ≤ _; omega) hd (fun _ _ => ⟨has, eT, hc, hs⟩)
  dsimp only [Pt.U, Pt.locs, Pt.cells, Pt.slots] at X' l1 l2 l3 sT hQ hS' hgr HC'
  subst l1 l2 l3
  rw [eT] at hgr
  obtain ⟨X2, hS2, hZ2, hown2⟩ := rebS hS hk X' hS' hgr hZs hown
  exact ⟨v, T'.vm, _, _, hQ.1, hS2, Nat.le_refl _, hZ2, hown2, HC.trans HC', hgr, fun _ q => q ▸ hS'.1, T', _, X2, rfl, Fr.app N hQ.2, k.trans sT⟩
theorem own_R.callIS {index W : Nat} {y : MethodName} {bytes : ByteArray} {maxL : Nat} {rm : Room} {as : Array Value} {Q : Option Value → Heap → Prop} {b : Addr} {argsL : List Value}
    (A : own_R p l e R (s.setVm vm0) m args below meth c S0 n0 h ce sl (mkF m pc Ls st)) (M : own_MS l Z EL y bytes maxL none [] rm as h n0 Q) (hx : p.tables.exec = Jvm.exec) (hZ : Z.Warmed39 vm0) (hown : vm0.findClass own = some m.cls)
    (hd : decode c.code pc = .ok (.invokespecial index, 3)) (hy1 : y.name = "<init>") (w1 : (Cond.methodLink own index y).before a0 Z = true) (w2 : (Cond.instanceMethod y).before a0 Z = true) (w3 : (Cond.code y bytes maxL none).before a0 Z = true) (w4 : (Cond.initialized y.cls).before a0 Z = true) (hS : s.Since vm0 k0) (hk : k0 ≤ h.size) (hEL : EW Z a0 EL) (HC : CHr Z EL vmS hS0 vm0 h)
    (hy : y.cls ≠ "java/lang/invoke/MethodHandle" ∧ y.cls ≠ "java/lang/invoke/VarHandle") (hlen : ∀ sig, parseMethodDescriptor y.desc = some sig → argsL.length = sig.parameters.length) (hst : st = argsL.reverse ++ .ref b :: rest) (has : (Value.ref b :: argsL).toArray = as)
    (hsz : Ls.size = c.maxLocals) (hW : (rest.map fun v => v.category).sum ≤ W) (hf : rm.frames + 1 ≤ R.frames) (hl : W + (maxL + 11) + rm.locals ≤ R.locals) (hc : ce + rm.cells ≤ R.cells) (hs : sl + rm.slots ≤ R.slots) :
    ∃ v vm1 k1 h', Q v h' ∧ s.Since vm1 k1 ∧ k1 ≤ h'.size ∧ Z.Warmed39 vm1 ∧ vm1.findClass own = some m.cls ∧ CHr Z EL vmS hS0 vm1 h' ∧ h.size ≤ h'.size ∧ (∀ vm2, vm2 = vm0 → (s.setVm vm2).Warmed39 vm1) ∧ own_R p l e R (s.setVm vm1) m args below meth c S0 n0 h' (ce + rm.cells) (sl + rm.slots) (mkF m (pc + 3) Ls (v.toList ++ rest)) := by
  obtain ⟨T, L, X, eT, N, k⟩ := A
  have hZs : Z.Warmed39 (s.setVm vm0).vm := hZ
  obtain ⟨v, vm₁, ⟨T', L', k', n'⟩, -, X', hS', hgr, ⟨Lc, hQ, l1, l2, l3, HC'⟩, sT⟩ := X.specialBackS hx (y := y) hy1 hown (mvT hZs w1) (mvT hZs w2) (mvT hZs w3) hy (backOfSH (W := W) (Q := fun v h' L => Q v h' ∧ Fr n0 L) M hZ w3 w4 hf hl hEL HC.1) (g := mkF m pc Ls st) rfl hsz (Steps.refl _) (a := b) (argsL := argsL) (rest := rest) hlen hst (by show 2 * 0 + _ ≤ _; omega) hd (fun _ _ => ⟨has, eT, hc, hs⟩)
  dsimp only [Pt.U, Pt.locs, Pt.cells, Pt.slots] at X' l1 l2 l3 sT hQ hS' hgr HC'
  subst l1 l2 l3
  rw [eT] at hgr
  obtain ⟨X2, hS2, hZ2, hown2⟩ := rebS hS hk X' hS' hgr hZs hown
  exact ⟨v, T'.vm, _, _, hQ.1, hS2, Nat.le_refl _, hZ2, hown2, HC.trans HC', hgr, fun _ q => q ▸ hS'.1, T', _, X2, rfl, Fr.app N hQ.2, k.trans sT⟩
theorem own_R.retSS {w : Value} {t : FieldType} {i : Instr} {Q : Option Value → Heap → Prop}
    (A : own_R p l e R (s.setVm vm0) m args below meth c S0 n0 h ce sl (mkF m pc Ls (w :: rest))) (hx : p.tables.exec = Jvm.exec) (hlk : meth.locks = false) (hZ : Z.Warmed39 vm0) (hS : s.Since vm0 k0) (hk : k0 ≤ h.size) (hEL : EW Z a0 EL) (HC : CHr Z EL s.vm s.heap vm0 h) (hret : meth.sig.returnType = some t) (hd : decode c.code pc = .ok (i, 1)) (hn : narrow t w = w)
    (hi : (i = .ireturn ∧ (t = .int ∨ t = .boolean ∨ t = .byte ∨ t = .char ∨ t = .short) ∧ ∃ z, w = .int z) ∨ (i = .lreturn ∧ t = .long ∧ ∃ z, w = .long z) ∨ (i = .dreturn ∧ t = .double ∧ ∃ z, w = .double z) ∨ (i = .freturn ∧ t = .float ∧ ∃ z, w = .float z) ∨ (i = .areturn ∧ t.isReference = true ∧ w.isRef = true))
    (hc : ce ≤ R.cells) (hs : sl ≤ R.slots) (q : Q (some w) h) : own_ES Z EL p e R s below S0 n0 Q := by
  obtain ⟨T, L, X, eT, N, k⟩ := A
  obtain ⟨fs, hr, hrun, hended, hW⟩ := X.leaveW hS (by rw [eT]; exact hk) (v := some w) (fun h => by rw [hret] at h; cases h) hlk
  have HC2 := HC.trans (CHv.at X hZ hEL HC.1)
  refine ⟨_, _, _, k.trans (retOut X hx hret hn hi hd hr), hrun, hended, ⟨?_, N⟩, ?_, hW.1, hW.2.1, hW.2.2.1, hW.2.2.2.mono hc hs⟩
  · show Q _ T.heap
    rw [eT]; exact q
  · show CHr Z EL s.vm s.heap T.vm T.heap
    rw [eT]; exact HC2
theorem own_R.retVS {Q : Option Value → Heap → Prop}
    (A : own_R p l e R (s.setVm vm0) m args below meth c S0 n0 h ce sl (mkF m pc Ls [])) (hx : p.tables.exec = Jvm.exec) (hlk : meth.locks = false) (hZ : Z.Warmed39 vm0) (hS : s.Since vm0 k0) (hk : k0 ≤ h.size) (hEL : EW Z a0 EL) (HC : CHr Z EL s.vm s.heap vm0 h) (hret : meth.sig.returnType = none) (hd : decode c.code pc = .ok (.return_, 1))
    (hc : ce ≤ R.cells) (hs : sl ≤ R.slots) (q : Q none h) : own_ES Z EL p e R s below S0 n0 Q := by
  obtain ⟨T, L, X, eT, N, k⟩ := A
  obtain ⟨fs, hr, hrun, hended, hW⟩ := X.leaveW hS (by rw [eT]; exact hk) (v := none) (fun _ => rfl) hlk
  have HC2 := HC.trans (CHv.at X hZ hEL HC.1)
  refine ⟨_, _, _, k.trans (X.returnOut hx hret hd hr), hrun, hended, ⟨?_, N⟩, ?_, hW.1, hW.2.1, hW.2.2.1, hW.2.2.2.mono hc hs⟩
  · show Q _ T.heap
    rw [eT]; exact q
  · show CHr Z EL s.vm s.heap T.vm T.heap
    rw [eT]; exact HC2
end Own3

def own_EL : List (String × Nat) := []
theorem d1_0 : decode jdk_29_method_69_code 0 = .ok (.iload_n 0, 1) := by decide +kernel
theorem d1_1 : decode jdk_29_method_69_code 1 = .ok (.iload_n 1, 1) := by decide +kernel
theorem d1_2 : decode jdk_29_method_69_code 2 = .ok (.if_icmp .gt 7, 3) := by decide +kernel
theorem d1_5 : decode jdk_29_method_69_code 5 = .ok (.iload_n 0, 1) := by decide +kernel
theorem d1_6 : decode jdk_29_method_69_code 6 = .ok (.goto 4, 3) := by decide +kernel
theorem d1_9 : decode jdk_29_method_69_code 9 = .ok (.iload_n 1, 1) := by decide +kernel
theorem d1_10 : decode jdk_29_method_69_code 10 = .ok (.ireturn, 1) := by decide +kernel
theorem ef1 (m : MethodId) (p1 : Int32) (p2 : Int32) : entryFrame m #[(.int p1), (.int p2)] 2 = mkF m 0 #[.val (.int p1), .val (.int p2)] [] := by first | (simp [entryFrame, mkF, argsToLocals, Value.category, maxLocals]; done) | rfl
set_option maxRecDepth 65536 in
set_option maxHeartbeats 40000000 in
theorem own_min (l : Launch) (Z : State) (a0 : Array Value) (hw : ∀ d ∈ tables_1, d.before a0 Z = true) (p1 p2 : Int32) (h0 : Heap) (n0 : Nat) (Z0 : n0 ≤ h0.size)  :
    own_M l Z (⟨"java/lang/Math", "min", "(II)I"⟩ : MethodName) jdk_29_method_69_code 2 (some .int) [] ({ frames := 0, cells := 0, slots := 0, locals := 0 } : Room) #[(.int p1), (.int p2)] h0 n0 (fun v h => v = some (.int (if p2 < p1 then p2 else p1)) ∧ h0 = h) := by
  refine own_M.of (by decide +kernel) ?_
  intro p e s m below meth c S0 hx hby hml hown hnm hret hlk hZ A00
  have A0 := A00.cast (ef1 m p1 p2)
  have A1 := A0.go (f' := mkF m 1 #[.val (.int p1), .val (.int p2)] [(.int p1)]) fun _ _ X _ k => XS.iloadN X.here hx rfl (hb hby d1_0) rfl k
  have A2 := A1.go (f' := mkF m 2 #[.val (.int p1), .val (.int p2)] [(.int p2), (.int p1)]) fun _ _ X _ k => XS.iloadN X.here hx rfl (hb hby d1_1) rfl k
  by_cases q3 : p2 < p1
  · skip
    have A4 := A2.go (f' := mkF m 9 #[.val (.int p1), .val (.int p2)] []) fun _ _ X _ k => XS.icmpYes X.here hx rfl (pc0 := 2) (pc' := 9) rfl (hb hby d1_2) rfl ((tlt q3).2.2.1) (by decide) (by decide) k
    have A5 := A4.go (f' := mkF m 10 #[.val (.int p1), .val (.int p2)] [(.int p2)]) fun _ _ X _ k => XS.iloadN X.here hx rfl (hb hby d1_9) rfl k
    exact A5.ret hx hlk hret (hb hby d1_10) rfl (Or.inl ⟨rfl, by simp, _, rfl⟩) (by decide) (by decide) ⟨by simp [q3], rfl⟩
  · skip
    have A6 := A2.go (f' := mkF m 5 #[.val (.int p1), .val (.int p2)] []) fun _ _ X _ k => XS.icmpNo X.here hx rfl (hb hby d1_2) rfl ((flt q3).2.2.1) k
    have A7 := A6.go (f' := mkF m 6 #[.val (.int p1), .val (.int p2)] [(.int p1)]) fun _ _ X _ k => XS.iloadN X.here hx rfl (hb hby d1_5) rfl k
    have A8 := A7.go (f' := mkF m 10 #[.val (.int p1), .val (.int p2)] [(.int p1)]) fun _ _ X _ k => XS.goto X.here hx rfl (pc0 := 6) (pc' := 10) rfl (hb hby d1_6) (by decide) (by decide) k
    exact A8.ret hx hlk hret (hb hby d1_10) rfl (Or.inl ⟨rfl, by simp, _, rfl⟩) (by decide) (by decide) ⟨by simp [q3], rfl⟩
theorem d2_0 : decode jdk_29_method_65_code 0 = .ok (.iload_n 0, 1) := by decide +kernel
theorem d2_1 : decode jdk_29_method_65_code 1 = .ok (.iload_n 1, 1) := by decide +kernel
theorem d2_2 : decode jdk_29_method_65_code 2 = .ok (.if_icmp .lt 7, 3) := by decide +kernel
theorem d2_5 : decode jdk_29_method_65_code 5 = .ok (.iload_n 0, 1) := by decide +kernel
theorem d2_6 : decode jdk_29_method_65_code 6 = .ok (.goto 4, 3) := by decide +kernel
theorem d2_9 : decode jdk_29_method_65_code 9 = .ok (.iload_n 1, 1) := by decide +kernel
theorem d2_10 : decode jdk_29_method_65_code 10 = .ok (.ireturn, 1) := by decide +kernel
theorem ef2 (m : MethodId) (p1 : Int32) (p2 : Int32) : entryFrame m #[(.int p1), (.int p2)] 2 = mkF m 0 #[.val (.int p1), .val (.int p2)] [] := by first | (simp [entryFrame, mkF, argsToLocals, Value.category, maxLocals]; done) | rfl
set_option maxRecDepth 65536 in
set_option maxHeartbeats 40000000 in
theorem own_max (l : Launch) (Z : State) (a0 : Array Value) (hw : ∀ d ∈ tables_1, d.before a0 Z = true) (p1 p2 : Int32) (h0 : Heap) (n0 : Nat) (Z0 : n0 ≤ h0.size)  :
    own_M l Z (⟨"java/lang/Math", "max", "(II)I"⟩ : MethodName) jdk_29_method_65_code 2 (some .int) [] ({ frames := 0, cells := 0, slots := 0, locals := 0 } : Room) #[(.int p1), (.int p2)] h0 n0 (fun v h => v = some (.int (if p1 < p2 then p2 else p1)) ∧ h0 = h) := by
  refine own_M.of (by decide +kernel) ?_
  intro p e s m below meth c S0 hx hby hml hown hnm hret hlk hZ A00
  have A0 := A00.cast (ef2 m p1 p2)
  have A1 := A0.go (f' := mkF m 1 #[.val (.int p1), .val (.int p2)] [(.int p1)]) fun _ _ X _ k => XS.iloadN X.here hx rfl (hb hby d2_0) rfl k
  have A2 := A1.go (f' := mkF m 2 #[.val (.int p1), .val (.int p2)] [(.int p2), (.int p1)]) fun _ _ X _ k => XS.iloadN X.here hx rfl (hb hby d2_1) rfl k
  by_cases q3 : p1 < p2
  · skip
    have A4 := A2.go (f' := mkF m 9 #[.val (.int p1), .val (.int p2)] []) fun _ _ X _ k => XS.icmpYes X.here hx rfl (pc0 := 2) (pc' := 9) rfl (hb hby d2_2) rfl ((tlt q3).1) (by decide) (by decide) k
    have A5 := A4.go (f' := mkF m 10 #[.val (.int p1), .val (.int p2)] [(.int p2)]) fun _ _ X _ k => XS.iloadN X.here hx rfl (hb hby d2_9) rfl k
    exact A5.ret hx hlk hret (hb hby d2_10) rfl (Or.inl ⟨rfl, by simp, _, rfl⟩) (by decide) (by decide) ⟨by simp [q3], rfl⟩
  · skip
    have A6 := A2.go (f' := mkF m 5 #[.val (.int p1), .val (.int p2)] []) fun _ _ X _ k => XS.icmpNo X.here hx rfl (hb hby d2_2) rfl ((flt q3).1) k
    have A7 := A6.go (f' := mkF m 6 #[.val (.int p1), .val (.int p2)] [(.int p1)]) fun _ _ X _ k => XS.iloadN X.here hx rfl (hb hby d2_5) rfl k
    have A8 := A7.go (f' := mkF m 10 #[.val (.int p1), .val (.int p2)] [(.int p1)]) fun _ _ X _ k => XS.goto X.here hx rfl (pc0 := 6) (pc' := 10) rfl (hb hby d2_6) (by decide) (by decide) k
    exact A8.ret hx hlk hret (hb hby d2_10) rfl (Or.inl ⟨rfl, by simp, _, rfl⟩) (by decide) (by decide) ⟨by simp [q3], rfl⟩
theorem d3_0 : decode method_3_code 0 = .ok (.iload_n 0, 1) := by decide +kernel
theorem d3_1 : decode method_3_code 1 = .ok (.iconst 1, 1) := by decide +kernel
theorem d3_2 : decode method_3_code 2 = .ok (.if_icmp .ne 5, 3) := by decide +kernel
theorem d3_5 : decode method_3_code 5 = .ok (.iload_n 2, 1) := by decide +kernel
theorem d3_6 : decode method_3_code 6 = .ok (.ireturn, 1) := by decide +kernel
theorem d3_7 : decode method_3_code 7 = .ok (.iload_n 0, 1) := by decide +kernel
theorem d3_8 : decode method_3_code 8 = .ok (.iconst 2, 1) := by decide +kernel
theorem d3_9 : decode method_3_code 9 = .ok (.if_icmp .ne 5, 3) := by decide +kernel
theorem d3_12 : decode method_3_code 12 = .ok (.iload_n 3, 1) := by decide +kernel
theorem d3_13 : decode method_3_code 13 = .ok (.ireturn, 1) := by decide +kernel
theorem d3_14 : decode method_3_code 14 = .ok (.iload_n 0, 1) := by decide +kernel
theorem d3_15 : decode method_3_code 15 = .ok (.iconst 3, 1) := by decide +kernel
theorem d3_16 : decode method_3_code 16 = .ok (.if_icmp .ne 7, 3) := by decide +kernel
theorem d3_19 : decode method_3_code 19 = .ok (.iload_n 2, 1) := by decide +kernel
theorem d3_20 : decode method_3_code 20 = .ok (.iconst 1, 1) := by decide +kernel
theorem d3_21 : decode method_3_code 21 = .ok (.isub, 1) := by decide +kernel
theorem d3_22 : decode method_3_code 22 = .ok (.ireturn, 1) := by decide +kernel
theorem d3_23 : decode method_3_code 23 = .ok (.iload_n 0, 1) := by decide +kernel
theorem d3_24 : decode method_3_code 24 = .ok (.iconst 4, 1) := by decide +kernel
theorem d3_25 : decode method_3_code 25 = .ok (.if_icmp .ne 7, 3) := by decide +kernel
theorem d3_28 : decode method_3_code 28 = .ok (.iload_n 3, 1) := by decide +kernel
theorem d3_29 : decode method_3_code 29 = .ok (.iconst 1, 1) := by decide +kernel
theorem d3_30 : decode method_3_code 30 = .ok (.iadd, 1) := by decide +kernel
theorem d3_31 : decode method_3_code 31 = .ok (.ireturn, 1) := by decide +kernel
theorem d3_32 : decode method_3_code 32 = .ok (.iload_n 0, 1) := by decide +kernel
theorem d3_33 : decode method_3_code 33 = .ok (.iconst 5, 1) := by decide +kernel
theorem d3_34 : decode method_3_code 34 = .ok (.if_icmp .ne 7, 3) := by decide +kernel
theorem d3_37 : decode method_3_code 37 = .ok (.iload_n 2, 1) := by decide +kernel
theorem d3_38 : decode method_3_code 38 = .ok (.iconst 1, 1) := by decide +kernel
theorem d3_39 : decode method_3_code 39 = .ok (.iadd, 1) := by decide +kernel
theorem d3_40 : decode method_3_code 40 = .ok (.ireturn, 1) := by decide +kernel
theorem d3_41 : decode method_3_code 41 = .ok (.iload_n 0, 1) := by decide +kernel
theorem d3_42 : decode method_3_code 42 = .ok (.bipush 6, 2) := by decide +kernel
theorem d3_44 : decode method_3_code 44 = .ok (.if_icmp .ne 7, 3) := by decide +kernel
theorem d3_47 : decode method_3_code 47 = .ok (.iload_n 3, 1) := by decide +kernel
theorem d3_48 : decode method_3_code 48 = .ok (.iconst 1, 1) := by decide +kernel
theorem d3_49 : decode method_3_code 49 = .ok (.isub, 1) := by decide +kernel
theorem d3_50 : decode method_3_code 50 = .ok (.ireturn, 1) := by decide +kernel
theorem d3_51 : decode method_3_code 51 = .ok (.iload_n 1, 1) := by decide +kernel
theorem d3_52 : decode method_3_code 52 = .ok (.ireturn, 1) := by decide +kernel
theorem ef3 (m : MethodId) (p1 : Int32) (p2 : Int32) (p3 : Int32) (p4 : Int32) : entryFrame m #[(.int p1), (.int p2), (.int p3), (.int p4)] 4 = mkF m 0 #[.val (.int p1), .val (.int p2), .val (.int p3), .val (.int p4)] [] := by first | (simp [entryFrame, mkF, argsToLocals, Value.category, maxLocals]; done) | rfl
set_option maxRecDepth 65536 in
set_option maxHeartbeats 40000000 in
theorem own_pick (l : Launch) (Z : State) (a0 : Array Value) (hw : ∀ d ∈ tables_1, d.before a0 Z = true) (p1 p2 p3 p4 : Int32) (h0 : Heap) (n0 : Nat) (Z0 : n0 ≤ h0.size)  :
    own_M l Z (⟨"com/example/paretolio/paretolio/portfolio/ProjectGroupAdmitsPinLaw", "pick", "(IIII)I"⟩ : MethodName) method_3_code 4 (some .int) [] ({ frames := 0, cells := 0, slots := 0, locals := 0 } : Room) #[(.int p1), (.int p2), (.int p3), (.int p4)] h0 n0 (fun v h => ∃ z, v = some (.int z) ∧ h0 = h) := by
  refine own_M.of (plainFor_of_name (by first | (simp [plainName, overriddenIn]; done) | decide +kernel)) ?_
  intro p e s m below meth c S0 hx hby hml hown hnm hret hlk hZ A00
  have A0 := A00.cast (ef3 m p1 p2 p3 p4)
  have A1 := A0.go (f' := mkF m 1 #[.val (.int p1), .val (.int p2), .val (.int p3), .val (.int p4)] [(.int p1)]) fun _ _ X _ k => XS.iloadN X.here hx rfl (hb hby d3_0) rfl k
  have A2 := A1.go (f' := mkF m 2 #[.val (.int p1), .val (.int p2), .val (.int p3), .val (.int p4)] [(.int (1 : Int32)), (.int p1)]) fun _ _ X _ k => XS.iconst X.here hx rfl (hb hby d3_1) k
  by_cases q3 : p1 = (1 : Int32)
  · skip
    have A4 := A2.go (f' := mkF m 5 #[.val (.int p1), .val (.int p2), .val (.int p3), .val (.int p4)] []) fun _ _ X _ k => XS.icmpNo X.here hx rfl (hb hby d3_2) rfl ((teq q3).2) k
    have A5 := A4.go (f' := mkF m 6 #[.val (.int p1), .val (.int p2), .val (.int p3), .val (.int p4)] [(.int p3)]) fun _ _ X _ k => XS.iloadN X.here hx rfl (hb hby d3_5) rfl k
    exact A5.ret hx hlk hret (hb hby d3_6) rfl (Or.inl ⟨rfl, by simp, _, rfl⟩) (by decide) (by decide) ⟨_, rfl, rfl⟩
  · skip
    have A6 := A2.go (f' := mkF m 7 #[.val (.int p1), .val (.int p2), .val (.int p3), .val (.int p4)] []) fun _ _ X _ k => XS.icmpYes X.here hx rfl (pc0 := 2) (pc' := 7) rfl (hb hby d3_2) rfl ((feq q3).2) (by decide) (by decide) k
    have A7 := A6.go (f' := mkF m 8 #[.val (.int p1), .val (.int p2), .val (.int p3), .val (.int p4)] [(.int p1)]) fun _ _ X _ k => XS.iloadN X.here hx rfl (hb hby d3_7) rfl k
    have A8 := A7.go (f' := mkF m 9 #[.val (.int p1), .val (.int p2), .val (.int p3), .val (.int p4)] [(.int (2 : Int32)), (.int p1)]) fun _ _ X _ k => XS.iconst X.here hx rfl (hb hby d3_8) k
    by_cases q9 : p1 = (2 : Int32)
    · skip
      have A10 := A8.go (f' := mkF m 12 #[.val (.int p1), .val (.int p2), .val (.int p3), .val (.int p4)] []) fun _ _ X _ k => XS.icmpNo X.here hx rfl (hb hby d3_9) rfl ((teq q9).2) k
      have A11 := A10.go (f' := mkF m 13 #[.val (.int p1), .val (.int p2), .val (.int p3), .val (.int p4)] [(.int p4)]) fun _ _ X _ k => XS.iloadN X.here hx rfl (hb hby d3_12) rfl k
      exact A11.ret hx hlk hret (hb hby d3_13) rfl (Or.inl ⟨rfl, by simp, _, rfl⟩) (by decide) (by decide) ⟨_, rfl, rfl⟩
    · skip
      have A12 := A8.go (f' := mkF m 14 #[.val (.int p1), .val (.int p2), .val (.int p3), .val (.int p4)] []) fun _ _ X _ k => XS.icmpYes X.here hx rfl (pc0 := 9) (pc' := 14) rfl (hb hby d3_9) rfl ((feq q9).2) (by decide) (by decide) k
      have A13 := A12.go (f' := mkF m 15 #[.val (.int p1), .val (.int p2), .val (.int p3), .val (.int p4)] [(.int p1)]) fun _ _ X _ k => XS.iloadN X.here hx rfl (hb hby d3_14) rfl k
      have A14 := A13.go (f' := mkF m 16 #[.val (.int p1), .val (.int p2), .val (.int p3), .val (.int p4)] [(.int (3 : Int32)), (.int p1)]) fun _ _ X _ k => XS.iconst X.here hx rfl (hb hby d3_15) k
      by_cases q15 : p1 = (3 : Int32)
      · skip
        have A16 := A14.go (f' := mkF m 19 #[.val (.int p1), .val (.int p2), .val (.int p3), .val (.int p4)] []) fun _ _ X _ k => XS.icmpNo X.here hx rfl (hb hby d3_16) rfl ((teq q15).2) k
        have A17 := A16.go (f' := mkF m 20 #[.val (.int p1), .val (.int p2), .val (.int p3), .val (.int p4)] [(.int p3)]) fun _ _ X _ k => XS.iloadN X.here hx rfl (hb hby d3_19) rfl k
        have A18 := A17.go (f' := mkF m 21 #[.val (.int p1), .val (.int p2), .val (.int p3), .val (.int p4)] [(.int (1 : Int32)), (.int p3)]) fun _ _ X _ k => XS.iconst X.here hx rfl (hb hby d3_20) k
        have A19 := A18.go (f' := mkF m 22 #[.val (.int p1), .val (.int p2), .val (.int p3), .val (.int p4)] [(.int (p3 - (1 : Int32)))]) fun _ _ X _ k => XS.isub X.here hx rfl (hb hby d3_21) rfl k
        exact A19.ret hx hlk hret (hb hby d3_22) rfl (Or.inl ⟨rfl, by simp, _, rfl⟩) (by decide) (by decide) ⟨_, rfl, rfl⟩
      · skip
        have A20 := A14.go (f' := mkF m 23 #[.val (.int p1), .val (.int p2), .val (.int p3), .val (.int p4)] []) fun _ _ X _ k => XS.icmpYes X.here hx rfl (pc0 := 16) (pc' := 23) rfl (hb hby d3_16) rfl ((feq q15).2) (by decide) (by decide) k
        have A21 := A20.go (f' := mkF m 24 #[.val (.int p1), .val (.int p2), .val (.int p3), .val (.int p4)] [(.int p1)]) fun _ _ X _ k => XS.iloadN X.here hx rfl (hb hby d3_23) rfl k
        have A22 := A21.go (f' := mkF m 25 #[.val (.int p1), .val (.int p2), .val (.int p3), .val (.int p4)] [(.int (4 : Int32)), (.int p1)]) fun _ _ X _ k => XS.iconst X.here hx rfl (hb hby d3_24) k
        by_cases q23 : p1 = (4 : Int32)
        · skip
          have A24 := A22.go (f' := mkF m 28 #[.val (.int p1), .val (.int p2), .val (.int p3), .val (.int p4)] []) fun _ _ X _ k => XS.icmpNo X.here hx rfl (hb hby d3_25) rfl ((teq q23).2) k
          have A25 := A24.go (f' := mkF m 29 #[.val (.int p1), .val (.int p2), .val (.int p3), .val (.int p4)] [(.int p4)]) fun _ _ X _ k => XS.iloadN X.here hx rfl (hb hby d3_28) rfl k
          have A26 := A25.go (f' := mkF m 30 #[.val (.int p1), .val (.int p2), .val (.int p3), .val (.int p4)] [(.int (1 : Int32)), (.int p4)]) fun _ _ X _ k => XS.iconst X.here hx rfl (hb hby d3_29) k
          have A27 := A26.go (f' := mkF m 31 #[.val (.int p1), .val (.int p2), .val (.int p3), .val (.int p4)] [(.int (p4 + (1 : Int32)))]) fun _ _ X _ k => XS.iadd X.here hx rfl (hb hby d3_30) rfl k
          exact A27.ret hx hlk hret (hb hby d3_31) rfl (Or.inl ⟨rfl, by simp, _, rfl⟩) (by decide) (by decide) ⟨_, rfl, rfl⟩
        · skip
          have A28 := A22.go (f' := mkF m 32 #[.val (.int p1), .val (.int p2), .val (.int p3), .val (.int p4)] []) fun _ _ X _ k => XS.icmpYes X.here hx rfl (pc0 := 25) (pc' := 32) rfl (hb hby d3_25) rfl ((feq q23).2) (by decide) (by decide) k
          have A29 := A28.go (f' := mkF m 33 #[.val (.int p1), .val (.int p2), .val (.int p3), .val (.int p4)] [(.int p1)]) fun _ _ X _ k => XS.iloadN X.here hx rfl (hb hby d3_32) rfl k
          have A30 := A29.go (f' := mkF m 34 #[.val (.int p1), .val (.int p2), .val (.int p3), .val (.int p4)] [(.int (5 : Int32)), (.int p1)]) fun _ _ X _ k => XS.iconst X.here hx rfl (hb hby d3_33) k
          by_cases q31 : p1 = (5 : Int32)
          · skip
            have A32 := A30.go (f' := mkF m 37 #[.val (.int p1), .val (.int p2), .val (.int p3), .val (.int p4)] []) fun _ _ X _ k => XS.icmpNo X.here hx rfl (hb hby d3_34) rfl ((teq q31).2) k
            have A33 := A32.go (f' := mkF m 38 #[.val (.int p1), .val (.int p2), .val (.int p3), .val (.int p4)] [(.int p3)]) fun _ _ X _ k => XS.iloadN X.here hx rfl (hb hby d3_37) rfl k
            have A34 := A33.go (f' := mkF m 39 #[.val (.int p1), .val (.int p2), .val (.int p3), .val (.int p4)] [(.int (1 : Int32)), (.int p3)]) fun _ _ X _ k => XS.iconst X.here hx rfl (hb hby d3_38) k
            have A35 := A34.go (f' := mkF m 40 #[.val (.int p1), .val (.int p2), .val (.int p3), .val (.int p4)] [(.int (p3 + (1 : Int32)))]) fun _ _ X _ k => XS.iadd X.here hx rfl (hb hby d3_39) rfl k
            exact A35.ret hx hlk hret (hb hby d3_40) rfl (Or.inl ⟨rfl, by simp, _, rfl⟩) (by decide) (by decide) ⟨_, rfl, rfl⟩
          · skip
            have A36 := A30.go (f' := mkF m 41 #[.val (.int p1), .val (.int p2), .val (.int p3), .val (.int p4)] []) fun _ _ X _ k => XS.icmpYes X.here hx rfl (pc0 := 34) (pc' := 41) rfl (hb hby d3_34) rfl ((feq q31).2) (by decide) (by decide) k
            have A37 := A36.go (f' := mkF m 42 #[.val (.int p1), .val (.int p2), .val (.int p3), .val (.int p4)] [(.int p1)]) fun _ _ X _ k => XS.iloadN X.here hx rfl (hb hby d3_41) rfl k
            have A38 := A37.go (f' := mkF m 44 #[.val (.int p1), .val (.int p2), .val (.int p3), .val (.int p4)] [(.int (6 : Int32)), (.int p1)]) fun _ _ X _ k => XS.bipush X.here hx rfl (hb hby d3_42) k
            by_cases q39 : p1 = (6 : Int32)
            · skip
              have A40 := A38.go (f' := mkF m 47 #[.val (.int p1), .val (.int p2), .val (.int p3), .val (.int p4)] []) fun _ _ X _ k => XS.icmpNo X.here hx rfl (hb hby d3_44) rfl ((teq q39).2) k
              have A41 := A40.go (f' := mkF m 48 #[.val (.int p1), .val (.int p2), .val (.int p3), .val (.int p4)] [(.int p4)]) fun _ _ X _ k => XS.iloadN X.here hx rfl (hb hby d3_47) rfl k
              have A42 := A41.go (f' := mkF m 49 #[.val (.int p1), .val (.int p2), .val (.int p3), .val (.int p4)] [(.int (1 : Int32)), (.int p4)]) fun _ _ X _ k => XS.iconst X.here hx rfl (hb hby d3_48) k
              have A43 := A42.go (f' := mkF m 50 #[.val (.int p1), .val (.int p2), .val (.int p3), .val (.int p4)] [(.int (p4 - (1 : Int32)))]) fun _ _ X _ k => XS.isub X.here hx rfl (hb hby d3_49) rfl k
              exact A43.ret hx hlk hret (hb hby d3_50) rfl (Or.inl ⟨rfl, by simp, _, rfl⟩) (by decide) (by decide) ⟨_, rfl, rfl⟩
            · skip
              have A44 := A38.go (f' := mkF m 51 #[.val (.int p1), .val (.int p2), .val (.int p3), .val (.int p4)] []) fun _ _ X _ k => XS.icmpYes X.here hx rfl (pc0 := 44) (pc' := 51) rfl (hb hby d3_44) rfl ((feq q39).2) (by decide) (by decide) k
              have A45 := A44.go (f' := mkF m 52 #[.val (.int p1), .val (.int p2), .val (.int p3), .val (.int p4)] [(.int p2)]) fun _ _ X _ k => XS.iloadN X.here hx rfl (hb hby d3_51) rfl k
              exact A45.ret hx hlk hret (hb hby d3_52) rfl (Or.inl ⟨rfl, by simp, _, rfl⟩) (by decide) (by decide) ⟨_, rfl, rfl⟩
theorem d4_0 : decode jdk_30_method_1_code 0 = .ok (.aload_n 0, 1) := by decide +kernel
theorem d4_1 : decode jdk_30_method_1_code 1 = .ok (.invokespecial 1, 3) := by decide +kernel
theorem d4_4 : decode jdk_30_method_1_code 4 = .ok (.return_, 1) := by decide +kernel
theorem ef4 (m : MethodId) (a1 : Addr) : entryFrame m #[(.ref a1)] 1 = mkF m 0 #[.val (.ref a1)] [] := by first | (simp [entryFrame, mkF, argsToLocals, Value.category, maxLocals]; done) | rfl
set_option maxRecDepth 65536 in
set_option maxHeartbeats 40000000 in
theorem own_rec (l : Launch) (Z : State) (a0 : Array Value) (hw : ∀ d ∈ tables_1, d.before a0 Z = true) (a1 : Addr) (h0 : Heap) (n0 : Nat) (Z0 : n0 ≤ h0.size)  :
    own_M l Z (⟨"java/lang/Record", "<init>", "()V"⟩ : MethodName) jdk_30_method_1_code 1 none [] ({ frames := 1, cells := 0, slots := 0, locals := 12 } : Room) #[(.ref a1)] h0 n0 (fun v h => v = none ∧ h0 = h) := by
  refine own_M.of (plainFor_of_name (by first | (simp [plainName, overriddenIn]; done) | decide +kernel)) ?_
  intro p e s m below meth c S0 hx hby hml hown hnm hret hlk hZ A00
  have A0 := A00.cast (ef4 m a1)
  have A1 := A0.go (f' := mkF m 1 #[.val (.ref a1)] [(.ref a1)]) fun _ _ X _ k => XS.aloadN X.here hx rfl (hb hby d4_0) rfl rfl k
  have A2 : own_R p l e _ _ m _ below meth c S0 n0 h0 0 0 (mkF m 4 #[.val (.ref a1)] []) := A1.initO hx hZ hown (hb hby d4_1) (hw _ (List.mem_of_getElem? (i := 31) rfl)) (hw _ (List.mem_of_getElem? (i := 32) rfl)) (hw _ (List.mem_of_getElem? (i := 33) rfl)) (by rw [hml]; rfl) (W := 0) (Nat.le_of_eq rfl) (by decide) (by decide)
  exact A2.retV hx hlk hret (hb hby d4_4) (by decide) (by decide) ⟨rfl, rfl⟩
theorem pd__28_29V : parseMethodDescriptor "()V" = some ⟨[], none⟩ := by decide +kernel
theorem d5_0 : decode prog_45_method_1_code 0 = .ok (.aload_n 0, 1) := by decide +kernel
theorem d5_1 : decode prog_45_method_1_code 1 = .ok (.invokespecial 1, 3) := by decide +kernel
theorem d5_4 : decode prog_45_method_1_code 4 = .ok (.aload_n 0, 1) := by decide +kernel
theorem d5_5 : decode prog_45_method_1_code 5 = .ok (.aload_n 1, 1) := by decide +kernel
theorem d5_6 : decode prog_45_method_1_code 6 = .ok (.putfield 7, 3) := by decide +kernel
theorem d5_9 : decode prog_45_method_1_code 9 = .ok (.aload_n 0, 1) := by decide +kernel
theorem d5_10 : decode prog_45_method_1_code 10 = .ok (.aload_n 2, 1) := by decide +kernel
theorem d5_11 : decode prog_45_method_1_code 11 = .ok (.putfield 13, 3) := by decide +kernel
theorem d5_14 : decode prog_45_method_1_code 14 = .ok (.aload_n 0, 1) := by decide +kernel
theorem d5_15 : decode prog_45_method_1_code 15 = .ok (.iload_n 3, 1) := by decide +kernel
theorem d5_16 : decode prog_45_method_1_code 16 = .ok (.putfield 17, 3) := by decide +kernel
theorem d5_19 : decode prog_45_method_1_code 19 = .ok (.aload_n 0, 1) := by decide +kernel
theorem d5_20 : decode prog_45_method_1_code 20 = .ok (.iload 4, 2) := by decide +kernel
theorem d5_22 : decode prog_45_method_1_code 22 = .ok (.putfield 21, 3) := by decide +kernel
theorem d5_25 : decode prog_45_method_1_code 25 = .ok (.return_, 1) := by decide +kernel
theorem ef5 (m : MethodId) (a1 : Addr) (a2 : Addr) (a3 : Addr) (p4 : Int32) (p5 : Int32) : entryFrame m #[(.ref a1), (.ref a2), (.ref a3), (.int p4), (.int p5)] 5 = mkF m 0 #[.val (.ref a1), .val (.ref a2), .val (.ref a3), .val (.int p4), .val (.int p5)] [] := by first | (simp [entryFrame, mkF, argsToLocals, Value.category, maxLocals]; done) | rfl
set_option maxRecDepth 65536 in
set_option maxHeartbeats 40000000 in
theorem own_init (l : Launch) (Z : State) (a0 : Array Value) (hw : ∀ d ∈ tables_1, d.before a0 Z = true) (a1 a2 a3 : Addr) (p4 p5 : Int32) (h0 : Heap) (n0 : Nat) (Z0 : n0 ≤ h0.size) (E_a1 : Exa Z h0 a1 "com/example/paretolio/paretolio/portfolio/ProjectGroup") (F_a1_name : Fld Z h0 a1 "com/example/paretolio/paretolio/portfolio/ProjectGroup" "name" "Ljava/lang/String;" .null) (F_a1_projects : Fld Z h0 a1 "com/example/paretolio/paretolio/portfolio/ProjectGroup" "projects" "[I" .null) (F_a1_min : Fld Z h0 a1 "com/example/paretolio/paretolio/portfolio/ProjectGroup" "min" "I" (.int (0 : Int32))) (F_a1_max : Fld Z h0 a1 "com/example/paretolio/paretolio/portfolio/ProjectGroup" "max" "I" (.int (0 : Int32))) (g_a1 : n0 ≤ a1) :
    own_M l Z (⟨"com/example/paretolio/paretolio/portfolio/ProjectGroup", "<init>", "(Ljava/lang/String;[III)V"⟩ : MethodName) prog_45_method_1_code 5 none [] ({ frames := 2, cells := 0, slots := 0, locals := 24 } : Room) #[(.ref a1), (.ref a2), (.ref a3), (.int p4), (.int p5)] h0 n0 (fun v h => v = none ∧ Keep h0 h [a1] ∧ Fld Z h a1 "com/example/paretolio/paretolio/portfolio/ProjectGroup" "min" "I" (.int p4) ∧ Fld Z h a1 "com/example/paretolio/paretolio/portfolio/ProjectGroup" "max" "I" (.int p5)) := by
  refine own_M.of (plainFor_of_name (by first | (simp [plainName, overriddenIn]; done) | decide +kernel)) ?_
  intro p e s m below meth c S0 hx hby hml hown hnm hret hlk hZ A00
  have A0 := A00.cast (ef5 m a1 a2 a3 p4 p5)
  have KK := Keep.refl h0 [a1]
  have A1 := A0.go (f' := mkF m 1 #[.val (.ref a1), .val (.ref a2), .val (.ref a3), .val (.int p4), .val (.int p5)] [(.ref a1)]) fun _ _ X _ k => XS.aloadN X.here hx rfl (hb hby d5_0) rfl rfl k
  obtain ⟨vA2, hA2, ⟨rfl, rfl⟩, A2⟩ := A1.callI (b := a1) (own_rec l Z a0 hw a1 h0 n0 Z0) hx hZ hown (hb hby d5_1) rfl (hw _ (List.mem_of_getElem? (i := 26) rfl)) (hw _ (List.mem_of_getElem? (i := 27) rfl)) (hw _ (List.mem_of_getElem? (i := 30) rfl)) (hw _ (List.mem_of_getElem? (i := 29) rfl)) ⟨by decide, by decide⟩ (lenOf pd__28_29V rfl) (argsL := []) (rest := []) rfl rfl (by rw [hml]; rfl) (W := 0) (Nat.le_of_eq rfl) (by decide) (by decide) (by decide) (by decide)
  have A3 : own_R p l e _ _ m _ below meth c S0 n0 h0 0 0 (mkF m 4 #[.val (.ref a1), .val (.ref a2), .val (.ref a3), .val (.int p4), .val (.int p5)] []) := A2
  have A4 := A3.go (f' := mkF m 5 #[.val (.ref a1), .val (.ref a2), .val (.ref a3), .val (.int p4), .val (.int p5)] [(.ref a1)]) fun _ _ X _ k => XS.aloadN X.here hx rfl (hb hby d5_4) rfl rfl k
  have A5 := A4.go (f' := mkF m 6 #[.val (.ref a1), .val (.ref a2), .val (.ref a3), .val (.int p4), .val (.int p5)] [(.ref a2), (.ref a1)]) fun _ _ X _ k => XS.aloadN X.here hx rfl (hb hby d5_5) rfl rfl k
  obtain ⟨h6, W7, A8⟩ := A5.putF hx hZ hown (hb hby d5_6) (hw _ (List.mem_of_getElem? (i := 34) rfl)) F_a1_name E_a1 (Or.inr ⟨(hw _ (List.mem_of_getElem? (i := 35) rfl)), rfl, hnm⟩) (hw _ (List.mem_of_getElem? (i := 12) rfl)) (ty := (.object "java/lang/String")) (by decide) rfl rfl g_a1
  have E_a1 : Exa Z h6 a1 "com/example/paretolio/paretolio/portfolio/ProjectGroup" := E_a1.wr W7
  have F_a1_name : Fld Z h6 a1 "com/example/paretolio/paretolio/portfolio/ProjectGroup" "name" "Ljava/lang/String;" (.ref a2) := F_a1_name.same W7
  have F_a1_projects : Fld Z h6 a1 "com/example/paretolio/paretolio/portfolio/ProjectGroup" "projects" "[I" .null := F_a1_projects.other W7 (Or.inr (slot_ne (Or.inr (hw _ (List.mem_of_getElem? (i := 37) rfl))) (Or.inr (hw _ (List.mem_of_getElem? (i := 35) rfl))) (by decide) (t := (.array .int)) (t' := (.object "java/lang/String")) (by decide) (by decide)))
  have F_a1_min : Fld Z h6 a1 "com/example/paretolio/paretolio/portfolio/ProjectGroup" "min" "I" (.int (0 : Int32)) := F_a1_min.other W7 (Or.inr (slot_ne (Or.inr (hw _ (List.mem_of_getElem? (i := 39) rfl))) (Or.inr (hw _ (List.mem_of_getElem? (i := 35) rfl))) (by decide) (t := .int) (t' := (.object "java/lang/String")) (by decide) (by decide)))
  have F_a1_max : Fld Z h6 a1 "com/example/paretolio/paretolio/portfolio/ProjectGroup" "max" "I" (.int (0 : Int32)) := F_a1_max.other W7 (Or.inr (slot_ne (Or.inr (hw _ (List.mem_of_getElem? (i := 41) rfl))) (Or.inr (hw _ (List.mem_of_getElem? (i := 35) rfl))) (by decide) (t := .int) (t' := (.object "java/lang/String")) (by decide) (by decide)))
  have Z0 : n0 ≤ h6.size := by rw [W7.size]; exact Z0
  have KK : Keep h0 h6 [a1] := KK.wr W7 (Or.inl (by simp))
  have A9 : own_R p l e _ _ m _ below meth c S0 n0 h6 0 0 (mkF m 9 #[.val (.ref a1), .val (.ref a2), .val (.ref a3), .val (.int p4), .val (.int p5)] []) := A8
  have A10 := A9.go (f' := mkF m 10 #[.val (.ref a1), .val (.ref a2), .val (.ref a3), .val (.int p4), .val (.int p5)] [(.ref a1)]) fun _ _ X _ k => XS.aloadN X.here hx rfl (hb hby d5_9) rfl rfl k
  have A11 := A10.go (f' := mkF m 11 #[.val (.ref a1), .val (.ref a2), .val (.ref a3), .val (.int p4), .val (.int p5)] [(.ref a3), (.ref a1)]) fun _ _ X _ k => XS.aloadN X.here hx rfl (hb hby d5_10) rfl rfl k
  obtain ⟨h12, W13, A14⟩ := A11.putF hx hZ hown (hb hby d5_11) (hw _ (List.mem_of_getElem? (i := 36) rfl)) F_a1_projects E_a1 (Or.inr ⟨(hw _ (List.mem_of_getElem? (i := 37) rfl)), rfl, hnm⟩) (hw _ (List.mem_of_getElem? (i := 12) rfl)) (ty := (.array .int)) (by decide) rfl rfl g_a1
  have E_a1 : Exa Z h12 a1 "com/example/paretolio/paretolio/portfolio/ProjectGroup" := E_a1.wr W13
  have F_a1_name : Fld Z h12 a1 "com/example/paretolio/paretolio/portfolio/ProjectGroup" "name" "Ljava/lang/String;" (.ref a2) := F_a1_name.other W13 (Or.inr (slot_ne (Or.inr (hw _ (List.mem_of_getElem? (i := 35) rfl))) (Or.inr (hw _ (List.mem_of_getElem? (i := 37) rfl))) (by decide) (t := (.object "java/lang/String")) (t' := (.array .int)) (by decide) (by decide)))
  have F_a1_projects : Fld Z h12 a1 "com/example/paretolio/paretolio/portfolio/ProjectGroup" "projects" "[I" (.ref a3) := F_a1_projects.same W13
  have F_a1_min : Fld Z h12 a1 "com/example/paretolio/paretolio/portfolio/ProjectGroup" "min" "I" (.int (0 : Int32)) := F_a1_min.other W13 (Or.inr (slot_ne (Or.inr (hw _ (List.mem_of_getElem? (i := 39) rfl))) (Or.inr (hw _ (List.mem_of_getElem? (i := 37) rfl))) (by decide) (t := .int) (t' := (.array .int)) (by decide) (by decide)))
  have F_a1_max : Fld Z h12 a1 "com/example/paretolio/paretolio/portfolio/ProjectGroup" "max" "I" (.int (0 : Int32)) := F_a1_max.other W13 (Or.inr (slot_ne (Or.inr (hw _ (List.mem_of_getElem? (i := 41) rfl))) (Or.inr (hw _ (List.mem_of_getElem? (i := 37) rfl))) (by decide) (t := .int) (t' := (.array .int)) (by decide) (by decide)))
  have Z0 : n0 ≤ h12.size := by rw [W13.size]; exact Z0
  have KK : Keep h0 h12 [a1] := KK.wr W13 (Or.inl (by simp))
  have A15 : own_R p l e _ _ m _ below meth c S0 n0 h12 0 0 (mkF m 14 #[.val (.ref a1), .val (.ref a2), .val (.ref a3), .val (.int p4), .val (.int p5)] []) := A14
  have A16 := A15.go (f' := mkF m 15 #[.val (.ref a1), .val (.ref a2), .val (.ref a3), .val (.int p4), .val (.int p5)] [(.ref a1)]) fun _ _ X _ k => XS.aloadN X.here hx rfl (hb hby d5_14) rfl rfl k
  have A17 := A16.go (f' := mkF m 16 #[.val (.ref a1), .val (.ref a2), .val (.ref a3), .val (.int p4), .val (.int p5)] [(.int p4), (.ref a1)]) fun _ _ X _ k => XS.iloadN X.here hx rfl (hb hby d5_15) rfl k
  obtain ⟨h18, W19, A20⟩ := A17.putF hx hZ hown (hb hby d5_16) (hw _ (List.mem_of_getElem? (i := 38) rfl)) F_a1_min E_a1 (Or.inr ⟨(hw _ (List.mem_of_getElem? (i := 39) rfl)), rfl, hnm⟩) (hw _ (List.mem_of_getElem? (i := 12) rfl)) (ty := .int) (by decide) rfl rfl g_a1
  have E_a1 : Exa Z h18 a1 "com/example/paretolio/paretolio/portfolio/ProjectGroup" := E_a1.wr W19
  have F_a1_name : Fld Z h18 a1 "com/example/paretolio/paretolio/portfolio/ProjectGroup" "name" "Ljava/lang/String;" (.ref a2) := F_a1_name.other W19 (Or.inr (slot_ne (Or.inr (hw _ (List.mem_of_getElem? (i := 35) rfl))) (Or.inr (hw _ (List.mem_of_getElem? (i := 39) rfl))) (by decide) (t := (.object "java/lang/String")) (t' := .int) (by decide) (by decide)))
  have F_a1_projects : Fld Z h18 a1 "com/example/paretolio/paretolio/portfolio/ProjectGroup" "projects" "[I" (.ref a3) := F_a1_projects.other W19 (Or.inr (slot_ne (Or.inr (hw _ (List.mem_of_getElem? (i := 37) rfl))) (Or.inr (hw _ (List.mem_of_getElem? (i := 39) rfl))) (by decide) (t := (.array .int)) (t' := .int) (by decide) (by decide)))
  have F_a1_min : Fld Z h18 a1 "com/example/paretolio/paretolio/portfolio/ProjectGroup" "min" "I" (.int p4) := F_a1_min.same W19
  have F_a1_max : Fld Z h18 a1 "com/example/paretolio/paretolio/portfolio/ProjectGroup" "max" "I" (.int (0 : Int32)) := F_a1_max.other W19 (Or.inr (slot_ne (Or.inr (hw _ (List.mem_of_getElem? (i := 41) rfl))) (Or.inr (hw _ (List.mem_of_getElem? (i := 39) rfl))) (by decide) (t := .int) (t' := .int) (by decide) (by decide)))
  have Z0 : n0 ≤ h18.size := by rw [W19.size]; exact Z0
  have KK : Keep h0 h18 [a1] := KK.wr W19 (Or.inl (by simp))
  have A21 : own_R p l e _ _ m _ below meth c S0 n0 h18 0 0 (mkF m 19 #[.val (.ref a1), .val (.ref a2), .val (.ref a3), .val (.int p4), .val (.int p5)] []) := A20
  have A22 := A21.go (f' := mkF m 20 #[.val (.ref a1), .val (.ref a2), .val (.ref a3), .val (.int p4), .val (.int p5)] [(.ref a1)]) fun _ _ X _ k => XS.aloadN X.here hx rfl (hb hby d5_19) rfl rfl k
  have A23 := A22.go (f' := mkF m 22 #[.val (.ref a1), .val (.ref a2), .val (.ref a3), .val (.int p4), .val (.int p5)] [(.int p5), (.ref a1)]) fun _ _ X _ k => XS.iload X.here hx rfl (hb hby d5_20) rfl k
  obtain ⟨h24, W25, A26⟩ := A23.putF hx hZ hown (hb hby d5_22) (hw _ (List.mem_of_getElem? (i := 40) rfl)) F_a1_max E_a1 (Or.inr ⟨(hw _ (List.mem_of_getElem? (i := 41) rfl)), rfl, hnm⟩) (hw _ (List.mem_of_getElem? (i := 12) rfl)) (ty := .int) (by decide) rfl rfl g_a1
  have E_a1 : Exa Z h24 a1 "com/example/paretolio/paretolio/portfolio/ProjectGroup" := E_a1.wr W25
  have F_a1_name : Fld Z h24 a1 "com/example/paretolio/paretolio/portfolio/ProjectGroup" "name" "Ljava/lang/String;" (.ref a2) := F_a1_name.other W25 (Or.inr (slot_ne (Or.inr (hw _ (List.mem_of_getElem? (i := 35) rfl))) (Or.inr (hw _ (List.mem_of_getElem? (i := 41) rfl))) (by decide) (t := (.object "java/lang/String")) (t' := .int) (by decide) (by decide)))
  have F_a1_projects : Fld Z h24 a1 "com/example/paretolio/paretolio/portfolio/ProjectGroup" "projects" "[I" (.ref a3) := F_a1_projects.other W25 (Or.inr (slot_ne (Or.inr (hw _ (List.mem_of_getElem? (i := 37) rfl))) (Or.inr (hw _ (List.mem_of_getElem? (i := 41) rfl))) (by decide) (t := (.array .int)) (t' := .int) (by decide) (by decide)))
  have F_a1_min : Fld Z h24 a1 "com/example/paretolio/paretolio/portfolio/ProjectGroup" "min" "I" (.int p4) := F_a1_min.other W25 (Or.inr (slot_ne (Or.inr (hw _ (List.mem_of_getElem? (i := 39) rfl))) (Or.inr (hw _ (List.mem_of_getElem? (i := 41) rfl))) (by decide) (t := .int) (t' := .int) (by decide) (by decide)))
  have F_a1_max : Fld Z h24 a1 "com/example/paretolio/paretolio/portfolio/ProjectGroup" "max" "I" (.int p5) := F_a1_max.same W25
  have Z0 : n0 ≤ h24.size := by rw [W25.size]; exact Z0
  have KK : Keep h0 h24 [a1] := KK.wr W25 (Or.inl (by simp))
  have A27 : own_R p l e _ _ m _ below meth c S0 n0 h24 0 0 (mkF m 25 #[.val (.ref a1), .val (.ref a2), .val (.ref a3), .val (.int p4), .val (.int p5)] []) := A26
  exact A27.retV hx hlk hret (hb hby d5_25) (by decide) (by decide) ⟨rfl, KK, F_a1_min, F_a1_max⟩
theorem d6_0 : decode prog_45_method_2_code 0 = .ok (.aload_n 0, 1) := by decide +kernel
theorem d6_1 : decode prog_45_method_2_code 1 = .ok (.getfield 17, 3) := by decide +kernel
theorem d6_4 : decode prog_45_method_2_code 4 = .ok (.iload_n 1, 1) := by decide +kernel
theorem d6_5 : decode prog_45_method_2_code 5 = .ok (.if_icmp .gt 15, 3) := by decide +kernel
theorem d6_8 : decode prog_45_method_2_code 8 = .ok (.iload_n 1, 1) := by decide +kernel
theorem d6_9 : decode prog_45_method_2_code 9 = .ok (.aload_n 0, 1) := by decide +kernel
theorem d6_10 : decode prog_45_method_2_code 10 = .ok (.getfield 21, 3) := by decide +kernel
theorem d6_13 : decode prog_45_method_2_code 13 = .ok (.if_icmp .gt 7, 3) := by decide +kernel
theorem d6_16 : decode prog_45_method_2_code 16 = .ok (.iconst 1, 1) := by decide +kernel
theorem d6_17 : decode prog_45_method_2_code 17 = .ok (.goto 4, 3) := by decide +kernel
theorem d6_20 : decode prog_45_method_2_code 20 = .ok (.iconst 0, 1) := by decide +kernel
theorem d6_21 : decode prog_45_method_2_code 21 = .ok (.ireturn, 1) := by decide +kernel
theorem ef6 (m : MethodId) (a1 : Addr) (p2 : Int32) : entryFrame m #[(.ref a1), (.int p2)] 2 = mkF m 0 #[.val (.ref a1), .val (.int p2)] [] := by first | (simp [entryFrame, mkF, argsToLocals, Value.category, maxLocals]; done) | rfl
set_option maxRecDepth 65536 in
set_option maxHeartbeats 40000000 in
theorem own_admits (l : Launch) (Z : State) (a0 : Array Value) (hw : ∀ d ∈ tables_1, d.before a0 Z = true) (a1 : Addr) (p2 lo hi : Int32) (h0 : Heap) (n0 : Nat) (Z0 : n0 ≤ h0.size) (F1 : Fld Z h0 a1 "com/example/paretolio/paretolio/portfolio/ProjectGroup" "min" "I" (.int lo)) (F2 : Fld Z h0 a1 "com/example/paretolio/paretolio/portfolio/ProjectGroup" "max" "I" (.int hi)) :
    own_M l Z (⟨"com/example/paretolio/paretolio/portfolio/ProjectGroup", "admits", "(I)Z"⟩ : MethodName) prog_45_method_2_code 2 (some .boolean) [] ({ frames := 0, cells := 0, slots := 0, locals := 0 } : Room) #[(.ref a1), (.int p2)] h0 n0 (fun v h => v = some (.int (if p2 < lo then 0 else if hi < p2 then 0 else 1)) ∧ h0 = h) := by
  refine own_M.of (plainFor_of_name (by first | (simp [plainName, overriddenIn]; done) | decide +kernel)) ?_
  intro p e s m below meth c S0 hx hby hml hown hnm hret hlk hZ A00
  have A0 := A00.cast (ef6 m a1 p2)
  have A1 := A0.go (f' := mkF m 1 #[.val (.ref a1), .val (.int p2)] [(.ref a1)]) fun _ _ X _ k => XS.aloadN X.here hx rfl (hb hby d6_0) rfl rfl k
  have A2 : own_R p l e _ _ m _ below meth c S0 n0 h0 0 0 (mkF m 4 #[.val (.ref a1), .val (.int p2)] [(.int lo)]) := A1.getF hx hZ hown (hb hby d6_1) (hw _ (List.mem_of_getElem? (i := 38) rfl)) Via.refl F1
  have A3 := A2.go (f' := mkF m 5 #[.val (.ref a1), .val (.int p2)] [(.int p2), (.int lo)]) fun _ _ X _ k => XS.iloadN X.here hx rfl (hb hby d6_4) rfl k
  by_cases q4 : p2 < lo
  · skip
    have A5 := A3.go (f' := mkF m 20 #[.val (.ref a1), .val (.int p2)] []) fun _ _ X _ k => XS.icmpYes X.here hx rfl (pc0 := 5) (pc' := 20) rfl (hb hby d6_5) rfl ((tlt q4).2.2.1) (by decide) (by decide) k
    have A6 := A5.go (f' := mkF m 21 #[.val (.ref a1), .val (.int p2)] [(.int (0 : Int32))]) fun _ _ X _ k => XS.iconst X.here hx rfl (hb hby d6_20) k
    exact A6.ret hx hlk hret (hb hby d6_21) rfl (Or.inl ⟨rfl, by simp, _, rfl⟩) (by decide) (by decide) ⟨by simp [q4], rfl⟩
  · skip
    have A7 := A3.go (f' := mkF m 8 #[.val (.ref a1), .val (.int p2)] []) fun _ _ X _ k => XS.icmpNo X.here hx rfl (hb hby d6_5) rfl ((flt q4).2.2.1) k
    have A8 := A7.go (f' := mkF m 9 #[.val (.ref a1), .val (.int p2)] [(.int p2)]) fun _ _ X _ k => XS.iloadN X.here hx rfl (hb hby d6_8) rfl k
    have A9 := A8.go (f' := mkF m 10 #[.val (.ref a1), .val (.int p2)] [(.ref a1), (.int p2)]) fun _ _ X _ k => XS.aloadN X.here hx rfl (hb hby d6_9) rfl rfl k
    have A10 : own_R p l e _ _ m _ below meth c S0 n0 h0 0 0 (mkF m 13 #[.val (.ref a1), .val (.int p2)] [(.int hi), (.int p2)]) := A9.getF hx hZ hown (hb hby d6_10) (hw _ (List.mem_of_getElem? (i := 40) rfl)) Via.refl F2
    by_cases q11 : hi < p2
    · skip
      have A12 := A10.go (f' := mkF m 20 #[.val (.ref a1), .val (.int p2)] []) fun _ _ X _ k => XS.icmpYes X.here hx rfl (pc0 := 13) (pc' := 20) rfl (hb hby d6_13) rfl ((tlt q11).2.2.1) (by decide) (by decide) k
      have A13 := A12.go (f' := mkF m 21 #[.val (.ref a1), .val (.int p2)] [(.int (0 : Int32))]) fun _ _ X _ k => XS.iconst X.here hx rfl (hb hby d6_20) k
      exact A13.ret hx hlk hret (hb hby d6_21) rfl (Or.inl ⟨rfl, by simp, _, rfl⟩) (by decide) (by decide) ⟨by simp [q4, q11], rfl⟩
    · skip
      have A14 := A10.go (f' := mkF m 16 #[.val (.ref a1), .val (.int p2)] []) fun _ _ X _ k => XS.icmpNo X.here hx rfl (hb hby d6_13) rfl ((flt q11).2.2.1) k
      have A15 := A14.go (f' := mkF m 17 #[.val (.ref a1), .val (.int p2)] [(.int (1 : Int32))]) fun _ _ X _ k => XS.iconst X.here hx rfl (hb hby d6_16) k
      have A16 := A15.go (f' := mkF m 21 #[.val (.ref a1), .val (.int p2)] [(.int (1 : Int32))]) fun _ _ X _ k => XS.goto X.here hx rfl (pc0 := 17) (pc' := 21) rfl (hb hby d6_17) (by decide) (by decide) k
      exact A16.ret hx hlk hret (hb hby d6_21) rfl (Or.inl ⟨rfl, by simp, _, rfl⟩) (by decide) (by decide) ⟨by simp [q4, q11], rfl⟩
theorem own_le (a b : Int32) : (if b < a then b else a) ≤ (if a < b then b else a) := by
  simp only [Int32.lt_iff_toInt_lt]
  rw [Int32.le_iff_toInt_le]
  split <;> split <;> omega
theorem own_plain (lo hi sv : Int32) (h : lo ≤ hi) : (if sv < lo then 0 else if hi < sv then 0 else 1) = (if (if hi < (if sv < lo then lo else sv) then hi else (if sv < lo then lo else sv)) = sv then (1 : Int32) else (0 : Int32)) := by
  rw [Int32.le_iff_toInt_le] at h
  simp only [Int32.lt_iff_toInt_lt, ← Int32.toInt_inj]
  by_cases a : sv.toInt < lo.toInt
  · have e : ¬ hi.toInt < lo.toInt := by omega
    by_cases b : lo.toInt = sv.toInt
    · omega
    · simp [a, e, b]
  · by_cases b : hi.toInt < sv.toInt
    · have c : ¬ hi.toInt = sv.toInt := by omega
      simp [a, b, c]
    · simp [a, b]
theorem pd__28I_29Z : parseMethodDescriptor "(I)Z" = some ⟨[.int], some .boolean⟩ := by decide +kernel
theorem pd__28II_29I : parseMethodDescriptor "(II)I" = some ⟨[.int, .int], some .int⟩ := by decide +kernel
theorem pd__28IIII_29I : parseMethodDescriptor "(IIII)I" = some ⟨[.int, .int, .int, .int], some .int⟩ := by decide +kernel
theorem pd__28Ljava_2flang_2fString_3b_5bIII_29V : parseMethodDescriptor "(Ljava/lang/String;[III)V" = some ⟨[(.object "java/lang/String"), (.array .int), .int, .int], none⟩ := by decide +kernel
theorem d0_0 : decode code 0 = .ok (.iload_n 0, 1) := at_0
theorem d0_1 : decode code 1 = .ok (.iload_n 1, 1) := at_1
theorem d0_2 : decode code 2 = .ok (.invokestatic 7, 3) := at_2
theorem d0_5 : decode code 5 = .ok (.istore 4, 2) := at_5
theorem d0_7 : decode code 7 = .ok (.iload_n 0, 1) := at_7
theorem d0_8 : decode code 8 = .ok (.iload_n 1, 1) := at_8
theorem d0_9 : decode code 9 = .ok (.invokestatic 13, 3) := at_9
theorem d0_12 : decode code 12 = .ok (.istore 5, 2) := at_12
theorem d0_14 : decode code 14 = .ok (.iload_n 3, 1) := at_14
theorem d0_15 : decode code 15 = .ok (.bipush 7, 2) := at_15
theorem d0_17 : decode code 17 = .ok (.iand, 1) := at_17
theorem d0_18 : decode code 18 = .ok (.iload_n 2, 1) := at_18
theorem d0_19 : decode code 19 = .ok (.iload 4, 2) := at_19
theorem d0_21 : decode code 21 = .ok (.iload 5, 2) := at_21
theorem d0_23 : decode code 23 = .ok (.invokestatic 16, 3) := at_23
theorem d0_26 : decode code 26 = .ok (.istore 6, 2) := at_26
theorem d0_28 : decode code 28 = .ok (.new 22, 3) := at_28
theorem d0_31 : decode code 31 = .ok (.dup, 1) := at_31
theorem d0_32 : decode code 32 = .ok (.ldc 24, 2) := at_32
theorem d0_34 : decode code 34 = .ok (.iconst 2, 1) := at_34
theorem d0_35 : decode code 35 = .ok (.newarray .int, 2) := at_35
theorem d0_37 : decode code 37 = .ok (.dup, 1) := at_37
theorem d0_38 : decode code 38 = .ok (.iconst 0, 1) := at_38
theorem d0_39 : decode code 39 = .ok (.iload_n 0, 1) := at_39
theorem d0_40 : decode code 40 = .ok (.iastore, 1) := at_40
theorem d0_41 : decode code 41 = .ok (.dup, 1) := at_41
theorem d0_42 : decode code 42 = .ok (.iconst 1, 1) := at_42
theorem d0_43 : decode code 43 = .ok (.iload_n 1, 1) := at_43
theorem d0_44 : decode code 44 = .ok (.iastore, 1) := at_44
theorem d0_45 : decode code 45 = .ok (.iload 4, 2) := at_45
theorem d0_47 : decode code 47 = .ok (.iload 5, 2) := at_47
theorem d0_49 : decode code 49 = .ok (.invokespecial 26, 3) := at_49
theorem d0_52 : decode code 52 = .ok (.astore 7, 2) := at_52
theorem d0_54 : decode code 54 = .ok (.iload 6, 2) := at_54
theorem d0_56 : decode code 56 = .ok (.iload 4, 2) := at_56
theorem d0_58 : decode code 58 = .ok (.invokestatic 13, 3) := at_58
theorem d0_61 : decode code 61 = .ok (.iload 5, 2) := at_61
theorem d0_63 : decode code 63 = .ok (.invokestatic 7, 3) := at_63
theorem d0_66 : decode code 66 = .ok (.iload 6, 2) := at_66
theorem d0_68 : decode code 68 = .ok (.if_icmp .ne 7, 3) := at_68
theorem d0_71 : decode code 71 = .ok (.iconst 1, 1) := at_71
theorem d0_72 : decode code 72 = .ok (.goto 4, 3) := at_72
theorem d0_75 : decode code 75 = .ok (.iconst 0, 1) := at_75
theorem d0_76 : decode code 76 = .ok (.istore 8, 2) := at_76
theorem d0_78 : decode code 78 = .ok (.aload 7, 2) := at_78
theorem d0_80 : decode code 80 = .ok (.iload 6, 2) := at_80
theorem d0_82 : decode code 82 = .ok (.invokevirtual 29, 3) := at_82
theorem d0_85 : decode code 85 = .ok (.iload 8, 2) := at_85
theorem d0_87 : decode code 87 = .ok (.if_icmp .ne 7, 3) := at_87
theorem d0_90 : decode code 90 = .ok (.iconst 1, 1) := at_90
theorem d0_91 : decode code 91 = .ok (.goto 4, 3) := at_91
theorem d0_95 : decode code 95 = .ok (.ireturn, 1) := at_95
theorem ef0 (m : MethodId) (p1 : Int32) (p2 : Int32) (p3 : Int32) (p4 : Int32) : entryFrame m #[(.int p1), (.int p2), (.int p3), (.int p4)] maxLocals = mkF m 0 #[.val (.int p1), .val (.int p2), .val (.int p3), .val (.int p4), .unset, .unset, .unset, .unset, .unset] [] := by first | (simp [entryFrame, mkF, argsToLocals, Value.category, maxLocals]; done) | rfl
set_option maxRecDepth 65536 in
set_option maxHeartbeats 40000000 in
theorem own_law (l : Launch) (Z : State) (a0 : Array Value) (hw : ∀ d ∈ tables_1, d.before a0 Z = true) (p1 p2 p3 p4 : Int32) (h0 : Heap) (n0 : Nat) (Z0 : n0 ≤ h0.size) (hEL : EW Z a0 own_EL) (own_wS : ∀ a ∈ Bundle.stringAtoms, a.before a0 Z = true) :
    own_MS l Z own_EL x code maxLocals ret tables_1 room_1 #[(.int p1), (.int p2), (.int p3), (.int p4)] h0 n0 (fun v h => v = some (.int 1) ∧ True) := by
  refine own_MS.of (plainFor_of_name (by first | (simp [plainName, overriddenIn]; done) | decide +kernel)) ?_
  intro p e s m below meth c S0 vm0 k0 hx hby hml hown hnm hret hlk hZ hS hk HC A00
  have A0 := A00.cast (ef0 m p1 p2 p3 p4)
  have A1 := A0.go (f' := mkF m 1 #[.val (.int p1), .val (.int p2), .val (.int p3), .val (.int p4), .unset, .unset, .unset, .unset, .unset] [(.int p1)]) fun _ _ X _ k => XS.iloadN X.here hx rfl (hb hby d0_0) rfl k
  have A2 := A1.go (f' := mkF m 2 #[.val (.int p1), .val (.int p2), .val (.int p3), .val (.int p4), .unset, .unset, .unset, .unset, .unset] [(.int p2), (.int p1)]) fun _ _ X _ k => XS.iloadN X.here hx rfl (hb hby d0_1) rfl k
  obtain ⟨vA3, hA3, ⟨rfl, rfl⟩, A3⟩ := A2.callS (own_min l Z a0 hw p1 p2 h0 n0 Z0) hx hZ hown (hb hby d0_2) (hw _ (List.mem_of_getElem? (i := 0) rfl)) (hw _ (List.mem_of_getElem? (i := 1) rfl)) (hw _ (List.mem_of_getElem? (i := 2) rfl)) (hw _ (List.mem_of_getElem? (i := 3) rfl)) ⟨by decide, by decide⟩ (lenOf pd__28II_29I rfl) (argsL := [(.int p1), (.int p2)]) (rest := []) rfl rfl (by rw [hml]; rfl) (W := 0) (Nat.le_of_eq rfl) (by decide) (by decide) (by decide) (by decide)
  have A4 : own_R p l e _ _ m _ below meth c S0 n0 h0 0 0 (mkF m 5 #[.val (.int p1), .val (.int p2), .val (.int p3), .val (.int p4), .unset, .unset, .unset, .unset, .unset] [(.int (if p2 < p1 then p2 else p1))]) := A3
  obtain ⟨lo, hlo⟩ : ∃ zq_, zq_ = (if p2 < p1 then p2 else p1) := ⟨_, rfl⟩
  rw [← hlo] at A4
  have A5 := A4.go (f' := mkF m 7 #[.val (.int p1), .val (.int p2), .val (.int p3), .val (.int p4), .val (.int lo), .unset, .unset, .unset, .unset] []) fun _ _ X _ k => XS.istore X.here hx rfl (hb hby d0_5) rfl (l' := #[.val (.int p1), .val (.int p2), .val (.int p3), .val (.int p4), .val (.int lo), .unset, .unset, .unset, .unset]) rfl k
  have A6 := A5.go (f' := mkF m 8 #[.val (.int p1), .val (.int p2), .val (.int p3), .val (.int p4), .val (.int lo), .unset, .unset, .unset, .unset] [(.int p1)]) fun _ _ X _ k => XS.iloadN X.here hx rfl (hb hby d0_7) rfl k
  have A7 := A6.go (f' := mkF m 9 #[.val (.int p1), .val (.int p2), .val (.int p3), .val (.int p4), .val (.int lo), .unset, .unset, .unset, .unset] [(.int p2), (.int p1)]) fun _ _ X _ k => XS.iloadN X.here hx rfl (hb hby d0_8) rfl k
  obtain ⟨vA8, hA8, ⟨rfl, rfl⟩, A8⟩ := A7.callS (own_max l Z a0 hw p1 p2 h0 n0 Z0) hx hZ hown (hb hby d0_9) (hw _ (List.mem_of_getElem? (i := 4) rfl)) (hw _ (List.mem_of_getElem? (i := 5) rfl)) (hw _ (List.mem_of_getElem? (i := 2) rfl)) (hw _ (List.mem_of_getElem? (i := 6) rfl)) ⟨by decide, by decide⟩ (lenOf pd__28II_29I rfl) (argsL := [(.int p1), (.int p2)]) (rest := []) rfl rfl (by rw [hml]; rfl) (W := 0) (Nat.le_of_eq rfl) (by decide) (by decide) (by decide) (by decide)
  have A9 : own_R p l e _ _ m _ below meth c S0 n0 h0 0 0 (mkF m 12 #[.val (.int p1), .val (.int p2), .val (.int p3), .val (.int p4), .val (.int lo), .unset, .unset, .unset, .unset] [(.int (if p1 < p2 then p2 else p1))]) := A8
  obtain ⟨hi, hhi⟩ : ∃ zq_, zq_ = (if p1 < p2 then p2 else p1) := ⟨_, rfl⟩
  rw [← hhi] at A9
  have A10 := A9.go (f' := mkF m 14 #[.val (.int p1), .val (.int p2), .val (.int p3), .val (.int p4), .val (.int lo), .val (.int hi), .unset, .unset, .unset] []) fun _ _ X _ k => XS.istore X.here hx rfl (hb hby d0_12) rfl (l' := #[.val (.int p1), .val (.int p2), .val (.int p3), .val (.int p4), .val (.int lo), .val (.int hi), .unset, .unset, .unset]) rfl k
  have A11 := A10.go (f' := mkF m 15 #[.val (.int p1), .val (.int p2), .val (.int p3), .val (.int p4), .val (.int lo), .val (.int hi), .unset, .unset, .unset] [(.int p4)]) fun _ _ X _ k => XS.iloadN X.here hx rfl (hb hby d0_14) rfl k
  have A12 := A11.go (f' := mkF m 17 #[.val (.int p1), .val (.int p2), .val (.int p3), .val (.int p4), .val (.int lo), .val (.int hi), .unset, .unset, .unset] [(.int (7 : Int32)), (.int p4)]) fun _ _ X _ k => XS.bipush X.here hx rfl (hb hby d0_15) k
  have A13 := A12.go (f' := mkF m 18 #[.val (.int p1), .val (.int p2), .val (.int p3), .val (.int p4), .val (.int lo), .val (.int hi), .unset, .unset, .unset] [(.int (p4 &&& (7 : Int32)))]) fun _ _ X _ k => XS.iand X.here hx rfl (hb hby d0_17) rfl k
  have A14 := A13.go (f' := mkF m 19 #[.val (.int p1), .val (.int p2), .val (.int p3), .val (.int p4), .val (.int lo), .val (.int hi), .unset, .unset, .unset] [(.int p3), (.int (p4 &&& (7 : Int32)))]) fun _ _ X _ k => XS.iloadN X.here hx rfl (hb hby d0_18) rfl k
  have A15 := A14.go (f' := mkF m 21 #[.val (.int p1), .val (.int p2), .val (.int p3), .val (.int p4), .val (.int lo), .val (.int hi), .unset, .unset, .unset] [(.int lo), (.int p3), (.int (p4 &&& (7 : Int32)))]) fun _ _ X _ k => XS.iload X.here hx rfl (hb hby d0_19) rfl k
  have A16 := A15.go (f' := mkF m 23 #[.val (.int p1), .val (.int p2), .val (.int p3), .val (.int p4), .val (.int lo), .val (.int hi), .unset, .unset, .unset] [(.int hi), (.int lo), (.int p3), (.int (p4 &&& (7 : Int32)))]) fun _ _ X _ k => XS.iload X.here hx rfl (hb hby d0_21) rfl k
  obtain ⟨vA17, hA17, ⟨sv, rfl, rfl⟩, A17⟩ := A16.callS (own_pick l Z a0 hw (p4 &&& (7 : Int32)) p3 lo hi h0 n0 Z0) hx hZ hown (hb hby d0_23) (hw _ (List.mem_of_getElem? (i := 7) rfl)) (hw _ (List.mem_of_getElem? (i := 8) rfl)) (hw _ (List.mem_of_getElem? (i := 9) rfl)) (hw _ (List.mem_of_getElem? (i := 10) rfl)) ⟨by decide, by decide⟩ (lenOf pd__28IIII_29I rfl) (argsL := [(.int (p4 &&& (7 : Int32))), (.int p3), (.int lo), (.int hi)]) (rest := []) rfl rfl (by rw [hml]; rfl) (W := 0) (Nat.le_of_eq rfl) (by decide) (by decide) (by decide) (by decide)
  have A18 : own_R p l e _ _ m _ below meth c S0 n0 h0 0 0 (mkF m 26 #[.val (.int p1), .val (.int p2), .val (.int p3), .val (.int p4), .val (.int lo), .val (.int hi), .unset, .unset, .unset] [(.int sv)]) := A17
  have A19 := A18.go (f' := mkF m 28 #[.val (.int p1), .val (.int p2), .val (.int p3), .val (.int p4), .val (.int lo), .val (.int hi), .val (.int sv), .unset, .unset] []) fun _ _ X _ k => XS.istore X.here hx rfl (hb hby d0_26) rfl (l' := #[.val (.int p1), .val (.int p2), .val (.int p3), .val (.int p4), .val (.int lo), .val (.int hi), .val (.int sv), .unset, .unset]) rfl k
  obtain ⟨h20, E21, E_xg, D_xg, A22⟩ := A19.newO hx hZ hown (hb hby d0_28) (hw _ (List.mem_of_getElem? (i := 11) rfl)) (hw _ (List.mem_of_getElem? (i := 12) rfl)) (hw _ (List.mem_of_getElem? (i := 13) rfl)) (by decide) (by decide)
  obtain ⟨xg, gxg⟩ : ∃ z, z = h0.size := ⟨_, rfl⟩
  rw [← gxg] at E_xg D_xg A22
  have g_xg : n0 ≤ xg := by rw [gxg]; exact Z0
  have Z0 : n0 ≤ h20.size := Nat.le_trans Z0 E21.1
  have HC := HC.trans (CHr.ext E21 HC.1)
  have hk := Nat.le_trans hk E21.1
  have F_xg_name : Fld Z h20 xg "com/example/paretolio/paretolio/portfolio/ProjectGroup" "name" "Ljava/lang/String;" .null := D_xg (Or.inr (hw _ (List.mem_of_getElem? (i := 35) rfl))) (ty := (.object "java/lang/String")) (by decide)
  have F_xg_projects : Fld Z h20 xg "com/example/paretolio/paretolio/portfolio/ProjectGroup" "projects" "[I" .null := D_xg (Or.inr (hw _ (List.mem_of_getElem? (i := 37) rfl))) (ty := (.array .int)) (by decide)
  have F_xg_min : Fld Z h20 xg "com/example/paretolio/paretolio/portfolio/ProjectGroup" "min" "I" (.int (0 : Int32)) := D_xg (Or.inr (hw _ (List.mem_of_getElem? (i := 39) rfl))) (ty := .int) (by decide)
  have F_xg_max : Fld Z h20 xg "com/example/paretolio/paretolio/portfolio/ProjectGroup" "max" "I" (.int (0 : Int32)) := D_xg (Or.inr (hw _ (List.mem_of_getElem? (i := 41) rfl))) (ty := .int) (by decide)
  have A23 : own_R p l e _ _ m _ below meth c S0 n0 h20 1 4 (mkF m 31 #[.val (.int p1), .val (.int p2), .val (.int p3), .val (.int p4), .val (.int lo), .val (.int hi), .val (.int sv), .unset, .unset] [(.ref xg)]) := A22
  have A24 := A23.go (f' := mkF m 32 #[.val (.int p1), .val (.int p2), .val (.int p3), .val (.int p4), .val (.int lo), .val (.int hi), .val (.int sv), .unset, .unset] [(.ref xg), (.ref xg)]) fun _ _ X _ k => XS.dup X.here hx rfl (hb hby d0_31) rfl rfl k
  obtain ⟨xs, vmA27, kA27, h25, E26, hS, hk, hZ, hown, HC, A27⟩ := A24.ldcO hx hZ hown (hb hby d0_32) (hw _ (List.mem_of_getElem? (i := 14) rfl)) own_wS hS hk hEL HC (n := 4) (by decide) (by decide) (by decide) (by decide)
  have E_xg : Exa Z h25 xg "com/example/paretolio/paretolio/portfolio/ProjectGroup" := E_xg.ext E26
  have F_xg_name : Fld Z h25 xg "com/example/paretolio/paretolio/portfolio/ProjectGroup" "name" "Ljava/lang/String;" .null := F_xg_name.ext E26
  have F_xg_projects : Fld Z h25 xg "com/example/paretolio/paretolio/portfolio/ProjectGroup" "projects" "[I" .null := F_xg_projects.ext E26
  have F_xg_min : Fld Z h25 xg "com/example/paretolio/paretolio/portfolio/ProjectGroup" "min" "I" (.int (0 : Int32)) := F_xg_min.ext E26
  have F_xg_max : Fld Z h25 xg "com/example/paretolio/paretolio/portfolio/ProjectGroup" "max" "I" (.int (0 : Int32)) := F_xg_max.ext E26
  have Z0 : n0 ≤ h25.size := Nat.le_trans Z0 E26.1
  have A28 : own_R p l e _ _ m _ below meth c S0 n0 h25 3 12 (mkF m 34 #[.val (.int p1), .val (.int p2), .val (.int p3), .val (.int p4), .val (.int lo), .val (.int hi), .val (.int sv), .unset, .unset] [(.ref xs), (.ref xg), (.ref xg)]) := A27
  have A29 := A28.go (f' := mkF m 35 #[.val (.int p1), .val (.int p2), .val (.int p3), .val (.int p4), .val (.int lo), .val (.int hi), .val (.int sv), .unset, .unset] [(.int (2 : Int32)), (.ref xs), (.ref xg), (.ref xg)]) fun _ _ X _ k => XS.iconst X.here hx rfl (hb hby d0_34) k
  obtain ⟨h30, E31, V_xi, A32⟩ := A29.newP hx hZ (hb hby d0_35) (hw _ (List.mem_of_getElem? (i := 22) rfl)) (by decide) (cap := 2) (by decide) (by decide) (by decide) (by decide)
  obtain ⟨xi, gxi⟩ : ∃ z, z = h25.size := ⟨_, rfl⟩
  rw [← gxi] at V_xi A32
  have ne_xg_xi : xg ≠ xi := by rw [gxi]; exact Nat.ne_of_lt E_xg.lt
  have ne_xi_xg := Ne.symm ne_xg_xi
  have g_xi : n0 ≤ xi := by rw [gxi]; exact Z0
  have E_xg : Exa Z h30 xg "com/example/paretolio/paretolio/portfolio/ProjectGroup" := E_xg.ext E31
  have F_xg_name : Fld Z h30 xg "com/example/paretolio/paretolio/portfolio/ProjectGroup" "name" "Ljava/lang/String;" .null := F_xg_name.ext E31
  have F_xg_projects : Fld Z h30 xg "com/example/paretolio/paretolio/portfolio/ProjectGroup" "projects" "[I" .null := F_xg_projects.ext E31
  have F_xg_min : Fld Z h30 xg "com/example/paretolio/paretolio/portfolio/ProjectGroup" "min" "I" (.int (0 : Int32)) := F_xg_min.ext E31
  have F_xg_max : Fld Z h30 xg "com/example/paretolio/paretolio/portfolio/ProjectGroup" "max" "I" (.int (0 : Int32)) := F_xg_max.ext E31
  have Z0 : n0 ≤ h30.size := Nat.le_trans Z0 E31.1
  have HC := HC.trans (CHr.ext E31 HC.1)
  have hk := Nat.le_trans hk E31.1
  have V_xi : own_Ar Z h30 xi .int [(.int (0 : Int32)), (.int (0 : Int32))] := V_xi
  have A33 : own_R p l e _ _ m _ below meth c S0 n0 h30 4 14 (mkF m 37 #[.val (.int p1), .val (.int p2), .val (.int p3), .val (.int p4), .val (.int lo), .val (.int hi), .val (.int sv), .unset, .unset] [(.ref xi), (.ref xs), (.ref xg), (.ref xg)]) := A32
  have A34 := A33.go (f' := mkF m 38 #[.val (.int p1), .val (.int p2), .val (.int p3), .val (.int p4), .val (.int lo), .val (.int hi), .val (.int sv), .unset, .unset] [(.ref xi), (.ref xi), (.ref xs), (.ref xg), (.ref xg)]) fun _ _ X _ k => XS.dup X.here hx rfl (hb hby d0_37) rfl rfl k
  have A35 := A34.go (f' := mkF m 39 #[.val (.int p1), .val (.int p2), .val (.int p3), .val (.int p4), .val (.int lo), .val (.int hi), .val (.int sv), .unset, .unset] [(.int (0 : Int32)), (.ref xi), (.ref xi), (.ref xs), (.ref xg), (.ref xg)]) fun _ _ X _ k => XS.iconst X.here hx rfl (hb hby d0_38) k
  have A36 := A35.go (f' := mkF m 40 #[.val (.int p1), .val (.int p2), .val (.int p3), .val (.int p4), .val (.int lo), .val (.int hi), .val (.int sv), .unset, .unset] [(.int p1), (.int (0 : Int32)), (.ref xi), (.ref xi), (.ref xs), (.ref xg), (.ref xg)]) fun _ _ X _ k => XS.iloadN X.here hx rfl (hb hby d0_39) rfl k
  have SX_xi : Safe Z own_EL _ h30 xi := own_Ar.safe hZ.alike V_xi (by decide)
  obtain ⟨h37, W38, A39⟩ := A36.stI hx hZ (hb hby d0_40) V_xi (by decide) (by simp +decide) g_xi
  have E_xg : Exa Z h37 xg "com/example/paretolio/paretolio/portfolio/ProjectGroup" := E_xg.wr W38
  have F_xg_name : Fld Z h37 xg "com/example/paretolio/paretolio/portfolio/ProjectGroup" "name" "Ljava/lang/String;" .null := F_xg_name.other W38 (Or.inl ne_xg_xi)
  have F_xg_projects : Fld Z h37 xg "com/example/paretolio/paretolio/portfolio/ProjectGroup" "projects" "[I" .null := F_xg_projects.other W38 (Or.inl ne_xg_xi)
  have F_xg_min : Fld Z h37 xg "com/example/paretolio/paretolio/portfolio/ProjectGroup" "min" "I" (.int (0 : Int32)) := F_xg_min.other W38 (Or.inl ne_xg_xi)
  have F_xg_max : Fld Z h37 xg "com/example/paretolio/paretolio/portfolio/ProjectGroup" "max" "I" (.int (0 : Int32)) := F_xg_max.other W38 (Or.inl ne_xg_xi)
  have V_xi : own_Ar Z h37 xi .int [(.int p1), (.int (0 : Int32))] := V_xi.same W38
  have Z0 : n0 ≤ h37.size := by rw [W38.size]; exact Z0
  have hk := (by rw [W38.size]; exact hk : _ ≤ h37.size)
  have HC := HC.trans (CHr.wr W38 SX_xi HC.1)
  have A40 : own_R p l e _ _ m _ below meth c S0 n0 h37 4 14 (mkF m 41 #[.val (.int p1), .val (.int p2), .val (.int p3), .val (.int p4), .val (.int lo), .val (.int hi), .val (.int sv), .unset, .unset] [(.ref xi), (.ref xs), (.ref xg), (.ref xg)]) := A39
  have A41 := A40.go (f' := mkF m 42 #[.val (.int p1), .val (.int p2), .val (.int p3), .val (.int p4), .val (.int lo), .val (.int hi), .val (.int sv), .unset, .unset] [(.ref xi), (.ref xi), (.ref xs), (.ref xg), (.ref xg)]) fun _ _ X _ k => XS.dup X.here hx rfl (hb hby d0_41) rfl rfl k
  have A42 := A41.go (f' := mkF m 43 #[.val (.int p1), .val (.int p2), .val (.int p3), .val (.int p4), .val (.int lo), .val (.int hi), .val (.int sv), .unset, .unset] [(.int (1 : Int32)), (.ref xi), (.ref xi), (.ref xs), (.ref xg), (.ref xg)]) fun _ _ X _ k => XS.iconst X.here hx rfl (hb hby d0_42) k
  have A43 := A42.go (f' := mkF m 44 #[.val (.int p1), .val (.int p2), .val (.int p3), .val (.int p4), .val (.int lo), .val (.int hi), .val (.int sv), .unset, .unset] [(.int p2), (.int (1 : Int32)), (.ref xi), (.ref xi), (.ref xs), (.ref xg), (.ref xg)]) fun _ _ X _ k => XS.iloadN X.here hx rfl (hb hby d0_43) rfl k
  have SX_xi : Safe Z own_EL _ h37 xi := own_Ar.safe hZ.alike V_xi (by decide)
  obtain ⟨h44, W45, A46⟩ := A43.stI hx hZ (hb hby d0_44) V_xi (by decide) (by simp +decide) g_xi
  have E_xg : Exa Z h44 xg "com/example/paretolio/paretolio/portfolio/ProjectGroup" := E_xg.wr W45
  have F_xg_name : Fld Z h44 xg "com/example/paretolio/paretolio/portfolio/ProjectGroup" "name" "Ljava/lang/String;" .null := F_xg_name.other W45 (Or.inl ne_xg_xi)
  have F_xg_projects : Fld Z h44 xg "com/example/paretolio/paretolio/portfolio/ProjectGroup" "projects" "[I" .null := F_xg_projects.other W45 (Or.inl ne_xg_xi)
  have F_xg_min : Fld Z h44 xg "com/example/paretolio/paretolio/portfolio/ProjectGroup" "min" "I" (.int (0 : Int32)) := F_xg_min.other W45 (Or.inl ne_xg_xi)
  have F_xg_max : Fld Z h44 xg "com/example/paretolio/paretolio/portfolio/ProjectGroup" "max" "I" (.int (0 : Int32)) := F_xg_max.other W45 (Or.inl ne_xg_xi)
  have V_xi : own_Ar Z h44 xi .int [(.int p1), (.int p2)] := V_xi.same W45
  have Z0 : n0 ≤ h44.size := by rw [W45.size]; exact Z0
  have hk := (by rw [W45.size]; exact hk : _ ≤ h44.size)
  have HC := HC.trans (CHr.wr W45 SX_xi HC.1)
  have A47 : own_R p l e _ _ m _ below meth c S0 n0 h44 4 14 (mkF m 45 #[.val (.int p1), .val (.int p2), .val (.int p3), .val (.int p4), .val (.int lo), .val (.int hi), .val (.int sv), .unset, .unset] [(.ref xi), (.ref xs), (.ref xg), (.ref xg)]) := A46
  have A48 := A47.go (f' := mkF m 47 #[.val (.int p1), .val (.int p2), .val (.int p3), .val (.int p4), .val (.int lo), .val (.int hi), .val (.int sv), .unset, .unset] [(.int lo), (.ref xi), (.ref xs), (.ref xg), (.ref xg)]) fun _ _ X _ k => XS.iload X.here hx rfl (hb hby d0_45) rfl k
  have A49 := A48.go (f' := mkF m 49 #[.val (.int p1), .val (.int p2), .val (.int p3), .val (.int p4), .val (.int lo), .val (.int hi), .val (.int sv), .unset, .unset] [(.int hi), (.int lo), (.ref xi), (.ref xs), (.ref xg), (.ref xg)]) fun _ _ X _ k => XS.iload X.here hx rfl (hb hby d0_47) rfl k
  have SX_xg : Safe Z own_EL _ h44 xg := Safe.exa hZ.alike E_xg (by decide) (by decide)
  obtain ⟨vA50, hA50, ⟨rfl, KI, F_min, F_max⟩, A50⟩ := A49.callI (b := xg) (own_init l Z a0 hw xg xs xi lo hi h44 n0 Z0 E_xg F_xg_name F_xg_projects F_xg_min F_xg_max g_xg) hx hZ hown (hb hby d0_49) rfl (hw _ (List.mem_of_getElem? (i := 23) rfl)) (hw _ (List.mem_of_getElem? (i := 24) rfl)) (hw _ (List.mem_of_getElem? (i := 25) rfl)) (hw _ (List.mem_of_getElem? (i := 13) rfl)) ⟨by decide, by decide⟩ (lenOf pd__28Ljava_2flang_2fString_3b_5bIII_29V rfl) (argsL := [(.ref xs), (.ref xi), (.int lo), (.int hi)]) (rest := [(.ref xg)]) rfl rfl (by rw [hml]; rfl) (W := 1) (Nat.le_of_eq rfl) (by decide) (by decide) (by decide) (by decide)
  have E_xg : Exa Z hA50 xg "com/example/paretolio/paretolio/portfolio/ProjectGroup" := E_xg.keep KI
  have V_xi : own_Ar Z hA50 xi .int [(.int p1), (.int p2)] := V_xi.keep KI (ninS ne_xi_xg nin0)
  have Z0 : n0 ≤ hA50.size := Nat.le_trans Z0 KI.1
  have hk := Nat.le_trans hk KI.1
  have HC := HC.trans (CHr.keep KI (allS SX_xg all0) HC.1)
  have F_xg_min := F_min
  have F_xg_max := F_max
  have A51 : own_R p l e _ _ m _ below meth c S0 n0 hA50 4 14 (mkF m 52 #[.val (.int p1), .val (.int p2), .val (.int p3), .val (.int p4), .val (.int lo), .val (.int hi), .val (.int sv), .unset, .unset] [(.ref xg)]) := A50
  have A52 := A51.go (f' := mkF m 54 #[.val (.int p1), .val (.int p2), .val (.int p3), .val (.int p4), .val (.int lo), .val (.int hi), .val (.int sv), .val (.ref xg), .unset] []) fun _ _ X _ k => XS.astore X.here hx rfl (hb hby d0_52) rfl rfl (l' := #[.val (.int p1), .val (.int p2), .val (.int p3), .val (.int p4), .val (.int lo), .val (.int hi), .val (.int sv), .val (.ref xg), .unset]) rfl k
  have A53 := A52.go (f' := mkF m 56 #[.val (.int p1), .val (.int p2), .val (.int p3), .val (.int p4), .val (.int lo), .val (.int hi), .val (.int sv), .val (.ref xg), .unset] [(.int sv)]) fun _ _ X _ k => XS.iload X.here hx rfl (hb hby d0_54) rfl k
  have A54 := A53.go (f' := mkF m 58 #[.val (.int p1), .val (.int p2), .val (.int p3), .val (.int p4), .val (.int lo), .val (.int hi), .val (.int sv), .val (.ref xg), .unset] [(.int lo), (.int sv)]) fun _ _ X _ k => XS.iload X.here hx rfl (hb hby d0_56) rfl k
  obtain ⟨vA55, hA55, ⟨rfl, rfl⟩, A55⟩ := A54.callS (own_max l Z a0 hw sv lo hA50 n0 Z0) hx hZ hown (hb hby d0_58) (hw _ (List.mem_of_getElem? (i := 4) rfl)) (hw _ (List.mem_of_getElem? (i := 5) rfl)) (hw _ (List.mem_of_getElem? (i := 2) rfl)) (hw _ (List.mem_of_getElem? (i := 6) rfl)) ⟨by decide, by decide⟩ (lenOf pd__28II_29I rfl) (argsL := [(.int sv), (.int lo)]) (rest := []) rfl rfl (by rw [hml]; rfl) (W := 0) (Nat.le_of_eq rfl) (by decide) (by decide) (by decide) (by decide)
  have A56 : own_R p l e _ _ m _ below meth c S0 n0 hA50 4 14 (mkF m 61 #[.val (.int p1), .val (.int p2), .val (.int p3), .val (.int p4), .val (.int lo), .val (.int hi), .val (.int sv), .val (.ref xg), .unset] [(.int (if sv < lo then lo else sv))]) := A55
  have A57 := A56.go (f' := mkF m 63 #[.val (.int p1), .val (.int p2), .val (.int p3), .val (.int p4), .val (.int lo), .val (.int hi), .val (.int sv), .val (.ref xg), .unset] [(.int hi), (.int (if sv < lo then lo else sv))]) fun _ _ X _ k => XS.iload X.here hx rfl (hb hby d0_61) rfl k
  obtain ⟨vA58, hA58, ⟨rfl, rfl⟩, A58⟩ := A57.callS (own_min l Z a0 hw (if sv < lo then lo else sv) hi hA50 n0 Z0) hx hZ hown (hb hby d0_63) (hw _ (List.mem_of_getElem? (i := 0) rfl)) (hw _ (List.mem_of_getElem? (i := 1) rfl)) (hw _ (List.mem_of_getElem? (i := 2) rfl)) (hw _ (List.mem_of_getElem? (i := 3) rfl)) ⟨by decide, by decide⟩ (lenOf pd__28II_29I rfl) (argsL := [(.int (if sv < lo then lo else sv)), (.int hi)]) (rest := []) rfl rfl (by rw [hml]; rfl) (W := 0) (Nat.le_of_eq rfl) (by decide) (by decide) (by decide) (by decide)
  have A59 : own_R p l e _ _ m _ below meth c S0 n0 hA50 4 14 (mkF m 66 #[.val (.int p1), .val (.int p2), .val (.int p3), .val (.int p4), .val (.int lo), .val (.int hi), .val (.int sv), .val (.ref xg), .unset] [(.int (if hi < (if sv < lo then lo else sv) then hi else (if sv < lo then lo else sv)))]) := A58
  have A60 := A59.go (f' := mkF m 68 #[.val (.int p1), .val (.int p2), .val (.int p3), .val (.int p4), .val (.int lo), .val (.int hi), .val (.int sv), .val (.ref xg), .unset] [(.int sv), (.int (if hi < (if sv < lo then lo else sv) then hi else (if sv < lo then lo else sv)))]) fun _ _ X _ k => XS.iload X.here hx rfl (hb hby d0_66) rfl k
  have A62 : own_R p l e room_1 (s.setVm vmA27) m #[(.int p1), (.int p2), (.int p3), (.int p4)] below meth c S0 n0 hA50 4 14 (mkF m 76 #[.val (.int p1), .val (.int p2), .val (.int p3), .val (.int p4), .val (.int lo), .val (.int hi), .val (.int sv), .val (.ref xg), .unset] [(.int (if (if hi < (if sv < lo then lo else sv) then hi else (if sv < lo then lo else sv)) = sv then (1 : Int32) else (0 : Int32)))]) := by
    by_cases q61 : (if hi < (if sv < lo then lo else sv) then hi else (if sv < lo then lo else sv)) = sv
    · skip
      have A63 := A60.go (f' := mkF m 71 #[.val (.int p1), .val (.int p2), .val (.int p3), .val (.int p4), .val (.int lo), .val (.int hi), .val (.int sv), .val (.ref xg), .unset] []) fun _ _ X _ k => XS.icmpNo X.here hx rfl (hb hby d0_68) rfl ((teq q61).2) k
      have A64 := A63.go (f' := mkF m 72 #[.val (.int p1), .val (.int p2), .val (.int p3), .val (.int p4), .val (.int lo), .val (.int hi), .val (.int sv), .val (.ref xg), .unset] [(.int (1 : Int32))]) fun _ _ X _ k => XS.iconst X.here hx rfl (hb hby d0_71) k
      have A65 := A64.go (f' := mkF m 76 #[.val (.int p1), .val (.int p2), .val (.int p3), .val (.int p4), .val (.int lo), .val (.int hi), .val (.int sv), .val (.ref xg), .unset] [(.int (1 : Int32))]) fun _ _ X _ k => XS.goto X.here hx rfl (pc0 := 72) (pc' := 76) rfl (hb hby d0_72) (by decide) (by decide) k
      simp only [if_pos q61]
      exact A65
    · skip
      have A66 := A60.go (f' := mkF m 75 #[.val (.int p1), .val (.int p2), .val (.int p3), .val (.int p4), .val (.int lo), .val (.int hi), .val (.int sv), .val (.ref xg), .unset] []) fun _ _ X _ k => XS.icmpYes X.here hx rfl (pc0 := 68) (pc' := 75) rfl (hb hby d0_68) rfl ((feq q61).2) (by decide) (by decide) k
      have A67 := A66.go (f' := mkF m 76 #[.val (.int p1), .val (.int p2), .val (.int p3), .val (.int p4), .val (.int lo), .val (.int hi), .val (.int sv), .val (.ref xg), .unset] [(.int (0 : Int32))]) fun _ _ X _ k => XS.iconst X.here hx rfl (hb hby d0_75) k
      simp only [if_neg q61]
      exact A67
  have A68 := A62.go (f' := mkF m 78 #[.val (.int p1), .val (.int p2), .val (.int p3), .val (.int p4), .val (.int lo), .val (.int hi), .val (.int sv), .val (.ref xg), .val (.int (if (if hi < (if sv < lo then lo else sv) then hi else (if sv < lo then lo else sv)) = sv then (1 : Int32) else (0 : Int32)))] []) fun _ _ X _ k => XS.istore X.here hx rfl (hb hby d0_76) rfl (l' := #[.val (.int p1), .val (.int p2), .val (.int p3), .val (.int p4), .val (.int lo), .val (.int hi), .val (.int sv), .val (.ref xg), .val (.int (if (if hi < (if sv < lo then lo else sv) then hi else (if sv < lo then lo else sv)) = sv then (1 : Int32) else (0 : Int32)))]) rfl k
  have A69 := A68.go (f' := mkF m 80 #[.val (.int p1), .val (.int p2), .val (.int p3), .val (.int p4), .val (.int lo), .val (.int hi), .val (.int sv), .val (.ref xg), .val (.int (if (if hi < (if sv < lo then lo else sv) then hi else (if sv < lo then lo else sv)) = sv then (1 : Int32) else (0 : Int32)))] [(.ref xg)]) fun _ _ X _ k => XS.aload X.here hx rfl (hb hby d0_78) rfl rfl k
  have A70 := A69.go (f' := mkF m 82 #[.val (.int p1), .val (.int p2), .val (.int p3), .val (.int p4), .val (.int lo), .val (.int hi), .val (.int sv), .val (.ref xg), .val (.int (if (if hi < (if sv < lo then lo else sv) then hi else (if sv < lo then lo else sv)) = sv then (1 : Int32) else (0 : Int32)))] [(.int sv), (.ref xg)]) fun _ _ X _ k => XS.iload X.here hx rfl (hb hby d0_80) rfl k
  obtain ⟨vA71, hA71, ⟨rfl, rfl⟩, A71⟩ := A70.callV (b := xg) (own_admits l Z a0 hw xg sv lo hi hA50 n0 Z0 F_xg_min F_xg_max) E_xg hx hZ hown (hb hby d0_82) (hw _ (List.mem_of_getElem? (i := 42) rfl)) (hw _ (List.mem_of_getElem? (i := 43) rfl)) (hw _ (List.mem_of_getElem? (i := 45) rfl)) (hw _ (List.mem_of_getElem? (i := 44) rfl)) (hw _ (List.mem_of_getElem? (i := 46) rfl)) (hw _ (List.mem_of_getElem? (i := 13) rfl)) (fun _ q => notFace_of_selects (args := #[]) (mvT q (hw _ (List.mem_of_getElem? (i := 45) rfl)))) ⟨by decide, by decide⟩ (lenOf pd__28I_29Z rfl) (argsL := [(.int sv)]) (rest := []) rfl rfl (by rw [hml]; rfl) (W := 0) (Nat.le_of_eq rfl) (by decide) (by decide) (by decide) (by decide)
  have A72 : own_R p l e _ _ m _ below meth c S0 n0 hA50 4 14 (mkF m 85 #[.val (.int p1), .val (.int p2), .val (.int p3), .val (.int p4), .val (.int lo), .val (.int hi), .val (.int sv), .val (.ref xg), .val (.int (if (if hi < (if sv < lo then lo else sv) then hi else (if sv < lo then lo else sv)) = sv then (1 : Int32) else (0 : Int32)))] [(.int (if sv < lo then 0 else if hi < sv then 0 else 1))]) := A71
  have A73 := A72.go (f' := mkF m 87 #[.val (.int p1), .val (.int p2), .val (.int p3), .val (.int p4), .val (.int lo), .val (.int hi), .val (.int sv), .val (.ref xg), .val (.int (if (if hi < (if sv < lo then lo else sv) then hi else (if sv < lo then lo else sv)) = sv then (1 : Int32) else (0 : Int32)))] [(.int (if (if hi < (if sv < lo then lo else sv) then hi else (if sv < lo then lo else sv)) = sv then (1 : Int32) else (0 : Int32))), (.int (if sv < lo then 0 else if hi < sv then 0 else 1))]) fun _ _ X _ k => XS.iload X.here hx rfl (hb hby d0_85) rfl k
  have q74 : ((if sv < lo then 0 else if hi < sv then 0 else 1) = (if (if hi < (if sv < lo then lo else sv) then hi else (if sv < lo then lo else sv)) = sv then (1 : Int32) else (0 : Int32))) := own_plain lo hi sv (by rw [hlo, hhi]; exact own_le p1 p2)
  have A75 := A73.go (f' := mkF m 90 #[.val (.int p1), .val (.int p2), .val (.int p3), .val (.int p4), .val (.int lo), .val (.int hi), .val (.int sv), .val (.ref xg), .val (.int (if (if hi < (if sv < lo then lo else sv) then hi else (if sv < lo then lo else sv)) = sv then (1 : Int32) else (0 : Int32)))] []) fun _ _ X _ k => XS.icmpNo X.here hx rfl (hb hby d0_87) rfl ((teq q74).2) k
  have A76 := A75.go (f' := mkF m 91 #[.val (.int p1), .val (.int p2), .val (.int p3), .val (.int p4), .val (.int lo), .val (.int hi), .val (.int sv), .val (.ref xg), .val (.int (if (if hi < (if sv < lo then lo else sv) then hi else (if sv < lo then lo else sv)) = sv then (1 : Int32) else (0 : Int32)))] [(.int (1 : Int32))]) fun _ _ X _ k => XS.iconst X.here hx rfl (hb hby d0_90) k
  have A77 := A76.go (f' := mkF m 95 #[.val (.int p1), .val (.int p2), .val (.int p3), .val (.int p4), .val (.int lo), .val (.int hi), .val (.int sv), .val (.ref xg), .val (.int (if (if hi < (if sv < lo then lo else sv) then hi else (if sv < lo then lo else sv)) = sv then (1 : Int32) else (0 : Int32)))] [(.int (1 : Int32))]) fun _ _ X _ k => XS.goto X.here hx rfl (pc0 := 91) (pc' := 95) rfl (hb hby d0_91) (by decide) (by decide) k
  exact A77.retSS hx hlk hZ hS hk hEL HC hret (hb hby d0_95) rfl (Or.inl ⟨rfl, by simp, _, rfl⟩) (by decide) (by decide) ⟨rfl, trivial⟩
set_option maxRecDepth 65536 in
set_option maxHeartbeats 40000000 in
theorem comes_1 {Post : Tables → Env → Array Value → State → Outcome → State → Prop} (hpost : ∀ tb e args s v u, (limb_1_1.after args s (.returned v) u = true ∧ limb_1_2.after args s (.returned v) u = true ∧ True) → ReturnedEndW s (.returned v) u (Jvm.fieldLocs frame_1_writes args s ++ Jvm.arrayLocs frame_1_arrays args s ++ Jvm.staticLocs frame_1_statics s) 16 1152 → Post tb e args s (.returned v) u) :
    ArmFor flags0 classFile x code maxLocals ret World_1 tables_1 room_1 Calls_1 rest_1 Pre_1 Post := by
  intro l hfl _ _ p e ha hc hk s m args below hf hA hF happ hP
  obtain ⟨hcalls, hrest, hpre⟩ := hP
  obtain ⟨-, -, -, hnamed, -, -, -, hat⟩ := (Spec.applies_iff hf).mp happ
  obtain ⟨hg, hn⟩ := and_e (Cond.before_iff.mp (show (Jvm.Cond.and given_1 narrow_1).before args s = true from hpre))
  obtain ⟨h1, g0⟩ := and_e hg
  obtain ⟨w0, w1, w2, w3, rfl⟩ : ∃ w0 w1 w2 w3 : Value, args = #[w0, w1, w2, w3] := by
    have hs : args.size = 4 := by simpa [Cond.value, given_1] using h1
    obtain ⟨L⟩ := args
    match L, hs with
    | [w0, w1, w2, w3], _ => exact ⟨w0, w1, w2, w3, rfl⟩
  have hw := fun d (hd : d ∈ tables_1) => atoms_spec (ws := Jvm.Cond.code x code maxLocals ret :: tables_1) hat d (List.mem_cons_of_mem _ hd)
  have hfit : Fit s := fun {y c} hc i hi => by
    obtain ⟨ha, rfl⟩ := Array.getElem?_eq_some_iff.mp hc
    have q := List.all_eq_true.mp ((Array.all_eq_true_iff_forall_mem.mp hF) _ (Array.getElem_mem ha)) i (List.mem_range.mpr hi)
    simpa [Array.getElem?_eq_getElem hi] using q
  obtain ⟨k0, g1⟩ := and_e g0
  obtain ⟨i0, e0⟩ := is_v k0
  obtain rfl : w0 = (.int i0) := Option.some.inj e0
  obtain ⟨k1, g2⟩ := and_e g1
  obtain ⟨i1, e1⟩ := is_v k1
  obtain rfl : w1 = (.int i1) := Option.some.inj e1
  obtain ⟨k2, g3⟩ := and_e g2
  obtain ⟨i2, e2⟩ := is_v k2
  obtain rfl : w2 = (.int i2) := Option.some.inj e2
  obtain ⟨i3, e3⟩ := is_v g3
  obtain rfl : w3 = (.int i3) := Option.some.inj e3
  have own_wS : ∀ d ∈ Bundle.stringAtoms, d.before #[(.int i0), (.int i1), (.int i2), (.int i3)] s = true := by
    intro d hd
    simp only [Bundle.stringAtoms, List.mem_cons, List.not_mem_nil, or_false] at hd
    rcases hd with rfl | rfl | rfl | rfl | rfl | rfl | rfl
    · exact (hw _ (List.mem_of_getElem? (i := 15) rfl))
    · exact (hw _ (List.mem_of_getElem? (i := 16) rfl))
    · exact (hw _ (List.mem_of_getElem? (i := 17) rfl))
    · exact (hw _ (List.mem_of_getElem? (i := 18) rfl))
    · exact (hw _ (List.mem_of_getElem? (i := 19) rfl))
    · exact (hw _ (List.mem_of_getElem? (i := 20) rfl))
    · exact (hw _ (List.mem_of_getElem? (i := 21) rfl))
  obtain ⟨n, o, h1, h2, h3, _, L, rfl, ⟨⟨rfl, -⟩, N⟩, -, hq⟩ := (own_law l s _ hw i0 i1 i2 i3 s.heap s.heap.size (Nat.le_refl _) EW.nil own_wS) p e ha hc hk s m _ below hf ((Spec.applies_iff_loose hf).mp happ).1 ⟨rfl, State.Warmed39.refl s, rfl, (fun p hp => by cases hp)⟩ trivial
  refine ⟨n, _, h1, h2, h3, hpost _ _ _ _ _ _ ⟨Cond.after_iff.mpr rfl, Cond.after_iff.mpr (eq_i res_at (Term.int_eval (1)) rfl), trivial⟩ ⟨hq.1, hq.2.1, hq.2.2.1, (hq.2.2.2.sift fun y hy => Or.inr (N y hy)).mono (by decide) (by decide)⟩⟩
theorem main_1_1 : Claimed_1_1 := comes_1 fun _ _ _ _ _ _ h hF => ⟨h.1, hF⟩
theorem main_1_2 : Claimed_1_2 := comes_1 fun _ _ _ _ _ _ h hF => ⟨h.2.1, hF⟩
end Jvm.Pilot.@@N@@
namespace Jvm.Pilot.@@N@@
open Jvm Jvm.ClassFile Sem Op Lib Jvm.Free Jvm.Stand Jvm.Pilot.@@N@@.Jvm.D
/-! MADE BY PROGRAM (witnessworld.py) out of the Statement's table words and the real class files: 16 classes; the members and pool entries that the words name. The judged class is class 1, her method 1. -/
namespace start1
open Jvm.ClassFile
def u (s : String) : CpInfo := .utf8 (stringToUtf16 s)
/-- a pool by its gaps: so many unusable entries, then the entry; so many at the end -/
def gap : Nat → List CpInfo → List CpInfo
  | 0, r => r
  | n + 1, r => .unusable :: gap n r
def poolList (es : List (Nat × CpInfo)) (last : Nat) : List CpInfo := es.foldr (fun e r => gap e.1 (e.2 :: r)) (gap last [])
def pool (es : List (Nat × CpInfo)) (last : Nat) : Array CpInfo := ⟨poolList es last⟩
def fileOf (pool : Array CpInfo) (this : Nat) (attrs : Array Attribute := #[]) (ms : Array MethodInfo := #[]) (fl : Nat := 33) (sup : Nat := 0) (ifs : Array Nat := #[]) (fds : Array FieldInfo := #[]) : ClassFile where
  minorVersion := 0
  majorVersion := 65
  constantPool := pool
  accessFlags := fl
  thisClass := this
  superClass := sup
  interfaces := ifs
  fields := fds
  methods := ms
  attributes := attrs
def plain (name : String) (sup : Option ClassId) : Class where
  name := name
  kind := .ordinary
  loader := none
  accessFlags := 33
  super := sup
  interfaces := #[]
  cf := none
  fields := #[]
  methods := #[]
  instanceTypes := #[]
  staticTypes := #[]
  resolved := #[]
  callSites := []
  init := .initialized
  statics := none
  mirror := none

def pool0 : Array CpInfo := pool [(5, u "<init>"), (0, u "()V"), (1, .class_ 10), (1, u "java/lang/Object")] 113

def k0c0 : Code := { maxStack := 0, maxLocals := 1, code := object_method_1_code, exceptionTable := #[], attributes := #[] }
def k0m0 : Method := { name := "<init>", desc := "()V", sig := { parameters := [], returnType := none }, accessFlags := 1, code := some k0c0 }
/-- java/lang/Object -/
def k0 : Class := { plain "java/lang/Object" none with
  accessFlags := 33
  interfaces := #[]
  cf := some (fileOf pool0 8 #[] #[{ accessFlags := 1, nameIndex := 5, descriptorIndex := 6, attributes := #[] }] 33 0 #[] #[])
  fields := #[]
  methods := #[k0m0]
  instanceTypes := #[]
  staticTypes := #[]
  resolved := Array.replicate 124 none
  statics := none }

def pool1 : Array CpInfo := pool [(2, .class_ 4), (1, u "java/lang/Object"), (0, u "<init>"), (0, u "()V"), (0, .methodref 8 9), (0, .class_ 10), (0, .nameAndType 11 12), (0, u "java/lang/Math"), (0, u "min"), (0, u "(II)I"), (0, .methodref 8 14), (0, .nameAndType 15 12), (0, u "max"), (0, .methodref 17 18), (0, .class_ 19), (0, .nameAndType 20 21), (0, u "com/example/paretolio/paretolio/portfolio/ProjectGroupAdmitsPinLaw"), (0, u "pick"), (0, u "(IIII)I"), (0, .class_ 23), (0, u "com/example/paretolio/paretolio/portfolio/ProjectGroup"), (0, .string 25), (0, u "g"), (0, .methodref 22 27), (0, .nameAndType 5 28), (0, u "(Ljava/lang/String;[III)V"), (0, .methodref 22 30), (0, .nameAndType 31 32), (0, u "admits"), (0, u "(I)Z"), (2, u "law"), (0, u "(IIII)Z")] 3

def k1m0 : Method := { name := "<init>", desc := "()V", sig := { parameters := [], returnType := none }, accessFlags := 1, code := none }
def k1c1 : Code := { maxStack := 7, maxLocals := 9, code := code, exceptionTable := #[], attributes := #[] }
def k1m1 : Method := { name := "law", desc := "(IIII)Z", sig := { parameters := [.int, .int, .int, .int], returnType := some .boolean }, accessFlags := 9, code := some k1c1 }
def k1c2 : Code := { maxStack := 2, maxLocals := 4, code := method_3_code, exceptionTable := #[], attributes := #[] }
def k1m2 : Method := { name := "pick", desc := "(IIII)I", sig := { parameters := [.int, .int, .int, .int], returnType := some .int }, accessFlags := 10, code := some k1c2 }
/-- com/example/paretolio/paretolio/portfolio/ProjectGroupAdmitsPinLaw -/
def k1 : Class := { plain "com/example/paretolio/paretolio/portfolio/ProjectGroupAdmitsPinLaw" (some 0) with
  accessFlags := 49
  interfaces := #[]
  cf := some (fileOf pool1 17 #[] #[{ accessFlags := 1, nameIndex := 5, descriptorIndex := 6, attributes := #[] }, { accessFlags := 9, nameIndex := 35, descriptorIndex := 36, attributes := #[] }, { accessFlags := 10, nameIndex := 20, descriptorIndex := 21, attributes := #[] }] 49 2 #[] #[])
  fields := #[]
  methods := #[k1m0, k1m1, k1m2]
  instanceTypes := #[]
  staticTypes := #[]
  resolved := Array.replicate 40 none
  statics := none }

def pool2 : Array CpInfo := pool [(1, .class_ 2), (0, u "java/lang/Math"), (1, .class_ 6), (1, u "java/lang/Object"), (0, u "<init>"), (0, u "()V"), (89, .class_ 100), (1, u "java/lang/Math$RandomNumberGeneratorHolder"), (71, u "negativeZeroFloatBits"), (0, u "J"), (2, u "negativeZeroDoubleBits"), (21, u "max"), (2, u "min"), (43, u "$assertionsDisabled"), (0, u "Z"), (88, u "(II)I"), (2, u "twoToTheDoubleScaleDown"), (0, u "D"), (4, u "twoToTheDoubleScaleUp"), (9, u "E"), (3, u "PI"), (2, u "TAU"), (2, u "DEGREES_TO_RADIANS"), (0, u "RADIANS_TO_DEGREES")] 94

def k2m0 : Method := { name := "<init>", desc := "()V", sig := { parameters := [], returnType := none }, accessFlags := 2, code := none }
def k2c1 : Code := { maxStack := 2, maxLocals := 2, code := jdk_29_method_65_code, exceptionTable := #[], attributes := #[] }
def k2m1 : Method := { name := "max", desc := "(II)I", sig := { parameters := [.int, .int], returnType := some .int }, accessFlags := 9, code := some k2c1 }
def k2c2 : Code := { maxStack := 2, maxLocals := 2, code := jdk_29_method_69_code, exceptionTable := #[], attributes := #[] }
def k2m2 : Method := { name := "min", desc := "(II)I", sig := { parameters := [.int, .int], returnType := some .int }, accessFlags := 9, code := some k2c2 }
/-- java/lang/Math -/
def k2 : Class := { plain "java/lang/Math" (some 0) with
  accessFlags := 49
  interfaces := #[]
  cf := some (fileOf pool2 1 #[.nestMembers #[98]] #[{ accessFlags := 2, nameIndex := 7, descriptorIndex := 8, attributes := #[] }, { accessFlags := 9, nameIndex := 198, descriptorIndex := 335, attributes := #[] }, { accessFlags := 9, nameIndex := 201, descriptorIndex := 335, attributes := #[] }] 49 4 #[] #[{ accessFlags := 25, nameIndex := 354, descriptorIndex := 339, attributes := #[] }, { accessFlags := 25, nameIndex := 358, descriptorIndex := 339, attributes := #[] }, { accessFlags := 25, nameIndex := 361, descriptorIndex := 339, attributes := #[] }, { accessFlags := 26, nameIndex := 364, descriptorIndex := 339, attributes := #[] }, { accessFlags := 26, nameIndex := 365, descriptorIndex := 339, attributes := #[] }, { accessFlags := 26, nameIndex := 172, descriptorIndex := 173, attributes := #[] }, { accessFlags := 26, nameIndex := 176, descriptorIndex := 173, attributes := #[] }, { accessFlags := 8, nameIndex := 344, descriptorIndex := 339, attributes := #[] }, { accessFlags := 8, nameIndex := 338, descriptorIndex := 339, attributes := #[] }, { accessFlags := 4120, nameIndex := 245, descriptorIndex := 246, attributes := #[] }])
  fields := #[{ name := "E", type := .double, accessFlags := 25, slot := 0, constantValue := 0 }, { name := "PI", type := .double, accessFlags := 25, slot := 1, constantValue := 0 }, { name := "TAU", type := .double, accessFlags := 25, slot := 2, constantValue := 0 }, { name := "DEGREES_TO_RADIANS", type := .double, accessFlags := 26, slot := 3, constantValue := 0 }, { name := "RADIANS_TO_DEGREES", type := .double, accessFlags := 26, slot := 4, constantValue := 0 }, { name := "negativeZeroFloatBits", type := .long, accessFlags := 26, slot := 5, constantValue := 0 }, { name := "negativeZeroDoubleBits", type := .long, accessFlags := 26, slot := 6, constantValue := 0 }, { name := "twoToTheDoubleScaleUp", type := .double, accessFlags := 8, slot := 7, constantValue := 0 }, { name := "twoToTheDoubleScaleDown", type := .double, accessFlags := 8, slot := 8, constantValue := 0 }, { name := "$assertionsDisabled", type := .boolean, accessFlags := 4120, slot := 9, constantValue := 0 }]
  methods := #[k2m0, k2m1, k2m2]
  instanceTypes := #[]
  staticTypes := #[.double, .double, .double, .double, .double, .long, .long, .double, .double, .boolean]
  resolved := Array.replicate 460 none
  statics := none }

def pool3 : Array CpInfo := pool [(1, .methodref 2 3), (0, .class_ 4), (0, .nameAndType 5 6), (0, u "java/lang/Object"), (0, u "<init>"), (0, u "()V"), (0, .class_ 8), (0, u "java/lang/Record")] 13

def k3c0 : Code := { maxStack := 1, maxLocals := 1, code := jdk_30_method_1_code, exceptionTable := #[], attributes := #[] }
def k3m0 : Method := { name := "<init>", desc := "()V", sig := { parameters := [], returnType := none }, accessFlags := 4, code := some k3c0 }
/-- java/lang/Record -/
def k3 : Class := { plain "java/lang/Record" (some 0) with
  accessFlags := 1057
  interfaces := #[]
  cf := some (fileOf pool3 7 #[] #[{ accessFlags := 4, nameIndex := 5, descriptorIndex := 6, attributes := #[] }] 1057 2 #[] #[])
  fields := #[]
  methods := #[k3m0]
  instanceTypes := #[]
  staticTypes := #[]
  resolved := Array.replicate 22 none
  statics := none }

def pool4 : Array CpInfo := pool [(1, .methodref 2 3), (0, .class_ 4), (0, .nameAndType 5 6), (0, u "java/lang/Record"), (0, u "<init>"), (0, u "()V"), (0, .fieldref 8 9), (0, .class_ 10), (0, .nameAndType 11 12), (0, u "com/example/paretolio/paretolio/portfolio/ProjectGroup"), (0, u "name"), (0, u "Ljava/lang/String;"), (0, .fieldref 8 14), (0, .nameAndType 15 16), (0, u "projects"), (0, u "[I"), (0, .fieldref 8 18), (0, .nameAndType 19 20), (0, u "min"), (0, u "I"), (0, .fieldref 8 22), (0, .nameAndType 23 20), (0, u "max"), (12, u "(Ljava/lang/String;[III)V"), (3, u "admits"), (0, u "(I)Z")] 28

def k4c0 : Code := { maxStack := 2, maxLocals := 5, code := prog_45_method_1_code, exceptionTable := #[], attributes := #[] }
def k4m0 : Method := { name := "<init>", desc := "(Ljava/lang/String;[III)V", sig := { parameters := [(.object "java/lang/String"), (.array .int), .int, .int], returnType := none }, accessFlags := 0, code := some k4c0 }
def k4c1 : Code := { maxStack := 2, maxLocals := 2, code := prog_45_method_2_code, exceptionTable := #[], attributes := #[] }
def k4m1 : Method := { name := "admits", desc := "(I)Z", sig := { parameters := [.int], returnType := some .boolean }, accessFlags := 0, code := some k4c1 }
/-- com/example/paretolio/paretolio/portfolio/ProjectGroup -/
def k4 : Class := { plain "com/example/paretolio/paretolio/portfolio/ProjectGroup" (some 3) with
  accessFlags := 48
  interfaces := #[]
  cf := some (fileOf pool4 8 #[] #[{ accessFlags := 0, nameIndex := 5, descriptorIndex := 36, attributes := #[] }, { accessFlags := 0, nameIndex := 40, descriptorIndex := 41, attributes := #[] }] 48 2 #[] #[{ accessFlags := 18, nameIndex := 11, descriptorIndex := 12, attributes := #[] }, { accessFlags := 18, nameIndex := 15, descriptorIndex := 16, attributes := #[] }, { accessFlags := 18, nameIndex := 19, descriptorIndex := 20, attributes := #[] }, { accessFlags := 18, nameIndex := 23, descriptorIndex := 20, attributes := #[] }])
  fields := #[{ name := "name", type := (.object "java/lang/String"), accessFlags := 18, slot := 0, constantValue := 0 }, { name := "projects", type := (.array .int), accessFlags := 18, slot := 1, constantValue := 0 }, { name := "min", type := .int, accessFlags := 18, slot := 2, constantValue := 0 }, { name := "max", type := .int, accessFlags := 18, slot := 3, constantValue := 0 }]
  methods := #[k4m0, k4m1]
  instanceTypes := #[(.object "java/lang/String"), (.array .int), .int, .int]
  staticTypes := #[]
  resolved := Array.replicate 70 none
  statics := none }

def pool5 : Array CpInfo := pool [(1, .class_ 2), (0, u "java/io/Serializable"), (0, .class_ 4), (0, u "java/lang/Object")] 2

/-- java/io/Serializable -/
def k5 : Class := { plain "java/io/Serializable" (some 0) with
  accessFlags := 1537
  interfaces := #[]
  cf := some (fileOf pool5 1 #[] #[] 1537 3 #[] #[])
  fields := #[]
  methods := #[]
  instanceTypes := #[]
  staticTypes := #[]
  resolved := Array.replicate 7 none
  statics := none }

def pool6 : Array CpInfo := pool [(1, .class_ 2), (0, u "java/lang/Comparable"), (0, .class_ 4), (0, u "java/lang/Object")] 7

/-- java/lang/Comparable -/
def k6 : Class := { plain "java/lang/Comparable" (some 0) with
  accessFlags := 1537
  interfaces := #[]
  cf := some (fileOf pool6 1 #[] #[] 1537 3 #[] #[])
  fields := #[]
  methods := #[]
  instanceTypes := #[]
  staticTypes := #[]
  resolved := Array.replicate 12 none
  statics := none }

def pool7 : Array CpInfo := pool [(2, .class_ 4), (1, u "java/lang/CharSequence"), (42, .class_ 48), (0, u "java/lang/CharSequence$1CodePointIterator"), (10, .class_ 60), (0, u "java/lang/CharSequence$1CharIterator"), (5, .class_ 67), (0, u "java/lang/Object")] 63

/-- java/lang/CharSequence -/
def k7 : Class := { plain "java/lang/CharSequence" (some 0) with
  accessFlags := 1537
  interfaces := #[]
  cf := some (fileOf pool7 2 #[.nestMembers #[47, 59]] #[] 1537 66 #[] #[])
  fields := #[]
  methods := #[]
  instanceTypes := #[]
  staticTypes := #[]
  resolved := Array.replicate 131 none
  statics := none }

def pool8 : Array CpInfo := pool [(1, .class_ 2), (0, u "java/lang/constant/Constable"), (0, .class_ 4), (0, u "java/lang/Object")] 6

/-- java/lang/constant/Constable -/
def k8 : Class := { plain "java/lang/constant/Constable" (some 0) with
  accessFlags := 1537
  interfaces := #[]
  cf := some (fileOf pool8 1 #[] #[] 1537 3 #[] #[])
  fields := #[]
  methods := #[]
  instanceTypes := #[]
  staticTypes := #[]
  resolved := Array.replicate 11 none
  statics := none }

def pool9 : Array CpInfo := pool [(1, .class_ 2), (0, u "java/lang/constant/ConstantDesc"), (0, .class_ 4), (0, u "java/lang/Object")] 32

/-- java/lang/constant/ConstantDesc -/
def k9 : Class := { plain "java/lang/constant/ConstantDesc" (some 0) with
  accessFlags := 1537
  interfaces := #[]
  cf := some (fileOf pool9 1 #[] #[] 1537 3 #[] #[])
  fields := #[]
  methods := #[]
  instanceTypes := #[]
  staticTypes := #[]
  resolved := Array.replicate 37 none
  statics := none }

def pool10 : Array CpInfo := pool [(2, .class_ 4), (1, u "java/lang/Object"), (0, u "<init>"), (0, u "()V"), (3, .class_ 12), (1, u "java/lang/String"), (0, u "value"), (0, u "[B"), (2, u "coder"), (0, u "B"), (2, u "hash"), (0, u "I"), (2, u "hashIsZero"), (0, u "Z"), (13, u "COMPACT_STRINGS"), (534, .class_ 576), (0, u "java/lang/CharSequence"), (22, u "CASE_INSENSITIVE_ORDER"), (0, u "Ljava/util/Comparator;"), (500, u "serialPersistentFields"), (0, u "[Ljava/io/ObjectStreamField;"), (0, .class_ 1104), (0, u "java/lang/String$CaseInsensitiveComparator"), (1, .class_ 1107), (0, u "java/io/Serializable"), (0, .class_ 1109), (0, u "java/lang/Comparable"), (0, .class_ 1111), (0, u "java/lang/constant/Constable"), (0, .class_ 1113), (0, u "java/lang/constant/ConstantDesc"), (2, u "serialVersionUID"), (0, u "J"), (3, u "REPL"), (0, u "C"), (2, u "LATIN1"), (1, u "UTF16")] 323

def k10m0 : Method := { name := "<init>", desc := "()V", sig := { parameters := [], returnType := none }, accessFlags := 1, code := none }
/-- java/lang/String -/
def k10 : Class := { plain "java/lang/String" (some 0) with
  accessFlags := 49
  interfaces := #[5, 6, 7, 8, 9]
  cf := some (fileOf pool10 10 #[.nestMembers #[1103]] #[{ accessFlags := 1, nameIndex := 5, descriptorIndex := 6, attributes := #[] }] 49 2 #[1106, 1108, 575, 1110, 1112] #[{ accessFlags := 18, nameIndex := 13, descriptorIndex := 14, attributes := #[] }, { accessFlags := 18, nameIndex := 17, descriptorIndex := 18, attributes := #[] }, { accessFlags := 2, nameIndex := 21, descriptorIndex := 22, attributes := #[] }, { accessFlags := 2, nameIndex := 25, descriptorIndex := 26, attributes := #[] }, { accessFlags := 26, nameIndex := 1116, descriptorIndex := 1117, attributes := #[] }, { accessFlags := 24, nameIndex := 40, descriptorIndex := 26, attributes := #[] }, { accessFlags := 26, nameIndex := 1101, descriptorIndex := 1102, attributes := #[] }, { accessFlags := 26, nameIndex := 1121, descriptorIndex := 1122, attributes := #[] }, { accessFlags := 25, nameIndex := 599, descriptorIndex := 600, attributes := #[] }, { accessFlags := 24, nameIndex := 1125, descriptorIndex := 18, attributes := #[] }, { accessFlags := 24, nameIndex := 1127, descriptorIndex := 18, attributes := #[] }])
  fields := #[{ name := "value", type := (.array .byte), accessFlags := 18, slot := 0, constantValue := 0 }, { name := "coder", type := .byte, accessFlags := 18, slot := 1, constantValue := 0 }, { name := "hash", type := .int, accessFlags := 2, slot := 2, constantValue := 0 }, { name := "hashIsZero", type := .boolean, accessFlags := 2, slot := 3, constantValue := 0 }, { name := "serialVersionUID", type := .long, accessFlags := 26, slot := 0, constantValue := 0 }, { name := "COMPACT_STRINGS", type := .boolean, accessFlags := 24, slot := 1, constantValue := 0 }, { name := "serialPersistentFields", type := (.array (.object "java/io/ObjectStreamField")), accessFlags := 26, slot := 2, constantValue := 0 }, { name := "REPL", type := .char, accessFlags := 26, slot := 3, constantValue := 0 }, { name := "CASE_INSENSITIVE_ORDER", type := (.object "java/util/Comparator"), accessFlags := 25, slot := 4, constantValue := 0 }, { name := "LATIN1", type := .byte, accessFlags := 24, slot := 5, constantValue := 0 }, { name := "UTF16", type := .byte, accessFlags := 24, slot := 6, constantValue := 0 }]
  methods := #[k10m0]
  instanceTypes := #[(.array .byte), .byte, .int, .boolean]
  staticTypes := #[.long, .boolean, (.array (.object "java/io/ObjectStreamField")), .char, (.object "java/util/Comparator"), .byte, .byte]
  resolved := Array.replicate 1451 none
  statics := none }

def pool11 : Array CpInfo := pool [(1, u "java/lang/Cloneable"), (0, .class_ 1), (0, u "java/lang/Object"), (0, .class_ 3)] 3

/-- java/lang/Cloneable -/
def k11 : Class := { plain "java/lang/Cloneable" (some 0) with
  accessFlags := 1537
  interfaces := #[]
  cf := some (fileOf pool11 2 #[] #[] 1537 4 #[] #[])
  fields := #[]
  methods := #[]
  instanceTypes := #[]
  staticTypes := #[]
  resolved := Array.replicate 8 none
  statics := none }

/-- the primitive byte -/
def k12 : Class := { plain "byte" none with kind := .primitive 'B', accessFlags := 0x411 }
/-- [B -/
def k13 : Class := { plain "[B" (some 0) with kind := .array 12 .byte, interfaces := #[11, 5], accessFlags := 1041 }

/-- the primitive int -/
def k14 : Class := { plain "int" none with kind := .primitive 'I', accessFlags := 0x411 }
/-- [I -/
def k15 : Class := { plain "[I" (some 0) with kind := .array 14 .int, interfaces := #[11, 5], accessFlags := 1041 }

def heap : Heap := #[]
def classes : Array Class := #[k0, k1, k2, k3, k4, k5, k6, k7, k8, k9, k10, k11, k12, k13, k14, k15]
def interned : List (Array UInt16 × Addr) := []
def slotsUsed : Nat := 0
def theMethod : MethodId := ⟨1, 1⟩
def args0 : Array Value := #[.int 1, .int 2, .int 3, .int 4]
def aboutOver (below : List Frame) : State where
  vm := { classes := classes, interned := interned.toArray }
  heap := heap
  slotsUsed := slotsUsed
  threads := #[{ frames := .invoking theMethod args0 :: below }]
def below0 : List Frame := [.native { method := ⟨0, 0⟩, args := #[] }]
def about1 : State := aboutOver below0
def p0 : Program := .bare "" "" ""
def e0 : Env := launch0.env 0 0 0
theorem w_frames : about1.frames = Frame.invoking theMethod args0 :: below0 := rfl
set_option maxRecDepth 65536 in
theorem w_args : argsFit about1.vm theMethod args0 = true := by decide +kernel
set_option maxRecDepth 65536 in
theorem w_heap : heapFits about1 = true := by decide +kernel
set_option maxRecDepth 65536 in
theorem w_runnable : about1.curStatus? = some .runnable := by decide +kernel
set_option maxRecDepth 65536 in
theorem w_alone : about1.alone = true := by decide +kernel
set_option maxRecDepth 65536 in
theorem w_named : about1.methodNamed? x = some theMethod := by decide +kernel
set_option maxRecDepth 65536 in
theorem w_hears : about1.hears theMethod below0 = true := by decide +kernel
set_option maxRecDepth 65536 in
theorem w_ripe : about1.ripe theMethod args0 below0 = true := by decide +kernel
theorem w_running : about1.status = .running := rfl
set_option maxRecDepth 65536 in
theorem w_room : about1.hasRoom e0.platform room_1 = true :=
  launch0.hasRoom_least _ room_1 (by decide +kernel) (by decide +kernel) (by decide +kernel) (by decide +kernel) (by decide +kernel) (by decide +kernel)
theorem allAtoms_all (ts : List Jvm.Cond) (a : Array Jvm.Value) (st : Jvm.State) : (allAtoms ts).before a st = ts.all (fun c => c.before a st) := by
  induction ts with
  | nil => rfl
  | cons c t ih =>
    show (Jvm.Cond.and c (allAtoms t)).before a st = _
    rw [Jvm.Cond.before_and, ih, List.all_cons]
def words1 : List Jvm.Cond := Jvm.Cond.code x code maxLocals ret :: tables_1
/-- a 'code' word, met by the world's own term for the bytes: nothing is compared byte by byte -/
theorem code_word {y : MethodName} {bytes : ByteArray} {mx : Nat} {rt : Option FieldType} {a : Array Value} {s : State} {m : MethodId} {meth : Method} {c : Code} (h1 : s.methodNamed? y = some m) (h2 : s.vm.method? m = some meth) (h3 : meth.code = some c) (h4 : c.code = bytes)
    (h5 : (c.maxLocals == mx && c.exceptionTable.isEmpty && decide (c.maxStack ≤ mostOperands) && decide (meth.sig.returnType = rt) && !meth.locks && decide (parseMethodDescriptor y.desc = some meth.sig)) = true) : (Jvm.Cond.code y bytes mx rt).before a s = true := by
  simp only [Bool.and_eq_true, beq_iff_eq, Bool.not_eq_true', decide_eq_true_eq] at h5
  obtain ⟨⟨⟨⟨⟨g1, g2⟩, g3⟩, g4⟩, g5⟩, g6⟩ := h5
  simp [Cond.before, Cond.holds, Cond.value, h1, h2, h3, h4, g1, g2, g3, g4, g5, g6]
def isCode : Jvm.Cond → Bool
  | .code _ _ _ _ => true
  | _ => false
theorem all_split {L : List Jvm.Cond} {P : Jvm.Cond → Bool} (h1 : L.all (fun c => isCode c || P c) = true) (h2 : ∀ c ∈ L.filter isCode, P c = true) : L.all P = true := by
  refine List.all_eq_true.mpr fun c hc => ?_
  have h := List.all_eq_true.mp h1 c hc
  rcases Bool.eq_false_or_eq_true (isCode c) with hi | hi
  · exact h2 c (List.mem_filter.mpr ⟨hc, hi⟩)
  · simpa [hi] using h
set_option maxRecDepth 65536 in
theorem w_c0 : (Jvm.Cond.code x code maxLocals ret).before args0 about1 = true := code_word (m := ⟨1, 1⟩) (meth := k1m1) (c := k1c1) (by decide +kernel) rfl rfl rfl (by decide +kernel)
set_option maxRecDepth 65536 in
theorem w_c1 : (Jvm.Cond.code ({ cls := "java/lang/Math", name := "min", desc := "(II)I" } : Jvm.MethodName) jdk_29_method_69_code (2 : Nat) (Option.some Jvm.ClassFile.FieldType.int)).before args0 about1 = true := code_word (m := ⟨2, 2⟩) (meth := k2m2) (c := k2c2) (by decide +kernel) rfl rfl rfl (by decide +kernel)
set_option maxRecDepth 65536 in
theorem w_c2 : (Jvm.Cond.code ({ cls := "java/lang/Math", name := "max", desc := "(II)I" } : Jvm.MethodName) jdk_29_method_65_code (2 : Nat) (Option.some Jvm.ClassFile.FieldType.int)).before args0 about1 = true := code_word (m := ⟨2, 1⟩) (meth := k2m1) (c := k2c1) (by decide +kernel) rfl rfl rfl (by decide +kernel)
set_option maxRecDepth 65536 in
theorem w_c3 : (Jvm.Cond.code ({ cls := "com/example/paretolio/paretolio/portfolio/ProjectGroupAdmitsPinLaw", name := "pick", desc := "(IIII)I" } : Jvm.MethodName) method_3_code (4 : Nat) (Option.some Jvm.ClassFile.FieldType.int)).before args0 about1 = true := code_word (m := ⟨1, 2⟩) (meth := k1m2) (c := k1c2) (by decide +kernel) rfl rfl rfl (by decide +kernel)
set_option maxRecDepth 65536 in
theorem w_c4 : (Jvm.Cond.code ({ cls := "com/example/paretolio/paretolio/portfolio/ProjectGroup", name := "<init>", desc := "(Ljava/lang/String;[III)V" } : Jvm.MethodName) prog_45_method_1_code (5 : Nat) (Option.none : Option Jvm.ClassFile.FieldType)).before args0 about1 = true := code_word (m := ⟨4, 0⟩) (meth := k4m0) (c := k4c0) (by decide +kernel) rfl rfl rfl (by decide +kernel)
set_option maxRecDepth 65536 in
theorem w_c5 : (Jvm.Cond.code ({ cls := "java/lang/Record", name := "<init>", desc := "()V" } : Jvm.MethodName) jdk_30_method_1_code (1 : Nat) (Option.none : Option Jvm.ClassFile.FieldType)).before args0 about1 = true := code_word (m := ⟨3, 0⟩) (meth := k3m0) (c := k3c0) (by decide +kernel) rfl rfl rfl (by decide +kernel)
set_option maxRecDepth 65536 in
theorem w_c6 : (Jvm.Cond.code ({ cls := "java/lang/Object", name := "<init>", desc := "()V" } : Jvm.MethodName) object_method_1_code (1 : Nat) (Option.none : Option Jvm.ClassFile.FieldType)).before args0 about1 = true := code_word (m := ⟨0, 0⟩) (meth := k0m0) (c := k0c0) (by decide +kernel) rfl rfl rfl (by decide +kernel)
set_option maxRecDepth 65536 in
theorem w_c7 : (Jvm.Cond.code ({ cls := "com/example/paretolio/paretolio/portfolio/ProjectGroup", name := "admits", desc := "(I)Z" } : Jvm.MethodName) prog_45_method_2_code (2 : Nat) (Option.some Jvm.ClassFile.FieldType.boolean)).before args0 about1 = true := code_word (m := ⟨4, 1⟩) (meth := k4m1) (c := k4c1) (by decide +kernel) rfl rfl rfl (by decide +kernel)
def codes1 : List Jvm.Cond := [Jvm.Cond.code x code maxLocals ret, Jvm.Cond.code ({ cls := "java/lang/Math", name := "min", desc := "(II)I" } : Jvm.MethodName) jdk_29_method_69_code (2 : Nat) (Option.some Jvm.ClassFile.FieldType.int), Jvm.Cond.code ({ cls := "java/lang/Math", name := "max", desc := "(II)I" } : Jvm.MethodName) jdk_29_method_65_code (2 : Nat) (Option.some Jvm.ClassFile.FieldType.int), Jvm.Cond.code ({ cls := "com/example/paretolio/paretolio/portfolio/ProjectGroupAdmitsPinLaw", name := "pick", desc := "(IIII)I" } : Jvm.MethodName) method_3_code (4 : Nat) (Option.some Jvm.ClassFile.FieldType.int), Jvm.Cond.code ({ cls := "com/example/paretolio/paretolio/portfolio/ProjectGroup", name := "<init>", desc := "(Ljava/lang/String;[III)V" } : Jvm.MethodName) prog_45_method_1_code (5 : Nat) (Option.none : Option Jvm.ClassFile.FieldType), Jvm.Cond.code ({ cls := "java/lang/Record", name := "<init>", desc := "()V" } : Jvm.MethodName) jdk_30_method_1_code (1 : Nat) (Option.none : Option Jvm.ClassFile.FieldType), Jvm.Cond.code ({ cls := "java/lang/Object", name := "<init>", desc := "()V" } : Jvm.MethodName) object_method_1_code (1 : Nat) (Option.none : Option Jvm.ClassFile.FieldType), Jvm.Cond.code ({ cls := "com/example/paretolio/paretolio/portfolio/ProjectGroup", name := "admits", desc := "(I)Z" } : Jvm.MethodName) prog_45_method_2_code (2 : Nat) (Option.some Jvm.ClassFile.FieldType.boolean)]
set_option maxRecDepth 65536 in
theorem codes_eq : words1.filter isCode = codes1 := rfl
theorem w_codes : ∀ c ∈ words1.filter isCode, c.before args0 about1 = true := by
  rw [codes_eq]
  intro c hc
  simp only [codes1, List.mem_cons, List.not_mem_nil, or_false] at hc
  rcases hc with rfl | rfl | rfl | rfl | rfl | rfl | rfl | rfl
  · exact w_c0
  · exact w_c1
  · exact w_c2
  · exact w_c3
  · exact w_c4
  · exact w_c5
  · exact w_c6
  · exact w_c7
set_option maxRecDepth 65536 in
theorem w_t1 : (words1.take 24).all (fun c => isCode c || c.before args0 about1) = true := by decide +kernel
set_option maxRecDepth 65536 in
theorem w_t2 : (words1.drop 24).all (fun c => isCode c || c.before args0 about1) = true := by decide +kernel
theorem w_tables : (allAtoms (Jvm.Cond.code x code maxLocals ret :: tables_1)).before args0 about1 = true := by
  rw [allAtoms_all]
  show words1.all (fun c => c.before args0 about1) = true
  refine all_split ?_ w_codes
  rw [← List.take_append_drop 24 words1, List.all_append, w_t1, w_t2]
  rfl
set_option maxRecDepth 65536 in
theorem w_case : (Jvm.Cond.and given_1 narrow_1).before args0 about1 = true := by decide +kernel
theorem w_applies : (headSpec (Jvm.Cond.code x code maxLocals ret :: tables_1) room_1).applies x e0.platform about1 = true :=
  (Spec.applies_iff w_frames).mpr ⟨w_running, w_runnable, w_alone, w_named, w_hears, w_ripe, w_room, w_tables⟩
theorem atStart : AtStart classFile x code maxLocals ret World_1 tables_1 room_1 Calls_1 rest_1 Pre_1 launch0 p0 e0 about1 theMethod args0 below0 :=
  ⟨lists_1, trivial, launch0.admits_env _ _ _, launch0.least_env, fairChoices_fair.cas, fairChoices_fair.clock, w_frames, w_args, w_heap, w_applies, trivial, trivial, w_case⟩
end start1
theorem witness_1 : WitnessClaimed_1 := ⟨start1.p0, start1.e0, start1.about1, start1.theMethod, start1.args0, start1.below0, start1.atStart⟩
end Jvm.Pilot.@@N@@
