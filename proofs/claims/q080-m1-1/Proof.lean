import JvmDerived
import JvmDerived.Pilot.@@N@@Statement
import JvmDerived.Pilot.@@N@@Code
set_option linter.unusedVariables false
set_option linter.unusedSimpArgs false
@@BLOCK:NumsL.lean.txt@@
namespace Jvm.Pilot.@@N@@
open Jvm Jvm.ClassFile Sem Op Lib Jvm.Free Jvm.Stand Jvm.LawKit Jvm.RoadKit Bundle Jvm.Pilot.@@N@@.Jvm.D

section Own
variable {p : Program} {l : Launch} {e : Env} {R : Room} {s : State} {m : MethodId} {args : Array Value} {below : List Frame} {meth : Method} {c : Code} {S0 : State} {n0 : Nat} {h h' : Heap} {ce sl ce' sl' : Nat} {f f' : JFrame} {Z : State} {a0 : Array Value}
/-- the walk stands at the frame f over the heap h; it has made ce cells and sl slots; what it wrote lies at or above n0 -/
def own_R (p : Program) (l : Launch) (e : Env) (R : Room) (s : State) (m : MethodId) (args : Array Value) (below : List Frame) (meth : Method) (c : Code) (S0 : State) (n0 : Nat) (h : Heap) (ce sl : Nat) (f : JFrame) : Prop :=
  ∃ T L, Stand p l e R s m args below meth c T L ce sl ∧ T.heap = h ∧ Fr n0 L ∧ Steps p.tables e below S0 (T.setTop f)
/-- the walk has returned, and Q holds of what it returned and of the heap -/
def own_E (p : Program) (e : Env) (R : Room) (s : State) (below : List Frame) (S0 : State) (n0 : Nat) (Q : Option Value → Heap → Prop) : Prop :=
  ∃ s₂ v L, Steps p.tables e below S0 s₂ ∧ s₂.status = .running ∧ Ended s₂ below (.returned v) ∧ (Q v s₂.heap ∧ Fr n0 L) ∧ FrameEnd s (.returned v) s₂ L R.cells R.slots
/-- a body's contract -/
def own_M (l : Launch) (Z : State) (y : MethodName) (bytes : ByteArray) (maxL : Nat) (ret : Option FieldType) (ws : List Cond) (rm : Room) (as : Array Value) (h0 : Heap) (n0 : Nat) (Q : Option Value → Heap → Prop) : Prop :=
  MetFree l y (head1 (Cond.code y bytes maxL ret :: ws) rm) (fun a U => a = as ∧ Z.Warmed39 U.vm ∧ U.heap = h0) (fun _ _ _ _ _ => True) (fun _ U o U' => ∃ v L, o = .returned v ∧ (Q v U'.heap ∧ Fr n0 L) ∧ FrameEnd U o U' L rm.cells rm.slots)
theorem own_M.of {y : MethodName} {bytes : ByteArray} {maxL : Nat} {ret : Option FieldType} {ws : List Cond} {rm : Room} {as : Array Value} {h0 : Heap} {Q : Option Value → Heap → Prop} (pn : plainFor y = true)
    (body : ∀ (p : Program) (e : Env) (s : State) (m : MethodId) (below : List Frame) (meth : Method) (c : Code) (S0 : State), p.tables.exec = Jvm.exec → c.code = bytes → c.maxLocals = maxL → s.vm.findClass y.cls = some m.cls → meth.name = y.name → meth.sig.returnType = ret → meth.locks = false → Z.Warmed39 s.vm →
      own_R p l e rm s m as below meth c S0 n0 h0 0 0 (entryFrame m as maxL) → own_E p e rm s below S0 n0 Q) :
    own_M l Z y bytes maxL ret ws rm as h0 n0 Q := by
  refine MetFree.of_bodySF pn hisR ?_
  intro p e s m args below meth c s₁ Bd hml0 hP hK
  obtain ⟨rfl, hZ, hh⟩ := hP
  have e0 : s₁.heap = h0 := by rw [← hh, Bd.state]; rfl
  obtain ⟨s₂, v, L, k, hrun, hend, hq, hF⟩ := body p e s m below meth c _ Bd.exec Bd.bytes hml0 (findClass_of_methodNamed Bd.named) (name_of_methodNamed Bd.named Bd.method).1 Bd.returns Bd.notSynchronized hZ ⟨s₁, [], Stand.of_body Bd, e0, Fr.nil n0, Steps.refl _⟩
  exact ⟨s₂, _, k, hrun, hend, v, L, rfl, hq, hF⟩
theorem own_R.cast (A : own_R p l e R s m args below meth c S0 n0 h ce sl f) (q : f = f') : own_R p l e R s m args below meth c S0 n0 h ce sl f' := q ▸ A
theorem own_R.go (A : own_R p l e R s m args below meth c S0 n0 h ce sl f)
    (st : ∀ T L, Stand p l e R s m args below meth c T L ce sl → ∀ target, Steps p.tables e below (T.setTop f') target → Steps p.tables e below (T.setTop f) target) :
    own_R p l e R s m args below meth c S0 n0 h ce sl f' := by
  obtain ⟨T, L, X, eT, N, k⟩ := A
  exact ⟨T, L, X, eT, N, k.trans (st T L X _ (Steps.refl _))⟩
theorem own_R.law (A : own_R p l e R s m args below meth c S0 n0 h ce sl f)
    (st : ∀ T L, Stand p l e R s m args below meth c T L ce sl → T.heap = h → Fr n0 L → ∃ T' L', Stand p l e R s m args below meth c T' L' ce' sl' ∧ T'.heap = h' ∧ Fr n0 L' ∧ ∀ target, Steps p.tables e below (T'.setTop f') target → Steps p.tables e below (T.setTop f) target) :
    own_R p l e R s m args below meth c S0 n0 h' ce' sl' f' := by
  obtain ⟨T, L, X, eT, N, k⟩ := A
  obtain ⟨T', L', X', e', N', k'⟩ := st T L X eT N
  exact ⟨T', L', X', e', N', k.trans (k' _ (Steps.refl _))⟩
theorem own_R.getF {pc : Nat} {Ls : Array Slot} {rest : List Value} {a : Addr} {v : Value} {own R0 O n d : String} {index : Nat}
    (A : own_R p l e R s m args below meth c S0 n0 h ce sl (mkF m pc Ls (.ref a :: rest))) (hx : p.tables.exec = Jvm.exec) (hZ : Z.Warmed39 s.vm) (hown : s.vm.findClass own = some m.cls)
    (hd : decode c.code pc = .ok (.getfield index, 3)) (w : (Cond.fieldLink own index R0 n d).before a0 Z = true) (via : Via Z R0 O n d) (F : Fld Z h a O n d v) :
    own_R p l e R s m args below meth c S0 n0 h ce sl (mkF m (pc + 3) Ls (v :: rest)) := A.law fun T L X eT N => by
  obtain ⟨T', X', e', st⟩ := RoadKit.getF X hx hZ hown (host := "") (Or.inl w) via eT F (g := mkF m pc Ls (.ref a :: rest)) rfl rfl hd
  exact ⟨T', L, X', e', N, st⟩
theorem own_R.getS {pc : Nat} {Ls : Array Slot} {st : List Value} {v : Value} {own R0 O n d : String} {index : Nat}
    (A : own_R p l e R s m args below meth c S0 n0 h ce sl (mkF m pc Ls st)) (hx : p.tables.exec = Jvm.exec) (hZ : Z.Warmed39 s.vm) (hown : s.vm.findClass own = some m.cls)
    (hd : decode c.code pc = .ok (.getstatic index, 3)) (w : (Cond.fieldLink own index R0 n d).before a0 Z = true) (via : Via Z R0 O n d) (F : Sta Z h O n d v) :
    own_R p l e R s m args below meth c S0 n0 h ce sl (mkF m (pc + 3) Ls (v :: st)) := A.law fun T L X eT N => by
  obtain ⟨T', X', e', k⟩ := RoadKit.getS X hx hZ hown (host := "") w via eT F (g := mkF m pc Ls st) rfl hd
  exact ⟨T', L, X', e', N, k⟩
theorem own_R.ldcI {pc : Nat} {Ls : Array Slot} {st : List Value} {v : Int32} {own : String} {index : Nat}
    (A : own_R p l e R s m args below meth c S0 n0 h ce sl (mkF m pc Ls st)) (hx : p.tables.exec = Jvm.exec) (hZ : Z.Warmed39 s.vm) (hown : s.vm.findClass own = some m.cls)
    (hd : decode c.code pc = .ok (.ldc index, 2)) (w : (Cond.constant own index v).before a0 Z = true) :
    own_R p l e R s m args below meth c S0 n0 h ce sl (mkF m (pc + 2) Ls (.int v :: st)) := A.go fun T L X t k =>
  X.ldcInt hx hown (mvT hZ w) (g := mkF m pc Ls st) rfl hd t k
theorem own_R.ldcL {pc : Nat} {Ls : Array Slot} {st : List Value} {v : Int64} {own : String} {index : Nat}
    (A : own_R p l e R s m args below meth c S0 n0 h ce sl (mkF m pc Ls st)) (hx : p.tables.exec = Jvm.exec) (hZ : Z.Warmed39 s.vm) (hown : s.vm.findClass own = some m.cls)
    (hd : decode c.code pc = .ok (.ldc2_w index, 3)) (w : (Cond.constantLong own index v).before a0 Z = true) :
    own_R p l e R s m args below meth c S0 n0 h ce sl (mkF m (pc + 3) Ls (.long v :: st)) := A.go fun T L X t k =>
  X.ldc2Long hx hown (mvT hZ w) (g := mkF m pc Ls st) rfl hd t k
theorem own_R.ldcD {pc : Nat} {Ls : Array Slot} {st : List Value} {v : UInt64} {own : String} {index : Nat}
    (A : own_R p l e R s m args below meth c S0 n0 h ce sl (mkF m pc Ls st)) (hx : p.tables.exec = Jvm.exec) (hZ : Z.Warmed39 s.vm) (hown : s.vm.findClass own = some m.cls)
    (hd : decode c.code pc = .ok (.ldc2_w index, 3)) (w : (Cond.constantDouble own index v).before a0 Z = true) :
    own_R p l e R s m args below meth c S0 n0 h ce sl (mkF m (pc + 3) Ls (.double v :: st)) := A.go fun T L X t k =>
  X.ldc2DoubleC hx hown (mvT hZ w) (g := mkF m pc Ls st) rfl hd t k
theorem own_R.callS {pc : Nat} {Ls : Array Slot} {st : List Value} {own : String} {index W : Nat} {y : MethodName} {bytes : ByteArray} {maxL : Nat} {ret : Option FieldType} {rm : Room} {as : Array Value} {Q : Option Value → Heap → Prop} {argsL rest : List Value}
    (A : own_R p l e R s m args below meth c S0 n0 h ce sl (mkF m pc Ls st)) (M : own_M l Z y bytes maxL ret [] rm as h n0 Q) (hx : p.tables.exec = Jvm.exec) (hZ : Z.Warmed39 s.vm) (hown : s.vm.findClass own = some m.cls)
    (hd : decode c.code pc = .ok (.invokestatic index, 3)) (w1 : (Cond.methodLink own index y).before a0 Z = true) (w2 : (Cond.static y).before a0 Z = true) (w3 : (Cond.initialized y.cls).before a0 Z = true) (w4 : (Cond.code y bytes maxL ret).before a0 Z = true)
    (hy : y.cls ≠ "java/lang/invoke/MethodHandle" ∧ y.cls ≠ "java/lang/invoke/VarHandle") (hlen : ∀ sig, parseMethodDescriptor y.desc = some sig → argsL.length = sig.parameters.length) (hst : st = argsL.reverse ++ rest) (has : argsL.toArray = as)
    (hsz : Ls.size = c.maxLocals) (hW : (rest.map fun v => v.category).sum ≤ W) (hf : rm.frames + 1 ≤ R.frames) (hl : W + (maxL + 11) + rm.locals ≤ R.locals) (hc : ce + rm.cells ≤ R.cells) (hs : sl + rm.slots ≤ R.slots) :
    ∃ v h', Q v h' ∧ own_R p l e R s m args below meth c S0 n0 h' (ce + rm.cells) (sl + rm.slots) (mkF m (pc + 3) Ls (v.toList ++ rest)) := by
  obtain ⟨T, L, X, eT, N, k⟩ := A
  obtain ⟨v, vm₁, ⟨T', L', k', n'⟩, -, X', ⟨Lc, hQ, l1, l2, l3⟩, sT⟩ := Jvm.LawKit.callS X hx (y := y) hown (mvT hZ w1) (mvT hZ w2) (mvT hZ w3) (mvT hZ w4) hy (backOf (W := W) (Q := fun v h' L => Q v h' ∧ Fr n0 L) M hZ w4 w3 hf hl) (g := mkF m pc Ls st) rfl hsz (argsL := argsL) (rest := rest) hlen hst (by show 2 * 0 + _ ≤ _; omega) hd (fun _ _ => ⟨has, eT, hc, hs⟩)
  dsimp only [Pt.U, Pt.locs, Pt.cells, Pt.slots] at X' l1 l2 l3 sT hQ
  subst l1 l2 l3
  exact ⟨v, _, hQ.1, T', _, X', rfl, Fr.app N hQ.2, k.trans (sT _ (Steps.refl _))⟩
theorem own_R.callV {pc : Nat} {Ls : Array Slot} {st : List Value} {own C : String} {index W : Nat} {y z : MethodName} {bytes : ByteArray} {maxL : Nat} {ret : Option FieldType} {rm : Room} {as : Array Value} {Q : Option Value → Heap → Prop} {b : Addr} {argsL rest : List Value}
    (A : own_R p l e R s m args below meth c S0 n0 h ce sl (mkF m pc Ls st)) (M : own_M l Z z bytes maxL ret [] rm as h n0 Q) (E : Exa Z h b C) (hx : p.tables.exec = Jvm.exec) (hZ : Z.Warmed39 s.vm) (hown : s.vm.findClass own = some m.cls)
    (hd : decode c.code pc = .ok (.invokevirtual index, 3)) (w1 : (Cond.methodLink own index y).before a0 Z = true) (w2 : (Cond.declares y).before a0 Z = true) (w3 : (Cond.selects C y z).before a0 Z = true) (w4 : (Cond.instanceMethod z).before a0 Z = true) (w5 : (Cond.code z bytes maxL ret).before a0 Z = true) (w6 : (Cond.initialized z.cls).before a0 Z = true) (hnf : ∀ s' : State, Z.Warmed39 s'.vm → NotFace s' y)
    (hy : y.cls ≠ "java/lang/invoke/MethodHandle" ∧ y.cls ≠ "java/lang/invoke/VarHandle") (hlen : ∀ sig, parseMethodDescriptor y.desc = some sig → argsL.length = sig.parameters.length) (hst : st = argsL.reverse ++ .ref b :: rest) (has : (Value.ref b :: argsL).toArray = as)
    (hsz : Ls.size = c.maxLocals) (hW : (rest.map fun v => v.category).sum ≤ W) (hf : rm.frames + 1 ≤ R.frames) (hl : W + (maxL + 11) + rm.locals ≤ R.locals) (hc : ce + rm.cells ≤ R.cells) (hs : sl + rm.slots ≤ R.slots) :
    ∃ v h', Q v h' ∧ own_R p l e R s m args below meth c S0 n0 h' (ce + rm.cells) (sl + rm.slots) (mkF m (pc + 3) Ls (v.toList ++ rest)) := by
  obtain ⟨T, L, X, eT, N, k⟩ := A
  obtain ⟨cq, kq, qa, qb, qc⟩ := isOf hZ eT E
  obtain ⟨v, vm₁, ⟨T', L', k', n'⟩, -, X', ⟨Lc, hQ, l1, l2, l3⟩, sT⟩ := X.virtualBack hx (y := y) (z := z) hown (mvT hZ w1) (mvT hZ w2) (hnf s hZ) (mvT hZ w3) (mvT hZ w4) hy (backOf (W := W) (Q := fun v h' L => Q v h' ∧ Fr n0 L) M hZ w5 w6 hf hl) qa qc (g := mkF m pc Ls st) rfl hsz (Steps.refl _) (argsL := argsL) (rest := rest) hlen hst (by show 2 * 0 + _ ≤ _; omega) hd (fun _ _ => ⟨has, eT, hc, hs⟩)
  dsimp only [Pt.U, Pt.locs, Pt.cells, Pt.slots] at X' l1 l2 l3 sT hQ
  subst l1 l2 l3
  exact ⟨v, _, hQ.1, T', _, X', rfl, Fr.app N hQ.2, k.trans sT⟩
theorem own_R.callI {pc : Nat} {Ls : Array Slot} {st : List Value} {own : String} {index W : Nat} {y : MethodName} {bytes : ByteArray} {maxL : Nat} {rm : Room} {as : Array Value} {Q : Option Value → Heap → Prop} {b : Addr} {argsL rest : List Value}
    (A : own_R p l e R s m args below meth c S0 n0 h ce sl (mkF m pc Ls st)) (M : own_M l Z y bytes maxL none [] rm as h n0 Q) (hx : p.tables.exec = Jvm.exec) (hZ : Z.Warmed39 s.vm) (hown : s.vm.findClass own = some m.cls)
    (hd : decode c.code pc = .ok (.invokespecial index, 3)) (hy1 : y.name = "<init>") (w1 : (Cond.methodLink own index y).before a0 Z = true) (w2 : (Cond.instanceMethod y).before a0 Z = true) (w3 : (Cond.code y bytes maxL none).before a0 Z = true) (w4 : (Cond.initialized y.cls).before a0 Z = true)
    (hy : y.cls ≠ "java/lang/invoke/MethodHandle" ∧ y.cls ≠ "java/lang/invoke/VarHandle") (hlen : ∀ sig, parseMethodDescriptor y.desc = some sig → argsL.length = sig.parameters.length) (hst : st = argsL.reverse ++ .ref b :: rest) (has : (Value.ref b :: argsL).toArray = as)
    (hsz : Ls.size = c.maxLocals) (hW : (rest.map fun v => v.category).sum ≤ W) (hf : rm.frames + 1 ≤ R.frames) (hl : W + (maxL + 11) + rm.locals ≤ R.locals) (hc : ce + rm.cells ≤ R.cells) (hs : sl + rm.slots ≤ R.slots) :
    ∃ v h', Q v h' ∧ own_R p l e R s m args below meth c S0 n0 h' (ce + rm.cells) (sl + rm.slots) (mkF m (pc + 3) Ls (v.toList ++ rest)) := by
  obtain ⟨T, L, X, eT, N, k⟩ := A
  obtain ⟨v, vm₁, ⟨T', L', k', n'⟩, -, X', ⟨Lc, hQ, l1, l2, l3⟩, sT⟩ := X.specialBack hx (y := y) hy1 hown (mvT hZ w1) (mvT hZ w2) (mvT hZ w3) hy (backOf (W := W) (Q := fun v h' L => Q v h' ∧ Fr n0 L) M hZ w3 w4 hf hl) (g := mkF m pc Ls st) rfl hsz (Steps.refl _) (a := b) (argsL := argsL) (rest := rest) hlen hst (by show 2 * 0 + _ ≤ _; omega) hd (fun _ _ => ⟨has, eT, hc, hs⟩)
  dsimp only [Pt.U, Pt.locs, Pt.cells, Pt.slots] at X' l1 l2 l3 sT hQ
  subst l1 l2 l3
  exact ⟨v, _, hQ.1, T', _, X', rfl, Fr.app N hQ.2, k.trans sT⟩
theorem own_R.ret {pc : Nat} {Ls : Array Slot} {rest : List Value} {w : Value} {t : FieldType} {i : Instr} {Q : Option Value → Heap → Prop}
    (A : own_R p l e R s m args below meth c S0 n0 h ce sl (mkF m pc Ls (w :: rest))) (hx : p.tables.exec = Jvm.exec) (hlk : meth.locks = false) (hret : meth.sig.returnType = some t) (hd : decode c.code pc = .ok (i, 1)) (hn : narrow t w = w)
    (hi : (i = .ireturn ∧ (t = .int ∨ t = .boolean ∨ t = .byte ∨ t = .char ∨ t = .short) ∧ ∃ z, w = .int z) ∨ (i = .lreturn ∧ t = .long ∧ ∃ z, w = .long z) ∨ (i = .dreturn ∧ t = .double ∧ ∃ z, w = .double z) ∨ (i = .freturn ∧ t = .float ∧ ∃ z, w = .float z) ∨ (i = .areturn ∧ t.isReference = true ∧ w.isRef = true))
    (hc : ce ≤ R.cells) (hs : sl ≤ R.slots) (q : Q (some w) h) : own_E p e R s below S0 n0 Q := by
  obtain ⟨T, L, X, eT, N, k⟩ := A
  obtain ⟨fs, hr, hrun, hended, hW, hsame⟩ := X.leave (v := some w) (fun h => by rw [hret] at h; cases h) hlk
  refine ⟨_, _, _, k.trans (retOut X hx hret hn hi hd hr), hrun, hended, ⟨?_, N⟩, ⟨_, rfl⟩, hW, hsame.mono hc hs⟩
  show Q _ T.heap
  rw [eT]; exact q
theorem own_R.retV {pc : Nat} {Ls : Array Slot} {Q : Option Value → Heap → Prop}
    (A : own_R p l e R s m args below meth c S0 n0 h ce sl (mkF m pc Ls [])) (hx : p.tables.exec = Jvm.exec) (hlk : meth.locks = false) (hret : meth.sig.returnType = none) (hd : decode c.code pc = .ok (.return_, 1))
    (hc : ce ≤ R.cells) (hs : sl ≤ R.slots) (q : Q none h) : own_E p e R s below S0 n0 Q := by
  obtain ⟨T, L, X, eT, N, k⟩ := A
  obtain ⟨fs, hr, hrun, hended, hW, hsame⟩ := X.leave (v := none) (fun _ => rfl) hlk
  refine ⟨_, _, _, k.trans (X.returnOut hx hret hd hr), hrun, hended, ⟨?_, N⟩, ⟨_, rfl⟩, hW, hsame.mono hc hs⟩
  show Q _ T.heap
  rw [eT]; exact q
end Own
section Own2
variable {p : Program} {l : Launch} {e : Env} {R : Room} {s : State} {m : MethodId} {args : Array Value} {below : List Frame} {meth : Method} {c : Code} {S0 : State} {n0 : Nat} {h h' : Heap} {ce sl : Nat} {Z : State} {a0 : Array Value} {pc : Nat} {Ls : Array Slot} {rest : List Value} {a b : Addr} {ty : FieldType} {vs : List Value} {ws : List Addr} {v : Value} {i : Nat}
/-- an array whose components are listed -/
def own_Ar (Z : State) (h : Heap) (a : Addr) (ty : FieldType) (vs : List Value) : Prop := ∃ cl : Cell, Arr Z h a cl ty ∧ cl.slots.toList = vs
theorem own_Ar.ext (F : own_Ar Z h a ty vs) (E : Ext h h') : own_Ar Z h' a ty vs := by obtain ⟨cl, A, q⟩ := F; exact ⟨cl, A.ext E, q⟩
theorem own_Ar.other (F : own_Ar Z h a ty vs) (W : Wr h h' b i v) (q : a ≠ b) : own_Ar Z h' a ty vs := by obtain ⟨cl, A, r⟩ := F; exact ⟨cl, A.other W q, r⟩
theorem own_Ar.same (F : own_Ar Z h a ty vs) (W : Wr h h' a i v) : own_Ar Z h' a ty (vs.set i v) := by
  obtain ⟨cl, A, rfl⟩ := F
  exact ⟨_, A.same W, by simp [Cell.setSlot, Array.toList_setIfInBounds]⟩
theorem own_Ar.keep (F : own_Ar Z h a ty vs) (K : Keep h h' ws) (q : a ∉ ws) : own_Ar Z h' a ty vs := by obtain ⟨cl, A, r⟩ := F; exact ⟨cl, ⟨K.2.1 a cl A.1 q, A.2⟩, r⟩
theorem own_Ar.lt (F : own_Ar Z h a ty vs) : a < h.size := by obtain ⟨cl, A, -⟩ := F; exact A.lt
theorem own_R.newP {n : Int32} {aty : ArrayType} {cap : Nat} (A : own_R p l e R s m args below meth c S0 n0 h ce sl (mkF m pc Ls (.int n :: rest))) (hx : p.tables.exec = Jvm.exec) (hZ : Z.Warmed39 s.vm)
    (hd : decode c.code pc = .ok (.newarray aty, 2)) (w : (Cond.arrayClass (newarray.typeOf aty)).before a0 Z = true) (hn : ¬ n < 0) (hcap : n.toNatClampNeg ≤ cap) (hb : cap * 8 ≤ 536870912) (hc : ce + 1 ≤ R.cells) (hl : sl + cap ≤ R.slots) :
    ∃ h', Ext h h' ∧ own_Ar Z h' h.size (newarray.typeOf aty) (List.replicate n.toNatClampNeg (defaultValue (newarray.typeOf aty))) ∧ own_R p l e R s m args below meth c S0 n0 h' (ce + 1) (sl + cap) (mkF m (pc + 2) Ls (.ref h.size :: rest)) := by
  obtain ⟨T, L, X, eT, N, k⟩ := A
  obtain ⟨T', h', cA, X', e', E, AA, st⟩ := RoadKit.newP X hx hZ w eT (g := mkF m pc Ls (.int n :: rest)) rfl hd rfl hn hcap hb hc hl
  exact ⟨h', E, ⟨_, AA, by simp [newA]⟩, T', L, X', e', N, k.trans (st _ (Steps.refl _))⟩
theorem own_R.newO {own C : String} {index n : Nat} (A : own_R p l e R s m args below meth c S0 n0 h ce sl (mkF m pc Ls rest)) (hx : p.tables.exec = Jvm.exec) (hZ : Z.Warmed39 s.vm) (hown : s.vm.findClass own = some m.cls)
    (hd : decode c.code pc = .ok (.new index, 3)) (w : (Cond.classLink own index C).before a0 Z = true) (wi : (Cond.instantiable C n).before a0 Z = true) (wz : (Cond.initialized C).before a0 Z = true) (hc : ce + 1 ≤ R.cells) (hl : sl + n ≤ R.slots) :
    ∃ h', Ext h h' ∧ Exa Z h' h.size C ∧ (∀ {O nm d : String} {ty : FieldType}, Laid Z a0 C O nm d → parseFieldDescriptor d = some ty → Fld Z h' h.size O nm d (defaultValue ty)) ∧ own_R p l e R s m args below meth c S0 n0 h' (ce + 1) (sl + n) (mkF m (pc + 3) Ls (.ref h.size :: rest)) := by
  obtain ⟨T, L, X, eT, N, k⟩ := A
  obtain ⟨T', h', X', e', E, AA, D, -, st⟩ := RoadKit.newO X hx hZ hown w wi wz eT (g := mkF m pc Ls rest) rfl hd hc hl
  exact ⟨h', E, AA, D, T', L, X', e', N, k.trans (st _ (Steps.refl _))⟩
theorem own_R.putF {own O n d C : String} {index kk : Nat} {v old : Value} (A : own_R p l e R s m args below meth c S0 n0 h ce sl (mkF m pc Ls (v :: .ref a :: rest))) (hx : p.tables.exec = Jvm.exec) (hZ : Z.Warmed39 s.vm) (hown : s.vm.findClass own = some m.cls)
    (hd : decode c.code pc = .ok (.putfield index, 3)) (w : (Cond.fieldLink own index O n d).before a0 Z = true) (F : Fld Z h a O n d old) (E : Exa Z h a C) (L : (Cond.lays C O n d).before a0 Z = true ∨ ((Cond.laysFinal C O n d).before a0 Z = true ∧ own = O ∧ meth.name = "<init>")) (wi : (Cond.instantiable C kk).before a0 Z = true)
    (hty : parseFieldDescriptor d = some ty) (hn : narrow ty v = v) (hf : fits ty v = true) (q : n0 ≤ a) :
    ∃ h', Wr h h' a (RoadKit.slotOf Z O n d) v ∧ own_R p l e R s m args below meth c S0 n0 h' ce sl (mkF m (pc + 3) Ls rest) := by
  obtain ⟨T, Lc, X, eT, N, k⟩ := A
  obtain ⟨T', h', X', e', W, st⟩ := RoadKit.putF X hx hZ hown (host := "") (Or.inl w) Via.refl eT F E L wi hty hn hf (g := mkF m pc Ls (v :: .ref a :: rest)) rfl rfl hd
  exact ⟨h', W, T', _, X', e', Fr.snoc X' N q, k.trans (st _ (Steps.refl _))⟩
theorem own_R.initO {own : String} {idx W : Nat} (A : own_R p l e R s m args below meth c S0 n0 h ce sl (mkF m pc Ls (.ref a :: rest))) (hx : p.tables.exec = Jvm.exec) (hZ : Z.Warmed39 s.vm) (hown : s.vm.findClass own = some m.cls)
    (hd : decode c.code pc = .ok (.invokespecial idx, 3)) (w1 : (Cond.methodLink own idx Lib.objectInit).before a0 Z = true) (w2 : (Cond.instanceMethod Lib.objectInit).before a0 Z = true) (w3 : (Cond.code Lib.objectInit ⟨#[0xb1]⟩ 1 none).before a0 Z = true)
    (hsz : Ls.size = c.maxLocals) (hW : (rest.map fun v => v.category).sum ≤ W) (hf : 1 ≤ R.frames) (hl : W + 12 ≤ R.locals) : own_R p l e R s m args below meth c S0 n0 h ce sl (mkF m (pc + 3) Ls rest) := A.law fun T L X eT N => by
  obtain ⟨T', X', e', st⟩ := RoadKit.initO X hx hZ hown w1 w2 w3 eT (g := mkF m pc Ls (.ref a :: rest)) rfl hsz rfl hd hf (by show 2 * 0 + _ ≤ _; exact (Nat.zero_add _).symm ▸ hW) hl
  exact ⟨T', L, X', e', N, st⟩
theorem own_R.stI {j x : Int32} (A : own_R p l e R s m args below meth c S0 n0 h ce sl (mkF m pc Ls (.int x :: .int j :: .ref a :: rest))) (hx : p.tables.exec = Jvm.exec) (hZ : Z.Warmed39 s.vm)
    (hd : decode c.code pc = .ok (.iastore, 1)) (F : own_Ar Z h a .int vs) (hj : ¬ j < 0) (hi : j.toNatClampNeg < vs.length) (q : n0 ≤ a) :
    ∃ h', Wr h h' a j.toNatClampNeg (.int x) ∧ own_R p l e R s m args below meth c S0 n0 h' ce sl (mkF m (pc + 1) Ls rest) := by
  obtain ⟨cl, F, rfl⟩ := F
  obtain ⟨T, Lc, X, eT, N, k⟩ := A
  obtain ⟨T', h', X', e', W, st⟩ := RoadKit.stI X hx hZ eT F (j := j) (fun z => z.elim hj fun u => by rw [Array.length_toList] at hi; omega) (g := mkF m pc Ls (.int x :: .int j :: .ref a :: rest)) rfl rfl hd
  exact ⟨h', W, T', _, X', e', Fr.snoc X' N q, k.trans (st _ (Steps.refl _))⟩
theorem own_R.stB {j x : Int32} (A : own_R p l e R s m args below meth c S0 n0 h ce sl (mkF m pc Ls (.int x :: .int j :: .ref a :: rest))) (hx : p.tables.exec = Jvm.exec) (hZ : Z.Warmed39 s.vm)
    (hd : decode c.code pc = .ok (.bastore, 1)) (F : own_Ar Z h a .byte vs) (hj : ¬ j < 0) (hi : j.toNatClampNeg < vs.length) (q : n0 ≤ a) :
    ∃ h', Wr h h' a j.toNatClampNeg (.int (nar .byte x)) ∧ own_R p l e R s m args below meth c S0 n0 h' ce sl (mkF m (pc + 1) Ls rest) := by
  obtain ⟨cl, F, rfl⟩ := F
  obtain ⟨T, Lc, X, eT, N, k⟩ := A
  obtain ⟨T', h', X', e', W, st⟩ := RoadKit.stB X hx hZ eT F (j := j) (fun z => z.elim hj fun u => by rw [Array.length_toList] at hi; omega) (g := mkF m pc Ls (.int x :: .int j :: .ref a :: rest)) rfl rfl hd
  exact ⟨h', W, T', _, X', e', Fr.snoc X' N q, k.trans (st _ (Steps.refl _))⟩
theorem own_R.ldI {j : Int32} (A : own_R p l e R s m args below meth c S0 n0 h ce sl (mkF m pc Ls (.int j :: .ref a :: rest))) (hx : p.tables.exec = Jvm.exec) (hZ : Z.Warmed39 s.vm)
    (hd : decode c.code pc = .ok (.iaload, 1)) (F : own_Ar Z h a .int vs) (hj : ¬ j < 0) (hv : vs[j.toNatClampNeg]? = some v) :
    own_R p l e R s m args below meth c S0 n0 h ce sl (mkF m (pc + 1) Ls (v :: rest)) := A.law fun T L X eT N => by
  obtain ⟨cl, F, rfl⟩ := F
  rw [Array.getElem?_toList] at hv
  have hlt := (Array.getElem?_eq_some_iff.mp hv).1
  exact ⟨T, L, X, eT, N, fun t k => X.iaload hx (j := j) (v := v) (by rw [eT]; exact F.1) (State.isArrayOf_alike hZ.alike F.2.1) F.2.2 (fun z => z.elim hj fun u => by omega) hv (g := mkF m pc Ls (.int j :: .ref a :: rest)) rfl rfl hd t k⟩
theorem own_R.ldB {j : Int32} (A : own_R p l e R s m args below meth c S0 n0 h ce sl (mkF m pc Ls (.int j :: .ref a :: rest))) (hx : p.tables.exec = Jvm.exec) (hZ : Z.Warmed39 s.vm)
    (hd : decode c.code pc = .ok (.baload, 1)) (F : own_Ar Z h a .byte vs) (hj : ¬ j < 0) (hv : vs[j.toNatClampNeg]? = some v) :
    own_R p l e R s m args below meth c S0 n0 h ce sl (mkF m (pc + 1) Ls (v :: rest)) := A.law fun T L X eT N => by
  obtain ⟨cl, F, rfl⟩ := F
  rw [Array.getElem?_toList] at hv
  have hlt := (Array.getElem?_eq_some_iff.mp hv).1
  exact ⟨T, L, X, eT, N, fun t k => X.baloadBytes hx (j := j) (v := v) (by rw [eT]; exact F.1) (State.isArrayOf_alike hZ.alike F.2.1) F.2.2 (fun z => z.elim hj fun u => by omega) hv (g := mkF m pc Ls (.int j :: .ref a :: rest)) rfl rfl hd t k⟩
theorem own_R.stD {j : Int32} {x : UInt64} (A : own_R p l e R s m args below meth c S0 n0 h ce sl (mkF m pc Ls (.double x :: .int j :: .ref a :: rest))) (hx : p.tables.exec = Jvm.exec) (hZ : Z.Warmed39 s.vm)
    (hd : decode c.code pc = .ok (.dastore, 1)) (F : own_Ar Z h a .double vs) (hj : ¬ j < 0) (hi : j.toNatClampNeg < vs.length) (q : n0 ≤ a) :
    ∃ h', Wr h h' a j.toNatClampNeg (.double x) ∧ own_R p l e R s m args below meth c S0 n0 h' ce sl (mkF m (pc + 1) Ls rest) := by
  obtain ⟨cl, F, rfl⟩ := F
  obtain ⟨T, Lc, X, eT, N, k⟩ := A
  obtain ⟨T', h', X', e', W, st⟩ := RoadKit.stD X hx hZ eT F (j := j) (fun z => z.elim hj fun u => by rw [Array.length_toList] at hi; omega) (g := mkF m pc Ls (.double x :: .int j :: .ref a :: rest)) rfl rfl hd
  exact ⟨h', W, T', _, X', e', Fr.snoc X' N q, k.trans (st _ (Steps.refl _))⟩
theorem own_R.stC {j : Int32} {x : Int32} (A : own_R p l e R s m args below meth c S0 n0 h ce sl (mkF m pc Ls (.int x :: .int j :: .ref a :: rest))) (hx : p.tables.exec = Jvm.exec) (hZ : Z.Warmed39 s.vm)
    (hd : decode c.code pc = .ok (.castore, 1)) (F : own_Ar Z h a .char vs) (hj : ¬ j < 0) (hi : j.toNatClampNeg < vs.length) (q : n0 ≤ a) :
    ∃ h', Wr h h' a j.toNatClampNeg (.int (nar .char x)) ∧ own_R p l e R s m args below meth c S0 n0 h' ce sl (mkF m (pc + 1) Ls rest) := by
  obtain ⟨cl, F, rfl⟩ := F
  obtain ⟨T, Lc, X, eT, N, k⟩ := A
  obtain ⟨T', h', X', e', W, st⟩ := RoadKit.stC X hx hZ eT F (j := j) (fun z => z.elim hj fun u => by rw [Array.length_toList] at hi; omega) (g := mkF m pc Ls (.int x :: .int j :: .ref a :: rest)) rfl rfl hd
  exact ⟨h', W, T', _, X', e', Fr.snoc X' N q, k.trans (st _ (Steps.refl _))⟩
theorem own_R.stL {j : Int32} {x : Int64} (A : own_R p l e R s m args below meth c S0 n0 h ce sl (mkF m pc Ls (.long x :: .int j :: .ref a :: rest))) (hx : p.tables.exec = Jvm.exec) (hZ : Z.Warmed39 s.vm)
    (hd : decode c.code pc = .ok (.lastore, 1)) (F : own_Ar Z h a .long vs) (hj : ¬ j < 0) (hi : j.toNatClampNeg < vs.length) (q : n0 ≤ a) :
    ∃ h', Wr h h' a j.toNatClampNeg (.long x) ∧ own_R p l e R s m args below meth c S0 n0 h' ce sl (mkF m (pc + 1) Ls rest) := by
  obtain ⟨cl, F, rfl⟩ := F
  obtain ⟨T, Lc, X, eT, N, k⟩ := A
  obtain ⟨T', h', X', e', W, st⟩ := RoadKit.stJ X hx hZ eT F (j := j) (fun z => z.elim hj fun u => by rw [Array.length_toList] at hi; omega) (g := mkF m pc Ls (.long x :: .int j :: .ref a :: rest)) rfl rfl hd
  exact ⟨h', W, T', _, X', e', Fr.snoc X' N q, k.trans (st _ (Steps.refl _))⟩
theorem own_R.ldD {j : Int32} (A : own_R p l e R s m args below meth c S0 n0 h ce sl (mkF m pc Ls (.int j :: .ref a :: rest))) (hx : p.tables.exec = Jvm.exec) (hZ : Z.Warmed39 s.vm)
    (hd : decode c.code pc = .ok (.daload, 1)) (F : own_Ar Z h a .double vs) (hj : ¬ j < 0) (hv : vs[j.toNatClampNeg]? = some v) :
    own_R p l e R s m args below meth c S0 n0 h ce sl (mkF m (pc + 1) Ls (v :: rest)) := A.law fun T L X eT N => by
  obtain ⟨cl, F, rfl⟩ := F
  rw [Array.getElem?_toList] at hv
  have hlt := (Array.getElem?_eq_some_iff.mp hv).1
  exact ⟨T, L, X, eT, N, fun t k => X.daload hx (j := j) (v := v) (by rw [eT]; exact F.1) (State.isArrayOf_alike hZ.alike F.2.1) F.2.2 (fun z => z.elim hj fun u => by omega) hv (g := mkF m pc Ls (.int j :: .ref a :: rest)) rfl rfl hd t k⟩
theorem own_R.ldC {j : Int32} (A : own_R p l e R s m args below meth c S0 n0 h ce sl (mkF m pc Ls (.int j :: .ref a :: rest))) (hx : p.tables.exec = Jvm.exec) (hZ : Z.Warmed39 s.vm)
    (hd : decode c.code pc = .ok (.caload, 1)) (F : own_Ar Z h a .char vs) (hj : ¬ j < 0) (hv : vs[j.toNatClampNeg]? = some v) :
    own_R p l e R s m args below meth c S0 n0 h ce sl (mkF m (pc + 1) Ls (v :: rest)) := A.law fun T L X eT N => by
  obtain ⟨cl, F, rfl⟩ := F
  rw [Array.getElem?_toList] at hv
  have hlt := (Array.getElem?_eq_some_iff.mp hv).1
  exact ⟨T, L, X, eT, N, fun t k => X.caload hx (j := j) (v := v) (by rw [eT]; exact F.1) (State.isArrayOf_alike hZ.alike F.2.1) F.2.2 (fun z => z.elim hj fun u => by omega) hv (g := mkF m pc Ls (.int j :: .ref a :: rest)) rfl rfl hd t k⟩
theorem own_R.ldL {j : Int32} (A : own_R p l e R s m args below meth c S0 n0 h ce sl (mkF m pc Ls (.int j :: .ref a :: rest))) (hx : p.tables.exec = Jvm.exec) (hZ : Z.Warmed39 s.vm)
    (hd : decode c.code pc = .ok (.laload, 1)) (F : own_Ar Z h a .long vs) (hj : ¬ j < 0) (hv : vs[j.toNatClampNeg]? = some v) :
    own_R p l e R s m args below meth c S0 n0 h ce sl (mkF m (pc + 1) Ls (v :: rest)) := A.law fun T L X eT N => by
  obtain ⟨cl, F, rfl⟩ := F
  rw [Array.getElem?_toList] at hv
  have hlt := (Array.getElem?_eq_some_iff.mp hv).1
  exact ⟨T, L, X, eT, N, fun t k => X.laload hx (j := j) (v := v) (by rw [eT]; exact F.1) (State.isArrayOf_alike hZ.alike F.2.1) F.2.2 (fun z => z.elim hj fun u => by omega) hv (g := mkF m pc Ls (.int j :: .ref a :: rest)) rfl rfl hd t k⟩
theorem own_R.len (A : own_R p l e R s m args below meth c S0 n0 h ce sl (mkF m pc Ls (.ref a :: rest))) (hx : p.tables.exec = Jvm.exec) (hZ : Z.Warmed39 s.vm)
    (hd : decode c.code pc = .ok (.arraylength, 1)) (F : own_Ar Z h a ty vs) :
    own_R p l e R s m args below meth c S0 n0 h ce sl (mkF m (pc + 1) Ls (.int vs.length.toInt32 :: rest)) := A.law fun T L X eT N => by
  obtain ⟨cl, F, rfl⟩ := F
  exact ⟨T, L, X, eT, N, fun t k => X.arraylength hx (by rw [eT]; exact F.1) (State.isArrayOf_alike hZ.alike F.2.1) (g := mkF m pc Ls (.ref a :: rest)) rfl rfl hd t (by rw [Array.length_toList] at k; exact k)⟩
end Own2
section Own2b
variable {p : Program} {l : Launch} {e : Env} {R : Room} {s : State} {m : MethodId} {args : Array Value} {below : List Frame} {meth : Method} {c : Code} {S0 : State} {n0 : Nat} {h h' : Heap} {ce sl : Nat} {Z : State} {a0 : Array Value} {pc : Nat} {Ls : Array Slot} {rest : List Value} {a : Addr}
theorem own_R.instY {own K : String} {index : Nat} (A : own_R p l e R s m args below meth c S0 n0 h ce sl (mkF m pc Ls (.ref a :: rest))) (hx : p.tables.exec = Jvm.exec) (hZ : Z.Warmed39 s.vm) (hown : s.vm.findClass own = some m.cls)
    (hd : decode c.code pc = .ok (.instanceof index, 3)) (w : (Cond.classLink own index K).before a0 Z = true) (F : Ins Z h a K true) : own_R p l e R s m args below meth c S0 n0 h ce sl (mkF m (pc + 3) Ls (.int 1 :: rest)) := A.law fun T L X eT N => by
  obtain ⟨T', X', e', st⟩ := RoadKit.instY X hx hZ hown w eT F (g := mkF m pc Ls (.ref a :: rest)) rfl rfl hd
  exact ⟨T', L, X', e', N, st⟩
theorem own_R.castY {own K : String} {index : Nat} (A : own_R p l e R s m args below meth c S0 n0 h ce sl (mkF m pc Ls (.ref a :: rest))) (hx : p.tables.exec = Jvm.exec) (hZ : Z.Warmed39 s.vm) (hown : s.vm.findClass own = some m.cls)
    (hd : decode c.code pc = .ok (.checkcast index, 3)) (w : (Cond.classLink own index K).before a0 Z = true) (F : Ins Z h a K true) : own_R p l e R s m args below meth c S0 n0 h ce sl (mkF m (pc + 3) Ls (.ref a :: rest)) := A.law fun T L X eT N => by
  obtain ⟨T', X', e', st⟩ := RoadKit.castY X hx hZ hown w eT F (g := mkF m pc Ls (.ref a :: rest)) rfl rfl hd
  exact ⟨T', L, X', e', N, st⟩
theorem own_eqI {args : Array Value} {t : Term} {k : Int32} (h : (Cond.eq t (.int k)).value args Z none Z [] = some true) : t.eval args Z none [] Z = some (.int k) := by
  simp only [Cond.value, Term.int_eval] at h
  cases hv : t.eval args Z none [] Z with
  | none => rw [hv] at h; cases h
  | some w =>
    rw [hv] at h
    cases w <;> simp at h
    rw [h]
theorem own_Ar.start3 {args : Array Value} {t : Term} {x y z : Int32} (ev : t.eval args Z none [] Z = some (.ref a)) (hA : (Cond.arrayOf t .byte).value args Z none Z [] = some true) (hL : (Cond.eq (.length t) (.int 3)).value args Z none Z [] = some true)
    (h0 : (Cond.eq (.elem t (.int 0)) (.int x)).value args Z none Z [] = some true) (h1 : (Cond.eq (.elem t (.int 1)) (.int y)).value args Z none Z [] = some true) (h2 : (Cond.eq (.elem t (.int 2)) (.int z)).value args Z none Z [] = some true) : own_Ar Z Z.heap a .byte [.int x, .int y, .int z] := by
  obtain ⟨cl, A⟩ := Arr.start ev hA
  have e0 := (elem_in (own_eqI h0) ev (Term.int_eval _) A.1).2
  have e1 := (elem_in (own_eqI h1) ev (Term.int_eval _) A.1).2
  have e2 := (elem_in (own_eqI h2) ev (Term.int_eval _) A.1).2
  have q0 : (0 : Int32).toNatClampNeg = 0 := by decide
  have q1 : (1 : Int32).toNatClampNeg = 1 := by decide
  have q2 : (2 : Int32).toNatClampNeg = 2 := by decide
  rw [q0] at e0
  rw [q1] at e1
  rw [q2] at e2
  have ha : Z.arrayAt? a = some cl := Arr.fin (U := Z) (State.Warmed39.refl Z).alike A
  have hl := own_eqI hL
  simp only [Term.eval, ev, ha, Option.bind_eq_bind, Option.bind_some, Option.pure_def] at hl
  have hsz : cl.slots.size = 3 := by
    split at hl
    · rename_i hlt
      have e3 : cl.slots.size.toInt32 = 3 := by simpa using hl
      have e4 := len_toInt hlt
      rw [e3] at e4
      have e5 : (3 : Int32).toInt = 3 := by decide
      omega
    · cases hl
  refine ⟨cl, A, ?_⟩
  apply List.ext_getElem?
  intro i
  rw [Array.getElem?_toList]
  match i with
  | 0 => exact e0
  | 1 => exact e1
  | 2 => exact e2
  | n + 3 => rw [Array.getElem?_eq_none (by omega)]; rfl
end Own2b

theorem d1_0 : decode prog_29_method_1_code 0 = .ok (.aload_n 0, 1) := by decide +kernel
theorem d1_1 : decode prog_29_method_1_code 1 = .ok (.invokespecial 1, 3) := by decide +kernel
theorem d1_4 : decode prog_29_method_1_code 4 = .ok (.aload_n 0, 1) := by decide +kernel
theorem d1_5 : decode prog_29_method_1_code 5 = .ok (.aload_n 1, 1) := by decide +kernel
theorem d1_6 : decode prog_29_method_1_code 6 = .ok (.putfield 7, 3) := by decide +kernel
theorem d1_9 : decode prog_29_method_1_code 9 = .ok (.aload_n 0, 1) := by decide +kernel
theorem d1_10 : decode prog_29_method_1_code 10 = .ok (.aload_n 2, 1) := by decide +kernel
theorem d1_11 : decode prog_29_method_1_code 11 = .ok (.putfield 13, 3) := by decide +kernel
theorem d1_14 : decode prog_29_method_1_code 14 = .ok (.return_, 1) := by decide +kernel
theorem ef1 (m : MethodId) (a1 : Addr) (a2 : Addr) (a3 : Addr) : entryFrame m #[(.ref a1), (.ref a2), (.ref a3)] 3 = mkF m 0 #[.val (.ref a1), .val (.ref a2), .val (.ref a3)] [] := by first | (simp [entryFrame, mkF, argsToLocals, Value.category, maxLocals]; done) | rfl
set_option maxRecDepth 65536 in
set_option maxHeartbeats 40000000 in
theorem own_init (l : Launch) (Z : State) (a0 : Array Value) (hw : ∀ d ∈ tables_1, d.before a0 Z = true) (a1 a2 a3 : Addr) (h0 : Heap) (n0 : Nat) (Z0 : n0 ≤ h0.size) (E_a1 : Exa Z h0 a1 "com/example/robust_model_checker/robustmodelchecker/checker/ValueBounds") (F_a1_lower : Fld Z h0 a1 "com/example/robust_model_checker/robustmodelchecker/checker/ValueBounds" "lower" "[D" .null) (F_a1_upper : Fld Z h0 a1 "com/example/robust_model_checker/robustmodelchecker/checker/ValueBounds" "upper" "[D" .null) (g_a1 : n0 ≤ a1) :
    own_M l Z (⟨"com/example/robust_model_checker/robustmodelchecker/checker/ValueBounds", "<init>", "([D[D)V"⟩ : MethodName) prog_29_method_1_code 3 none [] ({ frames := 1, cells := 0, slots := 0, locals := 12 } : Room) #[(.ref a1), (.ref a2), (.ref a3)] h0 n0 (fun v h => v = none ∧ Keep h0 h [a1] ∧ Fld Z h a1 "com/example/robust_model_checker/robustmodelchecker/checker/ValueBounds" "lower" "[D" (.ref a2) ∧ Fld Z h a1 "com/example/robust_model_checker/robustmodelchecker/checker/ValueBounds" "upper" "[D" (.ref a3)) := by
  refine own_M.of (plainFor_of_name (by first | (simp [plainName, overriddenIn]; done) | decide +kernel)) ?_
  intro p e s m below meth c S0 hx hby hml hown hnm hret hlk hZ A00
  have A0 := A00.cast (ef1 m a1 a2 a3)
  have KK := Keep.refl h0 [a1]
  have A1 := A0.go (f' := mkF m 1 #[.val (.ref a1), .val (.ref a2), .val (.ref a3)] [(.ref a1)]) fun _ _ X _ k => XS.aloadN X.here hx rfl (hb hby d1_0) rfl rfl k
  have A2 : own_R p l e _ _ m _ below meth c S0 n0 h0 0 0 (mkF m 4 #[.val (.ref a1), .val (.ref a2), .val (.ref a3)] []) := A1.initO hx hZ hown (hb hby d1_1) (hw _ (List.mem_of_getElem? (i := 10) rfl)) (hw _ (List.mem_of_getElem? (i := 11) rfl)) (hw _ (List.mem_of_getElem? (i := 12) rfl)) (by rw [hml]; rfl) (W := 0) (Nat.le_of_eq rfl) (by decide) (by decide)
  have A3 := A2.go (f' := mkF m 5 #[.val (.ref a1), .val (.ref a2), .val (.ref a3)] [(.ref a1)]) fun _ _ X _ k => XS.aloadN X.here hx rfl (hb hby d1_4) rfl rfl k
  have A4 := A3.go (f' := mkF m 6 #[.val (.ref a1), .val (.ref a2), .val (.ref a3)] [(.ref a2), (.ref a1)]) fun _ _ X _ k => XS.aloadN X.here hx rfl (hb hby d1_5) rfl rfl k
  obtain ⟨h5, W6, A7⟩ := A4.putF hx hZ hown (hb hby d1_6) (hw _ (List.mem_of_getElem? (i := 13) rfl)) F_a1_lower E_a1 (Or.inr ⟨(hw _ (List.mem_of_getElem? (i := 14) rfl)), rfl, hnm⟩) (hw _ (List.mem_of_getElem? (i := 5) rfl)) (ty := (.array .double)) (by decide) rfl rfl g_a1
  have E_a1 : Exa Z h5 a1 "com/example/robust_model_checker/robustmodelchecker/checker/ValueBounds" := E_a1.wr W6
  have F_a1_lower : Fld Z h5 a1 "com/example/robust_model_checker/robustmodelchecker/checker/ValueBounds" "lower" "[D" (.ref a2) := F_a1_lower.same W6
  have F_a1_upper : Fld Z h5 a1 "com/example/robust_model_checker/robustmodelchecker/checker/ValueBounds" "upper" "[D" .null := F_a1_upper.other W6 (Or.inr (slot_ne (Or.inr (hw _ (List.mem_of_getElem? (i := 16) rfl))) (Or.inr (hw _ (List.mem_of_getElem? (i := 14) rfl))) (by decide) (t := (.array .double)) (t' := (.array .double)) (by decide) (by decide)))
  have Z0 : n0 ≤ h5.size := by rw [W6.size]; exact Z0
  have KK : Keep h0 h5 [a1] := KK.wr W6 (Or.inl (by simp))
  have A8 : own_R p l e _ _ m _ below meth c S0 n0 h5 0 0 (mkF m 9 #[.val (.ref a1), .val (.ref a2), .val (.ref a3)] []) := A7
  have A9 := A8.go (f' := mkF m 10 #[.val (.ref a1), .val (.ref a2), .val (.ref a3)] [(.ref a1)]) fun _ _ X _ k => XS.aloadN X.here hx rfl (hb hby d1_9) rfl rfl k
  have A10 := A9.go (f' := mkF m 11 #[.val (.ref a1), .val (.ref a2), .val (.ref a3)] [(.ref a3), (.ref a1)]) fun _ _ X _ k => XS.aloadN X.here hx rfl (hb hby d1_10) rfl rfl k
  obtain ⟨h11, W12, A13⟩ := A10.putF hx hZ hown (hb hby d1_11) (hw _ (List.mem_of_getElem? (i := 15) rfl)) F_a1_upper E_a1 (Or.inr ⟨(hw _ (List.mem_of_getElem? (i := 16) rfl)), rfl, hnm⟩) (hw _ (List.mem_of_getElem? (i := 5) rfl)) (ty := (.array .double)) (by decide) rfl rfl g_a1
  have E_a1 : Exa Z h11 a1 "com/example/robust_model_checker/robustmodelchecker/checker/ValueBounds" := E_a1.wr W12
  have F_a1_lower : Fld Z h11 a1 "com/example/robust_model_checker/robustmodelchecker/checker/ValueBounds" "lower" "[D" (.ref a2) := F_a1_lower.other W12 (Or.inr (slot_ne (Or.inr (hw _ (List.mem_of_getElem? (i := 14) rfl))) (Or.inr (hw _ (List.mem_of_getElem? (i := 16) rfl))) (by decide) (t := (.array .double)) (t' := (.array .double)) (by decide) (by decide)))
  have F_a1_upper : Fld Z h11 a1 "com/example/robust_model_checker/robustmodelchecker/checker/ValueBounds" "upper" "[D" (.ref a3) := F_a1_upper.same W12
  have Z0 : n0 ≤ h11.size := by rw [W12.size]; exact Z0
  have KK : Keep h0 h11 [a1] := KK.wr W12 (Or.inl (by simp))
  have A14 : own_R p l e _ _ m _ below meth c S0 n0 h11 0 0 (mkF m 14 #[.val (.ref a1), .val (.ref a2), .val (.ref a3)] []) := A13
  exact A14.retV hx hlk hret (hb hby d1_14) (by decide) (by decide) ⟨rfl, KK, F_a1_lower, F_a1_upper⟩
theorem dv0Eq_0 : decode prog_29_method_2_code 0 = .ok (.aload_n 0, 1) := by decide +kernel
theorem dv0Eq_1 : decode prog_29_method_2_code 1 = .ok (.getfield 7, 3) := by decide +kernel
theorem dv0Eq_4 : decode prog_29_method_2_code 4 = .ok (.iload_n 1, 1) := by decide +kernel
theorem dv0Eq_5 : decode prog_29_method_2_code 5 = .ok (.daload, 1) := by decide +kernel
theorem dv0Eq_6 : decode prog_29_method_2_code 6 = .ok (.aload_n 0, 1) := by decide +kernel
theorem dv0Eq_7 : decode prog_29_method_2_code 7 = .ok (.getfield 13, 3) := by decide +kernel
theorem dv0Eq_10 : decode prog_29_method_2_code 10 = .ok (.iload_n 1, 1) := by decide +kernel
theorem dv0Eq_11 : decode prog_29_method_2_code 11 = .ok (.daload, 1) := by decide +kernel
theorem dv0Eq_12 : decode prog_29_method_2_code 12 = .ok (.dcmp .l, 1) := by decide +kernel
theorem dv0Eq_13 : decode prog_29_method_2_code 13 = .ok (.ifCond .ne 10, 3) := by decide +kernel
theorem dv0Eq_16 : decode prog_29_method_2_code 16 = .ok (.aload_n 0, 1) := by decide +kernel
theorem dv0Eq_17 : decode prog_29_method_2_code 17 = .ok (.getfield 7, 3) := by decide +kernel
theorem dv0Eq_20 : decode prog_29_method_2_code 20 = .ok (.iload_n 1, 1) := by decide +kernel
theorem dv0Eq_21 : decode prog_29_method_2_code 21 = .ok (.daload, 1) := by decide +kernel
theorem dv0Eq_22 : decode prog_29_method_2_code 22 = .ok (.dreturn, 1) := by decide +kernel
theorem efv0Eq (m : MethodId) (a1 : Addr) (p2 : Int32) : entryFrame m #[(.ref a1), (.int p2)] 2 = mkF m 0 #[.val (.ref a1), .val (.int p2)] [] := by first | (simp [entryFrame, mkF, argsToLocals, Value.category, maxLocals]; done) | rfl
set_option maxRecDepth 65536 in
set_option maxHeartbeats 40000000 in
theorem own_value0Eq (l : Launch) (Z : State) (a0 : Array Value) (hw : ∀ d ∈ tables_1, d.before a0 Z = true) (a1 bl bu : Addr) (p2 : Int32) (l0 l1 u0 u1 : UInt64) (h0 : Heap) (n0 : Nat) (Z0 : n0 ≤ h0.size) (F1 : Fld Z h0 a1 "com/example/robust_model_checker/robustmodelchecker/checker/ValueBounds" "lower" "[D" (.ref bl)) (F2 : Fld Z h0 a1 "com/example/robust_model_checker/robustmodelchecker/checker/ValueBounds" "upper" "[D" (.ref bu)) (V_bl : own_Ar Z h0 bl .double [(.double l0), (.double l1)]) (V_bu : own_Ar Z h0 bu .double [(.double u0), (.double u1)]) (hi : p2 = (0 : Int32)) (hc : (cmpValue (FP.dcmp l0 u0) .l) = (0 : Int32)) :
    own_M l Z (⟨"com/example/robust_model_checker/robustmodelchecker/checker/ValueBounds", "value", "(I)D"⟩ : MethodName) prog_29_method_2_code 2 (some .double) [] ({ frames := 0, cells := 0, slots := 0, locals := 0 } : Room) #[(.ref a1), (.int p2)] h0 n0 (fun v h => v = some (.double l0) ∧ h0 = h) := by
  subst hi
  refine own_M.of (plainFor_of_name (by first | (simp [plainName, overriddenIn]; done) | decide +kernel)) ?_
  intro p e s m below meth c S0 hx hby hml hown hnm hret hlk hZ A00
  have A0 := A00.cast (efv0Eq m a1 (0 : Int32))
  have A1 := A0.go (f' := mkF m 1 #[.val (.ref a1), .val (.int (0 : Int32))] [(.ref a1)]) fun _ _ X _ k => XS.aloadN X.here hx rfl (hb hby dv0Eq_0) rfl rfl k
  have A2 : own_R p l e _ _ m _ below meth c S0 n0 h0 0 0 (mkF m 4 #[.val (.ref a1), .val (.int (0 : Int32))] [(.ref bl)]) := A1.getF hx hZ hown (hb hby dv0Eq_1) (hw _ (List.mem_of_getElem? (i := 13) rfl)) Via.refl F1
  have A3 := A2.go (f' := mkF m 5 #[.val (.ref a1), .val (.int (0 : Int32))] [(.int (0 : Int32)), (.ref bl)]) fun _ _ X _ k => XS.iloadN X.here hx rfl (hb hby dv0Eq_4) rfl k
  have A4 : own_R p l e _ _ m _ below meth c S0 n0 h0 0 0 (mkF m 6 #[.val (.ref a1), .val (.int (0 : Int32))] [(.double l0)]) := A3.ldD hx hZ (hb hby dv0Eq_5) V_bl (by decide) rfl
  have A5 := A4.go (f' := mkF m 7 #[.val (.ref a1), .val (.int (0 : Int32))] [(.ref a1), (.double l0)]) fun _ _ X _ k => XS.aloadN X.here hx rfl (hb hby dv0Eq_6) rfl rfl k
  have A6 : own_R p l e _ _ m _ below meth c S0 n0 h0 0 0 (mkF m 10 #[.val (.ref a1), .val (.int (0 : Int32))] [(.ref bu), (.double l0)]) := A5.getF hx hZ hown (hb hby dv0Eq_7) (hw _ (List.mem_of_getElem? (i := 15) rfl)) Via.refl F2
  have A7 := A6.go (f' := mkF m 11 #[.val (.ref a1), .val (.int (0 : Int32))] [(.int (0 : Int32)), (.ref bu), (.double l0)]) fun _ _ X _ k => XS.iloadN X.here hx rfl (hb hby dv0Eq_10) rfl k
  have A8 : own_R p l e _ _ m _ below meth c S0 n0 h0 0 0 (mkF m 12 #[.val (.ref a1), .val (.int (0 : Int32))] [(.double u0), (.double l0)]) := A7.ldD hx hZ (hb hby dv0Eq_11) V_bu (by decide) rfl
  have A9 := A8.go (f' := mkF m 13 #[.val (.ref a1), .val (.int (0 : Int32))] [(.int (cmpValue (FP.dcmp l0 u0) .l))]) fun _ _ X _ k => XS.dcmpS X.here hx rfl (hb hby dv0Eq_12) rfl rfl k
  have q10 : ((cmpValue (FP.dcmp l0 u0) .l) = (0 : Int32)) := hc
  have A11 := A9.go (f' := mkF m 16 #[.val (.ref a1), .val (.int (0 : Int32))] []) fun _ _ X _ k => XS.ifNo X.here hx rfl (hb hby dv0Eq_13) rfl ((if0 _ _).trans (teq q10).2) k
  have A12 := A11.go (f' := mkF m 17 #[.val (.ref a1), .val (.int (0 : Int32))] [(.ref a1)]) fun _ _ X _ k => XS.aloadN X.here hx rfl (hb hby dv0Eq_16) rfl rfl k
  have A13 : own_R p l e _ _ m _ below meth c S0 n0 h0 0 0 (mkF m 20 #[.val (.ref a1), .val (.int (0 : Int32))] [(.ref bl)]) := A12.getF hx hZ hown (hb hby dv0Eq_17) (hw _ (List.mem_of_getElem? (i := 13) rfl)) Via.refl F1
  have A14 := A13.go (f' := mkF m 21 #[.val (.ref a1), .val (.int (0 : Int32))] [(.int (0 : Int32)), (.ref bl)]) fun _ _ X _ k => XS.iloadN X.here hx rfl (hb hby dv0Eq_20) rfl k
  have A15 : own_R p l e _ _ m _ below meth c S0 n0 h0 0 0 (mkF m 22 #[.val (.ref a1), .val (.int (0 : Int32))] [(.double l0)]) := A14.ldD hx hZ (hb hby dv0Eq_21) V_bl (by decide) rfl
  exact A15.ret hx hlk hret (hb hby dv0Eq_22) rfl (Or.inr (Or.inr (Or.inl ⟨rfl, rfl, _, rfl⟩))) (by decide) (by decide) ⟨rfl, rfl⟩
theorem dv0Ne_0 : decode prog_29_method_2_code 0 = .ok (.aload_n 0, 1) := by decide +kernel
theorem dv0Ne_1 : decode prog_29_method_2_code 1 = .ok (.getfield 7, 3) := by decide +kernel
theorem dv0Ne_4 : decode prog_29_method_2_code 4 = .ok (.iload_n 1, 1) := by decide +kernel
theorem dv0Ne_5 : decode prog_29_method_2_code 5 = .ok (.daload, 1) := by decide +kernel
theorem dv0Ne_6 : decode prog_29_method_2_code 6 = .ok (.aload_n 0, 1) := by decide +kernel
theorem dv0Ne_7 : decode prog_29_method_2_code 7 = .ok (.getfield 13, 3) := by decide +kernel
theorem dv0Ne_10 : decode prog_29_method_2_code 10 = .ok (.iload_n 1, 1) := by decide +kernel
theorem dv0Ne_11 : decode prog_29_method_2_code 11 = .ok (.daload, 1) := by decide +kernel
theorem dv0Ne_12 : decode prog_29_method_2_code 12 = .ok (.dcmp .l, 1) := by decide +kernel
theorem dv0Ne_13 : decode prog_29_method_2_code 13 = .ok (.ifCond .ne 10, 3) := by decide +kernel
theorem dv0Ne_23 : decode prog_29_method_2_code 23 = .ok (.aload_n 0, 1) := by decide +kernel
theorem dv0Ne_24 : decode prog_29_method_2_code 24 = .ok (.getfield 7, 3) := by decide +kernel
theorem dv0Ne_27 : decode prog_29_method_2_code 27 = .ok (.iload_n 1, 1) := by decide +kernel
theorem dv0Ne_28 : decode prog_29_method_2_code 28 = .ok (.daload, 1) := by decide +kernel
theorem dv0Ne_29 : decode prog_29_method_2_code 29 = .ok (.aload_n 0, 1) := by decide +kernel
theorem dv0Ne_30 : decode prog_29_method_2_code 30 = .ok (.getfield 13, 3) := by decide +kernel
theorem dv0Ne_33 : decode prog_29_method_2_code 33 = .ok (.iload_n 1, 1) := by decide +kernel
theorem dv0Ne_34 : decode prog_29_method_2_code 34 = .ok (.daload, 1) := by decide +kernel
theorem dv0Ne_35 : decode prog_29_method_2_code 35 = .ok (.aload_n 0, 1) := by decide +kernel
theorem dv0Ne_36 : decode prog_29_method_2_code 36 = .ok (.getfield 7, 3) := by decide +kernel
theorem dv0Ne_39 : decode prog_29_method_2_code 39 = .ok (.iload_n 1, 1) := by decide +kernel
theorem dv0Ne_40 : decode prog_29_method_2_code 40 = .ok (.daload, 1) := by decide +kernel
theorem dv0Ne_41 : decode prog_29_method_2_code 41 = .ok (.dsub, 1) := by decide +kernel
theorem dv0Ne_42 : decode prog_29_method_2_code 42 = .ok (.ldc2_w 16, 3) := by decide +kernel
theorem dv0Ne_45 : decode prog_29_method_2_code 45 = .ok (.ddiv, 1) := by decide +kernel
theorem dv0Ne_46 : decode prog_29_method_2_code 46 = .ok (.dadd, 1) := by decide +kernel
theorem dv0Ne_47 : decode prog_29_method_2_code 47 = .ok (.dreturn, 1) := by decide +kernel
theorem efv0Ne (m : MethodId) (a1 : Addr) (p2 : Int32) : entryFrame m #[(.ref a1), (.int p2)] 2 = mkF m 0 #[.val (.ref a1), .val (.int p2)] [] := by first | (simp [entryFrame, mkF, argsToLocals, Value.category, maxLocals]; done) | rfl
set_option maxRecDepth 65536 in
set_option maxHeartbeats 40000000 in
theorem own_value0Ne (l : Launch) (Z : State) (a0 : Array Value) (hw : ∀ d ∈ tables_1, d.before a0 Z = true) (a1 bl bu : Addr) (p2 : Int32) (l0 l1 u0 u1 : UInt64) (h0 : Heap) (n0 : Nat) (Z0 : n0 ≤ h0.size) (F1 : Fld Z h0 a1 "com/example/robust_model_checker/robustmodelchecker/checker/ValueBounds" "lower" "[D" (.ref bl)) (F2 : Fld Z h0 a1 "com/example/robust_model_checker/robustmodelchecker/checker/ValueBounds" "upper" "[D" (.ref bu)) (V_bl : own_Ar Z h0 bl .double [(.double l0), (.double l1)]) (V_bu : own_Ar Z h0 bu .double [(.double u0), (.double u1)]) (hi : p2 = (0 : Int32)) (hc : ¬ (cmpValue (FP.dcmp l0 u0) .l) = (0 : Int32)) (hn1 : Jvm.Free.Fl.NoNaN64 (FP.dsub u0 l0)) (hn2 : Jvm.Free.Fl.NoNaN64 (FP.ddiv (FP.dsub u0 l0) (4611686018427387904 : UInt64))) (hn3 : Jvm.Free.Fl.NoNaN64 (FP.dadd l0 (FP.ddiv (FP.dsub u0 l0) (4611686018427387904 : UInt64)))) :
    own_M l Z (⟨"com/example/robust_model_checker/robustmodelchecker/checker/ValueBounds", "value", "(I)D"⟩ : MethodName) prog_29_method_2_code 2 (some .double) [] ({ frames := 0, cells := 0, slots := 0, locals := 0 } : Room) #[(.ref a1), (.int p2)] h0 n0 (fun v h => v = some (.double (FP.dadd l0 (FP.ddiv (FP.dsub u0 l0) (4611686018427387904 : UInt64)))) ∧ h0 = h) := by
  subst hi
  refine own_M.of (plainFor_of_name (by first | (simp [plainName, overriddenIn]; done) | decide +kernel)) ?_
  intro p e s m below meth c S0 hx hby hml hown hnm hret hlk hZ A00
  have A0 := A00.cast (efv0Ne m a1 (0 : Int32))
  have A1 := A0.go (f' := mkF m 1 #[.val (.ref a1), .val (.int (0 : Int32))] [(.ref a1)]) fun _ _ X _ k => XS.aloadN X.here hx rfl (hb hby dv0Ne_0) rfl rfl k
  have A2 : own_R p l e _ _ m _ below meth c S0 n0 h0 0 0 (mkF m 4 #[.val (.ref a1), .val (.int (0 : Int32))] [(.ref bl)]) := A1.getF hx hZ hown (hb hby dv0Ne_1) (hw _ (List.mem_of_getElem? (i := 13) rfl)) Via.refl F1
  have A3 := A2.go (f' := mkF m 5 #[.val (.ref a1), .val (.int (0 : Int32))] [(.int (0 : Int32)), (.ref bl)]) fun _ _ X _ k => XS.iloadN X.here hx rfl (hb hby dv0Ne_4) rfl k
  have A4 : own_R p l e _ _ m _ below meth c S0 n0 h0 0 0 (mkF m 6 #[.val (.ref a1), .val (.int (0 : Int32))] [(.double l0)]) := A3.ldD hx hZ (hb hby dv0Ne_5) V_bl (by decide) rfl
  have A5 := A4.go (f' := mkF m 7 #[.val (.ref a1), .val (.int (0 : Int32))] [(.ref a1), (.double l0)]) fun _ _ X _ k => XS.aloadN X.here hx rfl (hb hby dv0Ne_6) rfl rfl k
  have A6 : own_R p l e _ _ m _ below meth c S0 n0 h0 0 0 (mkF m 10 #[.val (.ref a1), .val (.int (0 : Int32))] [(.ref bu), (.double l0)]) := A5.getF hx hZ hown (hb hby dv0Ne_7) (hw _ (List.mem_of_getElem? (i := 15) rfl)) Via.refl F2
  have A7 := A6.go (f' := mkF m 11 #[.val (.ref a1), .val (.int (0 : Int32))] [(.int (0 : Int32)), (.ref bu), (.double l0)]) fun _ _ X _ k => XS.iloadN X.here hx rfl (hb hby dv0Ne_10) rfl k
  have A8 : own_R p l e _ _ m _ below meth c S0 n0 h0 0 0 (mkF m 12 #[.val (.ref a1), .val (.int (0 : Int32))] [(.double u0), (.double l0)]) := A7.ldD hx hZ (hb hby dv0Ne_11) V_bu (by decide) rfl
  have A9 := A8.go (f' := mkF m 13 #[.val (.ref a1), .val (.int (0 : Int32))] [(.int (cmpValue (FP.dcmp l0 u0) .l))]) fun _ _ X _ k => XS.dcmpS X.here hx rfl (hb hby dv0Ne_12) rfl rfl k
  have q10 : ¬ ((cmpValue (FP.dcmp l0 u0) .l) = (0 : Int32)) := hc
  have A11 := A9.go (f' := mkF m 23 #[.val (.ref a1), .val (.int (0 : Int32))] []) fun _ _ X _ k => XS.ifYes X.here hx rfl (pc0 := 13) (pc' := 23) rfl (hb hby dv0Ne_13) rfl ((if0 _ _).trans (feq q10).2) (by decide) (by decide) k
  have A12 := A11.go (f' := mkF m 24 #[.val (.ref a1), .val (.int (0 : Int32))] [(.ref a1)]) fun _ _ X _ k => XS.aloadN X.here hx rfl (hb hby dv0Ne_23) rfl rfl k
  have A13 : own_R p l e _ _ m _ below meth c S0 n0 h0 0 0 (mkF m 27 #[.val (.ref a1), .val (.int (0 : Int32))] [(.ref bl)]) := A12.getF hx hZ hown (hb hby dv0Ne_24) (hw _ (List.mem_of_getElem? (i := 13) rfl)) Via.refl F1
  have A14 := A13.go (f' := mkF m 28 #[.val (.ref a1), .val (.int (0 : Int32))] [(.int (0 : Int32)), (.ref bl)]) fun _ _ X _ k => XS.iloadN X.here hx rfl (hb hby dv0Ne_27) rfl k
  have A15 : own_R p l e _ _ m _ below meth c S0 n0 h0 0 0 (mkF m 29 #[.val (.ref a1), .val (.int (0 : Int32))] [(.double l0)]) := A14.ldD hx hZ (hb hby dv0Ne_28) V_bl (by decide) rfl
  have A16 := A15.go (f' := mkF m 30 #[.val (.ref a1), .val (.int (0 : Int32))] [(.ref a1), (.double l0)]) fun _ _ X _ k => XS.aloadN X.here hx rfl (hb hby dv0Ne_29) rfl rfl k
  have A17 : own_R p l e _ _ m _ below meth c S0 n0 h0 0 0 (mkF m 33 #[.val (.ref a1), .val (.int (0 : Int32))] [(.ref bu), (.double l0)]) := A16.getF hx hZ hown (hb hby dv0Ne_30) (hw _ (List.mem_of_getElem? (i := 15) rfl)) Via.refl F2
  have A18 := A17.go (f' := mkF m 34 #[.val (.ref a1), .val (.int (0 : Int32))] [(.int (0 : Int32)), (.ref bu), (.double l0)]) fun _ _ X _ k => XS.iloadN X.here hx rfl (hb hby dv0Ne_33) rfl k
  have A19 : own_R p l e _ _ m _ below meth c S0 n0 h0 0 0 (mkF m 35 #[.val (.ref a1), .val (.int (0 : Int32))] [(.double u0), (.double l0)]) := A18.ldD hx hZ (hb hby dv0Ne_34) V_bu (by decide) rfl
  have A20 := A19.go (f' := mkF m 36 #[.val (.ref a1), .val (.int (0 : Int32))] [(.ref a1), (.double u0), (.double l0)]) fun _ _ X _ k => XS.aloadN X.here hx rfl (hb hby dv0Ne_35) rfl rfl k
  have A21 : own_R p l e _ _ m _ below meth c S0 n0 h0 0 0 (mkF m 39 #[.val (.ref a1), .val (.int (0 : Int32))] [(.ref bl), (.double u0), (.double l0)]) := A20.getF hx hZ hown (hb hby dv0Ne_36) (hw _ (List.mem_of_getElem? (i := 13) rfl)) Via.refl F1
  have A22 := A21.go (f' := mkF m 40 #[.val (.ref a1), .val (.int (0 : Int32))] [(.int (0 : Int32)), (.ref bl), (.double u0), (.double l0)]) fun _ _ X _ k => XS.iloadN X.here hx rfl (hb hby dv0Ne_39) rfl k
  have A23 : own_R p l e _ _ m _ below meth c S0 n0 h0 0 0 (mkF m 41 #[.val (.ref a1), .val (.int (0 : Int32))] [(.double l0), (.double u0), (.double l0)]) := A22.ldD hx hZ (hb hby dv0Ne_40) V_bl (by decide) rfl
  have A24 := A23.go (f' := mkF m 42 #[.val (.ref a1), .val (.int (0 : Int32))] [(.double (FP.dsub u0 l0)), (.double l0)]) fun _ _ X _ k => XS.dsubS X.here hx rfl (hb hby dv0Ne_41) rfl hn1 rfl k
  have A25 : own_R p l e _ _ m _ below meth c S0 n0 h0 0 0 (mkF m 45 #[.val (.ref a1), .val (.int (0 : Int32))] [(.double (4611686018427387904 : UInt64)), (.double (FP.dsub u0 l0)), (.double l0)]) := A24.ldcD hx hZ hown (hb hby dv0Ne_42) (hw _ (List.mem_of_getElem? (i := 24) rfl))
  have A26 := A25.go (f' := mkF m 46 #[.val (.ref a1), .val (.int (0 : Int32))] [(.double (FP.ddiv (FP.dsub u0 l0) (4611686018427387904 : UInt64))), (.double l0)]) fun _ _ X _ k => XS.ddivS X.here hx rfl (hb hby dv0Ne_45) rfl hn2 rfl k
  have A27 := A26.go (f' := mkF m 47 #[.val (.ref a1), .val (.int (0 : Int32))] [(.double (FP.dadd l0 (FP.ddiv (FP.dsub u0 l0) (4611686018427387904 : UInt64))))]) fun _ _ X _ k => XS.daddS X.here hx rfl (hb hby dv0Ne_46) rfl hn3 rfl k
  exact A27.ret hx hlk hret (hb hby dv0Ne_47) rfl (Or.inr (Or.inr (Or.inl ⟨rfl, rfl, _, rfl⟩))) (by decide) (by decide) ⟨rfl, rfl⟩
theorem dv1Eq_0 : decode prog_29_method_2_code 0 = .ok (.aload_n 0, 1) := by decide +kernel
theorem dv1Eq_1 : decode prog_29_method_2_code 1 = .ok (.getfield 7, 3) := by decide +kernel
theorem dv1Eq_4 : decode prog_29_method_2_code 4 = .ok (.iload_n 1, 1) := by decide +kernel
theorem dv1Eq_5 : decode prog_29_method_2_code 5 = .ok (.daload, 1) := by decide +kernel
theorem dv1Eq_6 : decode prog_29_method_2_code 6 = .ok (.aload_n 0, 1) := by decide +kernel
theorem dv1Eq_7 : decode prog_29_method_2_code 7 = .ok (.getfield 13, 3) := by decide +kernel
theorem dv1Eq_10 : decode prog_29_method_2_code 10 = .ok (.iload_n 1, 1) := by decide +kernel
theorem dv1Eq_11 : decode prog_29_method_2_code 11 = .ok (.daload, 1) := by decide +kernel
theorem dv1Eq_12 : decode prog_29_method_2_code 12 = .ok (.dcmp .l, 1) := by decide +kernel
theorem dv1Eq_13 : decode prog_29_method_2_code 13 = .ok (.ifCond .ne 10, 3) := by decide +kernel
theorem dv1Eq_16 : decode prog_29_method_2_code 16 = .ok (.aload_n 0, 1) := by decide +kernel
theorem dv1Eq_17 : decode prog_29_method_2_code 17 = .ok (.getfield 7, 3) := by decide +kernel
theorem dv1Eq_20 : decode prog_29_method_2_code 20 = .ok (.iload_n 1, 1) := by decide +kernel
theorem dv1Eq_21 : decode prog_29_method_2_code 21 = .ok (.daload, 1) := by decide +kernel
theorem dv1Eq_22 : decode prog_29_method_2_code 22 = .ok (.dreturn, 1) := by decide +kernel
theorem efv1Eq (m : MethodId) (a1 : Addr) (p2 : Int32) : entryFrame m #[(.ref a1), (.int p2)] 2 = mkF m 0 #[.val (.ref a1), .val (.int p2)] [] := by first | (simp [entryFrame, mkF, argsToLocals, Value.category, maxLocals]; done) | rfl
set_option maxRecDepth 65536 in
set_option maxHeartbeats 40000000 in
theorem own_value1Eq (l : Launch) (Z : State) (a0 : Array Value) (hw : ∀ d ∈ tables_1, d.before a0 Z = true) (a1 bl bu : Addr) (p2 : Int32) (l0 l1 u0 u1 : UInt64) (h0 : Heap) (n0 : Nat) (Z0 : n0 ≤ h0.size) (F1 : Fld Z h0 a1 "com/example/robust_model_checker/robustmodelchecker/checker/ValueBounds" "lower" "[D" (.ref bl)) (F2 : Fld Z h0 a1 "com/example/robust_model_checker/robustmodelchecker/checker/ValueBounds" "upper" "[D" (.ref bu)) (V_bl : own_Ar Z h0 bl .double [(.double l0), (.double l1)]) (V_bu : own_Ar Z h0 bu .double [(.double u0), (.double u1)]) (hi : p2 = (1 : Int32)) (hc : (cmpValue (FP.dcmp l1 u1) .l) = (0 : Int32)) :
    own_M l Z (⟨"com/example/robust_model_checker/robustmodelchecker/checker/ValueBounds", "value", "(I)D"⟩ : MethodName) prog_29_method_2_code 2 (some .double) [] ({ frames := 0, cells := 0, slots := 0, locals := 0 } : Room) #[(.ref a1), (.int p2)] h0 n0 (fun v h => v = some (.double l1) ∧ h0 = h) := by
  subst hi
  refine own_M.of (plainFor_of_name (by first | (simp [plainName, overriddenIn]; done) | decide +kernel)) ?_
  intro p e s m below meth c S0 hx hby hml hown hnm hret hlk hZ A00
  have A0 := A00.cast (efv1Eq m a1 (1 : Int32))
  have A1 := A0.go (f' := mkF m 1 #[.val (.ref a1), .val (.int (1 : Int32))] [(.ref a1)]) fun _ _ X _ k => XS.aloadN X.here hx rfl (hb hby dv1Eq_0) rfl rfl k
  have A2 : own_R p l e _ _ m _ below meth c S0 n0 h0 0 0 (mkF m 4 #[.val (.ref a1), .val (.int (1 : Int32))] [(.ref bl)]) := A1.getF hx hZ hown (hb hby dv1Eq_1) (hw _ (List.mem_of_getElem? (i := 13) rfl)) Via.refl F1
  have A3 := A2.go (f' := mkF m 5 #[.val (.ref a1), .val (.int (1 : Int32))] [(.int (1 : Int32)), (.ref bl)]) fun _ _ X _ k => XS.iloadN X.here hx rfl (hb hby dv1Eq_4) rfl k
  have A4 : own_R p l e _ _ m _ below meth c S0 n0 h0 0 0 (mkF m 6 #[.val (.ref a1), .val (.int (1 : Int32))] [(.double l1)]) := A3.ldD hx hZ (hb hby dv1Eq_5) V_bl (by decide) rfl
  have A5 := A4.go (f' := mkF m 7 #[.val (.ref a1), .val (.int (1 : Int32))] [(.ref a1), (.double l1)]) fun _ _ X _ k => XS.aloadN X.here hx rfl (hb hby dv1Eq_6) rfl rfl k
  have A6 : own_R p l e _ _ m _ below meth c S0 n0 h0 0 0 (mkF m 10 #[.val (.ref a1), .val (.int (1 : Int32))] [(.ref bu), (.double l1)]) := A5.getF hx hZ hown (hb hby dv1Eq_7) (hw _ (List.mem_of_getElem? (i := 15) rfl)) Via.refl F2
  have A7 := A6.go (f' := mkF m 11 #[.val (.ref a1), .val (.int (1 : Int32))] [(.int (1 : Int32)), (.ref bu), (.double l1)]) fun _ _ X _ k => XS.iloadN X.here hx rfl (hb hby dv1Eq_10) rfl k
  have A8 : own_R p l e _ _ m _ below meth c S0 n0 h0 0 0 (mkF m 12 #[.val (.ref a1), .val (.int (1 : Int32))] [(.double u1), (.double l1)]) := A7.ldD hx hZ (hb hby dv1Eq_11) V_bu (by decide) rfl
  have A9 := A8.go (f' := mkF m 13 #[.val (.ref a1), .val (.int (1 : Int32))] [(.int (cmpValue (FP.dcmp l1 u1) .l))]) fun _ _ X _ k => XS.dcmpS X.here hx rfl (hb hby dv1Eq_12) rfl rfl k
  have q10 : ((cmpValue (FP.dcmp l1 u1) .l) = (0 : Int32)) := hc
  have A11 := A9.go (f' := mkF m 16 #[.val (.ref a1), .val (.int (1 : Int32))] []) fun _ _ X _ k => XS.ifNo X.here hx rfl (hb hby dv1Eq_13) rfl ((if0 _ _).trans (teq q10).2) k
  have A12 := A11.go (f' := mkF m 17 #[.val (.ref a1), .val (.int (1 : Int32))] [(.ref a1)]) fun _ _ X _ k => XS.aloadN X.here hx rfl (hb hby dv1Eq_16) rfl rfl k
  have A13 : own_R p l e _ _ m _ below meth c S0 n0 h0 0 0 (mkF m 20 #[.val (.ref a1), .val (.int (1 : Int32))] [(.ref bl)]) := A12.getF hx hZ hown (hb hby dv1Eq_17) (hw _ (List.mem_of_getElem? (i := 13) rfl)) Via.refl F1
  have A14 := A13.go (f' := mkF m 21 #[.val (.ref a1), .val (.int (1 : Int32))] [(.int (1 : Int32)), (.ref bl)]) fun _ _ X _ k => XS.iloadN X.here hx rfl (hb hby dv1Eq_20) rfl k
  have A15 : own_R p l e _ _ m _ below meth c S0 n0 h0 0 0 (mkF m 22 #[.val (.ref a1), .val (.int (1 : Int32))] [(.double l1)]) := A14.ldD hx hZ (hb hby dv1Eq_21) V_bl (by decide) rfl
  exact A15.ret hx hlk hret (hb hby dv1Eq_22) rfl (Or.inr (Or.inr (Or.inl ⟨rfl, rfl, _, rfl⟩))) (by decide) (by decide) ⟨rfl, rfl⟩
theorem dv1Ne_0 : decode prog_29_method_2_code 0 = .ok (.aload_n 0, 1) := by decide +kernel
theorem dv1Ne_1 : decode prog_29_method_2_code 1 = .ok (.getfield 7, 3) := by decide +kernel
theorem dv1Ne_4 : decode prog_29_method_2_code 4 = .ok (.iload_n 1, 1) := by decide +kernel
theorem dv1Ne_5 : decode prog_29_method_2_code 5 = .ok (.daload, 1) := by decide +kernel
theorem dv1Ne_6 : decode prog_29_method_2_code 6 = .ok (.aload_n 0, 1) := by decide +kernel
theorem dv1Ne_7 : decode prog_29_method_2_code 7 = .ok (.getfield 13, 3) := by decide +kernel
theorem dv1Ne_10 : decode prog_29_method_2_code 10 = .ok (.iload_n 1, 1) := by decide +kernel
theorem dv1Ne_11 : decode prog_29_method_2_code 11 = .ok (.daload, 1) := by decide +kernel
theorem dv1Ne_12 : decode prog_29_method_2_code 12 = .ok (.dcmp .l, 1) := by decide +kernel
theorem dv1Ne_13 : decode prog_29_method_2_code 13 = .ok (.ifCond .ne 10, 3) := by decide +kernel
theorem dv1Ne_23 : decode prog_29_method_2_code 23 = .ok (.aload_n 0, 1) := by decide +kernel
theorem dv1Ne_24 : decode prog_29_method_2_code 24 = .ok (.getfield 7, 3) := by decide +kernel
theorem dv1Ne_27 : decode prog_29_method_2_code 27 = .ok (.iload_n 1, 1) := by decide +kernel
theorem dv1Ne_28 : decode prog_29_method_2_code 28 = .ok (.daload, 1) := by decide +kernel
theorem dv1Ne_29 : decode prog_29_method_2_code 29 = .ok (.aload_n 0, 1) := by decide +kernel
theorem dv1Ne_30 : decode prog_29_method_2_code 30 = .ok (.getfield 13, 3) := by decide +kernel
theorem dv1Ne_33 : decode prog_29_method_2_code 33 = .ok (.iload_n 1, 1) := by decide +kernel
theorem dv1Ne_34 : decode prog_29_method_2_code 34 = .ok (.daload, 1) := by decide +kernel
theorem dv1Ne_35 : decode prog_29_method_2_code 35 = .ok (.aload_n 0, 1) := by decide +kernel
theorem dv1Ne_36 : decode prog_29_method_2_code 36 = .ok (.getfield 7, 3) := by decide +kernel
theorem dv1Ne_39 : decode prog_29_method_2_code 39 = .ok (.iload_n 1, 1) := by decide +kernel
theorem dv1Ne_40 : decode prog_29_method_2_code 40 = .ok (.daload, 1) := by decide +kernel
theorem dv1Ne_41 : decode prog_29_method_2_code 41 = .ok (.dsub, 1) := by decide +kernel
theorem dv1Ne_42 : decode prog_29_method_2_code 42 = .ok (.ldc2_w 16, 3) := by decide +kernel
theorem dv1Ne_45 : decode prog_29_method_2_code 45 = .ok (.ddiv, 1) := by decide +kernel
theorem dv1Ne_46 : decode prog_29_method_2_code 46 = .ok (.dadd, 1) := by decide +kernel
theorem dv1Ne_47 : decode prog_29_method_2_code 47 = .ok (.dreturn, 1) := by decide +kernel
theorem efv1Ne (m : MethodId) (a1 : Addr) (p2 : Int32) : entryFrame m #[(.ref a1), (.int p2)] 2 = mkF m 0 #[.val (.ref a1), .val (.int p2)] [] := by first | (simp [entryFrame, mkF, argsToLocals, Value.category, maxLocals]; done) | rfl
set_option maxRecDepth 65536 in
set_option maxHeartbeats 40000000 in
theorem own_value1Ne (l : Launch) (Z : State) (a0 : Array Value) (hw : ∀ d ∈ tables_1, d.before a0 Z = true) (a1 bl bu : Addr) (p2 : Int32) (l0 l1 u0 u1 : UInt64) (h0 : Heap) (n0 : Nat) (Z0 : n0 ≤ h0.size) (F1 : Fld Z h0 a1 "com/example/robust_model_checker/robustmodelchecker/checker/ValueBounds" "lower" "[D" (.ref bl)) (F2 : Fld Z h0 a1 "com/example/robust_model_checker/robustmodelchecker/checker/ValueBounds" "upper" "[D" (.ref bu)) (V_bl : own_Ar Z h0 bl .double [(.double l0), (.double l1)]) (V_bu : own_Ar Z h0 bu .double [(.double u0), (.double u1)]) (hi : p2 = (1 : Int32)) (hc : ¬ (cmpValue (FP.dcmp l1 u1) .l) = (0 : Int32)) (hn1 : Jvm.Free.Fl.NoNaN64 (FP.dsub u1 l1)) (hn2 : Jvm.Free.Fl.NoNaN64 (FP.ddiv (FP.dsub u1 l1) (4611686018427387904 : UInt64))) (hn3 : Jvm.Free.Fl.NoNaN64 (FP.dadd l1 (FP.ddiv (FP.dsub u1 l1) (4611686018427387904 : UInt64)))) :
    own_M l Z (⟨"com/example/robust_model_checker/robustmodelchecker/checker/ValueBounds", "value", "(I)D"⟩ : MethodName) prog_29_method_2_code 2 (some .double) [] ({ frames := 0, cells := 0, slots := 0, locals := 0 } : Room) #[(.ref a1), (.int p2)] h0 n0 (fun v h => v = some (.double (FP.dadd l1 (FP.ddiv (FP.dsub u1 l1) (4611686018427387904 : UInt64)))) ∧ h0 = h) := by
  subst hi
  refine own_M.of (plainFor_of_name (by first | (simp [plainName, overriddenIn]; done) | decide +kernel)) ?_
  intro p e s m below meth c S0 hx hby hml hown hnm hret hlk hZ A00
  have A0 := A00.cast (efv1Ne m a1 (1 : Int32))
  have A1 := A0.go (f' := mkF m 1 #[.val (.ref a1), .val (.int (1 : Int32))] [(.ref a1)]) fun _ _ X _ k => XS.aloadN X.here hx rfl (hb hby dv1Ne_0) rfl rfl k
  have A2 : own_R p l e _ _ m _ below meth c S0 n0 h0 0 0 (mkF m 4 #[.val (.ref a1), .val (.int (1 : Int32))] [(.ref bl)]) := A1.getF hx hZ hown (hb hby dv1Ne_1) (hw _ (List.mem_of_getElem? (i := 13) rfl)) Via.refl F1
  have A3 := A2.go (f' := mkF m 5 #[.val (.ref a1), .val (.int (1 : Int32))] [(.int (1 : Int32)), (.ref bl)]) fun _ _ X _ k => XS.iloadN X.here hx rfl (hb hby dv1Ne_4) rfl k
  have A4 : own_R p l e _ _ m _ below meth c S0 n0 h0 0 0 (mkF m 6 #[.val (.ref a1), .val (.int (1 : Int32))] [(.double l1)]) := A3.ldD hx hZ (hb hby dv1Ne_5) V_bl (by decide) rfl
  have A5 := A4.go (f' := mkF m 7 #[.val (.ref a1), .val (.int (1 : Int32))] [(.ref a1), (.double l1)]) fun _ _ X _ k => XS.aloadN X.here hx rfl (hb hby dv1Ne_6) rfl rfl k
  have A6 : own_R p l e _ _ m _ below meth c S0 n0 h0 0 0 (mkF m 10 #[.val (.ref a1), .val (.int (1 : Int32))] [(.ref bu), (.double l1)]) := A5.getF hx hZ hown (hb hby dv1Ne_7) (hw _ (List.mem_of_getElem? (i := 15) rfl)) Via.refl F2
  have A7 := A6.go (f' := mkF m 11 #[.val (.ref a1), .val (.int (1 : Int32))] [(.int (1 : Int32)), (.ref bu), (.double l1)]) fun _ _ X _ k => XS.iloadN X.here hx rfl (hb hby dv1Ne_10) rfl k
  have A8 : own_R p l e _ _ m _ below meth c S0 n0 h0 0 0 (mkF m 12 #[.val (.ref a1), .val (.int (1 : Int32))] [(.double u1), (.double l1)]) := A7.ldD hx hZ (hb hby dv1Ne_11) V_bu (by decide) rfl
  have A9 := A8.go (f' := mkF m 13 #[.val (.ref a1), .val (.int (1 : Int32))] [(.int (cmpValue (FP.dcmp l1 u1) .l))]) fun _ _ X _ k => XS.dcmpS X.here hx rfl (hb hby dv1Ne_12) rfl rfl k
  have q10 : ¬ ((cmpValue (FP.dcmp l1 u1) .l) = (0 : Int32)) := hc
  have A11 := A9.go (f' := mkF m 23 #[.val (.ref a1), .val (.int (1 : Int32))] []) fun _ _ X _ k => XS.ifYes X.here hx rfl (pc0 := 13) (pc' := 23) rfl (hb hby dv1Ne_13) rfl ((if0 _ _).trans (feq q10).2) (by decide) (by decide) k
  have A12 := A11.go (f' := mkF m 24 #[.val (.ref a1), .val (.int (1 : Int32))] [(.ref a1)]) fun _ _ X _ k => XS.aloadN X.here hx rfl (hb hby dv1Ne_23) rfl rfl k
  have A13 : own_R p l e _ _ m _ below meth c S0 n0 h0 0 0 (mkF m 27 #[.val (.ref a1), .val (.int (1 : Int32))] [(.ref bl)]) := A12.getF hx hZ hown (hb hby dv1Ne_24) (hw _ (List.mem_of_getElem? (i := 13) rfl)) Via.refl F1
  have A14 := A13.go (f' := mkF m 28 #[.val (.ref a1), .val (.int (1 : Int32))] [(.int (1 : Int32)), (.ref bl)]) fun _ _ X _ k => XS.iloadN X.here hx rfl (hb hby dv1Ne_27) rfl k
  have A15 : own_R p l e _ _ m _ below meth c S0 n0 h0 0 0 (mkF m 29 #[.val (.ref a1), .val (.int (1 : Int32))] [(.double l1)]) := A14.ldD hx hZ (hb hby dv1Ne_28) V_bl (by decide) rfl
  have A16 := A15.go (f' := mkF m 30 #[.val (.ref a1), .val (.int (1 : Int32))] [(.ref a1), (.double l1)]) fun _ _ X _ k => XS.aloadN X.here hx rfl (hb hby dv1Ne_29) rfl rfl k
  have A17 : own_R p l e _ _ m _ below meth c S0 n0 h0 0 0 (mkF m 33 #[.val (.ref a1), .val (.int (1 : Int32))] [(.ref bu), (.double l1)]) := A16.getF hx hZ hown (hb hby dv1Ne_30) (hw _ (List.mem_of_getElem? (i := 15) rfl)) Via.refl F2
  have A18 := A17.go (f' := mkF m 34 #[.val (.ref a1), .val (.int (1 : Int32))] [(.int (1 : Int32)), (.ref bu), (.double l1)]) fun _ _ X _ k => XS.iloadN X.here hx rfl (hb hby dv1Ne_33) rfl k
  have A19 : own_R p l e _ _ m _ below meth c S0 n0 h0 0 0 (mkF m 35 #[.val (.ref a1), .val (.int (1 : Int32))] [(.double u1), (.double l1)]) := A18.ldD hx hZ (hb hby dv1Ne_34) V_bu (by decide) rfl
  have A20 := A19.go (f' := mkF m 36 #[.val (.ref a1), .val (.int (1 : Int32))] [(.ref a1), (.double u1), (.double l1)]) fun _ _ X _ k => XS.aloadN X.here hx rfl (hb hby dv1Ne_35) rfl rfl k
  have A21 : own_R p l e _ _ m _ below meth c S0 n0 h0 0 0 (mkF m 39 #[.val (.ref a1), .val (.int (1 : Int32))] [(.ref bl), (.double u1), (.double l1)]) := A20.getF hx hZ hown (hb hby dv1Ne_36) (hw _ (List.mem_of_getElem? (i := 13) rfl)) Via.refl F1
  have A22 := A21.go (f' := mkF m 40 #[.val (.ref a1), .val (.int (1 : Int32))] [(.int (1 : Int32)), (.ref bl), (.double u1), (.double l1)]) fun _ _ X _ k => XS.iloadN X.here hx rfl (hb hby dv1Ne_39) rfl k
  have A23 : own_R p l e _ _ m _ below meth c S0 n0 h0 0 0 (mkF m 41 #[.val (.ref a1), .val (.int (1 : Int32))] [(.double l1), (.double u1), (.double l1)]) := A22.ldD hx hZ (hb hby dv1Ne_40) V_bl (by decide) rfl
  have A24 := A23.go (f' := mkF m 42 #[.val (.ref a1), .val (.int (1 : Int32))] [(.double (FP.dsub u1 l1)), (.double l1)]) fun _ _ X _ k => XS.dsubS X.here hx rfl (hb hby dv1Ne_41) rfl hn1 rfl k
  have A25 : own_R p l e _ _ m _ below meth c S0 n0 h0 0 0 (mkF m 45 #[.val (.ref a1), .val (.int (1 : Int32))] [(.double (4611686018427387904 : UInt64)), (.double (FP.dsub u1 l1)), (.double l1)]) := A24.ldcD hx hZ hown (hb hby dv1Ne_42) (hw _ (List.mem_of_getElem? (i := 24) rfl))
  have A26 := A25.go (f' := mkF m 46 #[.val (.ref a1), .val (.int (1 : Int32))] [(.double (FP.ddiv (FP.dsub u1 l1) (4611686018427387904 : UInt64))), (.double l1)]) fun _ _ X _ k => XS.ddivS X.here hx rfl (hb hby dv1Ne_45) rfl hn2 rfl k
  have A27 := A26.go (f' := mkF m 47 #[.val (.ref a1), .val (.int (1 : Int32))] [(.double (FP.dadd l1 (FP.ddiv (FP.dsub u1 l1) (4611686018427387904 : UInt64))))]) fun _ _ X _ k => XS.daddS X.here hx rfl (hb hby dv1Ne_46) rfl hn3 rfl k
  exact A27.ret hx hlk hret (hb hby dv1Ne_47) rfl (Or.inr (Or.inr (Or.inl ⟨rfl, rfl, _, rfl⟩))) (by decide) (by decide) ⟨rfl, rfl⟩
theorem own_inf : FP.dmul (9094988921128908188 : UInt64) (9094988921128908188 : UInt64) = (9218868437227405312 : UInt64) := by decide +kernel
theorem own_inf_nn : Jvm.Free.Fl.NoNaN64 (FP.dmul (9094988921128908188 : UInt64) (9094988921128908188 : UInt64)) := by
  rw [own_inf]
  exact Jvm.Free.Fl.val64_no.mpr (by decide +kernel)
theorem own_vv (q : Prop) [Decidable q] : Jvm.Free.Fl.NoNaN64 (if q then (FP.dneg (9218868437227405312 : UInt64)) else (9218868437227405312 : UInt64)) := by
  split
  · exact Jvm.Free.Fl.val64_no.mpr (by decide +kernel)
  · exact Jvm.Free.Fl.val64_no.mpr (by decide +kernel)
theorem own_half_v : FP.Core.val64 (4602678819172646912 : UInt64) = .fin false (2 ^ 52) (-53) := by decide +kernel
theorem own_two_v : FP.Core.val64 (4611686018427387904 : UInt64) = .fin false (2 ^ 52) (-51) := by decide +kernel
theorem own_qmin : FP.Core.b64.qmin = -1074 := by decide +kernel
theorem own_nn_mul {x y : UInt64} (hx : FP.Core.DFin x) (hy : FP.Core.DFin y) : FP.Core.val64 (FP.dmul x y) ≠ .nan := by
  obtain ⟨s, c, q, e1⟩ := hx
  obtain ⟨t, d, r, e2⟩ := hy
  show FP.Core.val64 (FP.Core.dmul x y) ≠ .nan
  rw [FP.Core.val64_dmul, e1, e2]
  exact FP.Core.roundRatio_ne_nan _ _ _ _ _
theorem own_nn_add {x y : UInt64} (hx : FP.Core.DFin x) (hy : FP.Core.DFin y) : FP.Core.val64 (FP.dadd x y) ≠ .nan := by
  obtain ⟨s, c, q, e1⟩ := hx
  obtain ⟨t, d, r, e2⟩ := hy
  show FP.Core.val64 (FP.Core.dadd x y) ≠ .nan
  rw [FP.Core.val64_dadd, e1, e2]
  exact FP.Core.roundRatio_ne_nan _ _ _ _ _
theorem own_mul_nn (t : Int64) : Jvm.Free.Fl.NoNaN64 (FP.dmul (FP.l2d t) (4602678819172646912 : UInt64)) :=
  Jvm.Free.Fl.val64_no.mpr (own_nn_mul (FP.Core.l2d_fin t) ⟨_, _, _, own_half_v⟩)
theorem own_zv {t : Int64} (h : B53 t) : FP.Core.zval FP.Core.b64 (FP.Core.val64 (FP.l2d t)) = t.toInt * (FP.Core.one64 : Int) :=
  FP.Core.DInt_zval (FP.Core.l2d_whole (sm h))
theorem own_l2d_q {t : Int64} (h : B53 t) (hz : t ≠ 0) : ∃ s c q, FP.Core.val64 (FP.l2d t) = .fin s c q ∧ FP.Core.fits FP.Core.b64 (.fin s c (q - 1)) := by
  obtain ⟨c, q, e⟩ := FP.Core.l2d_shape t
  have hf := FP.Core.val64_fits (FP.l2d t)
  have hw := FP.Core.l2d_whole (sm h)
  have e' : FP.Core.val64 (FP.Core.l2d t) = _ := e
  rw [e'] at hw
  rw [show FP.l2d t = FP.Core.l2d t from rfl, e'] at hf
  obtain ⟨h1, h2, h3, h4⟩ := hf
  have ht : t.toInt ≠ 0 := fun q0 => hz (Int64.toInt_inj.mp (q0.trans rfl))
  have hq : q ≠ FP.Core.b64.qmin := by
    intro hq
    rw [hq, own_qmin] at hw
    have hw' : FP.Core.signed (decide (t.toInt < 0)) (c * 2 ^ (0 : Nat)) = t.toInt * ((2 ^ 1074 : Nat) : Int) := hw
    rw [Nat.pow_zero, Nat.mul_one] at hw'
    have hc := congrArg Int.natAbs hw'
    rw [FP.Core.natAbs_signed, Int.natAbs_mul, Int.natAbs_natCast] at hc
    have h5 : 1 ≤ t.toInt.natAbs := by omega
    have h6 : 2 ^ 1074 ≤ c := by
      rw [hc]
      exact Nat.le_mul_of_pos_left _ h5
    have h7 : (2 : Nat) ^ FP.Core.b64.p ≤ 2 ^ 1074 := by decide +kernel
    omega
  refine ⟨_, c, q, e, h1, ?_, ?_, Or.inr ?_⟩
  · omega
  · omega
  · rcases h4 with h4 | h4
    · exact absurd h4 hq
    · exact h4
theorem own_zhalf {s : Bool} {c : Nat} {q : Int} (h : FP.Core.b64.qmin ≤ q - 1) : 2 * FP.Core.zval FP.Core.b64 (.fin s c (q - 1)) = FP.Core.zval FP.Core.b64 (.fin s c q) := by
  show 2 * FP.Core.signed s (c * 2 ^ (q - 1 - FP.Core.b64.qmin).toNat) = FP.Core.signed s (c * 2 ^ (q - FP.Core.b64.qmin).toNat)
  have e : (q - FP.Core.b64.qmin).toNat = (q - 1 - FP.Core.b64.qmin).toNat + 1 := by omega
  rw [e, Nat.pow_succ, ← Nat.mul_assoc, FP.Core.signed_mul s _ 2]
  omega
theorem own_mulhalf {t : Int64} (h : B53 t) : FP.Core.DFin (FP.dmul (FP.l2d t) (4602678819172646912 : UInt64)) ∧ 2 * FP.Core.zval FP.Core.b64 (FP.Core.val64 (FP.dmul (FP.l2d t) (4602678819172646912 : UInt64))) = t.toInt * (FP.Core.one64 : Int) := by
  by_cases hz : t = 0
  · subst hz
    have e : FP.dmul (FP.l2d 0) (4602678819172646912 : UInt64) = 0 := by decide +kernel
    rw [e]
    have e0 : FP.Core.val64 0 = .fin false 0 FP.Core.b64.qmin := by decide +kernel
    refine ⟨⟨_, _, _, e0⟩, ?_⟩
    rw [FP.Core.zval64_zero, show (0 : Int64).toInt = 0 from by decide, Int.zero_mul, Int.mul_zero]
  · obtain ⟨s, c, q, e, hf⟩ := own_l2d_q h hz
    have ev : FP.Core.val64 (FP.dmul (FP.l2d t) (4602678819172646912 : UInt64)) = .fin s c (q - 1) := by
      show FP.Core.val64 (FP.Core.dmul _ _) = _
      rw [FP.Core.val64_dmul, e, own_half_v]
      have hs : (s != false) = s := by cases s <;> rfl
      show FP.Core.roundRatio FP.Core.b64 (s != false) (c * 2 ^ 52) 1 (q + -53) = _
      rw [hs]
      refine FP.Core.roundRatio_exact FP.Core.good_b64 (by decide) hf ?_
      rw [show (q + -53 - (q - 1)).toNat = 0 by omega, show (q - 1 - (q + -53)).toNat = 52 by omega]
      omega
    refine ⟨⟨_, _, _, ev⟩, ?_⟩
    rw [ev, own_zhalf hf.2.1, ← e, own_zv h]
theorem own_divtwo {t : Int64} (h : B53 t) : FP.Core.DFin (FP.ddiv (FP.l2d t) (4611686018427387904 : UInt64)) ∧ 2 * FP.Core.zval FP.Core.b64 (FP.Core.val64 (FP.ddiv (FP.l2d t) (4611686018427387904 : UInt64))) = t.toInt * (FP.Core.one64 : Int) := by
  by_cases hz : t = 0
  · subst hz
    have e : FP.ddiv (FP.l2d 0) (4611686018427387904 : UInt64) = 0 := by decide +kernel
    rw [e]
    have e0 : FP.Core.val64 0 = .fin false 0 FP.Core.b64.qmin := by decide +kernel
    refine ⟨⟨_, _, _, e0⟩, ?_⟩
    rw [FP.Core.zval64_zero, show (0 : Int64).toInt = 0 from by decide, Int.zero_mul, Int.mul_zero]
  · obtain ⟨s, c, q, e, hf⟩ := own_l2d_q h hz
    have ev : FP.Core.val64 (FP.ddiv (FP.l2d t) (4611686018427387904 : UInt64)) = .fin s c (q - 1) := by
      show FP.Core.val64 (FP.Core.ddiv _ _) = _
      rw [FP.Core.val64_ddiv, e, own_two_v]
      have hs : (s != false) = s := by cases s <;> rfl
      show (if 2 ^ 52 = 0 then (if c = 0 then FP.Core.Datum.nan else .inf (s != false)) else FP.Core.roundRatio FP.Core.b64 (s != false) c (2 ^ 52) (q - -51)) = _
      rw [if_neg (by decide), hs]
      refine FP.Core.roundRatio_exact FP.Core.good_b64 (by decide) hf ?_
      rw [show (q - -51 - (q - 1)).toNat = 52 by omega, show (q - 1 - (q - -51)).toNat = 0 by omega]
      omega
    refine ⟨⟨_, _, _, ev⟩, ?_⟩
    rw [ev, own_zhalf hf.2.1, ← e, own_zv h]
def own_OB (lo dd hi : Int64) : Prop := -2147483648 ≤ lo.toInt ∧ lo.toInt < 2147483648 ∧ 0 ≤ dd.toInt ∧ dd.toInt < 2147483648 ∧ hi.toInt = lo.toInt + dd.toInt
theorem own_bounds {p1 p2 p4 : Int32} {lo dd hi : Int64} (hlo : lo = (p1.toInt64)) (hdd : dd = (if (p4 &&& (2 : Int32)) = (0 : Int32) then ((p2 &&& (3 : Int32)).toInt64) else ((p2 &&& (2147483647 : Int32)).toInt64))) (hhi : hi = (lo + dd)) : own_OB lo dd hi := by
  have a1 : lo.toInt = p1.toInt := by rw [hlo, Int32.toInt_toInt64]
  have b1 := p1.le_toInt
  have b2 := p1.toInt_lt
  have a2 : 0 ≤ dd.toInt ∧ dd.toInt < 2147483648 := by
    rw [hdd]
    split
    · rw [Int32.toInt_toInt64, Jvm.Kit.i32_mask p2 3 (k := 2) (by decide) (by decide)]
      omega
    · rw [Int32.toInt_toInt64, Jvm.Kit.i32_mask p2 2147483647 (k := 31) (by decide) (by decide)]
      omega
  refine ⟨by omega, by omega, a2.1, a2.2, ?_⟩
  rw [hhi, Jvm.Kit.i64_add (by omega) (by omega)]
theorem own_OB.s {lo dd hi : Int64} (hb : own_OB lo dd hi) : B53 lo ∧ B53 dd ∧ B53 hi ∧ (lo + hi).toInt = 2 * lo.toInt + dd.toInt ∧ B53 (lo + hi) ∧ hi - lo = dd := by
  obtain ⟨h1, h2, h3, h4, h5⟩ := hb
  have e1 : (lo + hi).toInt = lo.toInt + hi.toInt := Jvm.Kit.i64_add (by omega) (by omega)
  have e2 : (hi - lo).toInt = hi.toInt - lo.toInt := Jvm.Kit.i64_sub (by omega) (by omega)
  refine ⟨⟨by omega, by omega⟩, ⟨by omega, by omega⟩, ⟨by omega, by omega⟩, by omega, ⟨by omega, by omega⟩, Int64.toInt_inj.mp (by omega)⟩
theorem own_subE {lo dd hi : Int64} (hb : own_OB lo dd hi) : FP.dsub (FP.l2d hi) (FP.l2d lo) = FP.l2d dd := by
  obtain ⟨h1, h2, h3, -, -, h6⟩ := hb.s
  rw [dsub_w h3 h1, h6]
theorem own_nn {lo dd hi : Int64} (hb : own_OB lo dd hi) : Jvm.Free.Fl.NoNaN64 (FP.dsub (FP.l2d hi) (FP.l2d lo)) ∧ Jvm.Free.Fl.NoNaN64 (FP.ddiv (FP.dsub (FP.l2d hi) (FP.l2d lo)) (4611686018427387904 : UInt64)) ∧ Jvm.Free.Fl.NoNaN64 (FP.dadd (FP.l2d lo) (FP.ddiv (FP.dsub (FP.l2d hi) (FP.l2d lo)) (4611686018427387904 : UInt64))) := by
  rw [own_subE hb]
  have h := own_divtwo hb.s.2.1
  exact ⟨nn_w rfl, Jvm.Free.Fl.val64_no.mpr h.1.ne_nan, Jvm.Free.Fl.val64_no.mpr (own_nn_add (FP.Core.l2d_fin lo) h.1)⟩
theorem own_cmp0 {x y : UInt64} (hx : FP.Core.val64 x ≠ .nan) (hy : FP.Core.val64 y ≠ .nan) (h : FP.Core.zval FP.Core.b64 (FP.Core.val64 x) = FP.Core.zval FP.Core.b64 (FP.Core.val64 y)) : cmpValue (FP.dcmp x y) .l = (0 : Int32) := by
  have e : FP.dcmp x y = some .eq := by
    show FP.Core.dcmp x y = _
    rw [FP.Core.dcmp_zval hx hy, h]
    simp [compare, compareOfLessAndEq]
  rw [e]
  rfl
theorem own_finEq {lo dd hi : Int64} (hb : own_OB lo dd hi) (hc : cmpValue (FP.dcmp (FP.l2d lo) (FP.l2d hi)) .l = (0 : Int32)) : (cmpValue (FP.dcmp (FP.l2d lo) (FP.dmul (FP.l2d (lo + hi)) (4602678819172646912 : UInt64))) .l) = (0 : Int32) := by
  obtain ⟨h1, h2, h3, h4, h5, h6⟩ := hb.s
  rw [dcmpV_w h1 h3, lw_eq] at hc
  obtain ⟨g1, g2⟩ := own_mulhalf h5
  refine own_cmp0 (FP.Core.l2d_fin lo).ne_nan g1.ne_nan ?_
  rw [own_zv h1]
  have h7 : hi.toInt = lo.toInt := by rw [hc]
  have h8 := hb.2.2.2.2
  have h9 : (lo + hi).toInt = 2 * lo.toInt := by omega
  rw [h9, Int.mul_assoc] at g2
  omega
theorem own_finNe {lo dd hi : Int64} (hb : own_OB lo dd hi) (hc : ¬ cmpValue (FP.dcmp (FP.l2d lo) (FP.l2d hi)) .l = (0 : Int32)) : (cmpValue (FP.dcmp (FP.dadd (FP.l2d lo) (FP.ddiv (FP.dsub (FP.l2d hi) (FP.l2d lo)) (4611686018427387904 : UInt64))) (FP.dmul (FP.l2d (lo + hi)) (4602678819172646912 : UInt64))) .l) = (0 : Int32) := by
  obtain ⟨h1, h2, h3, h4, h5, h6⟩ := hb.s
  rw [own_subE hb]
  obtain ⟨g1, g2⟩ := own_mulhalf h5
  obtain ⟨k1, k2⟩ := own_divtwo h2
  refine own_cmp0 (own_nn_add (FP.Core.l2d_fin lo) k1) g1.ne_nan ?_
  have hl := own_zv h1
  have hs : FP.Core.zval FP.Core.b64 (FP.Core.val64 (FP.l2d lo)) + FP.Core.zval FP.Core.b64 (FP.Core.val64 (FP.ddiv (FP.l2d dd) (4611686018427387904 : UInt64))) = FP.Core.zval FP.Core.b64 (FP.Core.val64 (FP.dmul (FP.l2d (lo + hi)) (4602678819172646912 : UInt64))) := by
    rw [h4, Int.add_mul, Int.mul_assoc] at g2
    omega
  show FP.Core.zval FP.Core.b64 (FP.Core.val64 (FP.Core.dadd _ _)) = _
  rw [FP.Core.val64_dadd]
  exact Int.le_antisymm (FP.Core.sum_le FP.Core.good_b64 (FP.Core.l2d_fin lo) k1 (FP.Core.val64_fits _) (FP.Core.val64_fits _) (FP.Core.val64_fits _) g1.ne_nan (Int.le_of_eq hs)) (FP.Core.sum_ge FP.Core.good_b64 (FP.Core.l2d_fin lo) k1 (FP.Core.val64_fits _) (FP.Core.val64_fits _) (FP.Core.val64_fits _) g1.ne_nan (Int.le_of_eq hs.symm))

theorem pd__28I_29D : parseMethodDescriptor "(I)D" = some ⟨[.int], some .double⟩ := by decide +kernel
theorem pd__28_5bD_5bD_29V : parseMethodDescriptor "([D[D)V" = some ⟨[(.array .double), (.array .double)], none⟩ := by decide +kernel
theorem dl0_0 : decode code 0 = .ok (.iload_n 2, 1) := at_0
theorem dl0_1 : decode code 1 = .ok (.iconst 1, 1) := at_1
theorem dl0_2 : decode code 2 = .ok (.iand, 1) := at_2
theorem dl0_3 : decode code 3 = .ok (.istore 4, 2) := at_3
theorem dl0_5 : decode code 5 = .ok (.iload_n 0, 1) := at_5
theorem dl0_6 : decode code 6 = .ok (.i2l, 1) := at_6
theorem dl0_7 : decode code 7 = .ok (.lstore 5, 2) := at_7
theorem dl0_9 : decode code 9 = .ok (.iload_n 3, 1) := at_9
theorem dl0_10 : decode code 10 = .ok (.iconst 2, 1) := at_10
theorem dl0_11 : decode code 11 = .ok (.iand, 1) := at_11
theorem dl0_12 : decode code 12 = .ok (.ifCond .eq 11, 3) := at_12
theorem dl0_15 : decode code 15 = .ok (.iload_n 1, 1) := at_15
theorem dl0_16 : decode code 16 = .ok (.ldc 7, 2) := at_16
theorem dl0_18 : decode code 18 = .ok (.iand, 1) := at_18
theorem dl0_19 : decode code 19 = .ok (.i2l, 1) := at_19
theorem dl0_20 : decode code 20 = .ok (.goto 7, 3) := at_20
theorem dl0_23 : decode code 23 = .ok (.iload_n 1, 1) := at_23
theorem dl0_24 : decode code 24 = .ok (.iconst 3, 1) := at_24
theorem dl0_25 : decode code 25 = .ok (.iand, 1) := at_25
theorem dl0_26 : decode code 26 = .ok (.i2l, 1) := at_26
theorem dl0_27 : decode code 27 = .ok (.lstore 7, 2) := at_27
theorem dl0_29 : decode code 29 = .ok (.lload 5, 2) := at_29
theorem dl0_31 : decode code 31 = .ok (.lload 7, 2) := at_31
theorem dl0_33 : decode code 33 = .ok (.ladd, 1) := at_33
theorem dl0_34 : decode code 34 = .ok (.lstore 9, 2) := at_34
theorem dl0_36 : decode code 36 = .ok (.ldc2_w 8, 3) := at_36
theorem dl0_39 : decode code 39 = .ok (.dstore 11, 2) := at_39
theorem dl0_41 : decode code 41 = .ok (.dload 11, 2) := at_41
theorem dl0_43 : decode code 43 = .ok (.dload 11, 2) := at_43
theorem dl0_45 : decode code 45 = .ok (.dmul, 1) := at_45
theorem dl0_46 : decode code 46 = .ok (.dstore 13, 2) := at_46
theorem dl0_48 : decode code 48 = .ok (.iload_n 3, 1) := at_48
theorem dl0_49 : decode code 49 = .ok (.iconst 1, 1) := at_49
theorem dl0_50 : decode code 50 = .ok (.iand, 1) := at_50
theorem dl0_51 : decode code 51 = .ok (.ifCond .eq 34, 3) := at_51
theorem dl0_54 : decode code 54 = .ok (.iload_n 3, 1) := at_54
theorem dl0_55 : decode code 55 = .ok (.iconst 4, 1) := at_55
theorem dl0_56 : decode code 56 = .ok (.iand, 1) := at_56
theorem dl0_57 : decode code 57 = .ok (.ifCond .eq 8, 3) := at_57
theorem dl0_60 : decode code 60 = .ok (.dload 13, 2) := at_60
theorem dl0_62 : decode code 62 = .ok (.goto 6, 3) := at_62
theorem dl0_65 : decode code 65 = .ok (.dload 13, 2) := at_65
theorem dl0_67 : decode code 67 = .ok (.dneg, 1) := at_67
theorem dl0_68 : decode code 68 = .ok (.dstore 21, 2) := at_68
theorem dl0_70 : decode code 70 = .ok (.dload 21, 2) := at_70
theorem dl0_72 : decode code 72 = .ok (.dstore 15, 2) := at_72
theorem dl0_74 : decode code 74 = .ok (.dload 21, 2) := at_74
theorem dl0_76 : decode code 76 = .ok (.dstore 17, 2) := at_76
theorem dl0_78 : decode code 78 = .ok (.dload 21, 2) := at_78
theorem dl0_80 : decode code 80 = .ok (.dstore 19, 2) := at_80
theorem dl0_82 : decode code 82 = .ok (.goto 25, 3) := at_82
theorem dl0_85 : decode code 85 = .ok (.lload 5, 2) := at_85
theorem dl0_87 : decode code 87 = .ok (.l2d, 1) := at_87
theorem dl0_88 : decode code 88 = .ok (.dstore 15, 2) := at_88
theorem dl0_90 : decode code 90 = .ok (.lload 9, 2) := at_90
theorem dl0_92 : decode code 92 = .ok (.l2d, 1) := at_92
theorem dl0_93 : decode code 93 = .ok (.dstore 17, 2) := at_93
theorem dl0_95 : decode code 95 = .ok (.lload 5, 2) := at_95
theorem dl0_97 : decode code 97 = .ok (.lload 9, 2) := at_97
theorem dl0_99 : decode code 99 = .ok (.ladd, 1) := at_99
theorem dl0_100 : decode code 100 = .ok (.l2d, 1) := at_100
theorem dl0_101 : decode code 101 = .ok (.ldc2_w 10, 3) := at_101
theorem dl0_104 : decode code 104 = .ok (.dmul, 1) := at_104
theorem dl0_105 : decode code 105 = .ok (.dstore 19, 2) := at_105
theorem dl0_107 : decode code 107 = .ok (.iconst 2, 1) := at_107
theorem dl0_108 : decode code 108 = .ok (.newarray .double, 2) := at_108
theorem dl0_110 : decode code 110 = .ok (.astore 21, 2) := at_110
theorem dl0_112 : decode code 112 = .ok (.iconst 2, 1) := at_112
theorem dl0_113 : decode code 113 = .ok (.newarray .double, 2) := at_113
theorem dl0_115 : decode code 115 = .ok (.astore 22, 2) := at_115
theorem dl0_117 : decode code 117 = .ok (.aload 21, 2) := at_117
theorem dl0_119 : decode code 119 = .ok (.iload 4, 2) := at_119
theorem dl0_121 : decode code 121 = .ok (.dload 15, 2) := at_121
theorem dl0_123 : decode code 123 = .ok (.dastore, 1) := at_123
theorem dl0_124 : decode code 124 = .ok (.aload 22, 2) := at_124
theorem dl0_126 : decode code 126 = .ok (.iload 4, 2) := at_126
theorem dl0_128 : decode code 128 = .ok (.dload 17, 2) := at_128
theorem dl0_130 : decode code 130 = .ok (.dastore, 1) := at_130
theorem dl0_131 : decode code 131 = .ok (.aload 21, 2) := at_131
theorem dl0_133 : decode code 133 = .ok (.iconst 1, 1) := at_133
theorem dl0_134 : decode code 134 = .ok (.iload 4, 2) := at_134
theorem dl0_136 : decode code 136 = .ok (.isub, 1) := at_136
theorem dl0_137 : decode code 137 = .ok (.lload 5, 2) := at_137
theorem dl0_139 : decode code 139 = .ok (.ldc2_w 12, 3) := at_139
theorem dl0_142 : decode code 142 = .ok (.lsub, 1) := at_142
theorem dl0_143 : decode code 143 = .ok (.l2d, 1) := at_143
theorem dl0_144 : decode code 144 = .ok (.dastore, 1) := at_144
theorem dl0_145 : decode code 145 = .ok (.aload 22, 2) := at_145
theorem dl0_147 : decode code 147 = .ok (.iconst 1, 1) := at_147
theorem dl0_148 : decode code 148 = .ok (.iload 4, 2) := at_148
theorem dl0_150 : decode code 150 = .ok (.isub, 1) := at_150
theorem dl0_151 : decode code 151 = .ok (.lload 9, 2) := at_151
theorem dl0_153 : decode code 153 = .ok (.ldc2_w 14, 3) := at_153
theorem dl0_156 : decode code 156 = .ok (.ladd, 1) := at_156
theorem dl0_157 : decode code 157 = .ok (.l2d, 1) := at_157
theorem dl0_158 : decode code 158 = .ok (.dastore, 1) := at_158
theorem dl0_159 : decode code 159 = .ok (.new 16, 3) := at_159
theorem dl0_162 : decode code 162 = .ok (.dup, 1) := at_162
theorem dl0_163 : decode code 163 = .ok (.aload 21, 2) := at_163
theorem dl0_165 : decode code 165 = .ok (.aload 22, 2) := at_165
theorem dl0_167 : decode code 167 = .ok (.invokespecial 18, 3) := at_167
theorem dl0_170 : decode code 170 = .ok (.astore 23, 2) := at_170
theorem dl0_172 : decode code 172 = .ok (.aload 23, 2) := at_172
theorem dl0_174 : decode code 174 = .ok (.iload 4, 2) := at_174
theorem dl0_176 : decode code 176 = .ok (.invokevirtual 21, 3) := at_176
theorem dl0_179 : decode code 179 = .ok (.dstore 24, 2) := at_179
theorem dl0_181 : decode code 181 = .ok (.dload 24, 2) := at_181
theorem dl0_183 : decode code 183 = .ok (.dload 19, 2) := at_183
theorem dl0_185 : decode code 185 = .ok (.dcmp .l, 1) := at_185
theorem dl0_186 : decode code 186 = .ok (.ifCond .ne 7, 3) := at_186
theorem dl0_189 : decode code 189 = .ok (.iconst 1, 1) := at_189
theorem dl0_190 : decode code 190 = .ok (.goto 4, 3) := at_190
theorem dl0_194 : decode code 194 = .ok (.ireturn, 1) := at_194
theorem efl0 (m : MethodId) (p1 : Int32) (p2 : Int32) (p3 : Int32) (p4 : Int32) : entryFrame m #[(.int p1), (.int p2), (.int p3), (.int p4)] maxLocals = mkF m 0 #[.val (.int p1), .val (.int p2), .val (.int p3), .val (.int p4), .unset, .unset, .unset, .unset, .unset, .unset, .unset, .unset, .unset, .unset, .unset, .unset, .unset, .unset, .unset, .unset, .unset, .unset, .unset, .unset, .unset, .unset] [] := by first | (simp [entryFrame, mkF, argsToLocals, Value.category, maxLocals]; done) | rfl
set_option maxRecDepth 65536 in
set_option maxHeartbeats 40000000 in
theorem own_law0 (l : Launch) (Z : State) (a0 : Array Value) (hw : ∀ d ∈ tables_1, d.before a0 Z = true) (p1 p2 p3 p4 : Int32) (h0 : Heap) (n0 : Nat) (Z0 : n0 ≤ h0.size) (hs : (p3 &&& (1 : Int32)) = (0 : Int32)) :
    own_M l Z x code maxLocals ret tables_1 room_1 #[(.int p1), (.int p2), (.int p3), (.int p4)] h0 n0 (fun v h => v = some (.int 1) ∧ True) := by
  refine own_M.of (plainFor_of_name (by first | (simp [plainName, overriddenIn]; done) | decide +kernel)) ?_
  intro p e s m below meth c S0 hx hby hml hown hnm hret hlk hZ A00
  have A0 := A00.cast (efl0 m p1 p2 p3 p4)
  have A1 := A0.go (f' := mkF m 1 #[.val (.int p1), .val (.int p2), .val (.int p3), .val (.int p4), .unset, .unset, .unset, .unset, .unset, .unset, .unset, .unset, .unset, .unset, .unset, .unset, .unset, .unset, .unset, .unset, .unset, .unset, .unset, .unset, .unset, .unset] [(.int p3)]) fun _ _ X _ k => XS.iloadN X.here hx rfl (hb hby dl0_0) rfl k
  have A2 := A1.go (f' := mkF m 2 #[.val (.int p1), .val (.int p2), .val (.int p3), .val (.int p4), .unset, .unset, .unset, .unset, .unset, .unset, .unset, .unset, .unset, .unset, .unset, .unset, .unset, .unset, .unset, .unset, .unset, .unset, .unset, .unset, .unset, .unset] [(.int (1 : Int32)), (.int p3)]) fun _ _ X _ k => XS.iconst X.here hx rfl (hb hby dl0_1) k
  have A3 := A2.go (f' := mkF m 3 #[.val (.int p1), .val (.int p2), .val (.int p3), .val (.int p4), .unset, .unset, .unset, .unset, .unset, .unset, .unset, .unset, .unset, .unset, .unset, .unset, .unset, .unset, .unset, .unset, .unset, .unset, .unset, .unset, .unset, .unset] [(.int (p3 &&& (1 : Int32)))]) fun _ _ X _ k => XS.iand X.here hx rfl (hb hby dl0_2) rfl k
  rw [hs] at A3
  have A4 := A3.go (f' := mkF m 5 #[.val (.int p1), .val (.int p2), .val (.int p3), .val (.int p4), .val (.int (0 : Int32)), .unset, .unset, .unset, .unset, .unset, .unset, .unset, .unset, .unset, .unset, .unset, .unset, .unset, .unset, .unset, .unset, .unset, .unset, .unset, .unset, .unset] []) fun _ _ X _ k => XS.istore X.here hx rfl (hb hby dl0_3) rfl (l' := #[.val (.int p1), .val (.int p2), .val (.int p3), .val (.int p4), .val (.int (0 : Int32)), .unset, .unset, .unset, .unset, .unset, .unset, .unset, .unset, .unset, .unset, .unset, .unset, .unset, .unset, .unset, .unset, .unset, .unset, .unset, .unset, .unset]) rfl k
  have A5 := A4.go (f' := mkF m 6 #[.val (.int p1), .val (.int p2), .val (.int p3), .val (.int p4), .val (.int (0 : Int32)), .unset, .unset, .unset, .unset, .unset, .unset, .unset, .unset, .unset, .unset, .unset, .unset, .unset, .unset, .unset, .unset, .unset, .unset, .unset, .unset, .unset] [(.int p1)]) fun _ _ X _ k => XS.iloadN X.here hx rfl (hb hby dl0_5) rfl k
  have A6 := A5.go (f' := mkF m 7 #[.val (.int p1), .val (.int p2), .val (.int p3), .val (.int p4), .val (.int (0 : Int32)), .unset, .unset, .unset, .unset, .unset, .unset, .unset, .unset, .unset, .unset, .unset, .unset, .unset, .unset, .unset, .unset, .unset, .unset, .unset, .unset, .unset] [(.long (p1.toInt64))]) fun _ _ X _ k => XS.i2l X.here hx rfl (hb hby dl0_6) rfl k
  obtain ⟨lo, hlo⟩ : ∃ zq_, zq_ = (p1.toInt64) := ⟨_, rfl⟩
  rw [← hlo] at A6
  have A7 := A6.go (f' := mkF m 9 #[.val (.int p1), .val (.int p2), .val (.int p3), .val (.int p4), .val (.int (0 : Int32)), .val (.long lo), .second, .unset, .unset, .unset, .unset, .unset, .unset, .unset, .unset, .unset, .unset, .unset, .unset, .unset, .unset, .unset, .unset, .unset, .unset, .unset] []) fun _ _ X _ k => XS.lstore X.here hx rfl (hb hby dl0_7) rfl (l' := #[.val (.int p1), .val (.int p2), .val (.int p3), .val (.int p4), .val (.int (0 : Int32)), .val (.long lo), .second, .unset, .unset, .unset, .unset, .unset, .unset, .unset, .unset, .unset, .unset, .unset, .unset, .unset, .unset, .unset, .unset, .unset, .unset, .unset]) rfl k
  have A8 := A7.go (f' := mkF m 10 #[.val (.int p1), .val (.int p2), .val (.int p3), .val (.int p4), .val (.int (0 : Int32)), .val (.long lo), .second, .unset, .unset, .unset, .unset, .unset, .unset, .unset, .unset, .unset, .unset, .unset, .unset, .unset, .unset, .unset, .unset, .unset, .unset, .unset] [(.int p4)]) fun _ _ X _ k => XS.iloadN X.here hx rfl (hb hby dl0_9) rfl k
  have A9 := A8.go (f' := mkF m 11 #[.val (.int p1), .val (.int p2), .val (.int p3), .val (.int p4), .val (.int (0 : Int32)), .val (.long lo), .second, .unset, .unset, .unset, .unset, .unset, .unset, .unset, .unset, .unset, .unset, .unset, .unset, .unset, .unset, .unset, .unset, .unset, .unset, .unset] [(.int (2 : Int32)), (.int p4)]) fun _ _ X _ k => XS.iconst X.here hx rfl (hb hby dl0_10) k
  have A10 := A9.go (f' := mkF m 12 #[.val (.int p1), .val (.int p2), .val (.int p3), .val (.int p4), .val (.int (0 : Int32)), .val (.long lo), .second, .unset, .unset, .unset, .unset, .unset, .unset, .unset, .unset, .unset, .unset, .unset, .unset, .unset, .unset, .unset, .unset, .unset, .unset, .unset] [(.int (p4 &&& (2 : Int32)))]) fun _ _ X _ k => XS.iand X.here hx rfl (hb hby dl0_11) rfl k
  have A12 : own_R p l e room_1 s m #[(.int p1), (.int p2), (.int p3), (.int p4)] below meth c S0 n0 h0 0 0 (mkF m 27 #[.val (.int p1), .val (.int p2), .val (.int p3), .val (.int p4), .val (.int (0 : Int32)), .val (.long lo), .second, .unset, .unset, .unset, .unset, .unset, .unset, .unset, .unset, .unset, .unset, .unset, .unset, .unset, .unset, .unset, .unset, .unset, .unset, .unset] [(.long (if (p4 &&& (2 : Int32)) = (0 : Int32) then ((p2 &&& (3 : Int32)).toInt64) else ((p2 &&& (2147483647 : Int32)).toInt64)))]) := by
    by_cases q11 : (p4 &&& (2 : Int32)) = (0 : Int32)
    · skip
      have A13 := A10.go (f' := mkF m 23 #[.val (.int p1), .val (.int p2), .val (.int p3), .val (.int p4), .val (.int (0 : Int32)), .val (.long lo), .second, .unset, .unset, .unset, .unset, .unset, .unset, .unset, .unset, .unset, .unset, .unset, .unset, .unset, .unset, .unset, .unset, .unset, .unset, .unset] []) fun _ _ X _ k => XS.ifYes X.here hx rfl (pc0 := 12) (pc' := 23) rfl (hb hby dl0_12) rfl ((if0 _ _).trans (teq q11).1) (by decide) (by decide) k
      have A14 := A13.go (f' := mkF m 24 #[.val (.int p1), .val (.int p2), .val (.int p3), .val (.int p4), .val (.int (0 : Int32)), .val (.long lo), .second, .unset, .unset, .unset, .unset, .unset, .unset, .unset, .unset, .unset, .unset, .unset, .unset, .unset, .unset, .unset, .unset, .unset, .unset, .unset] [(.int p2)]) fun _ _ X _ k => XS.iloadN X.here hx rfl (hb hby dl0_23) rfl k
      have A15 := A14.go (f' := mkF m 25 #[.val (.int p1), .val (.int p2), .val (.int p3), .val (.int p4), .val (.int (0 : Int32)), .val (.long lo), .second, .unset, .unset, .unset, .unset, .unset, .unset, .unset, .unset, .unset, .unset, .unset, .unset, .unset, .unset, .unset, .unset, .unset, .unset, .unset] [(.int (3 : Int32)), (.int p2)]) fun _ _ X _ k => XS.iconst X.here hx rfl (hb hby dl0_24) k
      have A16 := A15.go (f' := mkF m 26 #[.val (.int p1), .val (.int p2), .val (.int p3), .val (.int p4), .val (.int (0 : Int32)), .val (.long lo), .second, .unset, .unset, .unset, .unset, .unset, .unset, .unset, .unset, .unset, .unset, .unset, .unset, .unset, .unset, .unset, .unset, .unset, .unset, .unset] [(.int (p2 &&& (3 : Int32)))]) fun _ _ X _ k => XS.iand X.here hx rfl (hb hby dl0_25) rfl k
      have A17 := A16.go (f' := mkF m 27 #[.val (.int p1), .val (.int p2), .val (.int p3), .val (.int p4), .val (.int (0 : Int32)), .val (.long lo), .second, .unset, .unset, .unset, .unset, .unset, .unset, .unset, .unset, .unset, .unset, .unset, .unset, .unset, .unset, .unset, .unset, .unset, .unset, .unset] [(.long ((p2 &&& (3 : Int32)).toInt64))]) fun _ _ X _ k => XS.i2l X.here hx rfl (hb hby dl0_26) rfl k
      simp only [if_pos q11]
      exact A17
    · skip
      have A18 := A10.go (f' := mkF m 15 #[.val (.int p1), .val (.int p2), .val (.int p3), .val (.int p4), .val (.int (0 : Int32)), .val (.long lo), .second, .unset, .unset, .unset, .unset, .unset, .unset, .unset, .unset, .unset, .unset, .unset, .unset, .unset, .unset, .unset, .unset, .unset, .unset, .unset] []) fun _ _ X _ k => XS.ifNo X.here hx rfl (hb hby dl0_12) rfl ((if0 _ _).trans (feq q11).1) k
      have A19 := A18.go (f' := mkF m 16 #[.val (.int p1), .val (.int p2), .val (.int p3), .val (.int p4), .val (.int (0 : Int32)), .val (.long lo), .second, .unset, .unset, .unset, .unset, .unset, .unset, .unset, .unset, .unset, .unset, .unset, .unset, .unset, .unset, .unset, .unset, .unset, .unset, .unset] [(.int p2)]) fun _ _ X _ k => XS.iloadN X.here hx rfl (hb hby dl0_15) rfl k
      have A20 : own_R p l e _ _ m _ below meth c S0 n0 h0 0 0 (mkF m 18 #[.val (.int p1), .val (.int p2), .val (.int p3), .val (.int p4), .val (.int (0 : Int32)), .val (.long lo), .second, .unset, .unset, .unset, .unset, .unset, .unset, .unset, .unset, .unset, .unset, .unset, .unset, .unset, .unset, .unset, .unset, .unset, .unset, .unset] [(.int (2147483647 : Int32)), (.int p2)]) := A19.ldcI hx hZ hown (hb hby dl0_16) (hw _ (List.mem_of_getElem? (i := 22) rfl))
      have A21 := A20.go (f' := mkF m 19 #[.val (.int p1), .val (.int p2), .val (.int p3), .val (.int p4), .val (.int (0 : Int32)), .val (.long lo), .second, .unset, .unset, .unset, .unset, .unset, .unset, .unset, .unset, .unset, .unset, .unset, .unset, .unset, .unset, .unset, .unset, .unset, .unset, .unset] [(.int (p2 &&& (2147483647 : Int32)))]) fun _ _ X _ k => XS.iand X.here hx rfl (hb hby dl0_18) rfl k
      have A22 := A21.go (f' := mkF m 20 #[.val (.int p1), .val (.int p2), .val (.int p3), .val (.int p4), .val (.int (0 : Int32)), .val (.long lo), .second, .unset, .unset, .unset, .unset, .unset, .unset, .unset, .unset, .unset, .unset, .unset, .unset, .unset, .unset, .unset, .unset, .unset, .unset, .unset] [(.long ((p2 &&& (2147483647 : Int32)).toInt64))]) fun _ _ X _ k => XS.i2l X.here hx rfl (hb hby dl0_19) rfl k
      have A23 := A22.go (f' := mkF m 27 #[.val (.int p1), .val (.int p2), .val (.int p3), .val (.int p4), .val (.int (0 : Int32)), .val (.long lo), .second, .unset, .unset, .unset, .unset, .unset, .unset, .unset, .unset, .unset, .unset, .unset, .unset, .unset, .unset, .unset, .unset, .unset, .unset, .unset] [(.long ((p2 &&& (2147483647 : Int32)).toInt64))]) fun _ _ X _ k => XS.goto X.here hx rfl (pc0 := 20) (pc' := 27) rfl (hb hby dl0_20) (by decide) (by decide) k
      simp only [if_neg q11]
      exact A23
  obtain ⟨dd, hdd⟩ : ∃ zq_, zq_ = (if (p4 &&& (2 : Int32)) = (0 : Int32) then ((p2 &&& (3 : Int32)).toInt64) else ((p2 &&& (2147483647 : Int32)).toInt64)) := ⟨_, rfl⟩
  rw [← hdd] at A12
  have A24 := A12.go (f' := mkF m 29 #[.val (.int p1), .val (.int p2), .val (.int p3), .val (.int p4), .val (.int (0 : Int32)), .val (.long lo), .second, .val (.long dd), .second, .unset, .unset, .unset, .unset, .unset, .unset, .unset, .unset, .unset, .unset, .unset, .unset, .unset, .unset, .unset, .unset, .unset] []) fun _ _ X _ k => XS.lstore X.here hx rfl (hb hby dl0_27) rfl (l' := #[.val (.int p1), .val (.int p2), .val (.int p3), .val (.int p4), .val (.int (0 : Int32)), .val (.long lo), .second, .val (.long dd), .second, .unset, .unset, .unset, .unset, .unset, .unset, .unset, .unset, .unset, .unset, .unset, .unset, .unset, .unset, .unset, .unset, .unset]) rfl k
  have A25 := A24.go (f' := mkF m 31 #[.val (.int p1), .val (.int p2), .val (.int p3), .val (.int p4), .val (.int (0 : Int32)), .val (.long lo), .second, .val (.long dd), .second, .unset, .unset, .unset, .unset, .unset, .unset, .unset, .unset, .unset, .unset, .unset, .unset, .unset, .unset, .unset, .unset, .unset] [(.long lo)]) fun _ _ X _ k => XS.lload X.here hx rfl (hb hby dl0_29) rfl k
  have A26 := A25.go (f' := mkF m 33 #[.val (.int p1), .val (.int p2), .val (.int p3), .val (.int p4), .val (.int (0 : Int32)), .val (.long lo), .second, .val (.long dd), .second, .unset, .unset, .unset, .unset, .unset, .unset, .unset, .unset, .unset, .unset, .unset, .unset, .unset, .unset, .unset, .unset, .unset] [(.long dd), (.long lo)]) fun _ _ X _ k => XS.lload X.here hx rfl (hb hby dl0_31) rfl k
  have A27 := A26.go (f' := mkF m 34 #[.val (.int p1), .val (.int p2), .val (.int p3), .val (.int p4), .val (.int (0 : Int32)), .val (.long lo), .second, .val (.long dd), .second, .unset, .unset, .unset, .unset, .unset, .unset, .unset, .unset, .unset, .unset, .unset, .unset, .unset, .unset, .unset, .unset, .unset] [(.long (lo + dd))]) fun _ _ X _ k => XS.ladd X.here hx rfl (hb hby dl0_33) rfl k
  obtain ⟨hi, hhi⟩ : ∃ zq_, zq_ = (lo + dd) := ⟨_, rfl⟩
  rw [← hhi] at A27
  have A28 := A27.go (f' := mkF m 36 #[.val (.int p1), .val (.int p2), .val (.int p3), .val (.int p4), .val (.int (0 : Int32)), .val (.long lo), .second, .val (.long dd), .second, .val (.long hi), .second, .unset, .unset, .unset, .unset, .unset, .unset, .unset, .unset, .unset, .unset, .unset, .unset, .unset, .unset, .unset] []) fun _ _ X _ k => XS.lstore X.here hx rfl (hb hby dl0_34) rfl (l' := #[.val (.int p1), .val (.int p2), .val (.int p3), .val (.int p4), .val (.int (0 : Int32)), .val (.long lo), .second, .val (.long dd), .second, .val (.long hi), .second, .unset, .unset, .unset, .unset, .unset, .unset, .unset, .unset, .unset, .unset, .unset, .unset, .unset, .unset, .unset]) rfl k
  have A29 : own_R p l e _ _ m _ below meth c S0 n0 h0 0 0 (mkF m 39 #[.val (.int p1), .val (.int p2), .val (.int p3), .val (.int p4), .val (.int (0 : Int32)), .val (.long lo), .second, .val (.long dd), .second, .val (.long hi), .second, .unset, .unset, .unset, .unset, .unset, .unset, .unset, .unset, .unset, .unset, .unset, .unset, .unset, .unset, .unset] [(.double (9094988921128908188 : UInt64))]) := A28.ldcD hx hZ hown (hb hby dl0_36) (hw _ (List.mem_of_getElem? (i := 0) rfl))
  have A30 := A29.go (f' := mkF m 41 #[.val (.int p1), .val (.int p2), .val (.int p3), .val (.int p4), .val (.int (0 : Int32)), .val (.long lo), .second, .val (.long dd), .second, .val (.long hi), .second, .val (.double (9094988921128908188 : UInt64)), .second, .unset, .unset, .unset, .unset, .unset, .unset, .unset, .unset, .unset, .unset, .unset, .unset, .unset] []) fun _ _ X _ k => XS.dstore X.here hx rfl (hb hby dl0_39) rfl (l' := #[.val (.int p1), .val (.int p2), .val (.int p3), .val (.int p4), .val (.int (0 : Int32)), .val (.long lo), .second, .val (.long dd), .second, .val (.long hi), .second, .val (.double (9094988921128908188 : UInt64)), .second, .unset, .unset, .unset, .unset, .unset, .unset, .unset, .unset, .unset, .unset, .unset, .unset, .unset]) rfl k
  have A31 := A30.go (f' := mkF m 43 #[.val (.int p1), .val (.int p2), .val (.int p3), .val (.int p4), .val (.int (0 : Int32)), .val (.long lo), .second, .val (.long dd), .second, .val (.long hi), .second, .val (.double (9094988921128908188 : UInt64)), .second, .unset, .unset, .unset, .unset, .unset, .unset, .unset, .unset, .unset, .unset, .unset, .unset, .unset] [(.double (9094988921128908188 : UInt64))]) fun _ _ X _ k => XS.dload X.here hx rfl (hb hby dl0_41) rfl k
  have A32 := A31.go (f' := mkF m 45 #[.val (.int p1), .val (.int p2), .val (.int p3), .val (.int p4), .val (.int (0 : Int32)), .val (.long lo), .second, .val (.long dd), .second, .val (.long hi), .second, .val (.double (9094988921128908188 : UInt64)), .second, .unset, .unset, .unset, .unset, .unset, .unset, .unset, .unset, .unset, .unset, .unset, .unset, .unset] [(.double (9094988921128908188 : UInt64)), (.double (9094988921128908188 : UInt64))]) fun _ _ X _ k => XS.dload X.here hx rfl (hb hby dl0_43) rfl k
  have A33 := A32.go (f' := mkF m 46 #[.val (.int p1), .val (.int p2), .val (.int p3), .val (.int p4), .val (.int (0 : Int32)), .val (.long lo), .second, .val (.long dd), .second, .val (.long hi), .second, .val (.double (9094988921128908188 : UInt64)), .second, .unset, .unset, .unset, .unset, .unset, .unset, .unset, .unset, .unset, .unset, .unset, .unset, .unset] [(.double (FP.dmul (9094988921128908188 : UInt64) (9094988921128908188 : UInt64)))]) fun _ _ X _ k => XS.dmulS X.here hx rfl (hb hby dl0_45) rfl own_inf_nn rfl k
  rw [own_inf] at A33
  have A34 := A33.go (f' := mkF m 48 #[.val (.int p1), .val (.int p2), .val (.int p3), .val (.int p4), .val (.int (0 : Int32)), .val (.long lo), .second, .val (.long dd), .second, .val (.long hi), .second, .val (.double (9094988921128908188 : UInt64)), .second, .val (.double (9218868437227405312 : UInt64)), .second, .unset, .unset, .unset, .unset, .unset, .unset, .unset, .unset, .unset, .unset, .unset] []) fun _ _ X _ k => XS.dstore X.here hx rfl (hb hby dl0_46) rfl (l' := #[.val (.int p1), .val (.int p2), .val (.int p3), .val (.int p4), .val (.int (0 : Int32)), .val (.long lo), .second, .val (.long dd), .second, .val (.long hi), .second, .val (.double (9094988921128908188 : UInt64)), .second, .val (.double (9218868437227405312 : UInt64)), .second, .unset, .unset, .unset, .unset, .unset, .unset, .unset, .unset, .unset, .unset, .unset]) rfl k
  have A35 := A34.go (f' := mkF m 49 #[.val (.int p1), .val (.int p2), .val (.int p3), .val (.int p4), .val (.int (0 : Int32)), .val (.long lo), .second, .val (.long dd), .second, .val (.long hi), .second, .val (.double (9094988921128908188 : UInt64)), .second, .val (.double (9218868437227405312 : UInt64)), .second, .unset, .unset, .unset, .unset, .unset, .unset, .unset, .unset, .unset, .unset, .unset] [(.int p4)]) fun _ _ X _ k => XS.iloadN X.here hx rfl (hb hby dl0_48) rfl k
  have A36 := A35.go (f' := mkF m 50 #[.val (.int p1), .val (.int p2), .val (.int p3), .val (.int p4), .val (.int (0 : Int32)), .val (.long lo), .second, .val (.long dd), .second, .val (.long hi), .second, .val (.double (9094988921128908188 : UInt64)), .second, .val (.double (9218868437227405312 : UInt64)), .second, .unset, .unset, .unset, .unset, .unset, .unset, .unset, .unset, .unset, .unset, .unset] [(.int (1 : Int32)), (.int p4)]) fun _ _ X _ k => XS.iconst X.here hx rfl (hb hby dl0_49) k
  have A37 := A36.go (f' := mkF m 51 #[.val (.int p1), .val (.int p2), .val (.int p3), .val (.int p4), .val (.int (0 : Int32)), .val (.long lo), .second, .val (.long dd), .second, .val (.long hi), .second, .val (.double (9094988921128908188 : UInt64)), .second, .val (.double (9218868437227405312 : UInt64)), .second, .unset, .unset, .unset, .unset, .unset, .unset, .unset, .unset, .unset, .unset, .unset] [(.int (p4 &&& (1 : Int32)))]) fun _ _ X _ k => XS.iand X.here hx rfl (hb hby dl0_50) rfl k
  by_cases q38 : (p4 &&& (1 : Int32)) = (0 : Int32)
  · skip
    have A39 := A37.go (f' := mkF m 85 #[.val (.int p1), .val (.int p2), .val (.int p3), .val (.int p4), .val (.int (0 : Int32)), .val (.long lo), .second, .val (.long dd), .second, .val (.long hi), .second, .val (.double (9094988921128908188 : UInt64)), .second, .val (.double (9218868437227405312 : UInt64)), .second, .unset, .unset, .unset, .unset, .unset, .unset, .unset, .unset, .unset, .unset, .unset] []) fun _ _ X _ k => XS.ifYes X.here hx rfl (pc0 := 51) (pc' := 85) rfl (hb hby dl0_51) rfl ((if0 _ _).trans (teq q38).1) (by decide) (by decide) k
    have A40 := A39.go (f' := mkF m 87 #[.val (.int p1), .val (.int p2), .val (.int p3), .val (.int p4), .val (.int (0 : Int32)), .val (.long lo), .second, .val (.long dd), .second, .val (.long hi), .second, .val (.double (9094988921128908188 : UInt64)), .second, .val (.double (9218868437227405312 : UInt64)), .second, .unset, .unset, .unset, .unset, .unset, .unset, .unset, .unset, .unset, .unset, .unset] [(.long lo)]) fun _ _ X _ k => XS.lload X.here hx rfl (hb hby dl0_85) rfl k
    have A41 := A40.go (f' := mkF m 88 #[.val (.int p1), .val (.int p2), .val (.int p3), .val (.int p4), .val (.int (0 : Int32)), .val (.long lo), .second, .val (.long dd), .second, .val (.long hi), .second, .val (.double (9094988921128908188 : UInt64)), .second, .val (.double (9218868437227405312 : UInt64)), .second, .unset, .unset, .unset, .unset, .unset, .unset, .unset, .unset, .unset, .unset, .unset] [(.double (FP.l2d lo))]) fun _ _ X _ k => XS.l2dS X.here hx rfl (hb hby dl0_87) rfl rfl k
    have A42 := A41.go (f' := mkF m 90 #[.val (.int p1), .val (.int p2), .val (.int p3), .val (.int p4), .val (.int (0 : Int32)), .val (.long lo), .second, .val (.long dd), .second, .val (.long hi), .second, .val (.double (9094988921128908188 : UInt64)), .second, .val (.double (9218868437227405312 : UInt64)), .second, .val (.double (FP.l2d lo)), .second, .unset, .unset, .unset, .unset, .unset, .unset, .unset, .unset, .unset] []) fun _ _ X _ k => XS.dstore X.here hx rfl (hb hby dl0_88) rfl (l' := #[.val (.int p1), .val (.int p2), .val (.int p3), .val (.int p4), .val (.int (0 : Int32)), .val (.long lo), .second, .val (.long dd), .second, .val (.long hi), .second, .val (.double (9094988921128908188 : UInt64)), .second, .val (.double (9218868437227405312 : UInt64)), .second, .val (.double (FP.l2d lo)), .second, .unset, .unset, .unset, .unset, .unset, .unset, .unset, .unset, .unset]) rfl k
    have A43 := A42.go (f' := mkF m 92 #[.val (.int p1), .val (.int p2), .val (.int p3), .val (.int p4), .val (.int (0 : Int32)), .val (.long lo), .second, .val (.long dd), .second, .val (.long hi), .second, .val (.double (9094988921128908188 : UInt64)), .second, .val (.double (9218868437227405312 : UInt64)), .second, .val (.double (FP.l2d lo)), .second, .unset, .unset, .unset, .unset, .unset, .unset, .unset, .unset, .unset] [(.long hi)]) fun _ _ X _ k => XS.lload X.here hx rfl (hb hby dl0_90) rfl k
    have A44 := A43.go (f' := mkF m 93 #[.val (.int p1), .val (.int p2), .val (.int p3), .val (.int p4), .val (.int (0 : Int32)), .val (.long lo), .second, .val (.long dd), .second, .val (.long hi), .second, .val (.double (9094988921128908188 : UInt64)), .second, .val (.double (9218868437227405312 : UInt64)), .second, .val (.double (FP.l2d lo)), .second, .unset, .unset, .unset, .unset, .unset, .unset, .unset, .unset, .unset] [(.double (FP.l2d hi))]) fun _ _ X _ k => XS.l2dS X.here hx rfl (hb hby dl0_92) rfl rfl k
    have A45 := A44.go (f' := mkF m 95 #[.val (.int p1), .val (.int p2), .val (.int p3), .val (.int p4), .val (.int (0 : Int32)), .val (.long lo), .second, .val (.long dd), .second, .val (.long hi), .second, .val (.double (9094988921128908188 : UInt64)), .second, .val (.double (9218868437227405312 : UInt64)), .second, .val (.double (FP.l2d lo)), .second, .val (.double (FP.l2d hi)), .second, .unset, .unset, .unset, .unset, .unset, .unset, .unset] []) fun _ _ X _ k => XS.dstore X.here hx rfl (hb hby dl0_93) rfl (l' := #[.val (.int p1), .val (.int p2), .val (.int p3), .val (.int p4), .val (.int (0 : Int32)), .val (.long lo), .second, .val (.long dd), .second, .val (.long hi), .second, .val (.double (9094988921128908188 : UInt64)), .second, .val (.double (9218868437227405312 : UInt64)), .second, .val (.double (FP.l2d lo)), .second, .val (.double (FP.l2d hi)), .second, .unset, .unset, .unset, .unset, .unset, .unset, .unset]) rfl k
    have A46 := A45.go (f' := mkF m 97 #[.val (.int p1), .val (.int p2), .val (.int p3), .val (.int p4), .val (.int (0 : Int32)), .val (.long lo), .second, .val (.long dd), .second, .val (.long hi), .second, .val (.double (9094988921128908188 : UInt64)), .second, .val (.double (9218868437227405312 : UInt64)), .second, .val (.double (FP.l2d lo)), .second, .val (.double (FP.l2d hi)), .second, .unset, .unset, .unset, .unset, .unset, .unset, .unset] [(.long lo)]) fun _ _ X _ k => XS.lload X.here hx rfl (hb hby dl0_95) rfl k
    have A47 := A46.go (f' := mkF m 99 #[.val (.int p1), .val (.int p2), .val (.int p3), .val (.int p4), .val (.int (0 : Int32)), .val (.long lo), .second, .val (.long dd), .second, .val (.long hi), .second, .val (.double (9094988921128908188 : UInt64)), .second, .val (.double (9218868437227405312 : UInt64)), .second, .val (.double (FP.l2d lo)), .second, .val (.double (FP.l2d hi)), .second, .unset, .unset, .unset, .unset, .unset, .unset, .unset] [(.long hi), (.long lo)]) fun _ _ X _ k => XS.lload X.here hx rfl (hb hby dl0_97) rfl k
    have A48 := A47.go (f' := mkF m 100 #[.val (.int p1), .val (.int p2), .val (.int p3), .val (.int p4), .val (.int (0 : Int32)), .val (.long lo), .second, .val (.long dd), .second, .val (.long hi), .second, .val (.double (9094988921128908188 : UInt64)), .second, .val (.double (9218868437227405312 : UInt64)), .second, .val (.double (FP.l2d lo)), .second, .val (.double (FP.l2d hi)), .second, .unset, .unset, .unset, .unset, .unset, .unset, .unset] [(.long (lo + hi))]) fun _ _ X _ k => XS.ladd X.here hx rfl (hb hby dl0_99) rfl k
    have A49 := A48.go (f' := mkF m 101 #[.val (.int p1), .val (.int p2), .val (.int p3), .val (.int p4), .val (.int (0 : Int32)), .val (.long lo), .second, .val (.long dd), .second, .val (.long hi), .second, .val (.double (9094988921128908188 : UInt64)), .second, .val (.double (9218868437227405312 : UInt64)), .second, .val (.double (FP.l2d lo)), .second, .val (.double (FP.l2d hi)), .second, .unset, .unset, .unset, .unset, .unset, .unset, .unset] [(.double (FP.l2d (lo + hi)))]) fun _ _ X _ k => XS.l2dS X.here hx rfl (hb hby dl0_100) rfl rfl k
    have A50 : own_R p l e _ _ m _ below meth c S0 n0 h0 0 0 (mkF m 104 #[.val (.int p1), .val (.int p2), .val (.int p3), .val (.int p4), .val (.int (0 : Int32)), .val (.long lo), .second, .val (.long dd), .second, .val (.long hi), .second, .val (.double (9094988921128908188 : UInt64)), .second, .val (.double (9218868437227405312 : UInt64)), .second, .val (.double (FP.l2d lo)), .second, .val (.double (FP.l2d hi)), .second, .unset, .unset, .unset, .unset, .unset, .unset, .unset] [(.double (4602678819172646912 : UInt64)), (.double (FP.l2d (lo + hi)))]) := A49.ldcD hx hZ hown (hb hby dl0_101) (hw _ (List.mem_of_getElem? (i := 23) rfl))
    have A51 := A50.go (f' := mkF m 105 #[.val (.int p1), .val (.int p2), .val (.int p3), .val (.int p4), .val (.int (0 : Int32)), .val (.long lo), .second, .val (.long dd), .second, .val (.long hi), .second, .val (.double (9094988921128908188 : UInt64)), .second, .val (.double (9218868437227405312 : UInt64)), .second, .val (.double (FP.l2d lo)), .second, .val (.double (FP.l2d hi)), .second, .unset, .unset, .unset, .unset, .unset, .unset, .unset] [(.double (FP.dmul (FP.l2d (lo + hi)) (4602678819172646912 : UInt64)))]) fun _ _ X _ k => XS.dmulS X.here hx rfl (hb hby dl0_104) rfl (own_mul_nn (lo + hi)) rfl k
    have A52 := A51.go (f' := mkF m 107 #[.val (.int p1), .val (.int p2), .val (.int p3), .val (.int p4), .val (.int (0 : Int32)), .val (.long lo), .second, .val (.long dd), .second, .val (.long hi), .second, .val (.double (9094988921128908188 : UInt64)), .second, .val (.double (9218868437227405312 : UInt64)), .second, .val (.double (FP.l2d lo)), .second, .val (.double (FP.l2d hi)), .second, .val (.double (FP.dmul (FP.l2d (lo + hi)) (4602678819172646912 : UInt64))), .second, .unset, .unset, .unset, .unset, .unset] []) fun _ _ X _ k => XS.dstore X.here hx rfl (hb hby dl0_105) rfl (l' := #[.val (.int p1), .val (.int p2), .val (.int p3), .val (.int p4), .val (.int (0 : Int32)), .val (.long lo), .second, .val (.long dd), .second, .val (.long hi), .second, .val (.double (9094988921128908188 : UInt64)), .second, .val (.double (9218868437227405312 : UInt64)), .second, .val (.double (FP.l2d lo)), .second, .val (.double (FP.l2d hi)), .second, .val (.double (FP.dmul (FP.l2d (lo + hi)) (4602678819172646912 : UInt64))), .second, .unset, .unset, .unset, .unset, .unset]) rfl k
    have A53 := A52.go (f' := mkF m 108 #[.val (.int p1), .val (.int p2), .val (.int p3), .val (.int p4), .val (.int (0 : Int32)), .val (.long lo), .second, .val (.long dd), .second, .val (.long hi), .second, .val (.double (9094988921128908188 : UInt64)), .second, .val (.double (9218868437227405312 : UInt64)), .second, .val (.double (FP.l2d lo)), .second, .val (.double (FP.l2d hi)), .second, .val (.double (FP.dmul (FP.l2d (lo + hi)) (4602678819172646912 : UInt64))), .second, .unset, .unset, .unset, .unset, .unset] [(.int (2 : Int32))]) fun _ _ X _ k => XS.iconst X.here hx rfl (hb hby dl0_107) k
    obtain ⟨h54, E55, V_xl, A56⟩ := A53.newP hx hZ (hb hby dl0_108) (hw _ (List.mem_of_getElem? (i := 1) rfl)) (by decide) (cap := 2) (by decide) (by decide) (by decide) (by decide)
    obtain ⟨xl, gxl⟩ : ∃ z, z = h0.size := ⟨_, rfl⟩
    rw [← gxl] at V_xl A56
    have g_xl : n0 ≤ xl := by rw [gxl]; exact Z0
    have Z0 : n0 ≤ h54.size := Nat.le_trans Z0 E55.1
    have V_xl : own_Ar Z h54 xl .double [(.double 0), (.double 0)] := V_xl
    have A57 : own_R p l e _ _ m _ below meth c S0 n0 h54 1 2 (mkF m 110 #[.val (.int p1), .val (.int p2), .val (.int p3), .val (.int p4), .val (.int (0 : Int32)), .val (.long lo), .second, .val (.long dd), .second, .val (.long hi), .second, .val (.double (9094988921128908188 : UInt64)), .second, .val (.double (9218868437227405312 : UInt64)), .second, .val (.double (FP.l2d lo)), .second, .val (.double (FP.l2d hi)), .second, .val (.double (FP.dmul (FP.l2d (lo + hi)) (4602678819172646912 : UInt64))), .second, .unset, .unset, .unset, .unset, .unset] [(.ref xl)]) := A56
    have A58 := A57.go (f' := mkF m 112 #[.val (.int p1), .val (.int p2), .val (.int p3), .val (.int p4), .val (.int (0 : Int32)), .val (.long lo), .second, .val (.long dd), .second, .val (.long hi), .second, .val (.double (9094988921128908188 : UInt64)), .second, .val (.double (9218868437227405312 : UInt64)), .second, .val (.double (FP.l2d lo)), .second, .val (.double (FP.l2d hi)), .second, .val (.double (FP.dmul (FP.l2d (lo + hi)) (4602678819172646912 : UInt64))), .second, .val (.ref xl), .unset, .unset, .unset, .unset] []) fun _ _ X _ k => XS.astore X.here hx rfl (hb hby dl0_110) rfl rfl (l' := #[.val (.int p1), .val (.int p2), .val (.int p3), .val (.int p4), .val (.int (0 : Int32)), .val (.long lo), .second, .val (.long dd), .second, .val (.long hi), .second, .val (.double (9094988921128908188 : UInt64)), .second, .val (.double (9218868437227405312 : UInt64)), .second, .val (.double (FP.l2d lo)), .second, .val (.double (FP.l2d hi)), .second, .val (.double (FP.dmul (FP.l2d (lo + hi)) (4602678819172646912 : UInt64))), .second, .val (.ref xl), .unset, .unset, .unset, .unset]) rfl k
    have A59 := A58.go (f' := mkF m 113 #[.val (.int p1), .val (.int p2), .val (.int p3), .val (.int p4), .val (.int (0 : Int32)), .val (.long lo), .second, .val (.long dd), .second, .val (.long hi), .second, .val (.double (9094988921128908188 : UInt64)), .second, .val (.double (9218868437227405312 : UInt64)), .second, .val (.double (FP.l2d lo)), .second, .val (.double (FP.l2d hi)), .second, .val (.double (FP.dmul (FP.l2d (lo + hi)) (4602678819172646912 : UInt64))), .second, .val (.ref xl), .unset, .unset, .unset, .unset] [(.int (2 : Int32))]) fun _ _ X _ k => XS.iconst X.here hx rfl (hb hby dl0_112) k
    obtain ⟨h60, E61, V_xu, A62⟩ := A59.newP hx hZ (hb hby dl0_113) (hw _ (List.mem_of_getElem? (i := 1) rfl)) (by decide) (cap := 2) (by decide) (by decide) (by decide) (by decide)
    obtain ⟨xu, gxu⟩ : ∃ z, z = h54.size := ⟨_, rfl⟩
    rw [← gxu] at V_xu A62
    have ne_xl_xu : xl ≠ xu := by rw [gxu]; exact Nat.ne_of_lt V_xl.lt
    have ne_xu_xl := Ne.symm ne_xl_xu
    have g_xu : n0 ≤ xu := by rw [gxu]; exact Z0
    have V_xl : own_Ar Z h60 xl .double [(.double 0), (.double 0)] := V_xl.ext E61
    have Z0 : n0 ≤ h60.size := Nat.le_trans Z0 E61.1
    have V_xu : own_Ar Z h60 xu .double [(.double 0), (.double 0)] := V_xu
    have A63 : own_R p l e _ _ m _ below meth c S0 n0 h60 2 4 (mkF m 115 #[.val (.int p1), .val (.int p2), .val (.int p3), .val (.int p4), .val (.int (0 : Int32)), .val (.long lo), .second, .val (.long dd), .second, .val (.long hi), .second, .val (.double (9094988921128908188 : UInt64)), .second, .val (.double (9218868437227405312 : UInt64)), .second, .val (.double (FP.l2d lo)), .second, .val (.double (FP.l2d hi)), .second, .val (.double (FP.dmul (FP.l2d (lo + hi)) (4602678819172646912 : UInt64))), .second, .val (.ref xl), .unset, .unset, .unset, .unset] [(.ref xu)]) := A62
    have A64 := A63.go (f' := mkF m 117 #[.val (.int p1), .val (.int p2), .val (.int p3), .val (.int p4), .val (.int (0 : Int32)), .val (.long lo), .second, .val (.long dd), .second, .val (.long hi), .second, .val (.double (9094988921128908188 : UInt64)), .second, .val (.double (9218868437227405312 : UInt64)), .second, .val (.double (FP.l2d lo)), .second, .val (.double (FP.l2d hi)), .second, .val (.double (FP.dmul (FP.l2d (lo + hi)) (4602678819172646912 : UInt64))), .second, .val (.ref xl), .val (.ref xu), .unset, .unset, .unset] []) fun _ _ X _ k => XS.astore X.here hx rfl (hb hby dl0_115) rfl rfl (l' := #[.val (.int p1), .val (.int p2), .val (.int p3), .val (.int p4), .val (.int (0 : Int32)), .val (.long lo), .second, .val (.long dd), .second, .val (.long hi), .second, .val (.double (9094988921128908188 : UInt64)), .second, .val (.double (9218868437227405312 : UInt64)), .second, .val (.double (FP.l2d lo)), .second, .val (.double (FP.l2d hi)), .second, .val (.double (FP.dmul (FP.l2d (lo + hi)) (4602678819172646912 : UInt64))), .second, .val (.ref xl), .val (.ref xu), .unset, .unset, .unset]) rfl k
    have A65 := A64.go (f' := mkF m 119 #[.val (.int p1), .val (.int p2), .val (.int p3), .val (.int p4), .val (.int (0 : Int32)), .val (.long lo), .second, .val (.long dd), .second, .val (.long hi), .second, .val (.double (9094988921128908188 : UInt64)), .second, .val (.double (9218868437227405312 : UInt64)), .second, .val (.double (FP.l2d lo)), .second, .val (.double (FP.l2d hi)), .second, .val (.double (FP.dmul (FP.l2d (lo + hi)) (4602678819172646912 : UInt64))), .second, .val (.ref xl), .val (.ref xu), .unset, .unset, .unset] [(.ref xl)]) fun _ _ X _ k => XS.aload X.here hx rfl (hb hby dl0_117) rfl rfl k
    have A66 := A65.go (f' := mkF m 121 #[.val (.int p1), .val (.int p2), .val (.int p3), .val (.int p4), .val (.int (0 : Int32)), .val (.long lo), .second, .val (.long dd), .second, .val (.long hi), .second, .val (.double (9094988921128908188 : UInt64)), .second, .val (.double (9218868437227405312 : UInt64)), .second, .val (.double (FP.l2d lo)), .second, .val (.double (FP.l2d hi)), .second, .val (.double (FP.dmul (FP.l2d (lo + hi)) (4602678819172646912 : UInt64))), .second, .val (.ref xl), .val (.ref xu), .unset, .unset, .unset] [(.int (0 : Int32)), (.ref xl)]) fun _ _ X _ k => XS.iload X.here hx rfl (hb hby dl0_119) rfl k
    have A67 := A66.go (f' := mkF m 123 #[.val (.int p1), .val (.int p2), .val (.int p3), .val (.int p4), .val (.int (0 : Int32)), .val (.long lo), .second, .val (.long dd), .second, .val (.long hi), .second, .val (.double (9094988921128908188 : UInt64)), .second, .val (.double (9218868437227405312 : UInt64)), .second, .val (.double (FP.l2d lo)), .second, .val (.double (FP.l2d hi)), .second, .val (.double (FP.dmul (FP.l2d (lo + hi)) (4602678819172646912 : UInt64))), .second, .val (.ref xl), .val (.ref xu), .unset, .unset, .unset] [(.double (FP.l2d lo)), (.int (0 : Int32)), (.ref xl)]) fun _ _ X _ k => XS.dload X.here hx rfl (hb hby dl0_121) rfl k
    obtain ⟨h68, W69, A70⟩ := A67.stD hx hZ (hb hby dl0_123) V_xl (by decide) (by simp +decide) g_xl
    have V_xl : own_Ar Z h68 xl .double [(.double (FP.l2d lo)), (.double 0)] := V_xl.same W69
    have V_xu : own_Ar Z h68 xu .double [(.double 0), (.double 0)] := V_xu.other W69 ne_xu_xl
    have Z0 : n0 ≤ h68.size := by rw [W69.size]; exact Z0
    have A71 : own_R p l e _ _ m _ below meth c S0 n0 h68 2 4 (mkF m 124 #[.val (.int p1), .val (.int p2), .val (.int p3), .val (.int p4), .val (.int (0 : Int32)), .val (.long lo), .second, .val (.long dd), .second, .val (.long hi), .second, .val (.double (9094988921128908188 : UInt64)), .second, .val (.double (9218868437227405312 : UInt64)), .second, .val (.double (FP.l2d lo)), .second, .val (.double (FP.l2d hi)), .second, .val (.double (FP.dmul (FP.l2d (lo + hi)) (4602678819172646912 : UInt64))), .second, .val (.ref xl), .val (.ref xu), .unset, .unset, .unset] []) := A70
    have A72 := A71.go (f' := mkF m 126 #[.val (.int p1), .val (.int p2), .val (.int p3), .val (.int p4), .val (.int (0 : Int32)), .val (.long lo), .second, .val (.long dd), .second, .val (.long hi), .second, .val (.double (9094988921128908188 : UInt64)), .second, .val (.double (9218868437227405312 : UInt64)), .second, .val (.double (FP.l2d lo)), .second, .val (.double (FP.l2d hi)), .second, .val (.double (FP.dmul (FP.l2d (lo + hi)) (4602678819172646912 : UInt64))), .second, .val (.ref xl), .val (.ref xu), .unset, .unset, .unset] [(.ref xu)]) fun _ _ X _ k => XS.aload X.here hx rfl (hb hby dl0_124) rfl rfl k
    have A73 := A72.go (f' := mkF m 128 #[.val (.int p1), .val (.int p2), .val (.int p3), .val (.int p4), .val (.int (0 : Int32)), .val (.long lo), .second, .val (.long dd), .second, .val (.long hi), .second, .val (.double (9094988921128908188 : UInt64)), .second, .val (.double (9218868437227405312 : UInt64)), .second, .val (.double (FP.l2d lo)), .second, .val (.double (FP.l2d hi)), .second, .val (.double (FP.dmul (FP.l2d (lo + hi)) (4602678819172646912 : UInt64))), .second, .val (.ref xl), .val (.ref xu), .unset, .unset, .unset] [(.int (0 : Int32)), (.ref xu)]) fun _ _ X _ k => XS.iload X.here hx rfl (hb hby dl0_126) rfl k
    have A74 := A73.go (f' := mkF m 130 #[.val (.int p1), .val (.int p2), .val (.int p3), .val (.int p4), .val (.int (0 : Int32)), .val (.long lo), .second, .val (.long dd), .second, .val (.long hi), .second, .val (.double (9094988921128908188 : UInt64)), .second, .val (.double (9218868437227405312 : UInt64)), .second, .val (.double (FP.l2d lo)), .second, .val (.double (FP.l2d hi)), .second, .val (.double (FP.dmul (FP.l2d (lo + hi)) (4602678819172646912 : UInt64))), .second, .val (.ref xl), .val (.ref xu), .unset, .unset, .unset] [(.double (FP.l2d hi)), (.int (0 : Int32)), (.ref xu)]) fun _ _ X _ k => XS.dload X.here hx rfl (hb hby dl0_128) rfl k
    obtain ⟨h75, W76, A77⟩ := A74.stD hx hZ (hb hby dl0_130) V_xu (by decide) (by simp +decide) g_xu
    have V_xl : own_Ar Z h75 xl .double [(.double (FP.l2d lo)), (.double 0)] := V_xl.other W76 ne_xl_xu
    have V_xu : own_Ar Z h75 xu .double [(.double (FP.l2d hi)), (.double 0)] := V_xu.same W76
    have Z0 : n0 ≤ h75.size := by rw [W76.size]; exact Z0
    have A78 : own_R p l e _ _ m _ below meth c S0 n0 h75 2 4 (mkF m 131 #[.val (.int p1), .val (.int p2), .val (.int p3), .val (.int p4), .val (.int (0 : Int32)), .val (.long lo), .second, .val (.long dd), .second, .val (.long hi), .second, .val (.double (9094988921128908188 : UInt64)), .second, .val (.double (9218868437227405312 : UInt64)), .second, .val (.double (FP.l2d lo)), .second, .val (.double (FP.l2d hi)), .second, .val (.double (FP.dmul (FP.l2d (lo + hi)) (4602678819172646912 : UInt64))), .second, .val (.ref xl), .val (.ref xu), .unset, .unset, .unset] []) := A77
    have A79 := A78.go (f' := mkF m 133 #[.val (.int p1), .val (.int p2), .val (.int p3), .val (.int p4), .val (.int (0 : Int32)), .val (.long lo), .second, .val (.long dd), .second, .val (.long hi), .second, .val (.double (9094988921128908188 : UInt64)), .second, .val (.double (9218868437227405312 : UInt64)), .second, .val (.double (FP.l2d lo)), .second, .val (.double (FP.l2d hi)), .second, .val (.double (FP.dmul (FP.l2d (lo + hi)) (4602678819172646912 : UInt64))), .second, .val (.ref xl), .val (.ref xu), .unset, .unset, .unset] [(.ref xl)]) fun _ _ X _ k => XS.aload X.here hx rfl (hb hby dl0_131) rfl rfl k
    have A80 := A79.go (f' := mkF m 134 #[.val (.int p1), .val (.int p2), .val (.int p3), .val (.int p4), .val (.int (0 : Int32)), .val (.long lo), .second, .val (.long dd), .second, .val (.long hi), .second, .val (.double (9094988921128908188 : UInt64)), .second, .val (.double (9218868437227405312 : UInt64)), .second, .val (.double (FP.l2d lo)), .second, .val (.double (FP.l2d hi)), .second, .val (.double (FP.dmul (FP.l2d (lo + hi)) (4602678819172646912 : UInt64))), .second, .val (.ref xl), .val (.ref xu), .unset, .unset, .unset] [(.int (1 : Int32)), (.ref xl)]) fun _ _ X _ k => XS.iconst X.here hx rfl (hb hby dl0_133) k
    have A81 := A80.go (f' := mkF m 136 #[.val (.int p1), .val (.int p2), .val (.int p3), .val (.int p4), .val (.int (0 : Int32)), .val (.long lo), .second, .val (.long dd), .second, .val (.long hi), .second, .val (.double (9094988921128908188 : UInt64)), .second, .val (.double (9218868437227405312 : UInt64)), .second, .val (.double (FP.l2d lo)), .second, .val (.double (FP.l2d hi)), .second, .val (.double (FP.dmul (FP.l2d (lo + hi)) (4602678819172646912 : UInt64))), .second, .val (.ref xl), .val (.ref xu), .unset, .unset, .unset] [(.int (0 : Int32)), (.int (1 : Int32)), (.ref xl)]) fun _ _ X _ k => XS.iload X.here hx rfl (hb hby dl0_134) rfl k
    have A82 := A81.go (f' := mkF m 137 #[.val (.int p1), .val (.int p2), .val (.int p3), .val (.int p4), .val (.int (0 : Int32)), .val (.long lo), .second, .val (.long dd), .second, .val (.long hi), .second, .val (.double (9094988921128908188 : UInt64)), .second, .val (.double (9218868437227405312 : UInt64)), .second, .val (.double (FP.l2d lo)), .second, .val (.double (FP.l2d hi)), .second, .val (.double (FP.dmul (FP.l2d (lo + hi)) (4602678819172646912 : UInt64))), .second, .val (.ref xl), .val (.ref xu), .unset, .unset, .unset] [(.int ((1 : Int32) - (0 : Int32))), (.ref xl)]) fun _ _ X _ k => XS.isub X.here hx rfl (hb hby dl0_136) rfl k
    rw [show (1 : Int32) - (0 : Int32) = (1 : Int32) from by decide] at A82
    have A83 := A82.go (f' := mkF m 139 #[.val (.int p1), .val (.int p2), .val (.int p3), .val (.int p4), .val (.int (0 : Int32)), .val (.long lo), .second, .val (.long dd), .second, .val (.long hi), .second, .val (.double (9094988921128908188 : UInt64)), .second, .val (.double (9218868437227405312 : UInt64)), .second, .val (.double (FP.l2d lo)), .second, .val (.double (FP.l2d hi)), .second, .val (.double (FP.dmul (FP.l2d (lo + hi)) (4602678819172646912 : UInt64))), .second, .val (.ref xl), .val (.ref xu), .unset, .unset, .unset] [(.long lo), (.int (1 : Int32)), (.ref xl)]) fun _ _ X _ k => XS.lload X.here hx rfl (hb hby dl0_137) rfl k
    have A84 : own_R p l e _ _ m _ below meth c S0 n0 h75 2 4 (mkF m 142 #[.val (.int p1), .val (.int p2), .val (.int p3), .val (.int p4), .val (.int (0 : Int32)), .val (.long lo), .second, .val (.long dd), .second, .val (.long hi), .second, .val (.double (9094988921128908188 : UInt64)), .second, .val (.double (9218868437227405312 : UInt64)), .second, .val (.double (FP.l2d lo)), .second, .val (.double (FP.l2d hi)), .second, .val (.double (FP.dmul (FP.l2d (lo + hi)) (4602678819172646912 : UInt64))), .second, .val (.ref xl), .val (.ref xu), .unset, .unset, .unset] [(.long (7 : Int64)), (.long lo), (.int (1 : Int32)), (.ref xl)]) := A83.ldcL hx hZ hown (hb hby dl0_139) (hw _ (List.mem_of_getElem? (i := 2) rfl))
    have A85 := A84.go (f' := mkF m 143 #[.val (.int p1), .val (.int p2), .val (.int p3), .val (.int p4), .val (.int (0 : Int32)), .val (.long lo), .second, .val (.long dd), .second, .val (.long hi), .second, .val (.double (9094988921128908188 : UInt64)), .second, .val (.double (9218868437227405312 : UInt64)), .second, .val (.double (FP.l2d lo)), .second, .val (.double (FP.l2d hi)), .second, .val (.double (FP.dmul (FP.l2d (lo + hi)) (4602678819172646912 : UInt64))), .second, .val (.ref xl), .val (.ref xu), .unset, .unset, .unset] [(.long (lo - (7 : Int64))), (.int (1 : Int32)), (.ref xl)]) fun _ _ X _ k => XS.lsub X.here hx rfl (hb hby dl0_142) rfl k
    have A86 := A85.go (f' := mkF m 144 #[.val (.int p1), .val (.int p2), .val (.int p3), .val (.int p4), .val (.int (0 : Int32)), .val (.long lo), .second, .val (.long dd), .second, .val (.long hi), .second, .val (.double (9094988921128908188 : UInt64)), .second, .val (.double (9218868437227405312 : UInt64)), .second, .val (.double (FP.l2d lo)), .second, .val (.double (FP.l2d hi)), .second, .val (.double (FP.dmul (FP.l2d (lo + hi)) (4602678819172646912 : UInt64))), .second, .val (.ref xl), .val (.ref xu), .unset, .unset, .unset] [(.double (FP.l2d (lo - (7 : Int64)))), (.int (1 : Int32)), (.ref xl)]) fun _ _ X _ k => XS.l2dS X.here hx rfl (hb hby dl0_143) rfl rfl k
    obtain ⟨h87, W88, A89⟩ := A86.stD hx hZ (hb hby dl0_144) V_xl (by decide) (by simp +decide) g_xl
    have V_xl : own_Ar Z h87 xl .double [(.double (FP.l2d lo)), (.double (FP.l2d (lo - (7 : Int64))))] := V_xl.same W88
    have V_xu : own_Ar Z h87 xu .double [(.double (FP.l2d hi)), (.double 0)] := V_xu.other W88 ne_xu_xl
    have Z0 : n0 ≤ h87.size := by rw [W88.size]; exact Z0
    have A90 : own_R p l e _ _ m _ below meth c S0 n0 h87 2 4 (mkF m 145 #[.val (.int p1), .val (.int p2), .val (.int p3), .val (.int p4), .val (.int (0 : Int32)), .val (.long lo), .second, .val (.long dd), .second, .val (.long hi), .second, .val (.double (9094988921128908188 : UInt64)), .second, .val (.double (9218868437227405312 : UInt64)), .second, .val (.double (FP.l2d lo)), .second, .val (.double (FP.l2d hi)), .second, .val (.double (FP.dmul (FP.l2d (lo + hi)) (4602678819172646912 : UInt64))), .second, .val (.ref xl), .val (.ref xu), .unset, .unset, .unset] []) := A89
    have A91 := A90.go (f' := mkF m 147 #[.val (.int p1), .val (.int p2), .val (.int p3), .val (.int p4), .val (.int (0 : Int32)), .val (.long lo), .second, .val (.long dd), .second, .val (.long hi), .second, .val (.double (9094988921128908188 : UInt64)), .second, .val (.double (9218868437227405312 : UInt64)), .second, .val (.double (FP.l2d lo)), .second, .val (.double (FP.l2d hi)), .second, .val (.double (FP.dmul (FP.l2d (lo + hi)) (4602678819172646912 : UInt64))), .second, .val (.ref xl), .val (.ref xu), .unset, .unset, .unset] [(.ref xu)]) fun _ _ X _ k => XS.aload X.here hx rfl (hb hby dl0_145) rfl rfl k
    have A92 := A91.go (f' := mkF m 148 #[.val (.int p1), .val (.int p2), .val (.int p3), .val (.int p4), .val (.int (0 : Int32)), .val (.long lo), .second, .val (.long dd), .second, .val (.long hi), .second, .val (.double (9094988921128908188 : UInt64)), .second, .val (.double (9218868437227405312 : UInt64)), .second, .val (.double (FP.l2d lo)), .second, .val (.double (FP.l2d hi)), .second, .val (.double (FP.dmul (FP.l2d (lo + hi)) (4602678819172646912 : UInt64))), .second, .val (.ref xl), .val (.ref xu), .unset, .unset, .unset] [(.int (1 : Int32)), (.ref xu)]) fun _ _ X _ k => XS.iconst X.here hx rfl (hb hby dl0_147) k
    have A93 := A92.go (f' := mkF m 150 #[.val (.int p1), .val (.int p2), .val (.int p3), .val (.int p4), .val (.int (0 : Int32)), .val (.long lo), .second, .val (.long dd), .second, .val (.long hi), .second, .val (.double (9094988921128908188 : UInt64)), .second, .val (.double (9218868437227405312 : UInt64)), .second, .val (.double (FP.l2d lo)), .second, .val (.double (FP.l2d hi)), .second, .val (.double (FP.dmul (FP.l2d (lo + hi)) (4602678819172646912 : UInt64))), .second, .val (.ref xl), .val (.ref xu), .unset, .unset, .unset] [(.int (0 : Int32)), (.int (1 : Int32)), (.ref xu)]) fun _ _ X _ k => XS.iload X.here hx rfl (hb hby dl0_148) rfl k
    have A94 := A93.go (f' := mkF m 151 #[.val (.int p1), .val (.int p2), .val (.int p3), .val (.int p4), .val (.int (0 : Int32)), .val (.long lo), .second, .val (.long dd), .second, .val (.long hi), .second, .val (.double (9094988921128908188 : UInt64)), .second, .val (.double (9218868437227405312 : UInt64)), .second, .val (.double (FP.l2d lo)), .second, .val (.double (FP.l2d hi)), .second, .val (.double (FP.dmul (FP.l2d (lo + hi)) (4602678819172646912 : UInt64))), .second, .val (.ref xl), .val (.ref xu), .unset, .unset, .unset] [(.int ((1 : Int32) - (0 : Int32))), (.ref xu)]) fun _ _ X _ k => XS.isub X.here hx rfl (hb hby dl0_150) rfl k
    rw [show (1 : Int32) - (0 : Int32) = (1 : Int32) from by decide] at A94
    have A95 := A94.go (f' := mkF m 153 #[.val (.int p1), .val (.int p2), .val (.int p3), .val (.int p4), .val (.int (0 : Int32)), .val (.long lo), .second, .val (.long dd), .second, .val (.long hi), .second, .val (.double (9094988921128908188 : UInt64)), .second, .val (.double (9218868437227405312 : UInt64)), .second, .val (.double (FP.l2d lo)), .second, .val (.double (FP.l2d hi)), .second, .val (.double (FP.dmul (FP.l2d (lo + hi)) (4602678819172646912 : UInt64))), .second, .val (.ref xl), .val (.ref xu), .unset, .unset, .unset] [(.long hi), (.int (1 : Int32)), (.ref xu)]) fun _ _ X _ k => XS.lload X.here hx rfl (hb hby dl0_151) rfl k
    have A96 : own_R p l e _ _ m _ below meth c S0 n0 h87 2 4 (mkF m 156 #[.val (.int p1), .val (.int p2), .val (.int p3), .val (.int p4), .val (.int (0 : Int32)), .val (.long lo), .second, .val (.long dd), .second, .val (.long hi), .second, .val (.double (9094988921128908188 : UInt64)), .second, .val (.double (9218868437227405312 : UInt64)), .second, .val (.double (FP.l2d lo)), .second, .val (.double (FP.l2d hi)), .second, .val (.double (FP.dmul (FP.l2d (lo + hi)) (4602678819172646912 : UInt64))), .second, .val (.ref xl), .val (.ref xu), .unset, .unset, .unset] [(.long (100 : Int64)), (.long hi), (.int (1 : Int32)), (.ref xu)]) := A95.ldcL hx hZ hown (hb hby dl0_153) (hw _ (List.mem_of_getElem? (i := 3) rfl))
    have A97 := A96.go (f' := mkF m 157 #[.val (.int p1), .val (.int p2), .val (.int p3), .val (.int p4), .val (.int (0 : Int32)), .val (.long lo), .second, .val (.long dd), .second, .val (.long hi), .second, .val (.double (9094988921128908188 : UInt64)), .second, .val (.double (9218868437227405312 : UInt64)), .second, .val (.double (FP.l2d lo)), .second, .val (.double (FP.l2d hi)), .second, .val (.double (FP.dmul (FP.l2d (lo + hi)) (4602678819172646912 : UInt64))), .second, .val (.ref xl), .val (.ref xu), .unset, .unset, .unset] [(.long (hi + (100 : Int64))), (.int (1 : Int32)), (.ref xu)]) fun _ _ X _ k => XS.ladd X.here hx rfl (hb hby dl0_156) rfl k
    have A98 := A97.go (f' := mkF m 158 #[.val (.int p1), .val (.int p2), .val (.int p3), .val (.int p4), .val (.int (0 : Int32)), .val (.long lo), .second, .val (.long dd), .second, .val (.long hi), .second, .val (.double (9094988921128908188 : UInt64)), .second, .val (.double (9218868437227405312 : UInt64)), .second, .val (.double (FP.l2d lo)), .second, .val (.double (FP.l2d hi)), .second, .val (.double (FP.dmul (FP.l2d (lo + hi)) (4602678819172646912 : UInt64))), .second, .val (.ref xl), .val (.ref xu), .unset, .unset, .unset] [(.double (FP.l2d (hi + (100 : Int64)))), (.int (1 : Int32)), (.ref xu)]) fun _ _ X _ k => XS.l2dS X.here hx rfl (hb hby dl0_157) rfl rfl k
    obtain ⟨h99, W100, A101⟩ := A98.stD hx hZ (hb hby dl0_158) V_xu (by decide) (by simp +decide) g_xu
    have V_xl : own_Ar Z h99 xl .double [(.double (FP.l2d lo)), (.double (FP.l2d (lo - (7 : Int64))))] := V_xl.other W100 ne_xl_xu
    have V_xu : own_Ar Z h99 xu .double [(.double (FP.l2d hi)), (.double (FP.l2d (hi + (100 : Int64))))] := V_xu.same W100
    have Z0 : n0 ≤ h99.size := by rw [W100.size]; exact Z0
    have A102 : own_R p l e _ _ m _ below meth c S0 n0 h99 2 4 (mkF m 159 #[.val (.int p1), .val (.int p2), .val (.int p3), .val (.int p4), .val (.int (0 : Int32)), .val (.long lo), .second, .val (.long dd), .second, .val (.long hi), .second, .val (.double (9094988921128908188 : UInt64)), .second, .val (.double (9218868437227405312 : UInt64)), .second, .val (.double (FP.l2d lo)), .second, .val (.double (FP.l2d hi)), .second, .val (.double (FP.dmul (FP.l2d (lo + hi)) (4602678819172646912 : UInt64))), .second, .val (.ref xl), .val (.ref xu), .unset, .unset, .unset] []) := A101
    obtain ⟨h103, E104, E_xv, D_xv, A105⟩ := A102.newO hx hZ hown (hb hby dl0_159) (hw _ (List.mem_of_getElem? (i := 4) rfl)) (hw _ (List.mem_of_getElem? (i := 5) rfl)) (hw _ (List.mem_of_getElem? (i := 6) rfl)) (by decide) (by decide)
    obtain ⟨xv, gxv⟩ : ∃ z, z = h99.size := ⟨_, rfl⟩
    rw [← gxv] at E_xv D_xv A105
    have ne_xl_xv : xl ≠ xv := by rw [gxv]; exact Nat.ne_of_lt V_xl.lt
    have ne_xv_xl := Ne.symm ne_xl_xv
    have ne_xu_xv : xu ≠ xv := by rw [gxv]; exact Nat.ne_of_lt V_xu.lt
    have ne_xv_xu := Ne.symm ne_xu_xv
    have g_xv : n0 ≤ xv := by rw [gxv]; exact Z0
    have V_xl : own_Ar Z h103 xl .double [(.double (FP.l2d lo)), (.double (FP.l2d (lo - (7 : Int64))))] := V_xl.ext E104
    have V_xu : own_Ar Z h103 xu .double [(.double (FP.l2d hi)), (.double (FP.l2d (hi + (100 : Int64))))] := V_xu.ext E104
    have Z0 : n0 ≤ h103.size := Nat.le_trans Z0 E104.1
    have F_xv_lower : Fld Z h103 xv "com/example/robust_model_checker/robustmodelchecker/checker/ValueBounds" "lower" "[D" .null := D_xv (Or.inr (hw _ (List.mem_of_getElem? (i := 14) rfl))) (ty := (.array .double)) (by decide)
    have F_xv_upper : Fld Z h103 xv "com/example/robust_model_checker/robustmodelchecker/checker/ValueBounds" "upper" "[D" .null := D_xv (Or.inr (hw _ (List.mem_of_getElem? (i := 16) rfl))) (ty := (.array .double)) (by decide)
    have A106 : own_R p l e _ _ m _ below meth c S0 n0 h103 3 6 (mkF m 162 #[.val (.int p1), .val (.int p2), .val (.int p3), .val (.int p4), .val (.int (0 : Int32)), .val (.long lo), .second, .val (.long dd), .second, .val (.long hi), .second, .val (.double (9094988921128908188 : UInt64)), .second, .val (.double (9218868437227405312 : UInt64)), .second, .val (.double (FP.l2d lo)), .second, .val (.double (FP.l2d hi)), .second, .val (.double (FP.dmul (FP.l2d (lo + hi)) (4602678819172646912 : UInt64))), .second, .val (.ref xl), .val (.ref xu), .unset, .unset, .unset] [(.ref xv)]) := A105
    have A107 := A106.go (f' := mkF m 163 #[.val (.int p1), .val (.int p2), .val (.int p3), .val (.int p4), .val (.int (0 : Int32)), .val (.long lo), .second, .val (.long dd), .second, .val (.long hi), .second, .val (.double (9094988921128908188 : UInt64)), .second, .val (.double (9218868437227405312 : UInt64)), .second, .val (.double (FP.l2d lo)), .second, .val (.double (FP.l2d hi)), .second, .val (.double (FP.dmul (FP.l2d (lo + hi)) (4602678819172646912 : UInt64))), .second, .val (.ref xl), .val (.ref xu), .unset, .unset, .unset] [(.ref xv), (.ref xv)]) fun _ _ X _ k => XS.dup X.here hx rfl (hb hby dl0_162) rfl rfl k
    have A108 := A107.go (f' := mkF m 165 #[.val (.int p1), .val (.int p2), .val (.int p3), .val (.int p4), .val (.int (0 : Int32)), .val (.long lo), .second, .val (.long dd), .second, .val (.long hi), .second, .val (.double (9094988921128908188 : UInt64)), .second, .val (.double (9218868437227405312 : UInt64)), .second, .val (.double (FP.l2d lo)), .second, .val (.double (FP.l2d hi)), .second, .val (.double (FP.dmul (FP.l2d (lo + hi)) (4602678819172646912 : UInt64))), .second, .val (.ref xl), .val (.ref xu), .unset, .unset, .unset] [(.ref xl), (.ref xv), (.ref xv)]) fun _ _ X _ k => XS.aload X.here hx rfl (hb hby dl0_163) rfl rfl k
    have A109 := A108.go (f' := mkF m 167 #[.val (.int p1), .val (.int p2), .val (.int p3), .val (.int p4), .val (.int (0 : Int32)), .val (.long lo), .second, .val (.long dd), .second, .val (.long hi), .second, .val (.double (9094988921128908188 : UInt64)), .second, .val (.double (9218868437227405312 : UInt64)), .second, .val (.double (FP.l2d lo)), .second, .val (.double (FP.l2d hi)), .second, .val (.double (FP.dmul (FP.l2d (lo + hi)) (4602678819172646912 : UInt64))), .second, .val (.ref xl), .val (.ref xu), .unset, .unset, .unset] [(.ref xu), (.ref xl), (.ref xv), (.ref xv)]) fun _ _ X _ k => XS.aload X.here hx rfl (hb hby dl0_165) rfl rfl k
    obtain ⟨vA110, hA110, ⟨rfl, KI, F_l, F_u⟩, A110⟩ := A109.callI (b := xv) (own_init l Z a0 hw xv xl xu h103 n0 Z0 E_xv F_xv_lower F_xv_upper g_xv) hx hZ hown (hb hby dl0_167) rfl (hw _ (List.mem_of_getElem? (i := 7) rfl)) (hw _ (List.mem_of_getElem? (i := 8) rfl)) (hw _ (List.mem_of_getElem? (i := 9) rfl)) (hw _ (List.mem_of_getElem? (i := 6) rfl)) ⟨by decide, by decide⟩ (lenOf pd__28_5bD_5bD_29V rfl) (argsL := [(.ref xl), (.ref xu)]) (rest := [(.ref xv)]) rfl rfl (by rw [hml]; rfl) (W := 1) (Nat.le_of_eq rfl) (by decide) (by decide) (by decide) (by decide)
    have V_xl : own_Ar Z hA110 xl .double [(.double (FP.l2d lo)), (.double (FP.l2d (lo - (7 : Int64))))] := V_xl.keep KI (ninS ne_xl_xv nin0)
    have V_xu : own_Ar Z hA110 xu .double [(.double (FP.l2d hi)), (.double (FP.l2d (hi + (100 : Int64))))] := V_xu.keep KI (ninS ne_xu_xv nin0)
    have E_xv : Exa Z hA110 xv "com/example/robust_model_checker/robustmodelchecker/checker/ValueBounds" := E_xv.keep KI
    have Z0 : n0 ≤ hA110.size := Nat.le_trans Z0 KI.1
    have F_xv_lower := F_l
    have F_xv_upper := F_u
    have A111 : own_R p l e _ _ m _ below meth c S0 n0 hA110 3 6 (mkF m 170 #[.val (.int p1), .val (.int p2), .val (.int p3), .val (.int p4), .val (.int (0 : Int32)), .val (.long lo), .second, .val (.long dd), .second, .val (.long hi), .second, .val (.double (9094988921128908188 : UInt64)), .second, .val (.double (9218868437227405312 : UInt64)), .second, .val (.double (FP.l2d lo)), .second, .val (.double (FP.l2d hi)), .second, .val (.double (FP.dmul (FP.l2d (lo + hi)) (4602678819172646912 : UInt64))), .second, .val (.ref xl), .val (.ref xu), .unset, .unset, .unset] [(.ref xv)]) := A110
    have A112 := A111.go (f' := mkF m 172 #[.val (.int p1), .val (.int p2), .val (.int p3), .val (.int p4), .val (.int (0 : Int32)), .val (.long lo), .second, .val (.long dd), .second, .val (.long hi), .second, .val (.double (9094988921128908188 : UInt64)), .second, .val (.double (9218868437227405312 : UInt64)), .second, .val (.double (FP.l2d lo)), .second, .val (.double (FP.l2d hi)), .second, .val (.double (FP.dmul (FP.l2d (lo + hi)) (4602678819172646912 : UInt64))), .second, .val (.ref xl), .val (.ref xu), .val (.ref xv), .unset, .unset] []) fun _ _ X _ k => XS.astore X.here hx rfl (hb hby dl0_170) rfl rfl (l' := #[.val (.int p1), .val (.int p2), .val (.int p3), .val (.int p4), .val (.int (0 : Int32)), .val (.long lo), .second, .val (.long dd), .second, .val (.long hi), .second, .val (.double (9094988921128908188 : UInt64)), .second, .val (.double (9218868437227405312 : UInt64)), .second, .val (.double (FP.l2d lo)), .second, .val (.double (FP.l2d hi)), .second, .val (.double (FP.dmul (FP.l2d (lo + hi)) (4602678819172646912 : UInt64))), .second, .val (.ref xl), .val (.ref xu), .val (.ref xv), .unset, .unset]) rfl k
    have A113 := A112.go (f' := mkF m 174 #[.val (.int p1), .val (.int p2), .val (.int p3), .val (.int p4), .val (.int (0 : Int32)), .val (.long lo), .second, .val (.long dd), .second, .val (.long hi), .second, .val (.double (9094988921128908188 : UInt64)), .second, .val (.double (9218868437227405312 : UInt64)), .second, .val (.double (FP.l2d lo)), .second, .val (.double (FP.l2d hi)), .second, .val (.double (FP.dmul (FP.l2d (lo + hi)) (4602678819172646912 : UInt64))), .second, .val (.ref xl), .val (.ref xu), .val (.ref xv), .unset, .unset] [(.ref xv)]) fun _ _ X _ k => XS.aload X.here hx rfl (hb hby dl0_172) rfl rfl k
    have A114 := A113.go (f' := mkF m 176 #[.val (.int p1), .val (.int p2), .val (.int p3), .val (.int p4), .val (.int (0 : Int32)), .val (.long lo), .second, .val (.long dd), .second, .val (.long hi), .second, .val (.double (9094988921128908188 : UInt64)), .second, .val (.double (9218868437227405312 : UInt64)), .second, .val (.double (FP.l2d lo)), .second, .val (.double (FP.l2d hi)), .second, .val (.double (FP.dmul (FP.l2d (lo + hi)) (4602678819172646912 : UInt64))), .second, .val (.ref xl), .val (.ref xu), .val (.ref xv), .unset, .unset] [(.int (0 : Int32)), (.ref xv)]) fun _ _ X _ k => XS.iload X.here hx rfl (hb hby dl0_174) rfl k
    have hOB := own_bounds hlo hdd hhi
    by_cases hc0 : cmpValue (FP.dcmp (FP.l2d lo) (FP.l2d hi)) .l = (0 : Int32)
    · skip
      obtain ⟨vA115, hA115, ⟨rfl, rfl⟩, A115⟩ := A114.callV (b := xv) (own_value0Eq l Z a0 hw xv xl xu (0 : Int32) (FP.l2d lo) (FP.l2d (lo - (7 : Int64))) (FP.l2d hi) (FP.l2d (hi + (100 : Int64))) hA110 n0 Z0 F_xv_lower F_xv_upper V_xl V_xu rfl hc0) E_xv hx hZ hown (hb hby dl0_176) (hw _ (List.mem_of_getElem? (i := 17) rfl)) (hw _ (List.mem_of_getElem? (i := 18) rfl)) (hw _ (List.mem_of_getElem? (i := 20) rfl)) (hw _ (List.mem_of_getElem? (i := 19) rfl)) (hw _ (List.mem_of_getElem? (i := 21) rfl)) (hw _ (List.mem_of_getElem? (i := 6) rfl)) (fun _ q => notFace_of_selects (args := #[]) (mvT q (hw _ (List.mem_of_getElem? (i := 20) rfl)))) ⟨by decide, by decide⟩ (lenOf pd__28I_29D rfl) (argsL := [(.int (0 : Int32))]) (rest := []) rfl rfl (by rw [hml]; rfl) (W := 0) (Nat.le_of_eq rfl) (by decide) (by decide) (by decide) (by decide)
      have A116 : own_R p l e _ _ m _ below meth c S0 n0 hA110 3 6 (mkF m 179 #[.val (.int p1), .val (.int p2), .val (.int p3), .val (.int p4), .val (.int (0 : Int32)), .val (.long lo), .second, .val (.long dd), .second, .val (.long hi), .second, .val (.double (9094988921128908188 : UInt64)), .second, .val (.double (9218868437227405312 : UInt64)), .second, .val (.double (FP.l2d lo)), .second, .val (.double (FP.l2d hi)), .second, .val (.double (FP.dmul (FP.l2d (lo + hi)) (4602678819172646912 : UInt64))), .second, .val (.ref xl), .val (.ref xu), .val (.ref xv), .unset, .unset] [(.double (FP.l2d lo))]) := A115
      have A117 := A116.go (f' := mkF m 181 #[.val (.int p1), .val (.int p2), .val (.int p3), .val (.int p4), .val (.int (0 : Int32)), .val (.long lo), .second, .val (.long dd), .second, .val (.long hi), .second, .val (.double (9094988921128908188 : UInt64)), .second, .val (.double (9218868437227405312 : UInt64)), .second, .val (.double (FP.l2d lo)), .second, .val (.double (FP.l2d hi)), .second, .val (.double (FP.dmul (FP.l2d (lo + hi)) (4602678819172646912 : UInt64))), .second, .val (.ref xl), .val (.ref xu), .val (.ref xv), .val (.double (FP.l2d lo)), .second] []) fun _ _ X _ k => XS.dstore X.here hx rfl (hb hby dl0_179) rfl (l' := #[.val (.int p1), .val (.int p2), .val (.int p3), .val (.int p4), .val (.int (0 : Int32)), .val (.long lo), .second, .val (.long dd), .second, .val (.long hi), .second, .val (.double (9094988921128908188 : UInt64)), .second, .val (.double (9218868437227405312 : UInt64)), .second, .val (.double (FP.l2d lo)), .second, .val (.double (FP.l2d hi)), .second, .val (.double (FP.dmul (FP.l2d (lo + hi)) (4602678819172646912 : UInt64))), .second, .val (.ref xl), .val (.ref xu), .val (.ref xv), .val (.double (FP.l2d lo)), .second]) rfl k
      have A118 := A117.go (f' := mkF m 183 #[.val (.int p1), .val (.int p2), .val (.int p3), .val (.int p4), .val (.int (0 : Int32)), .val (.long lo), .second, .val (.long dd), .second, .val (.long hi), .second, .val (.double (9094988921128908188 : UInt64)), .second, .val (.double (9218868437227405312 : UInt64)), .second, .val (.double (FP.l2d lo)), .second, .val (.double (FP.l2d hi)), .second, .val (.double (FP.dmul (FP.l2d (lo + hi)) (4602678819172646912 : UInt64))), .second, .val (.ref xl), .val (.ref xu), .val (.ref xv), .val (.double (FP.l2d lo)), .second] [(.double (FP.l2d lo))]) fun _ _ X _ k => XS.dload X.here hx rfl (hb hby dl0_181) rfl k
      have A119 := A118.go (f' := mkF m 185 #[.val (.int p1), .val (.int p2), .val (.int p3), .val (.int p4), .val (.int (0 : Int32)), .val (.long lo), .second, .val (.long dd), .second, .val (.long hi), .second, .val (.double (9094988921128908188 : UInt64)), .second, .val (.double (9218868437227405312 : UInt64)), .second, .val (.double (FP.l2d lo)), .second, .val (.double (FP.l2d hi)), .second, .val (.double (FP.dmul (FP.l2d (lo + hi)) (4602678819172646912 : UInt64))), .second, .val (.ref xl), .val (.ref xu), .val (.ref xv), .val (.double (FP.l2d lo)), .second] [(.double (FP.dmul (FP.l2d (lo + hi)) (4602678819172646912 : UInt64))), (.double (FP.l2d lo))]) fun _ _ X _ k => XS.dload X.here hx rfl (hb hby dl0_183) rfl k
      have A120 := A119.go (f' := mkF m 186 #[.val (.int p1), .val (.int p2), .val (.int p3), .val (.int p4), .val (.int (0 : Int32)), .val (.long lo), .second, .val (.long dd), .second, .val (.long hi), .second, .val (.double (9094988921128908188 : UInt64)), .second, .val (.double (9218868437227405312 : UInt64)), .second, .val (.double (FP.l2d lo)), .second, .val (.double (FP.l2d hi)), .second, .val (.double (FP.dmul (FP.l2d (lo + hi)) (4602678819172646912 : UInt64))), .second, .val (.ref xl), .val (.ref xu), .val (.ref xv), .val (.double (FP.l2d lo)), .second] [(.int (cmpValue (FP.dcmp (FP.l2d lo) (FP.dmul (FP.l2d (lo + hi)) (4602678819172646912 : UInt64))) .l))]) fun _ _ X _ k => XS.dcmpS X.here hx rfl (hb hby dl0_185) rfl rfl k
      have q121 : ((cmpValue (FP.dcmp (FP.l2d lo) (FP.dmul (FP.l2d (lo + hi)) (4602678819172646912 : UInt64))) .l) = (0 : Int32)) := own_finEq hOB hc0
      have A122 := A120.go (f' := mkF m 189 #[.val (.int p1), .val (.int p2), .val (.int p3), .val (.int p4), .val (.int (0 : Int32)), .val (.long lo), .second, .val (.long dd), .second, .val (.long hi), .second, .val (.double (9094988921128908188 : UInt64)), .second, .val (.double (9218868437227405312 : UInt64)), .second, .val (.double (FP.l2d lo)), .second, .val (.double (FP.l2d hi)), .second, .val (.double (FP.dmul (FP.l2d (lo + hi)) (4602678819172646912 : UInt64))), .second, .val (.ref xl), .val (.ref xu), .val (.ref xv), .val (.double (FP.l2d lo)), .second] []) fun _ _ X _ k => XS.ifNo X.here hx rfl (hb hby dl0_186) rfl ((if0 _ _).trans (teq q121).2) k
      have A123 := A122.go (f' := mkF m 190 #[.val (.int p1), .val (.int p2), .val (.int p3), .val (.int p4), .val (.int (0 : Int32)), .val (.long lo), .second, .val (.long dd), .second, .val (.long hi), .second, .val (.double (9094988921128908188 : UInt64)), .second, .val (.double (9218868437227405312 : UInt64)), .second, .val (.double (FP.l2d lo)), .second, .val (.double (FP.l2d hi)), .second, .val (.double (FP.dmul (FP.l2d (lo + hi)) (4602678819172646912 : UInt64))), .second, .val (.ref xl), .val (.ref xu), .val (.ref xv), .val (.double (FP.l2d lo)), .second] [(.int (1 : Int32))]) fun _ _ X _ k => XS.iconst X.here hx rfl (hb hby dl0_189) k
      have A124 := A123.go (f' := mkF m 194 #[.val (.int p1), .val (.int p2), .val (.int p3), .val (.int p4), .val (.int (0 : Int32)), .val (.long lo), .second, .val (.long dd), .second, .val (.long hi), .second, .val (.double (9094988921128908188 : UInt64)), .second, .val (.double (9218868437227405312 : UInt64)), .second, .val (.double (FP.l2d lo)), .second, .val (.double (FP.l2d hi)), .second, .val (.double (FP.dmul (FP.l2d (lo + hi)) (4602678819172646912 : UInt64))), .second, .val (.ref xl), .val (.ref xu), .val (.ref xv), .val (.double (FP.l2d lo)), .second] [(.int (1 : Int32))]) fun _ _ X _ k => XS.goto X.here hx rfl (pc0 := 190) (pc' := 194) rfl (hb hby dl0_190) (by decide) (by decide) k
      exact A124.ret hx hlk hret (hb hby dl0_194) rfl (Or.inl ⟨rfl, by simp, _, rfl⟩) (by decide) (by decide) ⟨rfl, trivial⟩
    · skip
      have hnn := own_nn hOB
      obtain ⟨vA125, hA125, ⟨rfl, rfl⟩, A125⟩ := A114.callV (b := xv) (own_value0Ne l Z a0 hw xv xl xu (0 : Int32) (FP.l2d lo) (FP.l2d (lo - (7 : Int64))) (FP.l2d hi) (FP.l2d (hi + (100 : Int64))) hA110 n0 Z0 F_xv_lower F_xv_upper V_xl V_xu rfl hc0 hnn.1 hnn.2.1 hnn.2.2) E_xv hx hZ hown (hb hby dl0_176) (hw _ (List.mem_of_getElem? (i := 17) rfl)) (hw _ (List.mem_of_getElem? (i := 18) rfl)) (hw _ (List.mem_of_getElem? (i := 20) rfl)) (hw _ (List.mem_of_getElem? (i := 19) rfl)) (hw _ (List.mem_of_getElem? (i := 21) rfl)) (hw _ (List.mem_of_getElem? (i := 6) rfl)) (fun _ q => notFace_of_selects (args := #[]) (mvT q (hw _ (List.mem_of_getElem? (i := 20) rfl)))) ⟨by decide, by decide⟩ (lenOf pd__28I_29D rfl) (argsL := [(.int (0 : Int32))]) (rest := []) rfl rfl (by rw [hml]; rfl) (W := 0) (Nat.le_of_eq rfl) (by decide) (by decide) (by decide) (by decide)
      have A126 : own_R p l e _ _ m _ below meth c S0 n0 hA110 3 6 (mkF m 179 #[.val (.int p1), .val (.int p2), .val (.int p3), .val (.int p4), .val (.int (0 : Int32)), .val (.long lo), .second, .val (.long dd), .second, .val (.long hi), .second, .val (.double (9094988921128908188 : UInt64)), .second, .val (.double (9218868437227405312 : UInt64)), .second, .val (.double (FP.l2d lo)), .second, .val (.double (FP.l2d hi)), .second, .val (.double (FP.dmul (FP.l2d (lo + hi)) (4602678819172646912 : UInt64))), .second, .val (.ref xl), .val (.ref xu), .val (.ref xv), .unset, .unset] [(.double (FP.dadd (FP.l2d lo) (FP.ddiv (FP.dsub (FP.l2d hi) (FP.l2d lo)) (4611686018427387904 : UInt64))))]) := A125
      have A127 := A126.go (f' := mkF m 181 #[.val (.int p1), .val (.int p2), .val (.int p3), .val (.int p4), .val (.int (0 : Int32)), .val (.long lo), .second, .val (.long dd), .second, .val (.long hi), .second, .val (.double (9094988921128908188 : UInt64)), .second, .val (.double (9218868437227405312 : UInt64)), .second, .val (.double (FP.l2d lo)), .second, .val (.double (FP.l2d hi)), .second, .val (.double (FP.dmul (FP.l2d (lo + hi)) (4602678819172646912 : UInt64))), .second, .val (.ref xl), .val (.ref xu), .val (.ref xv), .val (.double (FP.dadd (FP.l2d lo) (FP.ddiv (FP.dsub (FP.l2d hi) (FP.l2d lo)) (4611686018427387904 : UInt64)))), .second] []) fun _ _ X _ k => XS.dstore X.here hx rfl (hb hby dl0_179) rfl (l' := #[.val (.int p1), .val (.int p2), .val (.int p3), .val (.int p4), .val (.int (0 : Int32)), .val (.long lo), .second, .val (.long dd), .second, .val (.long hi), .second, .val (.double (9094988921128908188 : UInt64)), .second, .val (.double (9218868437227405312 : UInt64)), .second, .val (.double (FP.l2d lo)), .second, .val (.double (FP.l2d hi)), .second, .val (.double (FP.dmul (FP.l2d (lo + hi)) (4602678819172646912 : UInt64))), .second, .val (.ref xl), .val (.ref xu), .val (.ref xv), .val (.double (FP.dadd (FP.l2d lo) (FP.ddiv (FP.dsub (FP.l2d hi) (FP.l2d lo)) (4611686018427387904 : UInt64)))), .second]) rfl k
      have A128 := A127.go (f' := mkF m 183 #[.val (.int p1), .val (.int p2), .val (.int p3), .val (.int p4), .val (.int (0 : Int32)), .val (.long lo), .second, .val (.long dd), .second, .val (.long hi), .second, .val (.double (9094988921128908188 : UInt64)), .second, .val (.double (9218868437227405312 : UInt64)), .second, .val (.double (FP.l2d lo)), .second, .val (.double (FP.l2d hi)), .second, .val (.double (FP.dmul (FP.l2d (lo + hi)) (4602678819172646912 : UInt64))), .second, .val (.ref xl), .val (.ref xu), .val (.ref xv), .val (.double (FP.dadd (FP.l2d lo) (FP.ddiv (FP.dsub (FP.l2d hi) (FP.l2d lo)) (4611686018427387904 : UInt64)))), .second] [(.double (FP.dadd (FP.l2d lo) (FP.ddiv (FP.dsub (FP.l2d hi) (FP.l2d lo)) (4611686018427387904 : UInt64))))]) fun _ _ X _ k => XS.dload X.here hx rfl (hb hby dl0_181) rfl k
      have A129 := A128.go (f' := mkF m 185 #[.val (.int p1), .val (.int p2), .val (.int p3), .val (.int p4), .val (.int (0 : Int32)), .val (.long lo), .second, .val (.long dd), .second, .val (.long hi), .second, .val (.double (9094988921128908188 : UInt64)), .second, .val (.double (9218868437227405312 : UInt64)), .second, .val (.double (FP.l2d lo)), .second, .val (.double (FP.l2d hi)), .second, .val (.double (FP.dmul (FP.l2d (lo + hi)) (4602678819172646912 : UInt64))), .second, .val (.ref xl), .val (.ref xu), .val (.ref xv), .val (.double (FP.dadd (FP.l2d lo) (FP.ddiv (FP.dsub (FP.l2d hi) (FP.l2d lo)) (4611686018427387904 : UInt64)))), .second] [(.double (FP.dmul (FP.l2d (lo + hi)) (4602678819172646912 : UInt64))), (.double (FP.dadd (FP.l2d lo) (FP.ddiv (FP.dsub (FP.l2d hi) (FP.l2d lo)) (4611686018427387904 : UInt64))))]) fun _ _ X _ k => XS.dload X.here hx rfl (hb hby dl0_183) rfl k
      have A130 := A129.go (f' := mkF m 186 #[.val (.int p1), .val (.int p2), .val (.int p3), .val (.int p4), .val (.int (0 : Int32)), .val (.long lo), .second, .val (.long dd), .second, .val (.long hi), .second, .val (.double (9094988921128908188 : UInt64)), .second, .val (.double (9218868437227405312 : UInt64)), .second, .val (.double (FP.l2d lo)), .second, .val (.double (FP.l2d hi)), .second, .val (.double (FP.dmul (FP.l2d (lo + hi)) (4602678819172646912 : UInt64))), .second, .val (.ref xl), .val (.ref xu), .val (.ref xv), .val (.double (FP.dadd (FP.l2d lo) (FP.ddiv (FP.dsub (FP.l2d hi) (FP.l2d lo)) (4611686018427387904 : UInt64)))), .second] [(.int (cmpValue (FP.dcmp (FP.dadd (FP.l2d lo) (FP.ddiv (FP.dsub (FP.l2d hi) (FP.l2d lo)) (4611686018427387904 : UInt64))) (FP.dmul (FP.l2d (lo + hi)) (4602678819172646912 : UInt64))) .l))]) fun _ _ X _ k => XS.dcmpS X.here hx rfl (hb hby dl0_185) rfl rfl k
      have q131 : ((cmpValue (FP.dcmp (FP.dadd (FP.l2d lo) (FP.ddiv (FP.dsub (FP.l2d hi) (FP.l2d lo)) (4611686018427387904 : UInt64))) (FP.dmul (FP.l2d (lo + hi)) (4602678819172646912 : UInt64))) .l) = (0 : Int32)) := own_finNe hOB hc0
      have A132 := A130.go (f' := mkF m 189 #[.val (.int p1), .val (.int p2), .val (.int p3), .val (.int p4), .val (.int (0 : Int32)), .val (.long lo), .second, .val (.long dd), .second, .val (.long hi), .second, .val (.double (9094988921128908188 : UInt64)), .second, .val (.double (9218868437227405312 : UInt64)), .second, .val (.double (FP.l2d lo)), .second, .val (.double (FP.l2d hi)), .second, .val (.double (FP.dmul (FP.l2d (lo + hi)) (4602678819172646912 : UInt64))), .second, .val (.ref xl), .val (.ref xu), .val (.ref xv), .val (.double (FP.dadd (FP.l2d lo) (FP.ddiv (FP.dsub (FP.l2d hi) (FP.l2d lo)) (4611686018427387904 : UInt64)))), .second] []) fun _ _ X _ k => XS.ifNo X.here hx rfl (hb hby dl0_186) rfl ((if0 _ _).trans (teq q131).2) k
      have A133 := A132.go (f' := mkF m 190 #[.val (.int p1), .val (.int p2), .val (.int p3), .val (.int p4), .val (.int (0 : Int32)), .val (.long lo), .second, .val (.long dd), .second, .val (.long hi), .second, .val (.double (9094988921128908188 : UInt64)), .second, .val (.double (9218868437227405312 : UInt64)), .second, .val (.double (FP.l2d lo)), .second, .val (.double (FP.l2d hi)), .second, .val (.double (FP.dmul (FP.l2d (lo + hi)) (4602678819172646912 : UInt64))), .second, .val (.ref xl), .val (.ref xu), .val (.ref xv), .val (.double (FP.dadd (FP.l2d lo) (FP.ddiv (FP.dsub (FP.l2d hi) (FP.l2d lo)) (4611686018427387904 : UInt64)))), .second] [(.int (1 : Int32))]) fun _ _ X _ k => XS.iconst X.here hx rfl (hb hby dl0_189) k
      have A134 := A133.go (f' := mkF m 194 #[.val (.int p1), .val (.int p2), .val (.int p3), .val (.int p4), .val (.int (0 : Int32)), .val (.long lo), .second, .val (.long dd), .second, .val (.long hi), .second, .val (.double (9094988921128908188 : UInt64)), .second, .val (.double (9218868437227405312 : UInt64)), .second, .val (.double (FP.l2d lo)), .second, .val (.double (FP.l2d hi)), .second, .val (.double (FP.dmul (FP.l2d (lo + hi)) (4602678819172646912 : UInt64))), .second, .val (.ref xl), .val (.ref xu), .val (.ref xv), .val (.double (FP.dadd (FP.l2d lo) (FP.ddiv (FP.dsub (FP.l2d hi) (FP.l2d lo)) (4611686018427387904 : UInt64)))), .second] [(.int (1 : Int32))]) fun _ _ X _ k => XS.goto X.here hx rfl (pc0 := 190) (pc' := 194) rfl (hb hby dl0_190) (by decide) (by decide) k
      exact A134.ret hx hlk hret (hb hby dl0_194) rfl (Or.inl ⟨rfl, by simp, _, rfl⟩) (by decide) (by decide) ⟨rfl, trivial⟩
  · skip
    have A135 := A37.go (f' := mkF m 54 #[.val (.int p1), .val (.int p2), .val (.int p3), .val (.int p4), .val (.int (0 : Int32)), .val (.long lo), .second, .val (.long dd), .second, .val (.long hi), .second, .val (.double (9094988921128908188 : UInt64)), .second, .val (.double (9218868437227405312 : UInt64)), .second, .unset, .unset, .unset, .unset, .unset, .unset, .unset, .unset, .unset, .unset, .unset] []) fun _ _ X _ k => XS.ifNo X.here hx rfl (hb hby dl0_51) rfl ((if0 _ _).trans (feq q38).1) k
    have A136 := A135.go (f' := mkF m 55 #[.val (.int p1), .val (.int p2), .val (.int p3), .val (.int p4), .val (.int (0 : Int32)), .val (.long lo), .second, .val (.long dd), .second, .val (.long hi), .second, .val (.double (9094988921128908188 : UInt64)), .second, .val (.double (9218868437227405312 : UInt64)), .second, .unset, .unset, .unset, .unset, .unset, .unset, .unset, .unset, .unset, .unset, .unset] [(.int p4)]) fun _ _ X _ k => XS.iloadN X.here hx rfl (hb hby dl0_54) rfl k
    have A137 := A136.go (f' := mkF m 56 #[.val (.int p1), .val (.int p2), .val (.int p3), .val (.int p4), .val (.int (0 : Int32)), .val (.long lo), .second, .val (.long dd), .second, .val (.long hi), .second, .val (.double (9094988921128908188 : UInt64)), .second, .val (.double (9218868437227405312 : UInt64)), .second, .unset, .unset, .unset, .unset, .unset, .unset, .unset, .unset, .unset, .unset, .unset] [(.int (4 : Int32)), (.int p4)]) fun _ _ X _ k => XS.iconst X.here hx rfl (hb hby dl0_55) k
    have A138 := A137.go (f' := mkF m 57 #[.val (.int p1), .val (.int p2), .val (.int p3), .val (.int p4), .val (.int (0 : Int32)), .val (.long lo), .second, .val (.long dd), .second, .val (.long hi), .second, .val (.double (9094988921128908188 : UInt64)), .second, .val (.double (9218868437227405312 : UInt64)), .second, .unset, .unset, .unset, .unset, .unset, .unset, .unset, .unset, .unset, .unset, .unset] [(.int (p4 &&& (4 : Int32)))]) fun _ _ X _ k => XS.iand X.here hx rfl (hb hby dl0_56) rfl k
    have A140 : own_R p l e room_1 s m #[(.int p1), (.int p2), (.int p3), (.int p4)] below meth c S0 n0 h0 0 0 (mkF m 68 #[.val (.int p1), .val (.int p2), .val (.int p3), .val (.int p4), .val (.int (0 : Int32)), .val (.long lo), .second, .val (.long dd), .second, .val (.long hi), .second, .val (.double (9094988921128908188 : UInt64)), .second, .val (.double (9218868437227405312 : UInt64)), .second, .unset, .unset, .unset, .unset, .unset, .unset, .unset, .unset, .unset, .unset, .unset] [(.double (if (p4 &&& (4 : Int32)) = (0 : Int32) then (FP.dneg (9218868437227405312 : UInt64)) else (9218868437227405312 : UInt64)))]) := by
      by_cases q139 : (p4 &&& (4 : Int32)) = (0 : Int32)
      · skip
        have A141 := A138.go (f' := mkF m 65 #[.val (.int p1), .val (.int p2), .val (.int p3), .val (.int p4), .val (.int (0 : Int32)), .val (.long lo), .second, .val (.long dd), .second, .val (.long hi), .second, .val (.double (9094988921128908188 : UInt64)), .second, .val (.double (9218868437227405312 : UInt64)), .second, .unset, .unset, .unset, .unset, .unset, .unset, .unset, .unset, .unset, .unset, .unset] []) fun _ _ X _ k => XS.ifYes X.here hx rfl (pc0 := 57) (pc' := 65) rfl (hb hby dl0_57) rfl ((if0 _ _).trans (teq q139).1) (by decide) (by decide) k
        have A142 := A141.go (f' := mkF m 67 #[.val (.int p1), .val (.int p2), .val (.int p3), .val (.int p4), .val (.int (0 : Int32)), .val (.long lo), .second, .val (.long dd), .second, .val (.long hi), .second, .val (.double (9094988921128908188 : UInt64)), .second, .val (.double (9218868437227405312 : UInt64)), .second, .unset, .unset, .unset, .unset, .unset, .unset, .unset, .unset, .unset, .unset, .unset] [(.double (9218868437227405312 : UInt64))]) fun _ _ X _ k => XS.dload X.here hx rfl (hb hby dl0_65) rfl k
        have A143 := A142.go (f' := mkF m 68 #[.val (.int p1), .val (.int p2), .val (.int p3), .val (.int p4), .val (.int (0 : Int32)), .val (.long lo), .second, .val (.long dd), .second, .val (.long hi), .second, .val (.double (9094988921128908188 : UInt64)), .second, .val (.double (9218868437227405312 : UInt64)), .second, .unset, .unset, .unset, .unset, .unset, .unset, .unset, .unset, .unset, .unset, .unset] [(.double (FP.dneg (9218868437227405312 : UInt64)))]) fun _ _ X _ k => XS.dnegS X.here hx rfl (hb hby dl0_67) rfl rfl k
        simp only [if_pos q139]
        exact A143
      · skip
        have A144 := A138.go (f' := mkF m 60 #[.val (.int p1), .val (.int p2), .val (.int p3), .val (.int p4), .val (.int (0 : Int32)), .val (.long lo), .second, .val (.long dd), .second, .val (.long hi), .second, .val (.double (9094988921128908188 : UInt64)), .second, .val (.double (9218868437227405312 : UInt64)), .second, .unset, .unset, .unset, .unset, .unset, .unset, .unset, .unset, .unset, .unset, .unset] []) fun _ _ X _ k => XS.ifNo X.here hx rfl (hb hby dl0_57) rfl ((if0 _ _).trans (feq q139).1) k
        have A145 := A144.go (f' := mkF m 62 #[.val (.int p1), .val (.int p2), .val (.int p3), .val (.int p4), .val (.int (0 : Int32)), .val (.long lo), .second, .val (.long dd), .second, .val (.long hi), .second, .val (.double (9094988921128908188 : UInt64)), .second, .val (.double (9218868437227405312 : UInt64)), .second, .unset, .unset, .unset, .unset, .unset, .unset, .unset, .unset, .unset, .unset, .unset] [(.double (9218868437227405312 : UInt64))]) fun _ _ X _ k => XS.dload X.here hx rfl (hb hby dl0_60) rfl k
        have A146 := A145.go (f' := mkF m 68 #[.val (.int p1), .val (.int p2), .val (.int p3), .val (.int p4), .val (.int (0 : Int32)), .val (.long lo), .second, .val (.long dd), .second, .val (.long hi), .second, .val (.double (9094988921128908188 : UInt64)), .second, .val (.double (9218868437227405312 : UInt64)), .second, .unset, .unset, .unset, .unset, .unset, .unset, .unset, .unset, .unset, .unset, .unset] [(.double (9218868437227405312 : UInt64))]) fun _ _ X _ k => XS.goto X.here hx rfl (pc0 := 62) (pc' := 68) rfl (hb hby dl0_62) (by decide) (by decide) k
        simp only [if_neg q139]
        exact A146
    obtain ⟨vv, hvv⟩ : ∃ zq_, zq_ = (if (p4 &&& (4 : Int32)) = (0 : Int32) then (FP.dneg (9218868437227405312 : UInt64)) else (9218868437227405312 : UInt64)) := ⟨_, rfl⟩
    rw [← hvv] at A140
    have hnv : Jvm.Free.Fl.NoNaN64 vv := by rw [hvv]; exact own_vv _
    have A147 := A140.go (f' := mkF m 70 #[.val (.int p1), .val (.int p2), .val (.int p3), .val (.int p4), .val (.int (0 : Int32)), .val (.long lo), .second, .val (.long dd), .second, .val (.long hi), .second, .val (.double (9094988921128908188 : UInt64)), .second, .val (.double (9218868437227405312 : UInt64)), .second, .unset, .unset, .unset, .unset, .unset, .unset, .val (.double vv), .second, .unset, .unset, .unset] []) fun _ _ X _ k => XS.dstore X.here hx rfl (hb hby dl0_68) rfl (l' := #[.val (.int p1), .val (.int p2), .val (.int p3), .val (.int p4), .val (.int (0 : Int32)), .val (.long lo), .second, .val (.long dd), .second, .val (.long hi), .second, .val (.double (9094988921128908188 : UInt64)), .second, .val (.double (9218868437227405312 : UInt64)), .second, .unset, .unset, .unset, .unset, .unset, .unset, .val (.double vv), .second, .unset, .unset, .unset]) rfl k
    have A148 := A147.go (f' := mkF m 72 #[.val (.int p1), .val (.int p2), .val (.int p3), .val (.int p4), .val (.int (0 : Int32)), .val (.long lo), .second, .val (.long dd), .second, .val (.long hi), .second, .val (.double (9094988921128908188 : UInt64)), .second, .val (.double (9218868437227405312 : UInt64)), .second, .unset, .unset, .unset, .unset, .unset, .unset, .val (.double vv), .second, .unset, .unset, .unset] [(.double vv)]) fun _ _ X _ k => XS.dload X.here hx rfl (hb hby dl0_70) rfl k
    have A149 := A148.go (f' := mkF m 74 #[.val (.int p1), .val (.int p2), .val (.int p3), .val (.int p4), .val (.int (0 : Int32)), .val (.long lo), .second, .val (.long dd), .second, .val (.long hi), .second, .val (.double (9094988921128908188 : UInt64)), .second, .val (.double (9218868437227405312 : UInt64)), .second, .val (.double vv), .second, .unset, .unset, .unset, .unset, .val (.double vv), .second, .unset, .unset, .unset] []) fun _ _ X _ k => XS.dstore X.here hx rfl (hb hby dl0_72) rfl (l' := #[.val (.int p1), .val (.int p2), .val (.int p3), .val (.int p4), .val (.int (0 : Int32)), .val (.long lo), .second, .val (.long dd), .second, .val (.long hi), .second, .val (.double (9094988921128908188 : UInt64)), .second, .val (.double (9218868437227405312 : UInt64)), .second, .val (.double vv), .second, .unset, .unset, .unset, .unset, .val (.double vv), .second, .unset, .unset, .unset]) rfl k
    have A150 := A149.go (f' := mkF m 76 #[.val (.int p1), .val (.int p2), .val (.int p3), .val (.int p4), .val (.int (0 : Int32)), .val (.long lo), .second, .val (.long dd), .second, .val (.long hi), .second, .val (.double (9094988921128908188 : UInt64)), .second, .val (.double (9218868437227405312 : UInt64)), .second, .val (.double vv), .second, .unset, .unset, .unset, .unset, .val (.double vv), .second, .unset, .unset, .unset] [(.double vv)]) fun _ _ X _ k => XS.dload X.here hx rfl (hb hby dl0_74) rfl k
    have A151 := A150.go (f' := mkF m 78 #[.val (.int p1), .val (.int p2), .val (.int p3), .val (.int p4), .val (.int (0 : Int32)), .val (.long lo), .second, .val (.long dd), .second, .val (.long hi), .second, .val (.double (9094988921128908188 : UInt64)), .second, .val (.double (9218868437227405312 : UInt64)), .second, .val (.double vv), .second, .val (.double vv), .second, .unset, .unset, .val (.double vv), .second, .unset, .unset, .unset] []) fun _ _ X _ k => XS.dstore X.here hx rfl (hb hby dl0_76) rfl (l' := #[.val (.int p1), .val (.int p2), .val (.int p3), .val (.int p4), .val (.int (0 : Int32)), .val (.long lo), .second, .val (.long dd), .second, .val (.long hi), .second, .val (.double (9094988921128908188 : UInt64)), .second, .val (.double (9218868437227405312 : UInt64)), .second, .val (.double vv), .second, .val (.double vv), .second, .unset, .unset, .val (.double vv), .second, .unset, .unset, .unset]) rfl k
    have A152 := A151.go (f' := mkF m 80 #[.val (.int p1), .val (.int p2), .val (.int p3), .val (.int p4), .val (.int (0 : Int32)), .val (.long lo), .second, .val (.long dd), .second, .val (.long hi), .second, .val (.double (9094988921128908188 : UInt64)), .second, .val (.double (9218868437227405312 : UInt64)), .second, .val (.double vv), .second, .val (.double vv), .second, .unset, .unset, .val (.double vv), .second, .unset, .unset, .unset] [(.double vv)]) fun _ _ X _ k => XS.dload X.here hx rfl (hb hby dl0_78) rfl k
    have A153 := A152.go (f' := mkF m 82 #[.val (.int p1), .val (.int p2), .val (.int p3), .val (.int p4), .val (.int (0 : Int32)), .val (.long lo), .second, .val (.long dd), .second, .val (.long hi), .second, .val (.double (9094988921128908188 : UInt64)), .second, .val (.double (9218868437227405312 : UInt64)), .second, .val (.double vv), .second, .val (.double vv), .second, .val (.double vv), .second, .val (.double vv), .second, .unset, .unset, .unset] []) fun _ _ X _ k => XS.dstore X.here hx rfl (hb hby dl0_80) rfl (l' := #[.val (.int p1), .val (.int p2), .val (.int p3), .val (.int p4), .val (.int (0 : Int32)), .val (.long lo), .second, .val (.long dd), .second, .val (.long hi), .second, .val (.double (9094988921128908188 : UInt64)), .second, .val (.double (9218868437227405312 : UInt64)), .second, .val (.double vv), .second, .val (.double vv), .second, .val (.double vv), .second, .val (.double vv), .second, .unset, .unset, .unset]) rfl k
    have A154 := A153.go (f' := mkF m 107 #[.val (.int p1), .val (.int p2), .val (.int p3), .val (.int p4), .val (.int (0 : Int32)), .val (.long lo), .second, .val (.long dd), .second, .val (.long hi), .second, .val (.double (9094988921128908188 : UInt64)), .second, .val (.double (9218868437227405312 : UInt64)), .second, .val (.double vv), .second, .val (.double vv), .second, .val (.double vv), .second, .val (.double vv), .second, .unset, .unset, .unset] []) fun _ _ X _ k => XS.goto X.here hx rfl (pc0 := 82) (pc' := 107) rfl (hb hby dl0_82) (by decide) (by decide) k
    have A155 := A154.go (f' := mkF m 108 #[.val (.int p1), .val (.int p2), .val (.int p3), .val (.int p4), .val (.int (0 : Int32)), .val (.long lo), .second, .val (.long dd), .second, .val (.long hi), .second, .val (.double (9094988921128908188 : UInt64)), .second, .val (.double (9218868437227405312 : UInt64)), .second, .val (.double vv), .second, .val (.double vv), .second, .val (.double vv), .second, .val (.double vv), .second, .unset, .unset, .unset] [(.int (2 : Int32))]) fun _ _ X _ k => XS.iconst X.here hx rfl (hb hby dl0_107) k
    obtain ⟨h156, E157, V_xl, A158⟩ := A155.newP hx hZ (hb hby dl0_108) (hw _ (List.mem_of_getElem? (i := 1) rfl)) (by decide) (cap := 2) (by decide) (by decide) (by decide) (by decide)
    obtain ⟨xl, gxl⟩ : ∃ z, z = h0.size := ⟨_, rfl⟩
    rw [← gxl] at V_xl A158
    have g_xl : n0 ≤ xl := by rw [gxl]; exact Z0
    have Z0 : n0 ≤ h156.size := Nat.le_trans Z0 E157.1
    have V_xl : own_Ar Z h156 xl .double [(.double 0), (.double 0)] := V_xl
    have A159 : own_R p l e _ _ m _ below meth c S0 n0 h156 1 2 (mkF m 110 #[.val (.int p1), .val (.int p2), .val (.int p3), .val (.int p4), .val (.int (0 : Int32)), .val (.long lo), .second, .val (.long dd), .second, .val (.long hi), .second, .val (.double (9094988921128908188 : UInt64)), .second, .val (.double (9218868437227405312 : UInt64)), .second, .val (.double vv), .second, .val (.double vv), .second, .val (.double vv), .second, .val (.double vv), .second, .unset, .unset, .unset] [(.ref xl)]) := A158
    have A160 := A159.go (f' := mkF m 112 #[.val (.int p1), .val (.int p2), .val (.int p3), .val (.int p4), .val (.int (0 : Int32)), .val (.long lo), .second, .val (.long dd), .second, .val (.long hi), .second, .val (.double (9094988921128908188 : UInt64)), .second, .val (.double (9218868437227405312 : UInt64)), .second, .val (.double vv), .second, .val (.double vv), .second, .val (.double vv), .second, .val (.ref xl), .unset, .unset, .unset, .unset] []) fun _ _ X _ k => XS.astore X.here hx rfl (hb hby dl0_110) rfl rfl (l' := #[.val (.int p1), .val (.int p2), .val (.int p3), .val (.int p4), .val (.int (0 : Int32)), .val (.long lo), .second, .val (.long dd), .second, .val (.long hi), .second, .val (.double (9094988921128908188 : UInt64)), .second, .val (.double (9218868437227405312 : UInt64)), .second, .val (.double vv), .second, .val (.double vv), .second, .val (.double vv), .second, .val (.ref xl), .unset, .unset, .unset, .unset]) rfl k
    have A161 := A160.go (f' := mkF m 113 #[.val (.int p1), .val (.int p2), .val (.int p3), .val (.int p4), .val (.int (0 : Int32)), .val (.long lo), .second, .val (.long dd), .second, .val (.long hi), .second, .val (.double (9094988921128908188 : UInt64)), .second, .val (.double (9218868437227405312 : UInt64)), .second, .val (.double vv), .second, .val (.double vv), .second, .val (.double vv), .second, .val (.ref xl), .unset, .unset, .unset, .unset] [(.int (2 : Int32))]) fun _ _ X _ k => XS.iconst X.here hx rfl (hb hby dl0_112) k
    obtain ⟨h162, E163, V_xu, A164⟩ := A161.newP hx hZ (hb hby dl0_113) (hw _ (List.mem_of_getElem? (i := 1) rfl)) (by decide) (cap := 2) (by decide) (by decide) (by decide) (by decide)
    obtain ⟨xu, gxu⟩ : ∃ z, z = h156.size := ⟨_, rfl⟩
    rw [← gxu] at V_xu A164
    have ne_xl_xu : xl ≠ xu := by rw [gxu]; exact Nat.ne_of_lt V_xl.lt
    have ne_xu_xl := Ne.symm ne_xl_xu
    have g_xu : n0 ≤ xu := by rw [gxu]; exact Z0
    have V_xl : own_Ar Z h162 xl .double [(.double 0), (.double 0)] := V_xl.ext E163
    have Z0 : n0 ≤ h162.size := Nat.le_trans Z0 E163.1
    have V_xu : own_Ar Z h162 xu .double [(.double 0), (.double 0)] := V_xu
    have A165 : own_R p l e _ _ m _ below meth c S0 n0 h162 2 4 (mkF m 115 #[.val (.int p1), .val (.int p2), .val (.int p3), .val (.int p4), .val (.int (0 : Int32)), .val (.long lo), .second, .val (.long dd), .second, .val (.long hi), .second, .val (.double (9094988921128908188 : UInt64)), .second, .val (.double (9218868437227405312 : UInt64)), .second, .val (.double vv), .second, .val (.double vv), .second, .val (.double vv), .second, .val (.ref xl), .unset, .unset, .unset, .unset] [(.ref xu)]) := A164
    have A166 := A165.go (f' := mkF m 117 #[.val (.int p1), .val (.int p2), .val (.int p3), .val (.int p4), .val (.int (0 : Int32)), .val (.long lo), .second, .val (.long dd), .second, .val (.long hi), .second, .val (.double (9094988921128908188 : UInt64)), .second, .val (.double (9218868437227405312 : UInt64)), .second, .val (.double vv), .second, .val (.double vv), .second, .val (.double vv), .second, .val (.ref xl), .val (.ref xu), .unset, .unset, .unset] []) fun _ _ X _ k => XS.astore X.here hx rfl (hb hby dl0_115) rfl rfl (l' := #[.val (.int p1), .val (.int p2), .val (.int p3), .val (.int p4), .val (.int (0 : Int32)), .val (.long lo), .second, .val (.long dd), .second, .val (.long hi), .second, .val (.double (9094988921128908188 : UInt64)), .second, .val (.double (9218868437227405312 : UInt64)), .second, .val (.double vv), .second, .val (.double vv), .second, .val (.double vv), .second, .val (.ref xl), .val (.ref xu), .unset, .unset, .unset]) rfl k
    have A167 := A166.go (f' := mkF m 119 #[.val (.int p1), .val (.int p2), .val (.int p3), .val (.int p4), .val (.int (0 : Int32)), .val (.long lo), .second, .val (.long dd), .second, .val (.long hi), .second, .val (.double (9094988921128908188 : UInt64)), .second, .val (.double (9218868437227405312 : UInt64)), .second, .val (.double vv), .second, .val (.double vv), .second, .val (.double vv), .second, .val (.ref xl), .val (.ref xu), .unset, .unset, .unset] [(.ref xl)]) fun _ _ X _ k => XS.aload X.here hx rfl (hb hby dl0_117) rfl rfl k
    have A168 := A167.go (f' := mkF m 121 #[.val (.int p1), .val (.int p2), .val (.int p3), .val (.int p4), .val (.int (0 : Int32)), .val (.long lo), .second, .val (.long dd), .second, .val (.long hi), .second, .val (.double (9094988921128908188 : UInt64)), .second, .val (.double (9218868437227405312 : UInt64)), .second, .val (.double vv), .second, .val (.double vv), .second, .val (.double vv), .second, .val (.ref xl), .val (.ref xu), .unset, .unset, .unset] [(.int (0 : Int32)), (.ref xl)]) fun _ _ X _ k => XS.iload X.here hx rfl (hb hby dl0_119) rfl k
    have A169 := A168.go (f' := mkF m 123 #[.val (.int p1), .val (.int p2), .val (.int p3), .val (.int p4), .val (.int (0 : Int32)), .val (.long lo), .second, .val (.long dd), .second, .val (.long hi), .second, .val (.double (9094988921128908188 : UInt64)), .second, .val (.double (9218868437227405312 : UInt64)), .second, .val (.double vv), .second, .val (.double vv), .second, .val (.double vv), .second, .val (.ref xl), .val (.ref xu), .unset, .unset, .unset] [(.double vv), (.int (0 : Int32)), (.ref xl)]) fun _ _ X _ k => XS.dload X.here hx rfl (hb hby dl0_121) rfl k
    obtain ⟨h170, W171, A172⟩ := A169.stD hx hZ (hb hby dl0_123) V_xl (by decide) (by simp +decide) g_xl
    have V_xl : own_Ar Z h170 xl .double [(.double vv), (.double 0)] := V_xl.same W171
    have V_xu : own_Ar Z h170 xu .double [(.double 0), (.double 0)] := V_xu.other W171 ne_xu_xl
    have Z0 : n0 ≤ h170.size := by rw [W171.size]; exact Z0
    have A173 : own_R p l e _ _ m _ below meth c S0 n0 h170 2 4 (mkF m 124 #[.val (.int p1), .val (.int p2), .val (.int p3), .val (.int p4), .val (.int (0 : Int32)), .val (.long lo), .second, .val (.long dd), .second, .val (.long hi), .second, .val (.double (9094988921128908188 : UInt64)), .second, .val (.double (9218868437227405312 : UInt64)), .second, .val (.double vv), .second, .val (.double vv), .second, .val (.double vv), .second, .val (.ref xl), .val (.ref xu), .unset, .unset, .unset] []) := A172
    have A174 := A173.go (f' := mkF m 126 #[.val (.int p1), .val (.int p2), .val (.int p3), .val (.int p4), .val (.int (0 : Int32)), .val (.long lo), .second, .val (.long dd), .second, .val (.long hi), .second, .val (.double (9094988921128908188 : UInt64)), .second, .val (.double (9218868437227405312 : UInt64)), .second, .val (.double vv), .second, .val (.double vv), .second, .val (.double vv), .second, .val (.ref xl), .val (.ref xu), .unset, .unset, .unset] [(.ref xu)]) fun _ _ X _ k => XS.aload X.here hx rfl (hb hby dl0_124) rfl rfl k
    have A175 := A174.go (f' := mkF m 128 #[.val (.int p1), .val (.int p2), .val (.int p3), .val (.int p4), .val (.int (0 : Int32)), .val (.long lo), .second, .val (.long dd), .second, .val (.long hi), .second, .val (.double (9094988921128908188 : UInt64)), .second, .val (.double (9218868437227405312 : UInt64)), .second, .val (.double vv), .second, .val (.double vv), .second, .val (.double vv), .second, .val (.ref xl), .val (.ref xu), .unset, .unset, .unset] [(.int (0 : Int32)), (.ref xu)]) fun _ _ X _ k => XS.iload X.here hx rfl (hb hby dl0_126) rfl k
    have A176 := A175.go (f' := mkF m 130 #[.val (.int p1), .val (.int p2), .val (.int p3), .val (.int p4), .val (.int (0 : Int32)), .val (.long lo), .second, .val (.long dd), .second, .val (.long hi), .second, .val (.double (9094988921128908188 : UInt64)), .second, .val (.double (9218868437227405312 : UInt64)), .second, .val (.double vv), .second, .val (.double vv), .second, .val (.double vv), .second, .val (.ref xl), .val (.ref xu), .unset, .unset, .unset] [(.double vv), (.int (0 : Int32)), (.ref xu)]) fun _ _ X _ k => XS.dload X.here hx rfl (hb hby dl0_128) rfl k
    obtain ⟨h177, W178, A179⟩ := A176.stD hx hZ (hb hby dl0_130) V_xu (by decide) (by simp +decide) g_xu
    have V_xl : own_Ar Z h177 xl .double [(.double vv), (.double 0)] := V_xl.other W178 ne_xl_xu
    have V_xu : own_Ar Z h177 xu .double [(.double vv), (.double 0)] := V_xu.same W178
    have Z0 : n0 ≤ h177.size := by rw [W178.size]; exact Z0
    have A180 : own_R p l e _ _ m _ below meth c S0 n0 h177 2 4 (mkF m 131 #[.val (.int p1), .val (.int p2), .val (.int p3), .val (.int p4), .val (.int (0 : Int32)), .val (.long lo), .second, .val (.long dd), .second, .val (.long hi), .second, .val (.double (9094988921128908188 : UInt64)), .second, .val (.double (9218868437227405312 : UInt64)), .second, .val (.double vv), .second, .val (.double vv), .second, .val (.double vv), .second, .val (.ref xl), .val (.ref xu), .unset, .unset, .unset] []) := A179
    have A181 := A180.go (f' := mkF m 133 #[.val (.int p1), .val (.int p2), .val (.int p3), .val (.int p4), .val (.int (0 : Int32)), .val (.long lo), .second, .val (.long dd), .second, .val (.long hi), .second, .val (.double (9094988921128908188 : UInt64)), .second, .val (.double (9218868437227405312 : UInt64)), .second, .val (.double vv), .second, .val (.double vv), .second, .val (.double vv), .second, .val (.ref xl), .val (.ref xu), .unset, .unset, .unset] [(.ref xl)]) fun _ _ X _ k => XS.aload X.here hx rfl (hb hby dl0_131) rfl rfl k
    have A182 := A181.go (f' := mkF m 134 #[.val (.int p1), .val (.int p2), .val (.int p3), .val (.int p4), .val (.int (0 : Int32)), .val (.long lo), .second, .val (.long dd), .second, .val (.long hi), .second, .val (.double (9094988921128908188 : UInt64)), .second, .val (.double (9218868437227405312 : UInt64)), .second, .val (.double vv), .second, .val (.double vv), .second, .val (.double vv), .second, .val (.ref xl), .val (.ref xu), .unset, .unset, .unset] [(.int (1 : Int32)), (.ref xl)]) fun _ _ X _ k => XS.iconst X.here hx rfl (hb hby dl0_133) k
    have A183 := A182.go (f' := mkF m 136 #[.val (.int p1), .val (.int p2), .val (.int p3), .val (.int p4), .val (.int (0 : Int32)), .val (.long lo), .second, .val (.long dd), .second, .val (.long hi), .second, .val (.double (9094988921128908188 : UInt64)), .second, .val (.double (9218868437227405312 : UInt64)), .second, .val (.double vv), .second, .val (.double vv), .second, .val (.double vv), .second, .val (.ref xl), .val (.ref xu), .unset, .unset, .unset] [(.int (0 : Int32)), (.int (1 : Int32)), (.ref xl)]) fun _ _ X _ k => XS.iload X.here hx rfl (hb hby dl0_134) rfl k
    have A184 := A183.go (f' := mkF m 137 #[.val (.int p1), .val (.int p2), .val (.int p3), .val (.int p4), .val (.int (0 : Int32)), .val (.long lo), .second, .val (.long dd), .second, .val (.long hi), .second, .val (.double (9094988921128908188 : UInt64)), .second, .val (.double (9218868437227405312 : UInt64)), .second, .val (.double vv), .second, .val (.double vv), .second, .val (.double vv), .second, .val (.ref xl), .val (.ref xu), .unset, .unset, .unset] [(.int ((1 : Int32) - (0 : Int32))), (.ref xl)]) fun _ _ X _ k => XS.isub X.here hx rfl (hb hby dl0_136) rfl k
    rw [show (1 : Int32) - (0 : Int32) = (1 : Int32) from by decide] at A184
    have A185 := A184.go (f' := mkF m 139 #[.val (.int p1), .val (.int p2), .val (.int p3), .val (.int p4), .val (.int (0 : Int32)), .val (.long lo), .second, .val (.long dd), .second, .val (.long hi), .second, .val (.double (9094988921128908188 : UInt64)), .second, .val (.double (9218868437227405312 : UInt64)), .second, .val (.double vv), .second, .val (.double vv), .second, .val (.double vv), .second, .val (.ref xl), .val (.ref xu), .unset, .unset, .unset] [(.long lo), (.int (1 : Int32)), (.ref xl)]) fun _ _ X _ k => XS.lload X.here hx rfl (hb hby dl0_137) rfl k
    have A186 : own_R p l e _ _ m _ below meth c S0 n0 h177 2 4 (mkF m 142 #[.val (.int p1), .val (.int p2), .val (.int p3), .val (.int p4), .val (.int (0 : Int32)), .val (.long lo), .second, .val (.long dd), .second, .val (.long hi), .second, .val (.double (9094988921128908188 : UInt64)), .second, .val (.double (9218868437227405312 : UInt64)), .second, .val (.double vv), .second, .val (.double vv), .second, .val (.double vv), .second, .val (.ref xl), .val (.ref xu), .unset, .unset, .unset] [(.long (7 : Int64)), (.long lo), (.int (1 : Int32)), (.ref xl)]) := A185.ldcL hx hZ hown (hb hby dl0_139) (hw _ (List.mem_of_getElem? (i := 2) rfl))
    have A187 := A186.go (f' := mkF m 143 #[.val (.int p1), .val (.int p2), .val (.int p3), .val (.int p4), .val (.int (0 : Int32)), .val (.long lo), .second, .val (.long dd), .second, .val (.long hi), .second, .val (.double (9094988921128908188 : UInt64)), .second, .val (.double (9218868437227405312 : UInt64)), .second, .val (.double vv), .second, .val (.double vv), .second, .val (.double vv), .second, .val (.ref xl), .val (.ref xu), .unset, .unset, .unset] [(.long (lo - (7 : Int64))), (.int (1 : Int32)), (.ref xl)]) fun _ _ X _ k => XS.lsub X.here hx rfl (hb hby dl0_142) rfl k
    have A188 := A187.go (f' := mkF m 144 #[.val (.int p1), .val (.int p2), .val (.int p3), .val (.int p4), .val (.int (0 : Int32)), .val (.long lo), .second, .val (.long dd), .second, .val (.long hi), .second, .val (.double (9094988921128908188 : UInt64)), .second, .val (.double (9218868437227405312 : UInt64)), .second, .val (.double vv), .second, .val (.double vv), .second, .val (.double vv), .second, .val (.ref xl), .val (.ref xu), .unset, .unset, .unset] [(.double (FP.l2d (lo - (7 : Int64)))), (.int (1 : Int32)), (.ref xl)]) fun _ _ X _ k => XS.l2dS X.here hx rfl (hb hby dl0_143) rfl rfl k
    obtain ⟨h189, W190, A191⟩ := A188.stD hx hZ (hb hby dl0_144) V_xl (by decide) (by simp +decide) g_xl
    have V_xl : own_Ar Z h189 xl .double [(.double vv), (.double (FP.l2d (lo - (7 : Int64))))] := V_xl.same W190
    have V_xu : own_Ar Z h189 xu .double [(.double vv), (.double 0)] := V_xu.other W190 ne_xu_xl
    have Z0 : n0 ≤ h189.size := by rw [W190.size]; exact Z0
    have A192 : own_R p l e _ _ m _ below meth c S0 n0 h189 2 4 (mkF m 145 #[.val (.int p1), .val (.int p2), .val (.int p3), .val (.int p4), .val (.int (0 : Int32)), .val (.long lo), .second, .val (.long dd), .second, .val (.long hi), .second, .val (.double (9094988921128908188 : UInt64)), .second, .val (.double (9218868437227405312 : UInt64)), .second, .val (.double vv), .second, .val (.double vv), .second, .val (.double vv), .second, .val (.ref xl), .val (.ref xu), .unset, .unset, .unset] []) := A191
    have A193 := A192.go (f' := mkF m 147 #[.val (.int p1), .val (.int p2), .val (.int p3), .val (.int p4), .val (.int (0 : Int32)), .val (.long lo), .second, .val (.long dd), .second, .val (.long hi), .second, .val (.double (9094988921128908188 : UInt64)), .second, .val (.double (9218868437227405312 : UInt64)), .second, .val (.double vv), .second, .val (.double vv), .second, .val (.double vv), .second, .val (.ref xl), .val (.ref xu), .unset, .unset, .unset] [(.ref xu)]) fun _ _ X _ k => XS.aload X.here hx rfl (hb hby dl0_145) rfl rfl k
    have A194 := A193.go (f' := mkF m 148 #[.val (.int p1), .val (.int p2), .val (.int p3), .val (.int p4), .val (.int (0 : Int32)), .val (.long lo), .second, .val (.long dd), .second, .val (.long hi), .second, .val (.double (9094988921128908188 : UInt64)), .second, .val (.double (9218868437227405312 : UInt64)), .second, .val (.double vv), .second, .val (.double vv), .second, .val (.double vv), .second, .val (.ref xl), .val (.ref xu), .unset, .unset, .unset] [(.int (1 : Int32)), (.ref xu)]) fun _ _ X _ k => XS.iconst X.here hx rfl (hb hby dl0_147) k
    have A195 := A194.go (f' := mkF m 150 #[.val (.int p1), .val (.int p2), .val (.int p3), .val (.int p4), .val (.int (0 : Int32)), .val (.long lo), .second, .val (.long dd), .second, .val (.long hi), .second, .val (.double (9094988921128908188 : UInt64)), .second, .val (.double (9218868437227405312 : UInt64)), .second, .val (.double vv), .second, .val (.double vv), .second, .val (.double vv), .second, .val (.ref xl), .val (.ref xu), .unset, .unset, .unset] [(.int (0 : Int32)), (.int (1 : Int32)), (.ref xu)]) fun _ _ X _ k => XS.iload X.here hx rfl (hb hby dl0_148) rfl k
    have A196 := A195.go (f' := mkF m 151 #[.val (.int p1), .val (.int p2), .val (.int p3), .val (.int p4), .val (.int (0 : Int32)), .val (.long lo), .second, .val (.long dd), .second, .val (.long hi), .second, .val (.double (9094988921128908188 : UInt64)), .second, .val (.double (9218868437227405312 : UInt64)), .second, .val (.double vv), .second, .val (.double vv), .second, .val (.double vv), .second, .val (.ref xl), .val (.ref xu), .unset, .unset, .unset] [(.int ((1 : Int32) - (0 : Int32))), (.ref xu)]) fun _ _ X _ k => XS.isub X.here hx rfl (hb hby dl0_150) rfl k
    rw [show (1 : Int32) - (0 : Int32) = (1 : Int32) from by decide] at A196
    have A197 := A196.go (f' := mkF m 153 #[.val (.int p1), .val (.int p2), .val (.int p3), .val (.int p4), .val (.int (0 : Int32)), .val (.long lo), .second, .val (.long dd), .second, .val (.long hi), .second, .val (.double (9094988921128908188 : UInt64)), .second, .val (.double (9218868437227405312 : UInt64)), .second, .val (.double vv), .second, .val (.double vv), .second, .val (.double vv), .second, .val (.ref xl), .val (.ref xu), .unset, .unset, .unset] [(.long hi), (.int (1 : Int32)), (.ref xu)]) fun _ _ X _ k => XS.lload X.here hx rfl (hb hby dl0_151) rfl k
    have A198 : own_R p l e _ _ m _ below meth c S0 n0 h189 2 4 (mkF m 156 #[.val (.int p1), .val (.int p2), .val (.int p3), .val (.int p4), .val (.int (0 : Int32)), .val (.long lo), .second, .val (.long dd), .second, .val (.long hi), .second, .val (.double (9094988921128908188 : UInt64)), .second, .val (.double (9218868437227405312 : UInt64)), .second, .val (.double vv), .second, .val (.double vv), .second, .val (.double vv), .second, .val (.ref xl), .val (.ref xu), .unset, .unset, .unset] [(.long (100 : Int64)), (.long hi), (.int (1 : Int32)), (.ref xu)]) := A197.ldcL hx hZ hown (hb hby dl0_153) (hw _ (List.mem_of_getElem? (i := 3) rfl))
    have A199 := A198.go (f' := mkF m 157 #[.val (.int p1), .val (.int p2), .val (.int p3), .val (.int p4), .val (.int (0 : Int32)), .val (.long lo), .second, .val (.long dd), .second, .val (.long hi), .second, .val (.double (9094988921128908188 : UInt64)), .second, .val (.double (9218868437227405312 : UInt64)), .second, .val (.double vv), .second, .val (.double vv), .second, .val (.double vv), .second, .val (.ref xl), .val (.ref xu), .unset, .unset, .unset] [(.long (hi + (100 : Int64))), (.int (1 : Int32)), (.ref xu)]) fun _ _ X _ k => XS.ladd X.here hx rfl (hb hby dl0_156) rfl k
    have A200 := A199.go (f' := mkF m 158 #[.val (.int p1), .val (.int p2), .val (.int p3), .val (.int p4), .val (.int (0 : Int32)), .val (.long lo), .second, .val (.long dd), .second, .val (.long hi), .second, .val (.double (9094988921128908188 : UInt64)), .second, .val (.double (9218868437227405312 : UInt64)), .second, .val (.double vv), .second, .val (.double vv), .second, .val (.double vv), .second, .val (.ref xl), .val (.ref xu), .unset, .unset, .unset] [(.double (FP.l2d (hi + (100 : Int64)))), (.int (1 : Int32)), (.ref xu)]) fun _ _ X _ k => XS.l2dS X.here hx rfl (hb hby dl0_157) rfl rfl k
    obtain ⟨h201, W202, A203⟩ := A200.stD hx hZ (hb hby dl0_158) V_xu (by decide) (by simp +decide) g_xu
    have V_xl : own_Ar Z h201 xl .double [(.double vv), (.double (FP.l2d (lo - (7 : Int64))))] := V_xl.other W202 ne_xl_xu
    have V_xu : own_Ar Z h201 xu .double [(.double vv), (.double (FP.l2d (hi + (100 : Int64))))] := V_xu.same W202
    have Z0 : n0 ≤ h201.size := by rw [W202.size]; exact Z0
    have A204 : own_R p l e _ _ m _ below meth c S0 n0 h201 2 4 (mkF m 159 #[.val (.int p1), .val (.int p2), .val (.int p3), .val (.int p4), .val (.int (0 : Int32)), .val (.long lo), .second, .val (.long dd), .second, .val (.long hi), .second, .val (.double (9094988921128908188 : UInt64)), .second, .val (.double (9218868437227405312 : UInt64)), .second, .val (.double vv), .second, .val (.double vv), .second, .val (.double vv), .second, .val (.ref xl), .val (.ref xu), .unset, .unset, .unset] []) := A203
    obtain ⟨h205, E206, E_xv, D_xv, A207⟩ := A204.newO hx hZ hown (hb hby dl0_159) (hw _ (List.mem_of_getElem? (i := 4) rfl)) (hw _ (List.mem_of_getElem? (i := 5) rfl)) (hw _ (List.mem_of_getElem? (i := 6) rfl)) (by decide) (by decide)
    obtain ⟨xv, gxv⟩ : ∃ z, z = h201.size := ⟨_, rfl⟩
    rw [← gxv] at E_xv D_xv A207
    have ne_xl_xv : xl ≠ xv := by rw [gxv]; exact Nat.ne_of_lt V_xl.lt
    have ne_xv_xl := Ne.symm ne_xl_xv
    have ne_xu_xv : xu ≠ xv := by rw [gxv]; exact Nat.ne_of_lt V_xu.lt
    have ne_xv_xu := Ne.symm ne_xu_xv
    have g_xv : n0 ≤ xv := by rw [gxv]; exact Z0
    have V_xl : own_Ar Z h205 xl .double [(.double vv), (.double (FP.l2d (lo - (7 : Int64))))] := V_xl.ext E206
    have V_xu : own_Ar Z h205 xu .double [(.double vv), (.double (FP.l2d (hi + (100 : Int64))))] := V_xu.ext E206
    have Z0 : n0 ≤ h205.size := Nat.le_trans Z0 E206.1
    have F_xv_lower : Fld Z h205 xv "com/example/robust_model_checker/robustmodelchecker/checker/ValueBounds" "lower" "[D" .null := D_xv (Or.inr (hw _ (List.mem_of_getElem? (i := 14) rfl))) (ty := (.array .double)) (by decide)
    have F_xv_upper : Fld Z h205 xv "com/example/robust_model_checker/robustmodelchecker/checker/ValueBounds" "upper" "[D" .null := D_xv (Or.inr (hw _ (List.mem_of_getElem? (i := 16) rfl))) (ty := (.array .double)) (by decide)
    have A208 : own_R p l e _ _ m _ below meth c S0 n0 h205 3 6 (mkF m 162 #[.val (.int p1), .val (.int p2), .val (.int p3), .val (.int p4), .val (.int (0 : Int32)), .val (.long lo), .second, .val (.long dd), .second, .val (.long hi), .second, .val (.double (9094988921128908188 : UInt64)), .second, .val (.double (9218868437227405312 : UInt64)), .second, .val (.double vv), .second, .val (.double vv), .second, .val (.double vv), .second, .val (.ref xl), .val (.ref xu), .unset, .unset, .unset] [(.ref xv)]) := A207
    have A209 := A208.go (f' := mkF m 163 #[.val (.int p1), .val (.int p2), .val (.int p3), .val (.int p4), .val (.int (0 : Int32)), .val (.long lo), .second, .val (.long dd), .second, .val (.long hi), .second, .val (.double (9094988921128908188 : UInt64)), .second, .val (.double (9218868437227405312 : UInt64)), .second, .val (.double vv), .second, .val (.double vv), .second, .val (.double vv), .second, .val (.ref xl), .val (.ref xu), .unset, .unset, .unset] [(.ref xv), (.ref xv)]) fun _ _ X _ k => XS.dup X.here hx rfl (hb hby dl0_162) rfl rfl k
    have A210 := A209.go (f' := mkF m 165 #[.val (.int p1), .val (.int p2), .val (.int p3), .val (.int p4), .val (.int (0 : Int32)), .val (.long lo), .second, .val (.long dd), .second, .val (.long hi), .second, .val (.double (9094988921128908188 : UInt64)), .second, .val (.double (9218868437227405312 : UInt64)), .second, .val (.double vv), .second, .val (.double vv), .second, .val (.double vv), .second, .val (.ref xl), .val (.ref xu), .unset, .unset, .unset] [(.ref xl), (.ref xv), (.ref xv)]) fun _ _ X _ k => XS.aload X.here hx rfl (hb hby dl0_163) rfl rfl k
    have A211 := A210.go (f' := mkF m 167 #[.val (.int p1), .val (.int p2), .val (.int p3), .val (.int p4), .val (.int (0 : Int32)), .val (.long lo), .second, .val (.long dd), .second, .val (.long hi), .second, .val (.double (9094988921128908188 : UInt64)), .second, .val (.double (9218868437227405312 : UInt64)), .second, .val (.double vv), .second, .val (.double vv), .second, .val (.double vv), .second, .val (.ref xl), .val (.ref xu), .unset, .unset, .unset] [(.ref xu), (.ref xl), (.ref xv), (.ref xv)]) fun _ _ X _ k => XS.aload X.here hx rfl (hb hby dl0_165) rfl rfl k
    obtain ⟨vA212, hA212, ⟨rfl, KI, F_l, F_u⟩, A212⟩ := A211.callI (b := xv) (own_init l Z a0 hw xv xl xu h205 n0 Z0 E_xv F_xv_lower F_xv_upper g_xv) hx hZ hown (hb hby dl0_167) rfl (hw _ (List.mem_of_getElem? (i := 7) rfl)) (hw _ (List.mem_of_getElem? (i := 8) rfl)) (hw _ (List.mem_of_getElem? (i := 9) rfl)) (hw _ (List.mem_of_getElem? (i := 6) rfl)) ⟨by decide, by decide⟩ (lenOf pd__28_5bD_5bD_29V rfl) (argsL := [(.ref xl), (.ref xu)]) (rest := [(.ref xv)]) rfl rfl (by rw [hml]; rfl) (W := 1) (Nat.le_of_eq rfl) (by decide) (by decide) (by decide) (by decide)
    have V_xl : own_Ar Z hA212 xl .double [(.double vv), (.double (FP.l2d (lo - (7 : Int64))))] := V_xl.keep KI (ninS ne_xl_xv nin0)
    have V_xu : own_Ar Z hA212 xu .double [(.double vv), (.double (FP.l2d (hi + (100 : Int64))))] := V_xu.keep KI (ninS ne_xu_xv nin0)
    have E_xv : Exa Z hA212 xv "com/example/robust_model_checker/robustmodelchecker/checker/ValueBounds" := E_xv.keep KI
    have Z0 : n0 ≤ hA212.size := Nat.le_trans Z0 KI.1
    have F_xv_lower := F_l
    have F_xv_upper := F_u
    have A213 : own_R p l e _ _ m _ below meth c S0 n0 hA212 3 6 (mkF m 170 #[.val (.int p1), .val (.int p2), .val (.int p3), .val (.int p4), .val (.int (0 : Int32)), .val (.long lo), .second, .val (.long dd), .second, .val (.long hi), .second, .val (.double (9094988921128908188 : UInt64)), .second, .val (.double (9218868437227405312 : UInt64)), .second, .val (.double vv), .second, .val (.double vv), .second, .val (.double vv), .second, .val (.ref xl), .val (.ref xu), .unset, .unset, .unset] [(.ref xv)]) := A212
    have A214 := A213.go (f' := mkF m 172 #[.val (.int p1), .val (.int p2), .val (.int p3), .val (.int p4), .val (.int (0 : Int32)), .val (.long lo), .second, .val (.long dd), .second, .val (.long hi), .second, .val (.double (9094988921128908188 : UInt64)), .second, .val (.double (9218868437227405312 : UInt64)), .second, .val (.double vv), .second, .val (.double vv), .second, .val (.double vv), .second, .val (.ref xl), .val (.ref xu), .val (.ref xv), .unset, .unset] []) fun _ _ X _ k => XS.astore X.here hx rfl (hb hby dl0_170) rfl rfl (l' := #[.val (.int p1), .val (.int p2), .val (.int p3), .val (.int p4), .val (.int (0 : Int32)), .val (.long lo), .second, .val (.long dd), .second, .val (.long hi), .second, .val (.double (9094988921128908188 : UInt64)), .second, .val (.double (9218868437227405312 : UInt64)), .second, .val (.double vv), .second, .val (.double vv), .second, .val (.double vv), .second, .val (.ref xl), .val (.ref xu), .val (.ref xv), .unset, .unset]) rfl k
    have A215 := A214.go (f' := mkF m 174 #[.val (.int p1), .val (.int p2), .val (.int p3), .val (.int p4), .val (.int (0 : Int32)), .val (.long lo), .second, .val (.long dd), .second, .val (.long hi), .second, .val (.double (9094988921128908188 : UInt64)), .second, .val (.double (9218868437227405312 : UInt64)), .second, .val (.double vv), .second, .val (.double vv), .second, .val (.double vv), .second, .val (.ref xl), .val (.ref xu), .val (.ref xv), .unset, .unset] [(.ref xv)]) fun _ _ X _ k => XS.aload X.here hx rfl (hb hby dl0_172) rfl rfl k
    have A216 := A215.go (f' := mkF m 176 #[.val (.int p1), .val (.int p2), .val (.int p3), .val (.int p4), .val (.int (0 : Int32)), .val (.long lo), .second, .val (.long dd), .second, .val (.long hi), .second, .val (.double (9094988921128908188 : UInt64)), .second, .val (.double (9218868437227405312 : UInt64)), .second, .val (.double vv), .second, .val (.double vv), .second, .val (.double vv), .second, .val (.ref xl), .val (.ref xu), .val (.ref xv), .unset, .unset] [(.int (0 : Int32)), (.ref xv)]) fun _ _ X _ k => XS.iload X.here hx rfl (hb hby dl0_174) rfl k
    have hc0 : cmpValue (FP.dcmp vv vv) .l = (0 : Int32) := dcmpV_self hnv .l
    obtain ⟨vA217, hA217, ⟨rfl, rfl⟩, A217⟩ := A216.callV (b := xv) (own_value0Eq l Z a0 hw xv xl xu (0 : Int32) vv (FP.l2d (lo - (7 : Int64))) vv (FP.l2d (hi + (100 : Int64))) hA212 n0 Z0 F_xv_lower F_xv_upper V_xl V_xu rfl hc0) E_xv hx hZ hown (hb hby dl0_176) (hw _ (List.mem_of_getElem? (i := 17) rfl)) (hw _ (List.mem_of_getElem? (i := 18) rfl)) (hw _ (List.mem_of_getElem? (i := 20) rfl)) (hw _ (List.mem_of_getElem? (i := 19) rfl)) (hw _ (List.mem_of_getElem? (i := 21) rfl)) (hw _ (List.mem_of_getElem? (i := 6) rfl)) (fun _ q => notFace_of_selects (args := #[]) (mvT q (hw _ (List.mem_of_getElem? (i := 20) rfl)))) ⟨by decide, by decide⟩ (lenOf pd__28I_29D rfl) (argsL := [(.int (0 : Int32))]) (rest := []) rfl rfl (by rw [hml]; rfl) (W := 0) (Nat.le_of_eq rfl) (by decide) (by decide) (by decide) (by decide)
    have A218 : own_R p l e _ _ m _ below meth c S0 n0 hA212 3 6 (mkF m 179 #[.val (.int p1), .val (.int p2), .val (.int p3), .val (.int p4), .val (.int (0 : Int32)), .val (.long lo), .second, .val (.long dd), .second, .val (.long hi), .second, .val (.double (9094988921128908188 : UInt64)), .second, .val (.double (9218868437227405312 : UInt64)), .second, .val (.double vv), .second, .val (.double vv), .second, .val (.double vv), .second, .val (.ref xl), .val (.ref xu), .val (.ref xv), .unset, .unset] [(.double vv)]) := A217
    have A219 := A218.go (f' := mkF m 181 #[.val (.int p1), .val (.int p2), .val (.int p3), .val (.int p4), .val (.int (0 : Int32)), .val (.long lo), .second, .val (.long dd), .second, .val (.long hi), .second, .val (.double (9094988921128908188 : UInt64)), .second, .val (.double (9218868437227405312 : UInt64)), .second, .val (.double vv), .second, .val (.double vv), .second, .val (.double vv), .second, .val (.ref xl), .val (.ref xu), .val (.ref xv), .val (.double vv), .second] []) fun _ _ X _ k => XS.dstore X.here hx rfl (hb hby dl0_179) rfl (l' := #[.val (.int p1), .val (.int p2), .val (.int p3), .val (.int p4), .val (.int (0 : Int32)), .val (.long lo), .second, .val (.long dd), .second, .val (.long hi), .second, .val (.double (9094988921128908188 : UInt64)), .second, .val (.double (9218868437227405312 : UInt64)), .second, .val (.double vv), .second, .val (.double vv), .second, .val (.double vv), .second, .val (.ref xl), .val (.ref xu), .val (.ref xv), .val (.double vv), .second]) rfl k
    have A220 := A219.go (f' := mkF m 183 #[.val (.int p1), .val (.int p2), .val (.int p3), .val (.int p4), .val (.int (0 : Int32)), .val (.long lo), .second, .val (.long dd), .second, .val (.long hi), .second, .val (.double (9094988921128908188 : UInt64)), .second, .val (.double (9218868437227405312 : UInt64)), .second, .val (.double vv), .second, .val (.double vv), .second, .val (.double vv), .second, .val (.ref xl), .val (.ref xu), .val (.ref xv), .val (.double vv), .second] [(.double vv)]) fun _ _ X _ k => XS.dload X.here hx rfl (hb hby dl0_181) rfl k
    have A221 := A220.go (f' := mkF m 185 #[.val (.int p1), .val (.int p2), .val (.int p3), .val (.int p4), .val (.int (0 : Int32)), .val (.long lo), .second, .val (.long dd), .second, .val (.long hi), .second, .val (.double (9094988921128908188 : UInt64)), .second, .val (.double (9218868437227405312 : UInt64)), .second, .val (.double vv), .second, .val (.double vv), .second, .val (.double vv), .second, .val (.ref xl), .val (.ref xu), .val (.ref xv), .val (.double vv), .second] [(.double vv), (.double vv)]) fun _ _ X _ k => XS.dload X.here hx rfl (hb hby dl0_183) rfl k
    have A222 := A221.go (f' := mkF m 186 #[.val (.int p1), .val (.int p2), .val (.int p3), .val (.int p4), .val (.int (0 : Int32)), .val (.long lo), .second, .val (.long dd), .second, .val (.long hi), .second, .val (.double (9094988921128908188 : UInt64)), .second, .val (.double (9218868437227405312 : UInt64)), .second, .val (.double vv), .second, .val (.double vv), .second, .val (.double vv), .second, .val (.ref xl), .val (.ref xu), .val (.ref xv), .val (.double vv), .second] [(.int (cmpValue (FP.dcmp vv vv) .l))]) fun _ _ X _ k => XS.dcmpS X.here hx rfl (hb hby dl0_185) rfl rfl k
    have q223 : ((cmpValue (FP.dcmp vv vv) .l) = (0 : Int32)) := dcmpV_self hnv .l
    have A224 := A222.go (f' := mkF m 189 #[.val (.int p1), .val (.int p2), .val (.int p3), .val (.int p4), .val (.int (0 : Int32)), .val (.long lo), .second, .val (.long dd), .second, .val (.long hi), .second, .val (.double (9094988921128908188 : UInt64)), .second, .val (.double (9218868437227405312 : UInt64)), .second, .val (.double vv), .second, .val (.double vv), .second, .val (.double vv), .second, .val (.ref xl), .val (.ref xu), .val (.ref xv), .val (.double vv), .second] []) fun _ _ X _ k => XS.ifNo X.here hx rfl (hb hby dl0_186) rfl ((if0 _ _).trans (teq q223).2) k
    have A225 := A224.go (f' := mkF m 190 #[.val (.int p1), .val (.int p2), .val (.int p3), .val (.int p4), .val (.int (0 : Int32)), .val (.long lo), .second, .val (.long dd), .second, .val (.long hi), .second, .val (.double (9094988921128908188 : UInt64)), .second, .val (.double (9218868437227405312 : UInt64)), .second, .val (.double vv), .second, .val (.double vv), .second, .val (.double vv), .second, .val (.ref xl), .val (.ref xu), .val (.ref xv), .val (.double vv), .second] [(.int (1 : Int32))]) fun _ _ X _ k => XS.iconst X.here hx rfl (hb hby dl0_189) k
    have A226 := A225.go (f' := mkF m 194 #[.val (.int p1), .val (.int p2), .val (.int p3), .val (.int p4), .val (.int (0 : Int32)), .val (.long lo), .second, .val (.long dd), .second, .val (.long hi), .second, .val (.double (9094988921128908188 : UInt64)), .second, .val (.double (9218868437227405312 : UInt64)), .second, .val (.double vv), .second, .val (.double vv), .second, .val (.double vv), .second, .val (.ref xl), .val (.ref xu), .val (.ref xv), .val (.double vv), .second] [(.int (1 : Int32))]) fun _ _ X _ k => XS.goto X.here hx rfl (pc0 := 190) (pc' := 194) rfl (hb hby dl0_190) (by decide) (by decide) k
    exact A226.ret hx hlk hret (hb hby dl0_194) rfl (Or.inl ⟨rfl, by simp, _, rfl⟩) (by decide) (by decide) ⟨rfl, trivial⟩
theorem dl1_0 : decode code 0 = .ok (.iload_n 2, 1) := at_0
theorem dl1_1 : decode code 1 = .ok (.iconst 1, 1) := at_1
theorem dl1_2 : decode code 2 = .ok (.iand, 1) := at_2
theorem dl1_3 : decode code 3 = .ok (.istore 4, 2) := at_3
theorem dl1_5 : decode code 5 = .ok (.iload_n 0, 1) := at_5
theorem dl1_6 : decode code 6 = .ok (.i2l, 1) := at_6
theorem dl1_7 : decode code 7 = .ok (.lstore 5, 2) := at_7
theorem dl1_9 : decode code 9 = .ok (.iload_n 3, 1) := at_9
theorem dl1_10 : decode code 10 = .ok (.iconst 2, 1) := at_10
theorem dl1_11 : decode code 11 = .ok (.iand, 1) := at_11
theorem dl1_12 : decode code 12 = .ok (.ifCond .eq 11, 3) := at_12
theorem dl1_15 : decode code 15 = .ok (.iload_n 1, 1) := at_15
theorem dl1_16 : decode code 16 = .ok (.ldc 7, 2) := at_16
theorem dl1_18 : decode code 18 = .ok (.iand, 1) := at_18
theorem dl1_19 : decode code 19 = .ok (.i2l, 1) := at_19
theorem dl1_20 : decode code 20 = .ok (.goto 7, 3) := at_20
theorem dl1_23 : decode code 23 = .ok (.iload_n 1, 1) := at_23
theorem dl1_24 : decode code 24 = .ok (.iconst 3, 1) := at_24
theorem dl1_25 : decode code 25 = .ok (.iand, 1) := at_25
theorem dl1_26 : decode code 26 = .ok (.i2l, 1) := at_26
theorem dl1_27 : decode code 27 = .ok (.lstore 7, 2) := at_27
theorem dl1_29 : decode code 29 = .ok (.lload 5, 2) := at_29
theorem dl1_31 : decode code 31 = .ok (.lload 7, 2) := at_31
theorem dl1_33 : decode code 33 = .ok (.ladd, 1) := at_33
theorem dl1_34 : decode code 34 = .ok (.lstore 9, 2) := at_34
theorem dl1_36 : decode code 36 = .ok (.ldc2_w 8, 3) := at_36
theorem dl1_39 : decode code 39 = .ok (.dstore 11, 2) := at_39
theorem dl1_41 : decode code 41 = .ok (.dload 11, 2) := at_41
theorem dl1_43 : decode code 43 = .ok (.dload 11, 2) := at_43
theorem dl1_45 : decode code 45 = .ok (.dmul, 1) := at_45
theorem dl1_46 : decode code 46 = .ok (.dstore 13, 2) := at_46
theorem dl1_48 : decode code 48 = .ok (.iload_n 3, 1) := at_48
theorem dl1_49 : decode code 49 = .ok (.iconst 1, 1) := at_49
theorem dl1_50 : decode code 50 = .ok (.iand, 1) := at_50
theorem dl1_51 : decode code 51 = .ok (.ifCond .eq 34, 3) := at_51
theorem dl1_54 : decode code 54 = .ok (.iload_n 3, 1) := at_54
theorem dl1_55 : decode code 55 = .ok (.iconst 4, 1) := at_55
theorem dl1_56 : decode code 56 = .ok (.iand, 1) := at_56
theorem dl1_57 : decode code 57 = .ok (.ifCond .eq 8, 3) := at_57
theorem dl1_60 : decode code 60 = .ok (.dload 13, 2) := at_60
theorem dl1_62 : decode code 62 = .ok (.goto 6, 3) := at_62
theorem dl1_65 : decode code 65 = .ok (.dload 13, 2) := at_65
theorem dl1_67 : decode code 67 = .ok (.dneg, 1) := at_67
theorem dl1_68 : decode code 68 = .ok (.dstore 21, 2) := at_68
theorem dl1_70 : decode code 70 = .ok (.dload 21, 2) := at_70
theorem dl1_72 : decode code 72 = .ok (.dstore 15, 2) := at_72
theorem dl1_74 : decode code 74 = .ok (.dload 21, 2) := at_74
theorem dl1_76 : decode code 76 = .ok (.dstore 17, 2) := at_76
theorem dl1_78 : decode code 78 = .ok (.dload 21, 2) := at_78
theorem dl1_80 : decode code 80 = .ok (.dstore 19, 2) := at_80
theorem dl1_82 : decode code 82 = .ok (.goto 25, 3) := at_82
theorem dl1_85 : decode code 85 = .ok (.lload 5, 2) := at_85
theorem dl1_87 : decode code 87 = .ok (.l2d, 1) := at_87
theorem dl1_88 : decode code 88 = .ok (.dstore 15, 2) := at_88
theorem dl1_90 : decode code 90 = .ok (.lload 9, 2) := at_90
theorem dl1_92 : decode code 92 = .ok (.l2d, 1) := at_92
theorem dl1_93 : decode code 93 = .ok (.dstore 17, 2) := at_93
theorem dl1_95 : decode code 95 = .ok (.lload 5, 2) := at_95
theorem dl1_97 : decode code 97 = .ok (.lload 9, 2) := at_97
theorem dl1_99 : decode code 99 = .ok (.ladd, 1) := at_99
theorem dl1_100 : decode code 100 = .ok (.l2d, 1) := at_100
theorem dl1_101 : decode code 101 = .ok (.ldc2_w 10, 3) := at_101
theorem dl1_104 : decode code 104 = .ok (.dmul, 1) := at_104
theorem dl1_105 : decode code 105 = .ok (.dstore 19, 2) := at_105
theorem dl1_107 : decode code 107 = .ok (.iconst 2, 1) := at_107
theorem dl1_108 : decode code 108 = .ok (.newarray .double, 2) := at_108
theorem dl1_110 : decode code 110 = .ok (.astore 21, 2) := at_110
theorem dl1_112 : decode code 112 = .ok (.iconst 2, 1) := at_112
theorem dl1_113 : decode code 113 = .ok (.newarray .double, 2) := at_113
theorem dl1_115 : decode code 115 = .ok (.astore 22, 2) := at_115
theorem dl1_117 : decode code 117 = .ok (.aload 21, 2) := at_117
theorem dl1_119 : decode code 119 = .ok (.iload 4, 2) := at_119
theorem dl1_121 : decode code 121 = .ok (.dload 15, 2) := at_121
theorem dl1_123 : decode code 123 = .ok (.dastore, 1) := at_123
theorem dl1_124 : decode code 124 = .ok (.aload 22, 2) := at_124
theorem dl1_126 : decode code 126 = .ok (.iload 4, 2) := at_126
theorem dl1_128 : decode code 128 = .ok (.dload 17, 2) := at_128
theorem dl1_130 : decode code 130 = .ok (.dastore, 1) := at_130
theorem dl1_131 : decode code 131 = .ok (.aload 21, 2) := at_131
theorem dl1_133 : decode code 133 = .ok (.iconst 1, 1) := at_133
theorem dl1_134 : decode code 134 = .ok (.iload 4, 2) := at_134
theorem dl1_136 : decode code 136 = .ok (.isub, 1) := at_136
theorem dl1_137 : decode code 137 = .ok (.lload 5, 2) := at_137
theorem dl1_139 : decode code 139 = .ok (.ldc2_w 12, 3) := at_139
theorem dl1_142 : decode code 142 = .ok (.lsub, 1) := at_142
theorem dl1_143 : decode code 143 = .ok (.l2d, 1) := at_143
theorem dl1_144 : decode code 144 = .ok (.dastore, 1) := at_144
theorem dl1_145 : decode code 145 = .ok (.aload 22, 2) := at_145
theorem dl1_147 : decode code 147 = .ok (.iconst 1, 1) := at_147
theorem dl1_148 : decode code 148 = .ok (.iload 4, 2) := at_148
theorem dl1_150 : decode code 150 = .ok (.isub, 1) := at_150
theorem dl1_151 : decode code 151 = .ok (.lload 9, 2) := at_151
theorem dl1_153 : decode code 153 = .ok (.ldc2_w 14, 3) := at_153
theorem dl1_156 : decode code 156 = .ok (.ladd, 1) := at_156
theorem dl1_157 : decode code 157 = .ok (.l2d, 1) := at_157
theorem dl1_158 : decode code 158 = .ok (.dastore, 1) := at_158
theorem dl1_159 : decode code 159 = .ok (.new 16, 3) := at_159
theorem dl1_162 : decode code 162 = .ok (.dup, 1) := at_162
theorem dl1_163 : decode code 163 = .ok (.aload 21, 2) := at_163
theorem dl1_165 : decode code 165 = .ok (.aload 22, 2) := at_165
theorem dl1_167 : decode code 167 = .ok (.invokespecial 18, 3) := at_167
theorem dl1_170 : decode code 170 = .ok (.astore 23, 2) := at_170
theorem dl1_172 : decode code 172 = .ok (.aload 23, 2) := at_172
theorem dl1_174 : decode code 174 = .ok (.iload 4, 2) := at_174
theorem dl1_176 : decode code 176 = .ok (.invokevirtual 21, 3) := at_176
theorem dl1_179 : decode code 179 = .ok (.dstore 24, 2) := at_179
theorem dl1_181 : decode code 181 = .ok (.dload 24, 2) := at_181
theorem dl1_183 : decode code 183 = .ok (.dload 19, 2) := at_183
theorem dl1_185 : decode code 185 = .ok (.dcmp .l, 1) := at_185
theorem dl1_186 : decode code 186 = .ok (.ifCond .ne 7, 3) := at_186
theorem dl1_189 : decode code 189 = .ok (.iconst 1, 1) := at_189
theorem dl1_190 : decode code 190 = .ok (.goto 4, 3) := at_190
theorem dl1_194 : decode code 194 = .ok (.ireturn, 1) := at_194
theorem efl1 (m : MethodId) (p1 : Int32) (p2 : Int32) (p3 : Int32) (p4 : Int32) : entryFrame m #[(.int p1), (.int p2), (.int p3), (.int p4)] maxLocals = mkF m 0 #[.val (.int p1), .val (.int p2), .val (.int p3), .val (.int p4), .unset, .unset, .unset, .unset, .unset, .unset, .unset, .unset, .unset, .unset, .unset, .unset, .unset, .unset, .unset, .unset, .unset, .unset, .unset, .unset, .unset, .unset] [] := by first | (simp [entryFrame, mkF, argsToLocals, Value.category, maxLocals]; done) | rfl
set_option maxRecDepth 65536 in
set_option maxHeartbeats 40000000 in
theorem own_law1 (l : Launch) (Z : State) (a0 : Array Value) (hw : ∀ d ∈ tables_1, d.before a0 Z = true) (p1 p2 p3 p4 : Int32) (h0 : Heap) (n0 : Nat) (Z0 : n0 ≤ h0.size) (hs : (p3 &&& (1 : Int32)) = (1 : Int32)) :
    own_M l Z x code maxLocals ret tables_1 room_1 #[(.int p1), (.int p2), (.int p3), (.int p4)] h0 n0 (fun v h => v = some (.int 1) ∧ True) := by
  refine own_M.of (plainFor_of_name (by first | (simp [plainName, overriddenIn]; done) | decide +kernel)) ?_
  intro p e s m below meth c S0 hx hby hml hown hnm hret hlk hZ A00
  have A0 := A00.cast (efl1 m p1 p2 p3 p4)
  have A1 := A0.go (f' := mkF m 1 #[.val (.int p1), .val (.int p2), .val (.int p3), .val (.int p4), .unset, .unset, .unset, .unset, .unset, .unset, .unset, .unset, .unset, .unset, .unset, .unset, .unset, .unset, .unset, .unset, .unset, .unset, .unset, .unset, .unset, .unset] [(.int p3)]) fun _ _ X _ k => XS.iloadN X.here hx rfl (hb hby dl1_0) rfl k
  have A2 := A1.go (f' := mkF m 2 #[.val (.int p1), .val (.int p2), .val (.int p3), .val (.int p4), .unset, .unset, .unset, .unset, .unset, .unset, .unset, .unset, .unset, .unset, .unset, .unset, .unset, .unset, .unset, .unset, .unset, .unset, .unset, .unset, .unset, .unset] [(.int (1 : Int32)), (.int p3)]) fun _ _ X _ k => XS.iconst X.here hx rfl (hb hby dl1_1) k
  have A3 := A2.go (f' := mkF m 3 #[.val (.int p1), .val (.int p2), .val (.int p3), .val (.int p4), .unset, .unset, .unset, .unset, .unset, .unset, .unset, .unset, .unset, .unset, .unset, .unset, .unset, .unset, .unset, .unset, .unset, .unset, .unset, .unset, .unset, .unset] [(.int (p3 &&& (1 : Int32)))]) fun _ _ X _ k => XS.iand X.here hx rfl (hb hby dl1_2) rfl k
  rw [hs] at A3
  have A4 := A3.go (f' := mkF m 5 #[.val (.int p1), .val (.int p2), .val (.int p3), .val (.int p4), .val (.int (1 : Int32)), .unset, .unset, .unset, .unset, .unset, .unset, .unset, .unset, .unset, .unset, .unset, .unset, .unset, .unset, .unset, .unset, .unset, .unset, .unset, .unset, .unset] []) fun _ _ X _ k => XS.istore X.here hx rfl (hb hby dl1_3) rfl (l' := #[.val (.int p1), .val (.int p2), .val (.int p3), .val (.int p4), .val (.int (1 : Int32)), .unset, .unset, .unset, .unset, .unset, .unset, .unset, .unset, .unset, .unset, .unset, .unset, .unset, .unset, .unset, .unset, .unset, .unset, .unset, .unset, .unset]) rfl k
  have A5 := A4.go (f' := mkF m 6 #[.val (.int p1), .val (.int p2), .val (.int p3), .val (.int p4), .val (.int (1 : Int32)), .unset, .unset, .unset, .unset, .unset, .unset, .unset, .unset, .unset, .unset, .unset, .unset, .unset, .unset, .unset, .unset, .unset, .unset, .unset, .unset, .unset] [(.int p1)]) fun _ _ X _ k => XS.iloadN X.here hx rfl (hb hby dl1_5) rfl k
  have A6 := A5.go (f' := mkF m 7 #[.val (.int p1), .val (.int p2), .val (.int p3), .val (.int p4), .val (.int (1 : Int32)), .unset, .unset, .unset, .unset, .unset, .unset, .unset, .unset, .unset, .unset, .unset, .unset, .unset, .unset, .unset, .unset, .unset, .unset, .unset, .unset, .unset] [(.long (p1.toInt64))]) fun _ _ X _ k => XS.i2l X.here hx rfl (hb hby dl1_6) rfl k
  obtain ⟨lo, hlo⟩ : ∃ zq_, zq_ = (p1.toInt64) := ⟨_, rfl⟩
  rw [← hlo] at A6
  have A7 := A6.go (f' := mkF m 9 #[.val (.int p1), .val (.int p2), .val (.int p3), .val (.int p4), .val (.int (1 : Int32)), .val (.long lo), .second, .unset, .unset, .unset, .unset, .unset, .unset, .unset, .unset, .unset, .unset, .unset, .unset, .unset, .unset, .unset, .unset, .unset, .unset, .unset] []) fun _ _ X _ k => XS.lstore X.here hx rfl (hb hby dl1_7) rfl (l' := #[.val (.int p1), .val (.int p2), .val (.int p3), .val (.int p4), .val (.int (1 : Int32)), .val (.long lo), .second, .unset, .unset, .unset, .unset, .unset, .unset, .unset, .unset, .unset, .unset, .unset, .unset, .unset, .unset, .unset, .unset, .unset, .unset, .unset]) rfl k
  have A8 := A7.go (f' := mkF m 10 #[.val (.int p1), .val (.int p2), .val (.int p3), .val (.int p4), .val (.int (1 : Int32)), .val (.long lo), .second, .unset, .unset, .unset, .unset, .unset, .unset, .unset, .unset, .unset, .unset, .unset, .unset, .unset, .unset, .unset, .unset, .unset, .unset, .unset] [(.int p4)]) fun _ _ X _ k => XS.iloadN X.here hx rfl (hb hby dl1_9) rfl k
  have A9 := A8.go (f' := mkF m 11 #[.val (.int p1), .val (.int p2), .val (.int p3), .val (.int p4), .val (.int (1 : Int32)), .val (.long lo), .second, .unset, .unset, .unset, .unset, .unset, .unset, .unset, .unset, .unset, .unset, .unset, .unset, .unset, .unset, .unset, .unset, .unset, .unset, .unset] [(.int (2 : Int32)), (.int p4)]) fun _ _ X _ k => XS.iconst X.here hx rfl (hb hby dl1_10) k
  have A10 := A9.go (f' := mkF m 12 #[.val (.int p1), .val (.int p2), .val (.int p3), .val (.int p4), .val (.int (1 : Int32)), .val (.long lo), .second, .unset, .unset, .unset, .unset, .unset, .unset, .unset, .unset, .unset, .unset, .unset, .unset, .unset, .unset, .unset, .unset, .unset, .unset, .unset] [(.int (p4 &&& (2 : Int32)))]) fun _ _ X _ k => XS.iand X.here hx rfl (hb hby dl1_11) rfl k
  have A12 : own_R p l e room_1 s m #[(.int p1), (.int p2), (.int p3), (.int p4)] below meth c S0 n0 h0 0 0 (mkF m 27 #[.val (.int p1), .val (.int p2), .val (.int p3), .val (.int p4), .val (.int (1 : Int32)), .val (.long lo), .second, .unset, .unset, .unset, .unset, .unset, .unset, .unset, .unset, .unset, .unset, .unset, .unset, .unset, .unset, .unset, .unset, .unset, .unset, .unset] [(.long (if (p4 &&& (2 : Int32)) = (0 : Int32) then ((p2 &&& (3 : Int32)).toInt64) else ((p2 &&& (2147483647 : Int32)).toInt64)))]) := by
    by_cases q11 : (p4 &&& (2 : Int32)) = (0 : Int32)
    · skip
      have A13 := A10.go (f' := mkF m 23 #[.val (.int p1), .val (.int p2), .val (.int p3), .val (.int p4), .val (.int (1 : Int32)), .val (.long lo), .second, .unset, .unset, .unset, .unset, .unset, .unset, .unset, .unset, .unset, .unset, .unset, .unset, .unset, .unset, .unset, .unset, .unset, .unset, .unset] []) fun _ _ X _ k => XS.ifYes X.here hx rfl (pc0 := 12) (pc' := 23) rfl (hb hby dl1_12) rfl ((if0 _ _).trans (teq q11).1) (by decide) (by decide) k
      have A14 := A13.go (f' := mkF m 24 #[.val (.int p1), .val (.int p2), .val (.int p3), .val (.int p4), .val (.int (1 : Int32)), .val (.long lo), .second, .unset, .unset, .unset, .unset, .unset, .unset, .unset, .unset, .unset, .unset, .unset, .unset, .unset, .unset, .unset, .unset, .unset, .unset, .unset] [(.int p2)]) fun _ _ X _ k => XS.iloadN X.here hx rfl (hb hby dl1_23) rfl k
      have A15 := A14.go (f' := mkF m 25 #[.val (.int p1), .val (.int p2), .val (.int p3), .val (.int p4), .val (.int (1 : Int32)), .val (.long lo), .second, .unset, .unset, .unset, .unset, .unset, .unset, .unset, .unset, .unset, .unset, .unset, .unset, .unset, .unset, .unset, .unset, .unset, .unset, .unset] [(.int (3 : Int32)), (.int p2)]) fun _ _ X _ k => XS.iconst X.here hx rfl (hb hby dl1_24) k
      have A16 := A15.go (f' := mkF m 26 #[.val (.int p1), .val (.int p2), .val (.int p3), .val (.int p4), .val (.int (1 : Int32)), .val (.long lo), .second, .unset, .unset, .unset, .unset, .unset, .unset, .unset, .unset, .unset, .unset, .unset, .unset, .unset, .unset, .unset, .unset, .unset, .unset, .unset] [(.int (p2 &&& (3 : Int32)))]) fun _ _ X _ k => XS.iand X.here hx rfl (hb hby dl1_25) rfl k
      have A17 := A16.go (f' := mkF m 27 #[.val (.int p1), .val (.int p2), .val (.int p3), .val (.int p4), .val (.int (1 : Int32)), .val (.long lo), .second, .unset, .unset, .unset, .unset, .unset, .unset, .unset, .unset, .unset, .unset, .unset, .unset, .unset, .unset, .unset, .unset, .unset, .unset, .unset] [(.long ((p2 &&& (3 : Int32)).toInt64))]) fun _ _ X _ k => XS.i2l X.here hx rfl (hb hby dl1_26) rfl k
      simp only [if_pos q11]
      exact A17
    · skip
      have A18 := A10.go (f' := mkF m 15 #[.val (.int p1), .val (.int p2), .val (.int p3), .val (.int p4), .val (.int (1 : Int32)), .val (.long lo), .second, .unset, .unset, .unset, .unset, .unset, .unset, .unset, .unset, .unset, .unset, .unset, .unset, .unset, .unset, .unset, .unset, .unset, .unset, .unset] []) fun _ _ X _ k => XS.ifNo X.here hx rfl (hb hby dl1_12) rfl ((if0 _ _).trans (feq q11).1) k
      have A19 := A18.go (f' := mkF m 16 #[.val (.int p1), .val (.int p2), .val (.int p3), .val (.int p4), .val (.int (1 : Int32)), .val (.long lo), .second, .unset, .unset, .unset, .unset, .unset, .unset, .unset, .unset, .unset, .unset, .unset, .unset, .unset, .unset, .unset, .unset, .unset, .unset, .unset] [(.int p2)]) fun _ _ X _ k => XS.iloadN X.here hx rfl (hb hby dl1_15) rfl k
      have A20 : own_R p l e _ _ m _ below meth c S0 n0 h0 0 0 (mkF m 18 #[.val (.int p1), .val (.int p2), .val (.int p3), .val (.int p4), .val (.int (1 : Int32)), .val (.long lo), .second, .unset, .unset, .unset, .unset, .unset, .unset, .unset, .unset, .unset, .unset, .unset, .unset, .unset, .unset, .unset, .unset, .unset, .unset, .unset] [(.int (2147483647 : Int32)), (.int p2)]) := A19.ldcI hx hZ hown (hb hby dl1_16) (hw _ (List.mem_of_getElem? (i := 22) rfl))
      have A21 := A20.go (f' := mkF m 19 #[.val (.int p1), .val (.int p2), .val (.int p3), .val (.int p4), .val (.int (1 : Int32)), .val (.long lo), .second, .unset, .unset, .unset, .unset, .unset, .unset, .unset, .unset, .unset, .unset, .unset, .unset, .unset, .unset, .unset, .unset, .unset, .unset, .unset] [(.int (p2 &&& (2147483647 : Int32)))]) fun _ _ X _ k => XS.iand X.here hx rfl (hb hby dl1_18) rfl k
      have A22 := A21.go (f' := mkF m 20 #[.val (.int p1), .val (.int p2), .val (.int p3), .val (.int p4), .val (.int (1 : Int32)), .val (.long lo), .second, .unset, .unset, .unset, .unset, .unset, .unset, .unset, .unset, .unset, .unset, .unset, .unset, .unset, .unset, .unset, .unset, .unset, .unset, .unset] [(.long ((p2 &&& (2147483647 : Int32)).toInt64))]) fun _ _ X _ k => XS.i2l X.here hx rfl (hb hby dl1_19) rfl k
      have A23 := A22.go (f' := mkF m 27 #[.val (.int p1), .val (.int p2), .val (.int p3), .val (.int p4), .val (.int (1 : Int32)), .val (.long lo), .second, .unset, .unset, .unset, .unset, .unset, .unset, .unset, .unset, .unset, .unset, .unset, .unset, .unset, .unset, .unset, .unset, .unset, .unset, .unset] [(.long ((p2 &&& (2147483647 : Int32)).toInt64))]) fun _ _ X _ k => XS.goto X.here hx rfl (pc0 := 20) (pc' := 27) rfl (hb hby dl1_20) (by decide) (by decide) k
      simp only [if_neg q11]
      exact A23
  obtain ⟨dd, hdd⟩ : ∃ zq_, zq_ = (if (p4 &&& (2 : Int32)) = (0 : Int32) then ((p2 &&& (3 : Int32)).toInt64) else ((p2 &&& (2147483647 : Int32)).toInt64)) := ⟨_, rfl⟩
  rw [← hdd] at A12
  have A24 := A12.go (f' := mkF m 29 #[.val (.int p1), .val (.int p2), .val (.int p3), .val (.int p4), .val (.int (1 : Int32)), .val (.long lo), .second, .val (.long dd), .second, .unset, .unset, .unset, .unset, .unset, .unset, .unset, .unset, .unset, .unset, .unset, .unset, .unset, .unset, .unset, .unset, .unset] []) fun _ _ X _ k => XS.lstore X.here hx rfl (hb hby dl1_27) rfl (l' := #[.val (.int p1), .val (.int p2), .val (.int p3), .val (.int p4), .val (.int (1 : Int32)), .val (.long lo), .second, .val (.long dd), .second, .unset, .unset, .unset, .unset, .unset, .unset, .unset, .unset, .unset, .unset, .unset, .unset, .unset, .unset, .unset, .unset, .unset]) rfl k
  have A25 := A24.go (f' := mkF m 31 #[.val (.int p1), .val (.int p2), .val (.int p3), .val (.int p4), .val (.int (1 : Int32)), .val (.long lo), .second, .val (.long dd), .second, .unset, .unset, .unset, .unset, .unset, .unset, .unset, .unset, .unset, .unset, .unset, .unset, .unset, .unset, .unset, .unset, .unset] [(.long lo)]) fun _ _ X _ k => XS.lload X.here hx rfl (hb hby dl1_29) rfl k
  have A26 := A25.go (f' := mkF m 33 #[.val (.int p1), .val (.int p2), .val (.int p3), .val (.int p4), .val (.int (1 : Int32)), .val (.long lo), .second, .val (.long dd), .second, .unset, .unset, .unset, .unset, .unset, .unset, .unset, .unset, .unset, .unset, .unset, .unset, .unset, .unset, .unset, .unset, .unset] [(.long dd), (.long lo)]) fun _ _ X _ k => XS.lload X.here hx rfl (hb hby dl1_31) rfl k
  have A27 := A26.go (f' := mkF m 34 #[.val (.int p1), .val (.int p2), .val (.int p3), .val (.int p4), .val (.int (1 : Int32)), .val (.long lo), .second, .val (.long dd), .second, .unset, .unset, .unset, .unset, .unset, .unset, .unset, .unset, .unset, .unset, .unset, .unset, .unset, .unset, .unset, .unset, .unset] [(.long (lo + dd))]) fun _ _ X _ k => XS.ladd X.here hx rfl (hb hby dl1_33) rfl k
  obtain ⟨hi, hhi⟩ : ∃ zq_, zq_ = (lo + dd) := ⟨_, rfl⟩
  rw [← hhi] at A27
  have A28 := A27.go (f' := mkF m 36 #[.val (.int p1), .val (.int p2), .val (.int p3), .val (.int p4), .val (.int (1 : Int32)), .val (.long lo), .second, .val (.long dd), .second, .val (.long hi), .second, .unset, .unset, .unset, .unset, .unset, .unset, .unset, .unset, .unset, .unset, .unset, .unset, .unset, .unset, .unset] []) fun _ _ X _ k => XS.lstore X.here hx rfl (hb hby dl1_34) rfl (l' := #[.val (.int p1), .val (.int p2), .val (.int p3), .val (.int p4), .val (.int (1 : Int32)), .val (.long lo), .second, .val (.long dd), .second, .val (.long hi), .second, .unset, .unset, .unset, .unset, .unset, .unset, .unset, .unset, .unset, .unset, .unset, .unset, .unset, .unset, .unset]) rfl k
  have A29 : own_R p l e _ _ m _ below meth c S0 n0 h0 0 0 (mkF m 39 #[.val (.int p1), .val (.int p2), .val (.int p3), .val (.int p4), .val (.int (1 : Int32)), .val (.long lo), .second, .val (.long dd), .second, .val (.long hi), .second, .unset, .unset, .unset, .unset, .unset, .unset, .unset, .unset, .unset, .unset, .unset, .unset, .unset, .unset, .unset] [(.double (9094988921128908188 : UInt64))]) := A28.ldcD hx hZ hown (hb hby dl1_36) (hw _ (List.mem_of_getElem? (i := 0) rfl))
  have A30 := A29.go (f' := mkF m 41 #[.val (.int p1), .val (.int p2), .val (.int p3), .val (.int p4), .val (.int (1 : Int32)), .val (.long lo), .second, .val (.long dd), .second, .val (.long hi), .second, .val (.double (9094988921128908188 : UInt64)), .second, .unset, .unset, .unset, .unset, .unset, .unset, .unset, .unset, .unset, .unset, .unset, .unset, .unset] []) fun _ _ X _ k => XS.dstore X.here hx rfl (hb hby dl1_39) rfl (l' := #[.val (.int p1), .val (.int p2), .val (.int p3), .val (.int p4), .val (.int (1 : Int32)), .val (.long lo), .second, .val (.long dd), .second, .val (.long hi), .second, .val (.double (9094988921128908188 : UInt64)), .second, .unset, .unset, .unset, .unset, .unset, .unset, .unset, .unset, .unset, .unset, .unset, .unset, .unset]) rfl k
  have A31 := A30.go (f' := mkF m 43 #[.val (.int p1), .val (.int p2), .val (.int p3), .val (.int p4), .val (.int (1 : Int32)), .val (.long lo), .second, .val (.long dd), .second, .val (.long hi), .second, .val (.double (9094988921128908188 : UInt64)), .second, .unset, .unset, .unset, .unset, .unset, .unset, .unset, .unset, .unset, .unset, .unset, .unset, .unset] [(.double (9094988921128908188 : UInt64))]) fun _ _ X _ k => XS.dload X.here hx rfl (hb hby dl1_41) rfl k
  have A32 := A31.go (f' := mkF m 45 #[.val (.int p1), .val (.int p2), .val (.int p3), .val (.int p4), .val (.int (1 : Int32)), .val (.long lo), .second, .val (.long dd), .second, .val (.long hi), .second, .val (.double (9094988921128908188 : UInt64)), .second, .unset, .unset, .unset, .unset, .unset, .unset, .unset, .unset, .unset, .unset, .unset, .unset, .unset] [(.double (9094988921128908188 : UInt64)), (.double (9094988921128908188 : UInt64))]) fun _ _ X _ k => XS.dload X.here hx rfl (hb hby dl1_43) rfl k
  have A33 := A32.go (f' := mkF m 46 #[.val (.int p1), .val (.int p2), .val (.int p3), .val (.int p4), .val (.int (1 : Int32)), .val (.long lo), .second, .val (.long dd), .second, .val (.long hi), .second, .val (.double (9094988921128908188 : UInt64)), .second, .unset, .unset, .unset, .unset, .unset, .unset, .unset, .unset, .unset, .unset, .unset, .unset, .unset] [(.double (FP.dmul (9094988921128908188 : UInt64) (9094988921128908188 : UInt64)))]) fun _ _ X _ k => XS.dmulS X.here hx rfl (hb hby dl1_45) rfl own_inf_nn rfl k
  rw [own_inf] at A33
  have A34 := A33.go (f' := mkF m 48 #[.val (.int p1), .val (.int p2), .val (.int p3), .val (.int p4), .val (.int (1 : Int32)), .val (.long lo), .second, .val (.long dd), .second, .val (.long hi), .second, .val (.double (9094988921128908188 : UInt64)), .second, .val (.double (9218868437227405312 : UInt64)), .second, .unset, .unset, .unset, .unset, .unset, .unset, .unset, .unset, .unset, .unset, .unset] []) fun _ _ X _ k => XS.dstore X.here hx rfl (hb hby dl1_46) rfl (l' := #[.val (.int p1), .val (.int p2), .val (.int p3), .val (.int p4), .val (.int (1 : Int32)), .val (.long lo), .second, .val (.long dd), .second, .val (.long hi), .second, .val (.double (9094988921128908188 : UInt64)), .second, .val (.double (9218868437227405312 : UInt64)), .second, .unset, .unset, .unset, .unset, .unset, .unset, .unset, .unset, .unset, .unset, .unset]) rfl k
  have A35 := A34.go (f' := mkF m 49 #[.val (.int p1), .val (.int p2), .val (.int p3), .val (.int p4), .val (.int (1 : Int32)), .val (.long lo), .second, .val (.long dd), .second, .val (.long hi), .second, .val (.double (9094988921128908188 : UInt64)), .second, .val (.double (9218868437227405312 : UInt64)), .second, .unset, .unset, .unset, .unset, .unset, .unset, .unset, .unset, .unset, .unset, .unset] [(.int p4)]) fun _ _ X _ k => XS.iloadN X.here hx rfl (hb hby dl1_48) rfl k
  have A36 := A35.go (f' := mkF m 50 #[.val (.int p1), .val (.int p2), .val (.int p3), .val (.int p4), .val (.int (1 : Int32)), .val (.long lo), .second, .val (.long dd), .second, .val (.long hi), .second, .val (.double (9094988921128908188 : UInt64)), .second, .val (.double (9218868437227405312 : UInt64)), .second, .unset, .unset, .unset, .unset, .unset, .unset, .unset, .unset, .unset, .unset, .unset] [(.int (1 : Int32)), (.int p4)]) fun _ _ X _ k => XS.iconst X.here hx rfl (hb hby dl1_49) k
  have A37 := A36.go (f' := mkF m 51 #[.val (.int p1), .val (.int p2), .val (.int p3), .val (.int p4), .val (.int (1 : Int32)), .val (.long lo), .second, .val (.long dd), .second, .val (.long hi), .second, .val (.double (9094988921128908188 : UInt64)), .second, .val (.double (9218868437227405312 : UInt64)), .second, .unset, .unset, .unset, .unset, .unset, .unset, .unset, .unset, .unset, .unset, .unset] [(.int (p4 &&& (1 : Int32)))]) fun _ _ X _ k => XS.iand X.here hx rfl (hb hby dl1_50) rfl k
  by_cases q38 : (p4 &&& (1 : Int32)) = (0 : Int32)
  · skip
    have A39 := A37.go (f' := mkF m 85 #[.val (.int p1), .val (.int p2), .val (.int p3), .val (.int p4), .val (.int (1 : Int32)), .val (.long lo), .second, .val (.long dd), .second, .val (.long hi), .second, .val (.double (9094988921128908188 : UInt64)), .second, .val (.double (9218868437227405312 : UInt64)), .second, .unset, .unset, .unset, .unset, .unset, .unset, .unset, .unset, .unset, .unset, .unset] []) fun _ _ X _ k => XS.ifYes X.here hx rfl (pc0 := 51) (pc' := 85) rfl (hb hby dl1_51) rfl ((if0 _ _).trans (teq q38).1) (by decide) (by decide) k
    have A40 := A39.go (f' := mkF m 87 #[.val (.int p1), .val (.int p2), .val (.int p3), .val (.int p4), .val (.int (1 : Int32)), .val (.long lo), .second, .val (.long dd), .second, .val (.long hi), .second, .val (.double (9094988921128908188 : UInt64)), .second, .val (.double (9218868437227405312 : UInt64)), .second, .unset, .unset, .unset, .unset, .unset, .unset, .unset, .unset, .unset, .unset, .unset] [(.long lo)]) fun _ _ X _ k => XS.lload X.here hx rfl (hb hby dl1_85) rfl k
    have A41 := A40.go (f' := mkF m 88 #[.val (.int p1), .val (.int p2), .val (.int p3), .val (.int p4), .val (.int (1 : Int32)), .val (.long lo), .second, .val (.long dd), .second, .val (.long hi), .second, .val (.double (9094988921128908188 : UInt64)), .second, .val (.double (9218868437227405312 : UInt64)), .second, .unset, .unset, .unset, .unset, .unset, .unset, .unset, .unset, .unset, .unset, .unset] [(.double (FP.l2d lo))]) fun _ _ X _ k => XS.l2dS X.here hx rfl (hb hby dl1_87) rfl rfl k
    have A42 := A41.go (f' := mkF m 90 #[.val (.int p1), .val (.int p2), .val (.int p3), .val (.int p4), .val (.int (1 : Int32)), .val (.long lo), .second, .val (.long dd), .second, .val (.long hi), .second, .val (.double (9094988921128908188 : UInt64)), .second, .val (.double (9218868437227405312 : UInt64)), .second, .val (.double (FP.l2d lo)), .second, .unset, .unset, .unset, .unset, .unset, .unset, .unset, .unset, .unset] []) fun _ _ X _ k => XS.dstore X.here hx rfl (hb hby dl1_88) rfl (l' := #[.val (.int p1), .val (.int p2), .val (.int p3), .val (.int p4), .val (.int (1 : Int32)), .val (.long lo), .second, .val (.long dd), .second, .val (.long hi), .second, .val (.double (9094988921128908188 : UInt64)), .second, .val (.double (9218868437227405312 : UInt64)), .second, .val (.double (FP.l2d lo)), .second, .unset, .unset, .unset, .unset, .unset, .unset, .unset, .unset, .unset]) rfl k
    have A43 := A42.go (f' := mkF m 92 #[.val (.int p1), .val (.int p2), .val (.int p3), .val (.int p4), .val (.int (1 : Int32)), .val (.long lo), .second, .val (.long dd), .second, .val (.long hi), .second, .val (.double (9094988921128908188 : UInt64)), .second, .val (.double (9218868437227405312 : UInt64)), .second, .val (.double (FP.l2d lo)), .second, .unset, .unset, .unset, .unset, .unset, .unset, .unset, .unset, .unset] [(.long hi)]) fun _ _ X _ k => XS.lload X.here hx rfl (hb hby dl1_90) rfl k
    have A44 := A43.go (f' := mkF m 93 #[.val (.int p1), .val (.int p2), .val (.int p3), .val (.int p4), .val (.int (1 : Int32)), .val (.long lo), .second, .val (.long dd), .second, .val (.long hi), .second, .val (.double (9094988921128908188 : UInt64)), .second, .val (.double (9218868437227405312 : UInt64)), .second, .val (.double (FP.l2d lo)), .second, .unset, .unset, .unset, .unset, .unset, .unset, .unset, .unset, .unset] [(.double (FP.l2d hi))]) fun _ _ X _ k => XS.l2dS X.here hx rfl (hb hby dl1_92) rfl rfl k
    have A45 := A44.go (f' := mkF m 95 #[.val (.int p1), .val (.int p2), .val (.int p3), .val (.int p4), .val (.int (1 : Int32)), .val (.long lo), .second, .val (.long dd), .second, .val (.long hi), .second, .val (.double (9094988921128908188 : UInt64)), .second, .val (.double (9218868437227405312 : UInt64)), .second, .val (.double (FP.l2d lo)), .second, .val (.double (FP.l2d hi)), .second, .unset, .unset, .unset, .unset, .unset, .unset, .unset] []) fun _ _ X _ k => XS.dstore X.here hx rfl (hb hby dl1_93) rfl (l' := #[.val (.int p1), .val (.int p2), .val (.int p3), .val (.int p4), .val (.int (1 : Int32)), .val (.long lo), .second, .val (.long dd), .second, .val (.long hi), .second, .val (.double (9094988921128908188 : UInt64)), .second, .val (.double (9218868437227405312 : UInt64)), .second, .val (.double (FP.l2d lo)), .second, .val (.double (FP.l2d hi)), .second, .unset, .unset, .unset, .unset, .unset, .unset, .unset]) rfl k
    have A46 := A45.go (f' := mkF m 97 #[.val (.int p1), .val (.int p2), .val (.int p3), .val (.int p4), .val (.int (1 : Int32)), .val (.long lo), .second, .val (.long dd), .second, .val (.long hi), .second, .val (.double (9094988921128908188 : UInt64)), .second, .val (.double (9218868437227405312 : UInt64)), .second, .val (.double (FP.l2d lo)), .second, .val (.double (FP.l2d hi)), .second, .unset, .unset, .unset, .unset, .unset, .unset, .unset] [(.long lo)]) fun _ _ X _ k => XS.lload X.here hx rfl (hb hby dl1_95) rfl k
    have A47 := A46.go (f' := mkF m 99 #[.val (.int p1), .val (.int p2), .val (.int p3), .val (.int p4), .val (.int (1 : Int32)), .val (.long lo), .second, .val (.long dd), .second, .val (.long hi), .second, .val (.double (9094988921128908188 : UInt64)), .second, .val (.double (9218868437227405312 : UInt64)), .second, .val (.double (FP.l2d lo)), .second, .val (.double (FP.l2d hi)), .second, .unset, .unset, .unset, .unset, .unset, .unset, .unset] [(.long hi), (.long lo)]) fun _ _ X _ k => XS.lload X.here hx rfl (hb hby dl1_97) rfl k
    have A48 := A47.go (f' := mkF m 100 #[.val (.int p1), .val (.int p2), .val (.int p3), .val (.int p4), .val (.int (1 : Int32)), .val (.long lo), .second, .val (.long dd), .second, .val (.long hi), .second, .val (.double (9094988921128908188 : UInt64)), .second, .val (.double (9218868437227405312 : UInt64)), .second, .val (.double (FP.l2d lo)), .second, .val (.double (FP.l2d hi)), .second, .unset, .unset, .unset, .unset, .unset, .unset, .unset] [(.long (lo + hi))]) fun _ _ X _ k => XS.ladd X.here hx rfl (hb hby dl1_99) rfl k
    have A49 := A48.go (f' := mkF m 101 #[.val (.int p1), .val (.int p2), .val (.int p3), .val (.int p4), .val (.int (1 : Int32)), .val (.long lo), .second, .val (.long dd), .second, .val (.long hi), .second, .val (.double (9094988921128908188 : UInt64)), .second, .val (.double (9218868437227405312 : UInt64)), .second, .val (.double (FP.l2d lo)), .second, .val (.double (FP.l2d hi)), .second, .unset, .unset, .unset, .unset, .unset, .unset, .unset] [(.double (FP.l2d (lo + hi)))]) fun _ _ X _ k => XS.l2dS X.here hx rfl (hb hby dl1_100) rfl rfl k
    have A50 : own_R p l e _ _ m _ below meth c S0 n0 h0 0 0 (mkF m 104 #[.val (.int p1), .val (.int p2), .val (.int p3), .val (.int p4), .val (.int (1 : Int32)), .val (.long lo), .second, .val (.long dd), .second, .val (.long hi), .second, .val (.double (9094988921128908188 : UInt64)), .second, .val (.double (9218868437227405312 : UInt64)), .second, .val (.double (FP.l2d lo)), .second, .val (.double (FP.l2d hi)), .second, .unset, .unset, .unset, .unset, .unset, .unset, .unset] [(.double (4602678819172646912 : UInt64)), (.double (FP.l2d (lo + hi)))]) := A49.ldcD hx hZ hown (hb hby dl1_101) (hw _ (List.mem_of_getElem? (i := 23) rfl))
    have A51 := A50.go (f' := mkF m 105 #[.val (.int p1), .val (.int p2), .val (.int p3), .val (.int p4), .val (.int (1 : Int32)), .val (.long lo), .second, .val (.long dd), .second, .val (.long hi), .second, .val (.double (9094988921128908188 : UInt64)), .second, .val (.double (9218868437227405312 : UInt64)), .second, .val (.double (FP.l2d lo)), .second, .val (.double (FP.l2d hi)), .second, .unset, .unset, .unset, .unset, .unset, .unset, .unset] [(.double (FP.dmul (FP.l2d (lo + hi)) (4602678819172646912 : UInt64)))]) fun _ _ X _ k => XS.dmulS X.here hx rfl (hb hby dl1_104) rfl (own_mul_nn (lo + hi)) rfl k
    have A52 := A51.go (f' := mkF m 107 #[.val (.int p1), .val (.int p2), .val (.int p3), .val (.int p4), .val (.int (1 : Int32)), .val (.long lo), .second, .val (.long dd), .second, .val (.long hi), .second, .val (.double (9094988921128908188 : UInt64)), .second, .val (.double (9218868437227405312 : UInt64)), .second, .val (.double (FP.l2d lo)), .second, .val (.double (FP.l2d hi)), .second, .val (.double (FP.dmul (FP.l2d (lo + hi)) (4602678819172646912 : UInt64))), .second, .unset, .unset, .unset, .unset, .unset] []) fun _ _ X _ k => XS.dstore X.here hx rfl (hb hby dl1_105) rfl (l' := #[.val (.int p1), .val (.int p2), .val (.int p3), .val (.int p4), .val (.int (1 : Int32)), .val (.long lo), .second, .val (.long dd), .second, .val (.long hi), .second, .val (.double (9094988921128908188 : UInt64)), .second, .val (.double (9218868437227405312 : UInt64)), .second, .val (.double (FP.l2d lo)), .second, .val (.double (FP.l2d hi)), .second, .val (.double (FP.dmul (FP.l2d (lo + hi)) (4602678819172646912 : UInt64))), .second, .unset, .unset, .unset, .unset, .unset]) rfl k
    have A53 := A52.go (f' := mkF m 108 #[.val (.int p1), .val (.int p2), .val (.int p3), .val (.int p4), .val (.int (1 : Int32)), .val (.long lo), .second, .val (.long dd), .second, .val (.long hi), .second, .val (.double (9094988921128908188 : UInt64)), .second, .val (.double (9218868437227405312 : UInt64)), .second, .val (.double (FP.l2d lo)), .second, .val (.double (FP.l2d hi)), .second, .val (.double (FP.dmul (FP.l2d (lo + hi)) (4602678819172646912 : UInt64))), .second, .unset, .unset, .unset, .unset, .unset] [(.int (2 : Int32))]) fun _ _ X _ k => XS.iconst X.here hx rfl (hb hby dl1_107) k
    obtain ⟨h54, E55, V_xl, A56⟩ := A53.newP hx hZ (hb hby dl1_108) (hw _ (List.mem_of_getElem? (i := 1) rfl)) (by decide) (cap := 2) (by decide) (by decide) (by decide) (by decide)
    obtain ⟨xl, gxl⟩ : ∃ z, z = h0.size := ⟨_, rfl⟩
    rw [← gxl] at V_xl A56
    have g_xl : n0 ≤ xl := by rw [gxl]; exact Z0
    have Z0 : n0 ≤ h54.size := Nat.le_trans Z0 E55.1
    have V_xl : own_Ar Z h54 xl .double [(.double 0), (.double 0)] := V_xl
    have A57 : own_R p l e _ _ m _ below meth c S0 n0 h54 1 2 (mkF m 110 #[.val (.int p1), .val (.int p2), .val (.int p3), .val (.int p4), .val (.int (1 : Int32)), .val (.long lo), .second, .val (.long dd), .second, .val (.long hi), .second, .val (.double (9094988921128908188 : UInt64)), .second, .val (.double (9218868437227405312 : UInt64)), .second, .val (.double (FP.l2d lo)), .second, .val (.double (FP.l2d hi)), .second, .val (.double (FP.dmul (FP.l2d (lo + hi)) (4602678819172646912 : UInt64))), .second, .unset, .unset, .unset, .unset, .unset] [(.ref xl)]) := A56
    have A58 := A57.go (f' := mkF m 112 #[.val (.int p1), .val (.int p2), .val (.int p3), .val (.int p4), .val (.int (1 : Int32)), .val (.long lo), .second, .val (.long dd), .second, .val (.long hi), .second, .val (.double (9094988921128908188 : UInt64)), .second, .val (.double (9218868437227405312 : UInt64)), .second, .val (.double (FP.l2d lo)), .second, .val (.double (FP.l2d hi)), .second, .val (.double (FP.dmul (FP.l2d (lo + hi)) (4602678819172646912 : UInt64))), .second, .val (.ref xl), .unset, .unset, .unset, .unset] []) fun _ _ X _ k => XS.astore X.here hx rfl (hb hby dl1_110) rfl rfl (l' := #[.val (.int p1), .val (.int p2), .val (.int p3), .val (.int p4), .val (.int (1 : Int32)), .val (.long lo), .second, .val (.long dd), .second, .val (.long hi), .second, .val (.double (9094988921128908188 : UInt64)), .second, .val (.double (9218868437227405312 : UInt64)), .second, .val (.double (FP.l2d lo)), .second, .val (.double (FP.l2d hi)), .second, .val (.double (FP.dmul (FP.l2d (lo + hi)) (4602678819172646912 : UInt64))), .second, .val (.ref xl), .unset, .unset, .unset, .unset]) rfl k
    have A59 := A58.go (f' := mkF m 113 #[.val (.int p1), .val (.int p2), .val (.int p3), .val (.int p4), .val (.int (1 : Int32)), .val (.long lo), .second, .val (.long dd), .second, .val (.long hi), .second, .val (.double (9094988921128908188 : UInt64)), .second, .val (.double (9218868437227405312 : UInt64)), .second, .val (.double (FP.l2d lo)), .second, .val (.double (FP.l2d hi)), .second, .val (.double (FP.dmul (FP.l2d (lo + hi)) (4602678819172646912 : UInt64))), .second, .val (.ref xl), .unset, .unset, .unset, .unset] [(.int (2 : Int32))]) fun _ _ X _ k => XS.iconst X.here hx rfl (hb hby dl1_112) k
    obtain ⟨h60, E61, V_xu, A62⟩ := A59.newP hx hZ (hb hby dl1_113) (hw _ (List.mem_of_getElem? (i := 1) rfl)) (by decide) (cap := 2) (by decide) (by decide) (by decide) (by decide)
    obtain ⟨xu, gxu⟩ : ∃ z, z = h54.size := ⟨_, rfl⟩
    rw [← gxu] at V_xu A62
    have ne_xl_xu : xl ≠ xu := by rw [gxu]; exact Nat.ne_of_lt V_xl.lt
    have ne_xu_xl := Ne.symm ne_xl_xu
    have g_xu : n0 ≤ xu := by rw [gxu]; exact Z0
    have V_xl : own_Ar Z h60 xl .double [(.double 0), (.double 0)] := V_xl.ext E61
    have Z0 : n0 ≤ h60.size := Nat.le_trans Z0 E61.1
    have V_xu : own_Ar Z h60 xu .double [(.double 0), (.double 0)] := V_xu
    have A63 : own_R p l e _ _ m _ below meth c S0 n0 h60 2 4 (mkF m 115 #[.val (.int p1), .val (.int p2), .val (.int p3), .val (.int p4), .val (.int (1 : Int32)), .val (.long lo), .second, .val (.long dd), .second, .val (.long hi), .second, .val (.double (9094988921128908188 : UInt64)), .second, .val (.double (9218868437227405312 : UInt64)), .second, .val (.double (FP.l2d lo)), .second, .val (.double (FP.l2d hi)), .second, .val (.double (FP.dmul (FP.l2d (lo + hi)) (4602678819172646912 : UInt64))), .second, .val (.ref xl), .unset, .unset, .unset, .unset] [(.ref xu)]) := A62
    have A64 := A63.go (f' := mkF m 117 #[.val (.int p1), .val (.int p2), .val (.int p3), .val (.int p4), .val (.int (1 : Int32)), .val (.long lo), .second, .val (.long dd), .second, .val (.long hi), .second, .val (.double (9094988921128908188 : UInt64)), .second, .val (.double (9218868437227405312 : UInt64)), .second, .val (.double (FP.l2d lo)), .second, .val (.double (FP.l2d hi)), .second, .val (.double (FP.dmul (FP.l2d (lo + hi)) (4602678819172646912 : UInt64))), .second, .val (.ref xl), .val (.ref xu), .unset, .unset, .unset] []) fun _ _ X _ k => XS.astore X.here hx rfl (hb hby dl1_115) rfl rfl (l' := #[.val (.int p1), .val (.int p2), .val (.int p3), .val (.int p4), .val (.int (1 : Int32)), .val (.long lo), .second, .val (.long dd), .second, .val (.long hi), .second, .val (.double (9094988921128908188 : UInt64)), .second, .val (.double (9218868437227405312 : UInt64)), .second, .val (.double (FP.l2d lo)), .second, .val (.double (FP.l2d hi)), .second, .val (.double (FP.dmul (FP.l2d (lo + hi)) (4602678819172646912 : UInt64))), .second, .val (.ref xl), .val (.ref xu), .unset, .unset, .unset]) rfl k
    have A65 := A64.go (f' := mkF m 119 #[.val (.int p1), .val (.int p2), .val (.int p3), .val (.int p4), .val (.int (1 : Int32)), .val (.long lo), .second, .val (.long dd), .second, .val (.long hi), .second, .val (.double (9094988921128908188 : UInt64)), .second, .val (.double (9218868437227405312 : UInt64)), .second, .val (.double (FP.l2d lo)), .second, .val (.double (FP.l2d hi)), .second, .val (.double (FP.dmul (FP.l2d (lo + hi)) (4602678819172646912 : UInt64))), .second, .val (.ref xl), .val (.ref xu), .unset, .unset, .unset] [(.ref xl)]) fun _ _ X _ k => XS.aload X.here hx rfl (hb hby dl1_117) rfl rfl k
    have A66 := A65.go (f' := mkF m 121 #[.val (.int p1), .val (.int p2), .val (.int p3), .val (.int p4), .val (.int (1 : Int32)), .val (.long lo), .second, .val (.long dd), .second, .val (.long hi), .second, .val (.double (9094988921128908188 : UInt64)), .second, .val (.double (9218868437227405312 : UInt64)), .second, .val (.double (FP.l2d lo)), .second, .val (.double (FP.l2d hi)), .second, .val (.double (FP.dmul (FP.l2d (lo + hi)) (4602678819172646912 : UInt64))), .second, .val (.ref xl), .val (.ref xu), .unset, .unset, .unset] [(.int (1 : Int32)), (.ref xl)]) fun _ _ X _ k => XS.iload X.here hx rfl (hb hby dl1_119) rfl k
    have A67 := A66.go (f' := mkF m 123 #[.val (.int p1), .val (.int p2), .val (.int p3), .val (.int p4), .val (.int (1 : Int32)), .val (.long lo), .second, .val (.long dd), .second, .val (.long hi), .second, .val (.double (9094988921128908188 : UInt64)), .second, .val (.double (9218868437227405312 : UInt64)), .second, .val (.double (FP.l2d lo)), .second, .val (.double (FP.l2d hi)), .second, .val (.double (FP.dmul (FP.l2d (lo + hi)) (4602678819172646912 : UInt64))), .second, .val (.ref xl), .val (.ref xu), .unset, .unset, .unset] [(.double (FP.l2d lo)), (.int (1 : Int32)), (.ref xl)]) fun _ _ X _ k => XS.dload X.here hx rfl (hb hby dl1_121) rfl k
    obtain ⟨h68, W69, A70⟩ := A67.stD hx hZ (hb hby dl1_123) V_xl (by decide) (by simp +decide) g_xl
    have V_xl : own_Ar Z h68 xl .double [(.double 0), (.double (FP.l2d lo))] := V_xl.same W69
    have V_xu : own_Ar Z h68 xu .double [(.double 0), (.double 0)] := V_xu.other W69 ne_xu_xl
    have Z0 : n0 ≤ h68.size := by rw [W69.size]; exact Z0
    have A71 : own_R p l e _ _ m _ below meth c S0 n0 h68 2 4 (mkF m 124 #[.val (.int p1), .val (.int p2), .val (.int p3), .val (.int p4), .val (.int (1 : Int32)), .val (.long lo), .second, .val (.long dd), .second, .val (.long hi), .second, .val (.double (9094988921128908188 : UInt64)), .second, .val (.double (9218868437227405312 : UInt64)), .second, .val (.double (FP.l2d lo)), .second, .val (.double (FP.l2d hi)), .second, .val (.double (FP.dmul (FP.l2d (lo + hi)) (4602678819172646912 : UInt64))), .second, .val (.ref xl), .val (.ref xu), .unset, .unset, .unset] []) := A70
    have A72 := A71.go (f' := mkF m 126 #[.val (.int p1), .val (.int p2), .val (.int p3), .val (.int p4), .val (.int (1 : Int32)), .val (.long lo), .second, .val (.long dd), .second, .val (.long hi), .second, .val (.double (9094988921128908188 : UInt64)), .second, .val (.double (9218868437227405312 : UInt64)), .second, .val (.double (FP.l2d lo)), .second, .val (.double (FP.l2d hi)), .second, .val (.double (FP.dmul (FP.l2d (lo + hi)) (4602678819172646912 : UInt64))), .second, .val (.ref xl), .val (.ref xu), .unset, .unset, .unset] [(.ref xu)]) fun _ _ X _ k => XS.aload X.here hx rfl (hb hby dl1_124) rfl rfl k
    have A73 := A72.go (f' := mkF m 128 #[.val (.int p1), .val (.int p2), .val (.int p3), .val (.int p4), .val (.int (1 : Int32)), .val (.long lo), .second, .val (.long dd), .second, .val (.long hi), .second, .val (.double (9094988921128908188 : UInt64)), .second, .val (.double (9218868437227405312 : UInt64)), .second, .val (.double (FP.l2d lo)), .second, .val (.double (FP.l2d hi)), .second, .val (.double (FP.dmul (FP.l2d (lo + hi)) (4602678819172646912 : UInt64))), .second, .val (.ref xl), .val (.ref xu), .unset, .unset, .unset] [(.int (1 : Int32)), (.ref xu)]) fun _ _ X _ k => XS.iload X.here hx rfl (hb hby dl1_126) rfl k
    have A74 := A73.go (f' := mkF m 130 #[.val (.int p1), .val (.int p2), .val (.int p3), .val (.int p4), .val (.int (1 : Int32)), .val (.long lo), .second, .val (.long dd), .second, .val (.long hi), .second, .val (.double (9094988921128908188 : UInt64)), .second, .val (.double (9218868437227405312 : UInt64)), .second, .val (.double (FP.l2d lo)), .second, .val (.double (FP.l2d hi)), .second, .val (.double (FP.dmul (FP.l2d (lo + hi)) (4602678819172646912 : UInt64))), .second, .val (.ref xl), .val (.ref xu), .unset, .unset, .unset] [(.double (FP.l2d hi)), (.int (1 : Int32)), (.ref xu)]) fun _ _ X _ k => XS.dload X.here hx rfl (hb hby dl1_128) rfl k
    obtain ⟨h75, W76, A77⟩ := A74.stD hx hZ (hb hby dl1_130) V_xu (by decide) (by simp +decide) g_xu
    have V_xl : own_Ar Z h75 xl .double [(.double 0), (.double (FP.l2d lo))] := V_xl.other W76 ne_xl_xu
    have V_xu : own_Ar Z h75 xu .double [(.double 0), (.double (FP.l2d hi))] := V_xu.same W76
    have Z0 : n0 ≤ h75.size := by rw [W76.size]; exact Z0
    have A78 : own_R p l e _ _ m _ below meth c S0 n0 h75 2 4 (mkF m 131 #[.val (.int p1), .val (.int p2), .val (.int p3), .val (.int p4), .val (.int (1 : Int32)), .val (.long lo), .second, .val (.long dd), .second, .val (.long hi), .second, .val (.double (9094988921128908188 : UInt64)), .second, .val (.double (9218868437227405312 : UInt64)), .second, .val (.double (FP.l2d lo)), .second, .val (.double (FP.l2d hi)), .second, .val (.double (FP.dmul (FP.l2d (lo + hi)) (4602678819172646912 : UInt64))), .second, .val (.ref xl), .val (.ref xu), .unset, .unset, .unset] []) := A77
    have A79 := A78.go (f' := mkF m 133 #[.val (.int p1), .val (.int p2), .val (.int p3), .val (.int p4), .val (.int (1 : Int32)), .val (.long lo), .second, .val (.long dd), .second, .val (.long hi), .second, .val (.double (9094988921128908188 : UInt64)), .second, .val (.double (9218868437227405312 : UInt64)), .second, .val (.double (FP.l2d lo)), .second, .val (.double (FP.l2d hi)), .second, .val (.double (FP.dmul (FP.l2d (lo + hi)) (4602678819172646912 : UInt64))), .second, .val (.ref xl), .val (.ref xu), .unset, .unset, .unset] [(.ref xl)]) fun _ _ X _ k => XS.aload X.here hx rfl (hb hby dl1_131) rfl rfl k
    have A80 := A79.go (f' := mkF m 134 #[.val (.int p1), .val (.int p2), .val (.int p3), .val (.int p4), .val (.int (1 : Int32)), .val (.long lo), .second, .val (.long dd), .second, .val (.long hi), .second, .val (.double (9094988921128908188 : UInt64)), .second, .val (.double (9218868437227405312 : UInt64)), .second, .val (.double (FP.l2d lo)), .second, .val (.double (FP.l2d hi)), .second, .val (.double (FP.dmul (FP.l2d (lo + hi)) (4602678819172646912 : UInt64))), .second, .val (.ref xl), .val (.ref xu), .unset, .unset, .unset] [(.int (1 : Int32)), (.ref xl)]) fun _ _ X _ k => XS.iconst X.here hx rfl (hb hby dl1_133) k
    have A81 := A80.go (f' := mkF m 136 #[.val (.int p1), .val (.int p2), .val (.int p3), .val (.int p4), .val (.int (1 : Int32)), .val (.long lo), .second, .val (.long dd), .second, .val (.long hi), .second, .val (.double (9094988921128908188 : UInt64)), .second, .val (.double (9218868437227405312 : UInt64)), .second, .val (.double (FP.l2d lo)), .second, .val (.double (FP.l2d hi)), .second, .val (.double (FP.dmul (FP.l2d (lo + hi)) (4602678819172646912 : UInt64))), .second, .val (.ref xl), .val (.ref xu), .unset, .unset, .unset] [(.int (1 : Int32)), (.int (1 : Int32)), (.ref xl)]) fun _ _ X _ k => XS.iload X.here hx rfl (hb hby dl1_134) rfl k
    have A82 := A81.go (f' := mkF m 137 #[.val (.int p1), .val (.int p2), .val (.int p3), .val (.int p4), .val (.int (1 : Int32)), .val (.long lo), .second, .val (.long dd), .second, .val (.long hi), .second, .val (.double (9094988921128908188 : UInt64)), .second, .val (.double (9218868437227405312 : UInt64)), .second, .val (.double (FP.l2d lo)), .second, .val (.double (FP.l2d hi)), .second, .val (.double (FP.dmul (FP.l2d (lo + hi)) (4602678819172646912 : UInt64))), .second, .val (.ref xl), .val (.ref xu), .unset, .unset, .unset] [(.int ((1 : Int32) - (1 : Int32))), (.ref xl)]) fun _ _ X _ k => XS.isub X.here hx rfl (hb hby dl1_136) rfl k
    rw [show (1 : Int32) - (1 : Int32) = (0 : Int32) from by decide] at A82
    have A83 := A82.go (f' := mkF m 139 #[.val (.int p1), .val (.int p2), .val (.int p3), .val (.int p4), .val (.int (1 : Int32)), .val (.long lo), .second, .val (.long dd), .second, .val (.long hi), .second, .val (.double (9094988921128908188 : UInt64)), .second, .val (.double (9218868437227405312 : UInt64)), .second, .val (.double (FP.l2d lo)), .second, .val (.double (FP.l2d hi)), .second, .val (.double (FP.dmul (FP.l2d (lo + hi)) (4602678819172646912 : UInt64))), .second, .val (.ref xl), .val (.ref xu), .unset, .unset, .unset] [(.long lo), (.int (0 : Int32)), (.ref xl)]) fun _ _ X _ k => XS.lload X.here hx rfl (hb hby dl1_137) rfl k
    have A84 : own_R p l e _ _ m _ below meth c S0 n0 h75 2 4 (mkF m 142 #[.val (.int p1), .val (.int p2), .val (.int p3), .val (.int p4), .val (.int (1 : Int32)), .val (.long lo), .second, .val (.long dd), .second, .val (.long hi), .second, .val (.double (9094988921128908188 : UInt64)), .second, .val (.double (9218868437227405312 : UInt64)), .second, .val (.double (FP.l2d lo)), .second, .val (.double (FP.l2d hi)), .second, .val (.double (FP.dmul (FP.l2d (lo + hi)) (4602678819172646912 : UInt64))), .second, .val (.ref xl), .val (.ref xu), .unset, .unset, .unset] [(.long (7 : Int64)), (.long lo), (.int (0 : Int32)), (.ref xl)]) := A83.ldcL hx hZ hown (hb hby dl1_139) (hw _ (List.mem_of_getElem? (i := 2) rfl))
    have A85 := A84.go (f' := mkF m 143 #[.val (.int p1), .val (.int p2), .val (.int p3), .val (.int p4), .val (.int (1 : Int32)), .val (.long lo), .second, .val (.long dd), .second, .val (.long hi), .second, .val (.double (9094988921128908188 : UInt64)), .second, .val (.double (9218868437227405312 : UInt64)), .second, .val (.double (FP.l2d lo)), .second, .val (.double (FP.l2d hi)), .second, .val (.double (FP.dmul (FP.l2d (lo + hi)) (4602678819172646912 : UInt64))), .second, .val (.ref xl), .val (.ref xu), .unset, .unset, .unset] [(.long (lo - (7 : Int64))), (.int (0 : Int32)), (.ref xl)]) fun _ _ X _ k => XS.lsub X.here hx rfl (hb hby dl1_142) rfl k
    have A86 := A85.go (f' := mkF m 144 #[.val (.int p1), .val (.int p2), .val (.int p3), .val (.int p4), .val (.int (1 : Int32)), .val (.long lo), .second, .val (.long dd), .second, .val (.long hi), .second, .val (.double (9094988921128908188 : UInt64)), .second, .val (.double (9218868437227405312 : UInt64)), .second, .val (.double (FP.l2d lo)), .second, .val (.double (FP.l2d hi)), .second, .val (.double (FP.dmul (FP.l2d (lo + hi)) (4602678819172646912 : UInt64))), .second, .val (.ref xl), .val (.ref xu), .unset, .unset, .unset] [(.double (FP.l2d (lo - (7 : Int64)))), (.int (0 : Int32)), (.ref xl)]) fun _ _ X _ k => XS.l2dS X.here hx rfl (hb hby dl1_143) rfl rfl k
    obtain ⟨h87, W88, A89⟩ := A86.stD hx hZ (hb hby dl1_144) V_xl (by decide) (by simp +decide) g_xl
    have V_xl : own_Ar Z h87 xl .double [(.double (FP.l2d (lo - (7 : Int64)))), (.double (FP.l2d lo))] := V_xl.same W88
    have V_xu : own_Ar Z h87 xu .double [(.double 0), (.double (FP.l2d hi))] := V_xu.other W88 ne_xu_xl
    have Z0 : n0 ≤ h87.size := by rw [W88.size]; exact Z0
    have A90 : own_R p l e _ _ m _ below meth c S0 n0 h87 2 4 (mkF m 145 #[.val (.int p1), .val (.int p2), .val (.int p3), .val (.int p4), .val (.int (1 : Int32)), .val (.long lo), .second, .val (.long dd), .second, .val (.long hi), .second, .val (.double (9094988921128908188 : UInt64)), .second, .val (.double (9218868437227405312 : UInt64)), .second, .val (.double (FP.l2d lo)), .second, .val (.double (FP.l2d hi)), .second, .val (.double (FP.dmul (FP.l2d (lo + hi)) (4602678819172646912 : UInt64))), .second, .val (.ref xl), .val (.ref xu), .unset, .unset, .unset] []) := A89
    have A91 := A90.go (f' := mkF m 147 #[.val (.int p1), .val (.int p2), .val (.int p3), .val (.int p4), .val (.int (1 : Int32)), .val (.long lo), .second, .val (.long dd), .second, .val (.long hi), .second, .val (.double (9094988921128908188 : UInt64)), .second, .val (.double (9218868437227405312 : UInt64)), .second, .val (.double (FP.l2d lo)), .second, .val (.double (FP.l2d hi)), .second, .val (.double (FP.dmul (FP.l2d (lo + hi)) (4602678819172646912 : UInt64))), .second, .val (.ref xl), .val (.ref xu), .unset, .unset, .unset] [(.ref xu)]) fun _ _ X _ k => XS.aload X.here hx rfl (hb hby dl1_145) rfl rfl k
    have A92 := A91.go (f' := mkF m 148 #[.val (.int p1), .val (.int p2), .val (.int p3), .val (.int p4), .val (.int (1 : Int32)), .val (.long lo), .second, .val (.long dd), .second, .val (.long hi), .second, .val (.double (9094988921128908188 : UInt64)), .second, .val (.double (9218868437227405312 : UInt64)), .second, .val (.double (FP.l2d lo)), .second, .val (.double (FP.l2d hi)), .second, .val (.double (FP.dmul (FP.l2d (lo + hi)) (4602678819172646912 : UInt64))), .second, .val (.ref xl), .val (.ref xu), .unset, .unset, .unset] [(.int (1 : Int32)), (.ref xu)]) fun _ _ X _ k => XS.iconst X.here hx rfl (hb hby dl1_147) k
    have A93 := A92.go (f' := mkF m 150 #[.val (.int p1), .val (.int p2), .val (.int p3), .val (.int p4), .val (.int (1 : Int32)), .val (.long lo), .second, .val (.long dd), .second, .val (.long hi), .second, .val (.double (9094988921128908188 : UInt64)), .second, .val (.double (9218868437227405312 : UInt64)), .second, .val (.double (FP.l2d lo)), .second, .val (.double (FP.l2d hi)), .second, .val (.double (FP.dmul (FP.l2d (lo + hi)) (4602678819172646912 : UInt64))), .second, .val (.ref xl), .val (.ref xu), .unset, .unset, .unset] [(.int (1 : Int32)), (.int (1 : Int32)), (.ref xu)]) fun _ _ X _ k => XS.iload X.here hx rfl (hb hby dl1_148) rfl k
    have A94 := A93.go (f' := mkF m 151 #[.val (.int p1), .val (.int p2), .val (.int p3), .val (.int p4), .val (.int (1 : Int32)), .val (.long lo), .second, .val (.long dd), .second, .val (.long hi), .second, .val (.double (9094988921128908188 : UInt64)), .second, .val (.double (9218868437227405312 : UInt64)), .second, .val (.double (FP.l2d lo)), .second, .val (.double (FP.l2d hi)), .second, .val (.double (FP.dmul (FP.l2d (lo + hi)) (4602678819172646912 : UInt64))), .second, .val (.ref xl), .val (.ref xu), .unset, .unset, .unset] [(.int ((1 : Int32) - (1 : Int32))), (.ref xu)]) fun _ _ X _ k => XS.isub X.here hx rfl (hb hby dl1_150) rfl k
    rw [show (1 : Int32) - (1 : Int32) = (0 : Int32) from by decide] at A94
    have A95 := A94.go (f' := mkF m 153 #[.val (.int p1), .val (.int p2), .val (.int p3), .val (.int p4), .val (.int (1 : Int32)), .val (.long lo), .second, .val (.long dd), .second, .val (.long hi), .second, .val (.double (9094988921128908188 : UInt64)), .second, .val (.double (9218868437227405312 : UInt64)), .second, .val (.double (FP.l2d lo)), .second, .val (.double (FP.l2d hi)), .second, .val (.double (FP.dmul (FP.l2d (lo + hi)) (4602678819172646912 : UInt64))), .second, .val (.ref xl), .val (.ref xu), .unset, .unset, .unset] [(.long hi), (.int (0 : Int32)), (.ref xu)]) fun _ _ X _ k => XS.lload X.here hx rfl (hb hby dl1_151) rfl k
    have A96 : own_R p l e _ _ m _ below meth c S0 n0 h87 2 4 (mkF m 156 #[.val (.int p1), .val (.int p2), .val (.int p3), .val (.int p4), .val (.int (1 : Int32)), .val (.long lo), .second, .val (.long dd), .second, .val (.long hi), .second, .val (.double (9094988921128908188 : UInt64)), .second, .val (.double (9218868437227405312 : UInt64)), .second, .val (.double (FP.l2d lo)), .second, .val (.double (FP.l2d hi)), .second, .val (.double (FP.dmul (FP.l2d (lo + hi)) (4602678819172646912 : UInt64))), .second, .val (.ref xl), .val (.ref xu), .unset, .unset, .unset] [(.long (100 : Int64)), (.long hi), (.int (0 : Int32)), (.ref xu)]) := A95.ldcL hx hZ hown (hb hby dl1_153) (hw _ (List.mem_of_getElem? (i := 3) rfl))
    have A97 := A96.go (f' := mkF m 157 #[.val (.int p1), .val (.int p2), .val (.int p3), .val (.int p4), .val (.int (1 : Int32)), .val (.long lo), .second, .val (.long dd), .second, .val (.long hi), .second, .val (.double (9094988921128908188 : UInt64)), .second, .val (.double (9218868437227405312 : UInt64)), .second, .val (.double (FP.l2d lo)), .second, .val (.double (FP.l2d hi)), .second, .val (.double (FP.dmul (FP.l2d (lo + hi)) (4602678819172646912 : UInt64))), .second, .val (.ref xl), .val (.ref xu), .unset, .unset, .unset] [(.long (hi + (100 : Int64))), (.int (0 : Int32)), (.ref xu)]) fun _ _ X _ k => XS.ladd X.here hx rfl (hb hby dl1_156) rfl k
    have A98 := A97.go (f' := mkF m 158 #[.val (.int p1), .val (.int p2), .val (.int p3), .val (.int p4), .val (.int (1 : Int32)), .val (.long lo), .second, .val (.long dd), .second, .val (.long hi), .second, .val (.double (9094988921128908188 : UInt64)), .second, .val (.double (9218868437227405312 : UInt64)), .second, .val (.double (FP.l2d lo)), .second, .val (.double (FP.l2d hi)), .second, .val (.double (FP.dmul (FP.l2d (lo + hi)) (4602678819172646912 : UInt64))), .second, .val (.ref xl), .val (.ref xu), .unset, .unset, .unset] [(.double (FP.l2d (hi + (100 : Int64)))), (.int (0 : Int32)), (.ref xu)]) fun _ _ X _ k => XS.l2dS X.here hx rfl (hb hby dl1_157) rfl rfl k
    obtain ⟨h99, W100, A101⟩ := A98.stD hx hZ (hb hby dl1_158) V_xu (by decide) (by simp +decide) g_xu
    have V_xl : own_Ar Z h99 xl .double [(.double (FP.l2d (lo - (7 : Int64)))), (.double (FP.l2d lo))] := V_xl.other W100 ne_xl_xu
    have V_xu : own_Ar Z h99 xu .double [(.double (FP.l2d (hi + (100 : Int64)))), (.double (FP.l2d hi))] := V_xu.same W100
    have Z0 : n0 ≤ h99.size := by rw [W100.size]; exact Z0
    have A102 : own_R p l e _ _ m _ below meth c S0 n0 h99 2 4 (mkF m 159 #[.val (.int p1), .val (.int p2), .val (.int p3), .val (.int p4), .val (.int (1 : Int32)), .val (.long lo), .second, .val (.long dd), .second, .val (.long hi), .second, .val (.double (9094988921128908188 : UInt64)), .second, .val (.double (9218868437227405312 : UInt64)), .second, .val (.double (FP.l2d lo)), .second, .val (.double (FP.l2d hi)), .second, .val (.double (FP.dmul (FP.l2d (lo + hi)) (4602678819172646912 : UInt64))), .second, .val (.ref xl), .val (.ref xu), .unset, .unset, .unset] []) := A101
    obtain ⟨h103, E104, E_xv, D_xv, A105⟩ := A102.newO hx hZ hown (hb hby dl1_159) (hw _ (List.mem_of_getElem? (i := 4) rfl)) (hw _ (List.mem_of_getElem? (i := 5) rfl)) (hw _ (List.mem_of_getElem? (i := 6) rfl)) (by decide) (by decide)
    obtain ⟨xv, gxv⟩ : ∃ z, z = h99.size := ⟨_, rfl⟩
    rw [← gxv] at E_xv D_xv A105
    have ne_xl_xv : xl ≠ xv := by rw [gxv]; exact Nat.ne_of_lt V_xl.lt
    have ne_xv_xl := Ne.symm ne_xl_xv
    have ne_xu_xv : xu ≠ xv := by rw [gxv]; exact Nat.ne_of_lt V_xu.lt
    have ne_xv_xu := Ne.symm ne_xu_xv
    have g_xv : n0 ≤ xv := by rw [gxv]; exact Z0
    have V_xl : own_Ar Z h103 xl .double [(.double (FP.l2d (lo - (7 : Int64)))), (.double (FP.l2d lo))] := V_xl.ext E104
    have V_xu : own_Ar Z h103 xu .double [(.double (FP.l2d (hi + (100 : Int64)))), (.double (FP.l2d hi))] := V_xu.ext E104
    have Z0 : n0 ≤ h103.size := Nat.le_trans Z0 E104.1
    have F_xv_lower : Fld Z h103 xv "com/example/robust_model_checker/robustmodelchecker/checker/ValueBounds" "lower" "[D" .null := D_xv (Or.inr (hw _ (List.mem_of_getElem? (i := 14) rfl))) (ty := (.array .double)) (by decide)
    have F_xv_upper : Fld Z h103 xv "com/example/robust_model_checker/robustmodelchecker/checker/ValueBounds" "upper" "[D" .null := D_xv (Or.inr (hw _ (List.mem_of_getElem? (i := 16) rfl))) (ty := (.array .double)) (by decide)
    have A106 : own_R p l e _ _ m _ below meth c S0 n0 h103 3 6 (mkF m 162 #[.val (.int p1), .val (.int p2), .val (.int p3), .val (.int p4), .val (.int (1 : Int32)), .val (.long lo), .second, .val (.long dd), .second, .val (.long hi), .second, .val (.double (9094988921128908188 : UInt64)), .second, .val (.double (9218868437227405312 : UInt64)), .second, .val (.double (FP.l2d lo)), .second, .val (.double (FP.l2d hi)), .second, .val (.double (FP.dmul (FP.l2d (lo + hi)) (4602678819172646912 : UInt64))), .second, .val (.ref xl), .val (.ref xu), .unset, .unset, .unset] [(.ref xv)]) := A105
    have A107 := A106.go (f' := mkF m 163 #[.val (.int p1), .val (.int p2), .val (.int p3), .val (.int p4), .val (.int (1 : Int32)), .val (.long lo), .second, .val (.long dd), .second, .val (.long hi), .second, .val (.double (9094988921128908188 : UInt64)), .second, .val (.double (9218868437227405312 : UInt64)), .second, .val (.double (FP.l2d lo)), .second, .val (.double (FP.l2d hi)), .second, .val (.double (FP.dmul (FP.l2d (lo + hi)) (4602678819172646912 : UInt64))), .second, .val (.ref xl), .val (.ref xu), .unset, .unset, .unset] [(.ref xv), (.ref xv)]) fun _ _ X _ k => XS.dup X.here hx rfl (hb hby dl1_162) rfl rfl k
    have A108 := A107.go (f' := mkF m 165 #[.val (.int p1), .val (.int p2), .val (.int p3), .val (.int p4), .val (.int (1 : Int32)), .val (.long lo), .second, .val (.long dd), .second, .val (.long hi), .second, .val (.double (9094988921128908188 : UInt64)), .second, .val (.double (9218868437227405312 : UInt64)), .second, .val (.double (FP.l2d lo)), .second, .val (.double (FP.l2d hi)), .second, .val (.double (FP.dmul (FP.l2d (lo + hi)) (4602678819172646912 : UInt64))), .second, .val (.ref xl), .val (.ref xu), .unset, .unset, .unset] [(.ref xl), (.ref xv), (.ref xv)]) fun _ _ X _ k => XS.aload X.here hx rfl (hb hby dl1_163) rfl rfl k
    have A109 := A108.go (f' := mkF m 167 #[.val (.int p1), .val (.int p2), .val (.int p3), .val (.int p4), .val (.int (1 : Int32)), .val (.long lo), .second, .val (.long dd), .second, .val (.long hi), .second, .val (.double (9094988921128908188 : UInt64)), .second, .val (.double (9218868437227405312 : UInt64)), .second, .val (.double (FP.l2d lo)), .second, .val (.double (FP.l2d hi)), .second, .val (.double (FP.dmul (FP.l2d (lo + hi)) (4602678819172646912 : UInt64))), .second, .val (.ref xl), .val (.ref xu), .unset, .unset, .unset] [(.ref xu), (.ref xl), (.ref xv), (.ref xv)]) fun _ _ X _ k => XS.aload X.here hx rfl (hb hby dl1_165) rfl rfl k
    obtain ⟨vA110, hA110, ⟨rfl, KI, F_l, F_u⟩, A110⟩ := A109.callI (b := xv) (own_init l Z a0 hw xv xl xu h103 n0 Z0 E_xv F_xv_lower F_xv_upper g_xv) hx hZ hown (hb hby dl1_167) rfl (hw _ (List.mem_of_getElem? (i := 7) rfl)) (hw _ (List.mem_of_getElem? (i := 8) rfl)) (hw _ (List.mem_of_getElem? (i := 9) rfl)) (hw _ (List.mem_of_getElem? (i := 6) rfl)) ⟨by decide, by decide⟩ (lenOf pd__28_5bD_5bD_29V rfl) (argsL := [(.ref xl), (.ref xu)]) (rest := [(.ref xv)]) rfl rfl (by rw [hml]; rfl) (W := 1) (Nat.le_of_eq rfl) (by decide) (by decide) (by decide) (by decide)
    have V_xl : own_Ar Z hA110 xl .double [(.double (FP.l2d (lo - (7 : Int64)))), (.double (FP.l2d lo))] := V_xl.keep KI (ninS ne_xl_xv nin0)
    have V_xu : own_Ar Z hA110 xu .double [(.double (FP.l2d (hi + (100 : Int64)))), (.double (FP.l2d hi))] := V_xu.keep KI (ninS ne_xu_xv nin0)
    have E_xv : Exa Z hA110 xv "com/example/robust_model_checker/robustmodelchecker/checker/ValueBounds" := E_xv.keep KI
    have Z0 : n0 ≤ hA110.size := Nat.le_trans Z0 KI.1
    have F_xv_lower := F_l
    have F_xv_upper := F_u
    have A111 : own_R p l e _ _ m _ below meth c S0 n0 hA110 3 6 (mkF m 170 #[.val (.int p1), .val (.int p2), .val (.int p3), .val (.int p4), .val (.int (1 : Int32)), .val (.long lo), .second, .val (.long dd), .second, .val (.long hi), .second, .val (.double (9094988921128908188 : UInt64)), .second, .val (.double (9218868437227405312 : UInt64)), .second, .val (.double (FP.l2d lo)), .second, .val (.double (FP.l2d hi)), .second, .val (.double (FP.dmul (FP.l2d (lo + hi)) (4602678819172646912 : UInt64))), .second, .val (.ref xl), .val (.ref xu), .unset, .unset, .unset] [(.ref xv)]) := A110
    have A112 := A111.go (f' := mkF m 172 #[.val (.int p1), .val (.int p2), .val (.int p3), .val (.int p4), .val (.int (1 : Int32)), .val (.long lo), .second, .val (.long dd), .second, .val (.long hi), .second, .val (.double (9094988921128908188 : UInt64)), .second, .val (.double (9218868437227405312 : UInt64)), .second, .val (.double (FP.l2d lo)), .second, .val (.double (FP.l2d hi)), .second, .val (.double (FP.dmul (FP.l2d (lo + hi)) (4602678819172646912 : UInt64))), .second, .val (.ref xl), .val (.ref xu), .val (.ref xv), .unset, .unset] []) fun _ _ X _ k => XS.astore X.here hx rfl (hb hby dl1_170) rfl rfl (l' := #[.val (.int p1), .val (.int p2), .val (.int p3), .val (.int p4), .val (.int (1 : Int32)), .val (.long lo), .second, .val (.long dd), .second, .val (.long hi), .second, .val (.double (9094988921128908188 : UInt64)), .second, .val (.double (9218868437227405312 : UInt64)), .second, .val (.double (FP.l2d lo)), .second, .val (.double (FP.l2d hi)), .second, .val (.double (FP.dmul (FP.l2d (lo + hi)) (4602678819172646912 : UInt64))), .second, .val (.ref xl), .val (.ref xu), .val (.ref xv), .unset, .unset]) rfl k
    have A113 := A112.go (f' := mkF m 174 #[.val (.int p1), .val (.int p2), .val (.int p3), .val (.int p4), .val (.int (1 : Int32)), .val (.long lo), .second, .val (.long dd), .second, .val (.long hi), .second, .val (.double (9094988921128908188 : UInt64)), .second, .val (.double (9218868437227405312 : UInt64)), .second, .val (.double (FP.l2d lo)), .second, .val (.double (FP.l2d hi)), .second, .val (.double (FP.dmul (FP.l2d (lo + hi)) (4602678819172646912 : UInt64))), .second, .val (.ref xl), .val (.ref xu), .val (.ref xv), .unset, .unset] [(.ref xv)]) fun _ _ X _ k => XS.aload X.here hx rfl (hb hby dl1_172) rfl rfl k
    have A114 := A113.go (f' := mkF m 176 #[.val (.int p1), .val (.int p2), .val (.int p3), .val (.int p4), .val (.int (1 : Int32)), .val (.long lo), .second, .val (.long dd), .second, .val (.long hi), .second, .val (.double (9094988921128908188 : UInt64)), .second, .val (.double (9218868437227405312 : UInt64)), .second, .val (.double (FP.l2d lo)), .second, .val (.double (FP.l2d hi)), .second, .val (.double (FP.dmul (FP.l2d (lo + hi)) (4602678819172646912 : UInt64))), .second, .val (.ref xl), .val (.ref xu), .val (.ref xv), .unset, .unset] [(.int (1 : Int32)), (.ref xv)]) fun _ _ X _ k => XS.iload X.here hx rfl (hb hby dl1_174) rfl k
    have hOB := own_bounds hlo hdd hhi
    by_cases hc0 : cmpValue (FP.dcmp (FP.l2d lo) (FP.l2d hi)) .l = (0 : Int32)
    · skip
      obtain ⟨vA115, hA115, ⟨rfl, rfl⟩, A115⟩ := A114.callV (b := xv) (own_value1Eq l Z a0 hw xv xl xu (1 : Int32) (FP.l2d (lo - (7 : Int64))) (FP.l2d lo) (FP.l2d (hi + (100 : Int64))) (FP.l2d hi) hA110 n0 Z0 F_xv_lower F_xv_upper V_xl V_xu rfl hc0) E_xv hx hZ hown (hb hby dl1_176) (hw _ (List.mem_of_getElem? (i := 17) rfl)) (hw _ (List.mem_of_getElem? (i := 18) rfl)) (hw _ (List.mem_of_getElem? (i := 20) rfl)) (hw _ (List.mem_of_getElem? (i := 19) rfl)) (hw _ (List.mem_of_getElem? (i := 21) rfl)) (hw _ (List.mem_of_getElem? (i := 6) rfl)) (fun _ q => notFace_of_selects (args := #[]) (mvT q (hw _ (List.mem_of_getElem? (i := 20) rfl)))) ⟨by decide, by decide⟩ (lenOf pd__28I_29D rfl) (argsL := [(.int (1 : Int32))]) (rest := []) rfl rfl (by rw [hml]; rfl) (W := 0) (Nat.le_of_eq rfl) (by decide) (by decide) (by decide) (by decide)
      have A116 : own_R p l e _ _ m _ below meth c S0 n0 hA110 3 6 (mkF m 179 #[.val (.int p1), .val (.int p2), .val (.int p3), .val (.int p4), .val (.int (1 : Int32)), .val (.long lo), .second, .val (.long dd), .second, .val (.long hi), .second, .val (.double (9094988921128908188 : UInt64)), .second, .val (.double (9218868437227405312 : UInt64)), .second, .val (.double (FP.l2d lo)), .second, .val (.double (FP.l2d hi)), .second, .val (.double (FP.dmul (FP.l2d (lo + hi)) (4602678819172646912 : UInt64))), .second, .val (.ref xl), .val (.ref xu), .val (.ref xv), .unset, .unset] [(.double (FP.l2d lo))]) := A115
      have A117 := A116.go (f' := mkF m 181 #[.val (.int p1), .val (.int p2), .val (.int p3), .val (.int p4), .val (.int (1 : Int32)), .val (.long lo), .second, .val (.long dd), .second, .val (.long hi), .second, .val (.double (9094988921128908188 : UInt64)), .second, .val (.double (9218868437227405312 : UInt64)), .second, .val (.double (FP.l2d lo)), .second, .val (.double (FP.l2d hi)), .second, .val (.double (FP.dmul (FP.l2d (lo + hi)) (4602678819172646912 : UInt64))), .second, .val (.ref xl), .val (.ref xu), .val (.ref xv), .val (.double (FP.l2d lo)), .second] []) fun _ _ X _ k => XS.dstore X.here hx rfl (hb hby dl1_179) rfl (l' := #[.val (.int p1), .val (.int p2), .val (.int p3), .val (.int p4), .val (.int (1 : Int32)), .val (.long lo), .second, .val (.long dd), .second, .val (.long hi), .second, .val (.double (9094988921128908188 : UInt64)), .second, .val (.double (9218868437227405312 : UInt64)), .second, .val (.double (FP.l2d lo)), .second, .val (.double (FP.l2d hi)), .second, .val (.double (FP.dmul (FP.l2d (lo + hi)) (4602678819172646912 : UInt64))), .second, .val (.ref xl), .val (.ref xu), .val (.ref xv), .val (.double (FP.l2d lo)), .second]) rfl k
      have A118 := A117.go (f' := mkF m 183 #[.val (.int p1), .val (.int p2), .val (.int p3), .val (.int p4), .val (.int (1 : Int32)), .val (.long lo), .second, .val (.long dd), .second, .val (.long hi), .second, .val (.double (9094988921128908188 : UInt64)), .second, .val (.double (9218868437227405312 : UInt64)), .second, .val (.double (FP.l2d lo)), .second, .val (.double (FP.l2d hi)), .second, .val (.double (FP.dmul (FP.l2d (lo + hi)) (4602678819172646912 : UInt64))), .second, .val (.ref xl), .val (.ref xu), .val (.ref xv), .val (.double (FP.l2d lo)), .second] [(.double (FP.l2d lo))]) fun _ _ X _ k => XS.dload X.here hx rfl (hb hby dl1_181) rfl k
      have A119 := A118.go (f' := mkF m 185 #[.val (.int p1), .val (.int p2), .val (.int p3), .val (.int p4), .val (.int (1 : Int32)), .val (.long lo), .second, .val (.long dd), .second, .val (.long hi), .second, .val (.double (9094988921128908188 : UInt64)), .second, .val (.double (9218868437227405312 : UInt64)), .second, .val (.double (FP.l2d lo)), .second, .val (.double (FP.l2d hi)), .second, .val (.double (FP.dmul (FP.l2d (lo + hi)) (4602678819172646912 : UInt64))), .second, .val (.ref xl), .val (.ref xu), .val (.ref xv), .val (.double (FP.l2d lo)), .second] [(.double (FP.dmul (FP.l2d (lo + hi)) (4602678819172646912 : UInt64))), (.double (FP.l2d lo))]) fun _ _ X _ k => XS.dload X.here hx rfl (hb hby dl1_183) rfl k
      have A120 := A119.go (f' := mkF m 186 #[.val (.int p1), .val (.int p2), .val (.int p3), .val (.int p4), .val (.int (1 : Int32)), .val (.long lo), .second, .val (.long dd), .second, .val (.long hi), .second, .val (.double (9094988921128908188 : UInt64)), .second, .val (.double (9218868437227405312 : UInt64)), .second, .val (.double (FP.l2d lo)), .second, .val (.double (FP.l2d hi)), .second, .val (.double (FP.dmul (FP.l2d (lo + hi)) (4602678819172646912 : UInt64))), .second, .val (.ref xl), .val (.ref xu), .val (.ref xv), .val (.double (FP.l2d lo)), .second] [(.int (cmpValue (FP.dcmp (FP.l2d lo) (FP.dmul (FP.l2d (lo + hi)) (4602678819172646912 : UInt64))) .l))]) fun _ _ X _ k => XS.dcmpS X.here hx rfl (hb hby dl1_185) rfl rfl k
      have q121 : ((cmpValue (FP.dcmp (FP.l2d lo) (FP.dmul (FP.l2d (lo + hi)) (4602678819172646912 : UInt64))) .l) = (0 : Int32)) := own_finEq hOB hc0
      have A122 := A120.go (f' := mkF m 189 #[.val (.int p1), .val (.int p2), .val (.int p3), .val (.int p4), .val (.int (1 : Int32)), .val (.long lo), .second, .val (.long dd), .second, .val (.long hi), .second, .val (.double (9094988921128908188 : UInt64)), .second, .val (.double (9218868437227405312 : UInt64)), .second, .val (.double (FP.l2d lo)), .second, .val (.double (FP.l2d hi)), .second, .val (.double (FP.dmul (FP.l2d (lo + hi)) (4602678819172646912 : UInt64))), .second, .val (.ref xl), .val (.ref xu), .val (.ref xv), .val (.double (FP.l2d lo)), .second] []) fun _ _ X _ k => XS.ifNo X.here hx rfl (hb hby dl1_186) rfl ((if0 _ _).trans (teq q121).2) k
      have A123 := A122.go (f' := mkF m 190 #[.val (.int p1), .val (.int p2), .val (.int p3), .val (.int p4), .val (.int (1 : Int32)), .val (.long lo), .second, .val (.long dd), .second, .val (.long hi), .second, .val (.double (9094988921128908188 : UInt64)), .second, .val (.double (9218868437227405312 : UInt64)), .second, .val (.double (FP.l2d lo)), .second, .val (.double (FP.l2d hi)), .second, .val (.double (FP.dmul (FP.l2d (lo + hi)) (4602678819172646912 : UInt64))), .second, .val (.ref xl), .val (.ref xu), .val (.ref xv), .val (.double (FP.l2d lo)), .second] [(.int (1 : Int32))]) fun _ _ X _ k => XS.iconst X.here hx rfl (hb hby dl1_189) k
      have A124 := A123.go (f' := mkF m 194 #[.val (.int p1), .val (.int p2), .val (.int p3), .val (.int p4), .val (.int (1 : Int32)), .val (.long lo), .second, .val (.long dd), .second, .val (.long hi), .second, .val (.double (9094988921128908188 : UInt64)), .second, .val (.double (9218868437227405312 : UInt64)), .second, .val (.double (FP.l2d lo)), .second, .val (.double (FP.l2d hi)), .second, .val (.double (FP.dmul (FP.l2d (lo + hi)) (4602678819172646912 : UInt64))), .second, .val (.ref xl), .val (.ref xu), .val (.ref xv), .val (.double (FP.l2d lo)), .second] [(.int (1 : Int32))]) fun _ _ X _ k => XS.goto X.here hx rfl (pc0 := 190) (pc' := 194) rfl (hb hby dl1_190) (by decide) (by decide) k
      exact A124.ret hx hlk hret (hb hby dl1_194) rfl (Or.inl ⟨rfl, by simp, _, rfl⟩) (by decide) (by decide) ⟨rfl, trivial⟩
    · skip
      have hnn := own_nn hOB
      obtain ⟨vA125, hA125, ⟨rfl, rfl⟩, A125⟩ := A114.callV (b := xv) (own_value1Ne l Z a0 hw xv xl xu (1 : Int32) (FP.l2d (lo - (7 : Int64))) (FP.l2d lo) (FP.l2d (hi + (100 : Int64))) (FP.l2d hi) hA110 n0 Z0 F_xv_lower F_xv_upper V_xl V_xu rfl hc0 hnn.1 hnn.2.1 hnn.2.2) E_xv hx hZ hown (hb hby dl1_176) (hw _ (List.mem_of_getElem? (i := 17) rfl)) (hw _ (List.mem_of_getElem? (i := 18) rfl)) (hw _ (List.mem_of_getElem? (i := 20) rfl)) (hw _ (List.mem_of_getElem? (i := 19) rfl)) (hw _ (List.mem_of_getElem? (i := 21) rfl)) (hw _ (List.mem_of_getElem? (i := 6) rfl)) (fun _ q => notFace_of_selects (args := #[]) (mvT q (hw _ (List.mem_of_getElem? (i := 20) rfl)))) ⟨by decide, by decide⟩ (lenOf pd__28I_29D rfl) (argsL := [(.int (1 : Int32))]) (rest := []) rfl rfl (by rw [hml]; rfl) (W := 0) (Nat.le_of_eq rfl) (by decide) (by decide) (by decide) (by decide)
      have A126 : own_R p l e _ _ m _ below meth c S0 n0 hA110 3 6 (mkF m 179 #[.val (.int p1), .val (.int p2), .val (.int p3), .val (.int p4), .val (.int (1 : Int32)), .val (.long lo), .second, .val (.long dd), .second, .val (.long hi), .second, .val (.double (9094988921128908188 : UInt64)), .second, .val (.double (9218868437227405312 : UInt64)), .second, .val (.double (FP.l2d lo)), .second, .val (.double (FP.l2d hi)), .second, .val (.double (FP.dmul (FP.l2d (lo + hi)) (4602678819172646912 : UInt64))), .second, .val (.ref xl), .val (.ref xu), .val (.ref xv), .unset, .unset] [(.double (FP.dadd (FP.l2d lo) (FP.ddiv (FP.dsub (FP.l2d hi) (FP.l2d lo)) (4611686018427387904 : UInt64))))]) := A125
      have A127 := A126.go (f' := mkF m 181 #[.val (.int p1), .val (.int p2), .val (.int p3), .val (.int p4), .val (.int (1 : Int32)), .val (.long lo), .second, .val (.long dd), .second, .val (.long hi), .second, .val (.double (9094988921128908188 : UInt64)), .second, .val (.double (9218868437227405312 : UInt64)), .second, .val (.double (FP.l2d lo)), .second, .val (.double (FP.l2d hi)), .second, .val (.double (FP.dmul (FP.l2d (lo + hi)) (4602678819172646912 : UInt64))), .second, .val (.ref xl), .val (.ref xu), .val (.ref xv), .val (.double (FP.dadd (FP.l2d lo) (FP.ddiv (FP.dsub (FP.l2d hi) (FP.l2d lo)) (4611686018427387904 : UInt64)))), .second] []) fun _ _ X _ k => XS.dstore X.here hx rfl (hb hby dl1_179) rfl (l' := #[.val (.int p1), .val (.int p2), .val (.int p3), .val (.int p4), .val (.int (1 : Int32)), .val (.long lo), .second, .val (.long dd), .second, .val (.long hi), .second, .val (.double (9094988921128908188 : UInt64)), .second, .val (.double (9218868437227405312 : UInt64)), .second, .val (.double (FP.l2d lo)), .second, .val (.double (FP.l2d hi)), .second, .val (.double (FP.dmul (FP.l2d (lo + hi)) (4602678819172646912 : UInt64))), .second, .val (.ref xl), .val (.ref xu), .val (.ref xv), .val (.double (FP.dadd (FP.l2d lo) (FP.ddiv (FP.dsub (FP.l2d hi) (FP.l2d lo)) (4611686018427387904 : UInt64)))), .second]) rfl k
      have A128 := A127.go (f' := mkF m 183 #[.val (.int p1), .val (.int p2), .val (.int p3), .val (.int p4), .val (.int (1 : Int32)), .val (.long lo), .second, .val (.long dd), .second, .val (.long hi), .second, .val (.double (9094988921128908188 : UInt64)), .second, .val (.double (9218868437227405312 : UInt64)), .second, .val (.double (FP.l2d lo)), .second, .val (.double (FP.l2d hi)), .second, .val (.double (FP.dmul (FP.l2d (lo + hi)) (4602678819172646912 : UInt64))), .second, .val (.ref xl), .val (.ref xu), .val (.ref xv), .val (.double (FP.dadd (FP.l2d lo) (FP.ddiv (FP.dsub (FP.l2d hi) (FP.l2d lo)) (4611686018427387904 : UInt64)))), .second] [(.double (FP.dadd (FP.l2d lo) (FP.ddiv (FP.dsub (FP.l2d hi) (FP.l2d lo)) (4611686018427387904 : UInt64))))]) fun _ _ X _ k => XS.dload X.here hx rfl (hb hby dl1_181) rfl k
      have A129 := A128.go (f' := mkF m 185 #[.val (.int p1), .val (.int p2), .val (.int p3), .val (.int p4), .val (.int (1 : Int32)), .val (.long lo), .second, .val (.long dd), .second, .val (.long hi), .second, .val (.double (9094988921128908188 : UInt64)), .second, .val (.double (9218868437227405312 : UInt64)), .second, .val (.double (FP.l2d lo)), .second, .val (.double (FP.l2d hi)), .second, .val (.double (FP.dmul (FP.l2d (lo + hi)) (4602678819172646912 : UInt64))), .second, .val (.ref xl), .val (.ref xu), .val (.ref xv), .val (.double (FP.dadd (FP.l2d lo) (FP.ddiv (FP.dsub (FP.l2d hi) (FP.l2d lo)) (4611686018427387904 : UInt64)))), .second] [(.double (FP.dmul (FP.l2d (lo + hi)) (4602678819172646912 : UInt64))), (.double (FP.dadd (FP.l2d lo) (FP.ddiv (FP.dsub (FP.l2d hi) (FP.l2d lo)) (4611686018427387904 : UInt64))))]) fun _ _ X _ k => XS.dload X.here hx rfl (hb hby dl1_183) rfl k
      have A130 := A129.go (f' := mkF m 186 #[.val (.int p1), .val (.int p2), .val (.int p3), .val (.int p4), .val (.int (1 : Int32)), .val (.long lo), .second, .val (.long dd), .second, .val (.long hi), .second, .val (.double (9094988921128908188 : UInt64)), .second, .val (.double (9218868437227405312 : UInt64)), .second, .val (.double (FP.l2d lo)), .second, .val (.double (FP.l2d hi)), .second, .val (.double (FP.dmul (FP.l2d (lo + hi)) (4602678819172646912 : UInt64))), .second, .val (.ref xl), .val (.ref xu), .val (.ref xv), .val (.double (FP.dadd (FP.l2d lo) (FP.ddiv (FP.dsub (FP.l2d hi) (FP.l2d lo)) (4611686018427387904 : UInt64)))), .second] [(.int (cmpValue (FP.dcmp (FP.dadd (FP.l2d lo) (FP.ddiv (FP.dsub (FP.l2d hi) (FP.l2d lo)) (4611686018427387904 : UInt64))) (FP.dmul (FP.l2d (lo + hi)) (4602678819172646912 : UInt64))) .l))]) fun _ _ X _ k => XS.dcmpS X.here hx rfl (hb hby dl1_185) rfl rfl k
      have q131 : ((cmpValue (FP.dcmp (FP.dadd (FP.l2d lo) (FP.ddiv (FP.dsub (FP.l2d hi) (FP.l2d lo)) (4611686018427387904 : UInt64))) (FP.dmul (FP.l2d (lo + hi)) (4602678819172646912 : UInt64))) .l) = (0 : Int32)) := own_finNe hOB hc0
      have A132 := A130.go (f' := mkF m 189 #[.val (.int p1), .val (.int p2), .val (.int p3), .val (.int p4), .val (.int (1 : Int32)), .val (.long lo), .second, .val (.long dd), .second, .val (.long hi), .second, .val (.double (9094988921128908188 : UInt64)), .second, .val (.double (9218868437227405312 : UInt64)), .second, .val (.double (FP.l2d lo)), .second, .val (.double (FP.l2d hi)), .second, .val (.double (FP.dmul (FP.l2d (lo + hi)) (4602678819172646912 : UInt64))), .second, .val (.ref xl), .val (.ref xu), .val (.ref xv), .val (.double (FP.dadd (FP.l2d lo) (FP.ddiv (FP.dsub (FP.l2d hi) (FP.l2d lo)) (4611686018427387904 : UInt64)))), .second] []) fun _ _ X _ k => XS.ifNo X.here hx rfl (hb hby dl1_186) rfl ((if0 _ _).trans (teq q131).2) k
      have A133 := A132.go (f' := mkF m 190 #[.val (.int p1), .val (.int p2), .val (.int p3), .val (.int p4), .val (.int (1 : Int32)), .val (.long lo), .second, .val (.long dd), .second, .val (.long hi), .second, .val (.double (9094988921128908188 : UInt64)), .second, .val (.double (9218868437227405312 : UInt64)), .second, .val (.double (FP.l2d lo)), .second, .val (.double (FP.l2d hi)), .second, .val (.double (FP.dmul (FP.l2d (lo + hi)) (4602678819172646912 : UInt64))), .second, .val (.ref xl), .val (.ref xu), .val (.ref xv), .val (.double (FP.dadd (FP.l2d lo) (FP.ddiv (FP.dsub (FP.l2d hi) (FP.l2d lo)) (4611686018427387904 : UInt64)))), .second] [(.int (1 : Int32))]) fun _ _ X _ k => XS.iconst X.here hx rfl (hb hby dl1_189) k
      have A134 := A133.go (f' := mkF m 194 #[.val (.int p1), .val (.int p2), .val (.int p3), .val (.int p4), .val (.int (1 : Int32)), .val (.long lo), .second, .val (.long dd), .second, .val (.long hi), .second, .val (.double (9094988921128908188 : UInt64)), .second, .val (.double (9218868437227405312 : UInt64)), .second, .val (.double (FP.l2d lo)), .second, .val (.double (FP.l2d hi)), .second, .val (.double (FP.dmul (FP.l2d (lo + hi)) (4602678819172646912 : UInt64))), .second, .val (.ref xl), .val (.ref xu), .val (.ref xv), .val (.double (FP.dadd (FP.l2d lo) (FP.ddiv (FP.dsub (FP.l2d hi) (FP.l2d lo)) (4611686018427387904 : UInt64)))), .second] [(.int (1 : Int32))]) fun _ _ X _ k => XS.goto X.here hx rfl (pc0 := 190) (pc' := 194) rfl (hb hby dl1_190) (by decide) (by decide) k
      exact A134.ret hx hlk hret (hb hby dl1_194) rfl (Or.inl ⟨rfl, by simp, _, rfl⟩) (by decide) (by decide) ⟨rfl, trivial⟩
  · skip
    have A135 := A37.go (f' := mkF m 54 #[.val (.int p1), .val (.int p2), .val (.int p3), .val (.int p4), .val (.int (1 : Int32)), .val (.long lo), .second, .val (.long dd), .second, .val (.long hi), .second, .val (.double (9094988921128908188 : UInt64)), .second, .val (.double (9218868437227405312 : UInt64)), .second, .unset, .unset, .unset, .unset, .unset, .unset, .unset, .unset, .unset, .unset, .unset] []) fun _ _ X _ k => XS.ifNo X.here hx rfl (hb hby dl1_51) rfl ((if0 _ _).trans (feq q38).1) k
    have A136 := A135.go (f' := mkF m 55 #[.val (.int p1), .val (.int p2), .val (.int p3), .val (.int p4), .val (.int (1 : Int32)), .val (.long lo), .second, .val (.long dd), .second, .val (.long hi), .second, .val (.double (9094988921128908188 : UInt64)), .second, .val (.double (9218868437227405312 : UInt64)), .second, .unset, .unset, .unset, .unset, .unset, .unset, .unset, .unset, .unset, .unset, .unset] [(.int p4)]) fun _ _ X _ k => XS.iloadN X.here hx rfl (hb hby dl1_54) rfl k
    have A137 := A136.go (f' := mkF m 56 #[.val (.int p1), .val (.int p2), .val (.int p3), .val (.int p4), .val (.int (1 : Int32)), .val (.long lo), .second, .val (.long dd), .second, .val (.long hi), .second, .val (.double (9094988921128908188 : UInt64)), .second, .val (.double (9218868437227405312 : UInt64)), .second, .unset, .unset, .unset, .unset, .unset, .unset, .unset, .unset, .unset, .unset, .unset] [(.int (4 : Int32)), (.int p4)]) fun _ _ X _ k => XS.iconst X.here hx rfl (hb hby dl1_55) k
    have A138 := A137.go (f' := mkF m 57 #[.val (.int p1), .val (.int p2), .val (.int p3), .val (.int p4), .val (.int (1 : Int32)), .val (.long lo), .second, .val (.long dd), .second, .val (.long hi), .second, .val (.double (9094988921128908188 : UInt64)), .second, .val (.double (9218868437227405312 : UInt64)), .second, .unset, .unset, .unset, .unset, .unset, .unset, .unset, .unset, .unset, .unset, .unset] [(.int (p4 &&& (4 : Int32)))]) fun _ _ X _ k => XS.iand X.here hx rfl (hb hby dl1_56) rfl k
    have A140 : own_R p l e room_1 s m #[(.int p1), (.int p2), (.int p3), (.int p4)] below meth c S0 n0 h0 0 0 (mkF m 68 #[.val (.int p1), .val (.int p2), .val (.int p3), .val (.int p4), .val (.int (1 : Int32)), .val (.long lo), .second, .val (.long dd), .second, .val (.long hi), .second, .val (.double (9094988921128908188 : UInt64)), .second, .val (.double (9218868437227405312 : UInt64)), .second, .unset, .unset, .unset, .unset, .unset, .unset, .unset, .unset, .unset, .unset, .unset] [(.double (if (p4 &&& (4 : Int32)) = (0 : Int32) then (FP.dneg (9218868437227405312 : UInt64)) else (9218868437227405312 : UInt64)))]) := by
      by_cases q139 : (p4 &&& (4 : Int32)) = (0 : Int32)
      · skip
        have A141 := A138.go (f' := mkF m 65 #[.val (.int p1), .val (.int p2), .val (.int p3), .val (.int p4), .val (.int (1 : Int32)), .val (.long lo), .second, .val (.long dd), .second, .val (.long hi), .second, .val (.double (9094988921128908188 : UInt64)), .second, .val (.double (9218868437227405312 : UInt64)), .second, .unset, .unset, .unset, .unset, .unset, .unset, .unset, .unset, .unset, .unset, .unset] []) fun _ _ X _ k => XS.ifYes X.here hx rfl (pc0 := 57) (pc' := 65) rfl (hb hby dl1_57) rfl ((if0 _ _).trans (teq q139).1) (by decide) (by decide) k
        have A142 := A141.go (f' := mkF m 67 #[.val (.int p1), .val (.int p2), .val (.int p3), .val (.int p4), .val (.int (1 : Int32)), .val (.long lo), .second, .val (.long dd), .second, .val (.long hi), .second, .val (.double (9094988921128908188 : UInt64)), .second, .val (.double (9218868437227405312 : UInt64)), .second, .unset, .unset, .unset, .unset, .unset, .unset, .unset, .unset, .unset, .unset, .unset] [(.double (9218868437227405312 : UInt64))]) fun _ _ X _ k => XS.dload X.here hx rfl (hb hby dl1_65) rfl k
        have A143 := A142.go (f' := mkF m 68 #[.val (.int p1), .val (.int p2), .val (.int p3), .val (.int p4), .val (.int (1 : Int32)), .val (.long lo), .second, .val (.long dd), .second, .val (.long hi), .second, .val (.double (9094988921128908188 : UInt64)), .second, .val (.double (9218868437227405312 : UInt64)), .second, .unset, .unset, .unset, .unset, .unset, .unset, .unset, .unset, .unset, .unset, .unset] [(.double (FP.dneg (9218868437227405312 : UInt64)))]) fun _ _ X _ k => XS.dnegS X.here hx rfl (hb hby dl1_67) rfl rfl k
        simp only [if_pos q139]
        exact A143
      · skip
        have A144 := A138.go (f' := mkF m 60 #[.val (.int p1), .val (.int p2), .val (.int p3), .val (.int p4), .val (.int (1 : Int32)), .val (.long lo), .second, .val (.long dd), .second, .val (.long hi), .second, .val (.double (9094988921128908188 : UInt64)), .second, .val (.double (9218868437227405312 : UInt64)), .second, .unset, .unset, .unset, .unset, .unset, .unset, .unset, .unset, .unset, .unset, .unset] []) fun _ _ X _ k => XS.ifNo X.here hx rfl (hb hby dl1_57) rfl ((if0 _ _).trans (feq q139).1) k
        have A145 := A144.go (f' := mkF m 62 #[.val (.int p1), .val (.int p2), .val (.int p3), .val (.int p4), .val (.int (1 : Int32)), .val (.long lo), .second, .val (.long dd), .second, .val (.long hi), .second, .val (.double (9094988921128908188 : UInt64)), .second, .val (.double (9218868437227405312 : UInt64)), .second, .unset, .unset, .unset, .unset, .unset, .unset, .unset, .unset, .unset, .unset, .unset] [(.double (9218868437227405312 : UInt64))]) fun _ _ X _ k => XS.dload X.here hx rfl (hb hby dl1_60) rfl k
        have A146 := A145.go (f' := mkF m 68 #[.val (.int p1), .val (.int p2), .val (.int p3), .val (.int p4), .val (.int (1 : Int32)), .val (.long lo), .second, .val (.long dd), .second, .val (.long hi), .second, .val (.double (9094988921128908188 : UInt64)), .second, .val (.double (9218868437227405312 : UInt64)), .second, .unset, .unset, .unset, .unset, .unset, .unset, .unset, .unset, .unset, .unset, .unset] [(.double (9218868437227405312 : UInt64))]) fun _ _ X _ k => XS.goto X.here hx rfl (pc0 := 62) (pc' := 68) rfl (hb hby dl1_62) (by decide) (by decide) k
        simp only [if_neg q139]
        exact A146
    obtain ⟨vv, hvv⟩ : ∃ zq_, zq_ = (if (p4 &&& (4 : Int32)) = (0 : Int32) then (FP.dneg (9218868437227405312 : UInt64)) else (9218868437227405312 : UInt64)) := ⟨_, rfl⟩
    rw [← hvv] at A140
    have hnv : Jvm.Free.Fl.NoNaN64 vv := by rw [hvv]; exact own_vv _
    have A147 := A140.go (f' := mkF m 70 #[.val (.int p1), .val (.int p2), .val (.int p3), .val (.int p4), .val (.int (1 : Int32)), .val (.long lo), .second, .val (.long dd), .second, .val (.long hi), .second, .val (.double (9094988921128908188 : UInt64)), .second, .val (.double (9218868437227405312 : UInt64)), .second, .unset, .unset, .unset, .unset, .unset, .unset, .val (.double vv), .second, .unset, .unset, .unset] []) fun _ _ X _ k => XS.dstore X.here hx rfl (hb hby dl1_68) rfl (l' := #[.val (.int p1), .val (.int p2), .val (.int p3), .val (.int p4), .val (.int (1 : Int32)), .val (.long lo), .second, .val (.long dd), .second, .val (.long hi), .second, .val (.double (9094988921128908188 : UInt64)), .second, .val (.double (9218868437227405312 : UInt64)), .second, .unset, .unset, .unset, .unset, .unset, .unset, .val (.double vv), .second, .unset, .unset, .unset]) rfl k
    have A148 := A147.go (f' := mkF m 72 #[.val (.int p1), .val (.int p2), .val (.int p3), .val (.int p4), .val (.int (1 : Int32)), .val (.long lo), .second, .val (.long dd), .second, .val (.long hi), .second, .val (.double (9094988921128908188 : UInt64)), .second, .val (.double (9218868437227405312 : UInt64)), .second, .unset, .unset, .unset, .unset, .unset, .unset, .val (.double vv), .second, .unset, .unset, .unset] [(.double vv)]) fun _ _ X _ k => XS.dload X.here hx rfl (hb hby dl1_70) rfl k
    have A149 := A148.go (f' := mkF m 74 #[.val (.int p1), .val (.int p2), .val (.int p3), .val (.int p4), .val (.int (1 : Int32)), .val (.long lo), .second, .val (.long dd), .second, .val (.long hi), .second, .val (.double (9094988921128908188 : UInt64)), .second, .val (.double (9218868437227405312 : UInt64)), .second, .val (.double vv), .second, .unset, .unset, .unset, .unset, .val (.double vv), .second, .unset, .unset, .unset] []) fun _ _ X _ k => XS.dstore X.here hx rfl (hb hby dl1_72) rfl (l' := #[.val (.int p1), .val (.int p2), .val (.int p3), .val (.int p4), .val (.int (1 : Int32)), .val (.long lo), .second, .val (.long dd), .second, .val (.long hi), .second, .val (.double (9094988921128908188 : UInt64)), .second, .val (.double (9218868437227405312 : UInt64)), .second, .val (.double vv), .second, .unset, .unset, .unset, .unset, .val (.double vv), .second, .unset, .unset, .unset]) rfl k
    have A150 := A149.go (f' := mkF m 76 #[.val (.int p1), .val (.int p2), .val (.int p3), .val (.int p4), .val (.int (1 : Int32)), .val (.long lo), .second, .val (.long dd), .second, .val (.long hi), .second, .val (.double (9094988921128908188 : UInt64)), .second, .val (.double (9218868437227405312 : UInt64)), .second, .val (.double vv), .second, .unset, .unset, .unset, .unset, .val (.double vv), .second, .unset, .unset, .unset] [(.double vv)]) fun _ _ X _ k => XS.dload X.here hx rfl (hb hby dl1_74) rfl k
    have A151 := A150.go (f' := mkF m 78 #[.val (.int p1), .val (.int p2), .val (.int p3), .val (.int p4), .val (.int (1 : Int32)), .val (.long lo), .second, .val (.long dd), .second, .val (.long hi), .second, .val (.double (9094988921128908188 : UInt64)), .second, .val (.double (9218868437227405312 : UInt64)), .second, .val (.double vv), .second, .val (.double vv), .second, .unset, .unset, .val (.double vv), .second, .unset, .unset, .unset] []) fun _ _ X _ k => XS.dstore X.here hx rfl (hb hby dl1_76) rfl (l' := #[.val (.int p1), .val (.int p2), .val (.int p3), .val (.int p4), .val (.int (1 : Int32)), .val (.long lo), .second, .val (.long dd), .second, .val (.long hi), .second, .val (.double (9094988921128908188 : UInt64)), .second, .val (.double (9218868437227405312 : UInt64)), .second, .val (.double vv), .second, .val (.double vv), .second, .unset, .unset, .val (.double vv), .second, .unset, .unset, .unset]) rfl k
    have A152 := A151.go (f' := mkF m 80 #[.val (.int p1), .val (.int p2), .val (.int p3), .val (.int p4), .val (.int (1 : Int32)), .val (.long lo), .second, .val (.long dd), .second, .val (.long hi), .second, .val (.double (9094988921128908188 : UInt64)), .second, .val (.double (9218868437227405312 : UInt64)), .second, .val (.double vv), .second, .val (.double vv), .second, .unset, .unset, .val (.double vv), .second, .unset, .unset, .unset] [(.double vv)]) fun _ _ X _ k => XS.dload X.here hx rfl (hb hby dl1_78) rfl k
    have A153 := A152.go (f' := mkF m 82 #[.val (.int p1), .val (.int p2), .val (.int p3), .val (.int p4), .val (.int (1 : Int32)), .val (.long lo), .second, .val (.long dd), .second, .val (.long hi), .second, .val (.double (9094988921128908188 : UInt64)), .second, .val (.double (9218868437227405312 : UInt64)), .second, .val (.double vv), .second, .val (.double vv), .second, .val (.double vv), .second, .val (.double vv), .second, .unset, .unset, .unset] []) fun _ _ X _ k => XS.dstore X.here hx rfl (hb hby dl1_80) rfl (l' := #[.val (.int p1), .val (.int p2), .val (.int p3), .val (.int p4), .val (.int (1 : Int32)), .val (.long lo), .second, .val (.long dd), .second, .val (.long hi), .second, .val (.double (9094988921128908188 : UInt64)), .second, .val (.double (9218868437227405312 : UInt64)), .second, .val (.double vv), .second, .val (.double vv), .second, .val (.double vv), .second, .val (.double vv), .second, .unset, .unset, .unset]) rfl k
    have A154 := A153.go (f' := mkF m 107 #[.val (.int p1), .val (.int p2), .val (.int p3), .val (.int p4), .val (.int (1 : Int32)), .val (.long lo), .second, .val (.long dd), .second, .val (.long hi), .second, .val (.double (9094988921128908188 : UInt64)), .second, .val (.double (9218868437227405312 : UInt64)), .second, .val (.double vv), .second, .val (.double vv), .second, .val (.double vv), .second, .val (.double vv), .second, .unset, .unset, .unset] []) fun _ _ X _ k => XS.goto X.here hx rfl (pc0 := 82) (pc' := 107) rfl (hb hby dl1_82) (by decide) (by decide) k
    have A155 := A154.go (f' := mkF m 108 #[.val (.int p1), .val (.int p2), .val (.int p3), .val (.int p4), .val (.int (1 : Int32)), .val (.long lo), .second, .val (.long dd), .second, .val (.long hi), .second, .val (.double (9094988921128908188 : UInt64)), .second, .val (.double (9218868437227405312 : UInt64)), .second, .val (.double vv), .second, .val (.double vv), .second, .val (.double vv), .second, .val (.double vv), .second, .unset, .unset, .unset] [(.int (2 : Int32))]) fun _ _ X _ k => XS.iconst X.here hx rfl (hb hby dl1_107) k
    obtain ⟨h156, E157, V_xl, A158⟩ := A155.newP hx hZ (hb hby dl1_108) (hw _ (List.mem_of_getElem? (i := 1) rfl)) (by decide) (cap := 2) (by decide) (by decide) (by decide) (by decide)
    obtain ⟨xl, gxl⟩ : ∃ z, z = h0.size := ⟨_, rfl⟩
    rw [← gxl] at V_xl A158
    have g_xl : n0 ≤ xl := by rw [gxl]; exact Z0
    have Z0 : n0 ≤ h156.size := Nat.le_trans Z0 E157.1
    have V_xl : own_Ar Z h156 xl .double [(.double 0), (.double 0)] := V_xl
    have A159 : own_R p l e _ _ m _ below meth c S0 n0 h156 1 2 (mkF m 110 #[.val (.int p1), .val (.int p2), .val (.int p3), .val (.int p4), .val (.int (1 : Int32)), .val (.long lo), .second, .val (.long dd), .second, .val (.long hi), .second, .val (.double (9094988921128908188 : UInt64)), .second, .val (.double (9218868437227405312 : UInt64)), .second, .val (.double vv), .second, .val (.double vv), .second, .val (.double vv), .second, .val (.double vv), .second, .unset, .unset, .unset] [(.ref xl)]) := A158
    have A160 := A159.go (f' := mkF m 112 #[.val (.int p1), .val (.int p2), .val (.int p3), .val (.int p4), .val (.int (1 : Int32)), .val (.long lo), .second, .val (.long dd), .second, .val (.long hi), .second, .val (.double (9094988921128908188 : UInt64)), .second, .val (.double (9218868437227405312 : UInt64)), .second, .val (.double vv), .second, .val (.double vv), .second, .val (.double vv), .second, .val (.ref xl), .unset, .unset, .unset, .unset] []) fun _ _ X _ k => XS.astore X.here hx rfl (hb hby dl1_110) rfl rfl (l' := #[.val (.int p1), .val (.int p2), .val (.int p3), .val (.int p4), .val (.int (1 : Int32)), .val (.long lo), .second, .val (.long dd), .second, .val (.long hi), .second, .val (.double (9094988921128908188 : UInt64)), .second, .val (.double (9218868437227405312 : UInt64)), .second, .val (.double vv), .second, .val (.double vv), .second, .val (.double vv), .second, .val (.ref xl), .unset, .unset, .unset, .unset]) rfl k
    have A161 := A160.go (f' := mkF m 113 #[.val (.int p1), .val (.int p2), .val (.int p3), .val (.int p4), .val (.int (1 : Int32)), .val (.long lo), .second, .val (.long dd), .second, .val (.long hi), .second, .val (.double (9094988921128908188 : UInt64)), .second, .val (.double (9218868437227405312 : UInt64)), .second, .val (.double vv), .second, .val (.double vv), .second, .val (.double vv), .second, .val (.ref xl), .unset, .unset, .unset, .unset] [(.int (2 : Int32))]) fun _ _ X _ k => XS.iconst X.here hx rfl (hb hby dl1_112) k
    obtain ⟨h162, E163, V_xu, A164⟩ := A161.newP hx hZ (hb hby dl1_113) (hw _ (List.mem_of_getElem? (i := 1) rfl)) (by decide) (cap := 2) (by decide) (by decide) (by decide) (by decide)
    obtain ⟨xu, gxu⟩ : ∃ z, z = h156.size := ⟨_, rfl⟩
    rw [← gxu] at V_xu A164
    have ne_xl_xu : xl ≠ xu := by rw [gxu]; exact Nat.ne_of_lt V_xl.lt
    have ne_xu_xl := Ne.symm ne_xl_xu
    have g_xu : n0 ≤ xu := by rw [gxu]; exact Z0
    have V_xl : own_Ar Z h162 xl .double [(.double 0), (.double 0)] := V_xl.ext E163
    have Z0 : n0 ≤ h162.size := Nat.le_trans Z0 E163.1
    have V_xu : own_Ar Z h162 xu .double [(.double 0), (.double 0)] := V_xu
    have A165 : own_R p l e _ _ m _ below meth c S0 n0 h162 2 4 (mkF m 115 #[.val (.int p1), .val (.int p2), .val (.int p3), .val (.int p4), .val (.int (1 : Int32)), .val (.long lo), .second, .val (.long dd), .second, .val (.long hi), .second, .val (.double (9094988921128908188 : UInt64)), .second, .val (.double (9218868437227405312 : UInt64)), .second, .val (.double vv), .second, .val (.double vv), .second, .val (.double vv), .second, .val (.ref xl), .unset, .unset, .unset, .unset] [(.ref xu)]) := A164
    have A166 := A165.go (f' := mkF m 117 #[.val (.int p1), .val (.int p2), .val (.int p3), .val (.int p4), .val (.int (1 : Int32)), .val (.long lo), .second, .val (.long dd), .second, .val (.long hi), .second, .val (.double (9094988921128908188 : UInt64)), .second, .val (.double (9218868437227405312 : UInt64)), .second, .val (.double vv), .second, .val (.double vv), .second, .val (.double vv), .second, .val (.ref xl), .val (.ref xu), .unset, .unset, .unset] []) fun _ _ X _ k => XS.astore X.here hx rfl (hb hby dl1_115) rfl rfl (l' := #[.val (.int p1), .val (.int p2), .val (.int p3), .val (.int p4), .val (.int (1 : Int32)), .val (.long lo), .second, .val (.long dd), .second, .val (.long hi), .second, .val (.double (9094988921128908188 : UInt64)), .second, .val (.double (9218868437227405312 : UInt64)), .second, .val (.double vv), .second, .val (.double vv), .second, .val (.double vv), .second, .val (.ref xl), .val (.ref xu), .unset, .unset, .unset]) rfl k
    have A167 := A166.go (f' := mkF m 119 #[.val (.int p1), .val (.int p2), .val (.int p3), .val (.int p4), .val (.int (1 : Int32)), .val (.long lo), .second, .val (.long dd), .second, .val (.long hi), .second, .val (.double (9094988921128908188 : UInt64)), .second, .val (.double (9218868437227405312 : UInt64)), .second, .val (.double vv), .second, .val (.double vv), .second, .val (.double vv), .second, .val (.ref xl), .val (.ref xu), .unset, .unset, .unset] [(.ref xl)]) fun _ _ X _ k => XS.aload X.here hx rfl (hb hby dl1_117) rfl rfl k
    have A168 := A167.go (f' := mkF m 121 #[.val (.int p1), .val (.int p2), .val (.int p3), .val (.int p4), .val (.int (1 : Int32)), .val (.long lo), .second, .val (.long dd), .second, .val (.long hi), .second, .val (.double (9094988921128908188 : UInt64)), .second, .val (.double (9218868437227405312 : UInt64)), .second, .val (.double vv), .second, .val (.double vv), .second, .val (.double vv), .second, .val (.ref xl), .val (.ref xu), .unset, .unset, .unset] [(.int (1 : Int32)), (.ref xl)]) fun _ _ X _ k => XS.iload X.here hx rfl (hb hby dl1_119) rfl k
    have A169 := A168.go (f' := mkF m 123 #[.val (.int p1), .val (.int p2), .val (.int p3), .val (.int p4), .val (.int (1 : Int32)), .val (.long lo), .second, .val (.long dd), .second, .val (.long hi), .second, .val (.double (9094988921128908188 : UInt64)), .second, .val (.double (9218868437227405312 : UInt64)), .second, .val (.double vv), .second, .val (.double vv), .second, .val (.double vv), .second, .val (.ref xl), .val (.ref xu), .unset, .unset, .unset] [(.double vv), (.int (1 : Int32)), (.ref xl)]) fun _ _ X _ k => XS.dload X.here hx rfl (hb hby dl1_121) rfl k
    obtain ⟨h170, W171, A172⟩ := A169.stD hx hZ (hb hby dl1_123) V_xl (by decide) (by simp +decide) g_xl
    have V_xl : own_Ar Z h170 xl .double [(.double 0), (.double vv)] := V_xl.same W171
    have V_xu : own_Ar Z h170 xu .double [(.double 0), (.double 0)] := V_xu.other W171 ne_xu_xl
    have Z0 : n0 ≤ h170.size := by rw [W171.size]; exact Z0
    have A173 : own_R p l e _ _ m _ below meth c S0 n0 h170 2 4 (mkF m 124 #[.val (.int p1), .val (.int p2), .val (.int p3), .val (.int p4), .val (.int (1 : Int32)), .val (.long lo), .second, .val (.long dd), .second, .val (.long hi), .second, .val (.double (9094988921128908188 : UInt64)), .second, .val (.double (9218868437227405312 : UInt64)), .second, .val (.double vv), .second, .val (.double vv), .second, .val (.double vv), .second, .val (.ref xl), .val (.ref xu), .unset, .unset, .unset] []) := A172
    have A174 := A173.go (f' := mkF m 126 #[.val (.int p1), .val (.int p2), .val (.int p3), .val (.int p4), .val (.int (1 : Int32)), .val (.long lo), .second, .val (.long dd), .second, .val (.long hi), .second, .val (.double (9094988921128908188 : UInt64)), .second, .val (.double (9218868437227405312 : UInt64)), .second, .val (.double vv), .second, .val (.double vv), .second, .val (.double vv), .second, .val (.ref xl), .val (.ref xu), .unset, .unset, .unset] [(.ref xu)]) fun _ _ X _ k => XS.aload X.here hx rfl (hb hby dl1_124) rfl rfl k
    have A175 := A174.go (f' := mkF m 128 #[.val (.int p1), .val (.int p2), .val (.int p3), .val (.int p4), .val (.int (1 : Int32)), .val (.long lo), .second, .val (.long dd), .second, .val (.long hi), .second, .val (.double (9094988921128908188 : UInt64)), .second, .val (.double (9218868437227405312 : UInt64)), .second, .val (.double vv), .second, .val (.double vv), .second, .val (.double vv), .second, .val (.ref xl), .val (.ref xu), .unset, .unset, .unset] [(.int (1 : Int32)), (.ref xu)]) fun _ _ X _ k => XS.iload X.here hx rfl (hb hby dl1_126) rfl k
    have A176 := A175.go (f' := mkF m 130 #[.val (.int p1), .val (.int p2), .val (.int p3), .val (.int p4), .val (.int (1 : Int32)), .val (.long lo), .second, .val (.long dd), .second, .val (.long hi), .second, .val (.double (9094988921128908188 : UInt64)), .second, .val (.double (9218868437227405312 : UInt64)), .second, .val (.double vv), .second, .val (.double vv), .second, .val (.double vv), .second, .val (.ref xl), .val (.ref xu), .unset, .unset, .unset] [(.double vv), (.int (1 : Int32)), (.ref xu)]) fun _ _ X _ k => XS.dload X.here hx rfl (hb hby dl1_128) rfl k
    obtain ⟨h177, W178, A179⟩ := A176.stD hx hZ (hb hby dl1_130) V_xu (by decide) (by simp +decide) g_xu
    have V_xl : own_Ar Z h177 xl .double [(.double 0), (.double vv)] := V_xl.other W178 ne_xl_xu
    have V_xu : own_Ar Z h177 xu .double [(.double 0), (.double vv)] := V_xu.same W178
    have Z0 : n0 ≤ h177.size := by rw [W178.size]; exact Z0
    have A180 : own_R p l e _ _ m _ below meth c S0 n0 h177 2 4 (mkF m 131 #[.val (.int p1), .val (.int p2), .val (.int p3), .val (.int p4), .val (.int (1 : Int32)), .val (.long lo), .second, .val (.long dd), .second, .val (.long hi), .second, .val (.double (9094988921128908188 : UInt64)), .second, .val (.double (9218868437227405312 : UInt64)), .second, .val (.double vv), .second, .val (.double vv), .second, .val (.double vv), .second, .val (.ref xl), .val (.ref xu), .unset, .unset, .unset] []) := A179
    have A181 := A180.go (f' := mkF m 133 #[.val (.int p1), .val (.int p2), .val (.int p3), .val (.int p4), .val (.int (1 : Int32)), .val (.long lo), .second, .val (.long dd), .second, .val (.long hi), .second, .val (.double (9094988921128908188 : UInt64)), .second, .val (.double (9218868437227405312 : UInt64)), .second, .val (.double vv), .second, .val (.double vv), .second, .val (.double vv), .second, .val (.ref xl), .val (.ref xu), .unset, .unset, .unset] [(.ref xl)]) fun _ _ X _ k => XS.aload X.here hx rfl (hb hby dl1_131) rfl rfl k
    have A182 := A181.go (f' := mkF m 134 #[.val (.int p1), .val (.int p2), .val (.int p3), .val (.int p4), .val (.int (1 : Int32)), .val (.long lo), .second, .val (.long dd), .second, .val (.long hi), .second, .val (.double (9094988921128908188 : UInt64)), .second, .val (.double (9218868437227405312 : UInt64)), .second, .val (.double vv), .second, .val (.double vv), .second, .val (.double vv), .second, .val (.ref xl), .val (.ref xu), .unset, .unset, .unset] [(.int (1 : Int32)), (.ref xl)]) fun _ _ X _ k => XS.iconst X.here hx rfl (hb hby dl1_133) k
    have A183 := A182.go (f' := mkF m 136 #[.val (.int p1), .val (.int p2), .val (.int p3), .val (.int p4), .val (.int (1 : Int32)), .val (.long lo), .second, .val (.long dd), .second, .val (.long hi), .second, .val (.double (9094988921128908188 : UInt64)), .second, .val (.double (9218868437227405312 : UInt64)), .second, .val (.double vv), .second, .val (.double vv), .second, .val (.double vv), .second, .val (.ref xl), .val (.ref xu), .unset, .unset, .unset] [(.int (1 : Int32)), (.int (1 : Int32)), (.ref xl)]) fun _ _ X _ k => XS.iload X.here hx rfl (hb hby dl1_134) rfl k
    have A184 := A183.go (f' := mkF m 137 #[.val (.int p1), .val (.int p2), .val (.int p3), .val (.int p4), .val (.int (1 : Int32)), .val (.long lo), .second, .val (.long dd), .second, .val (.long hi), .second, .val (.double (9094988921128908188 : UInt64)), .second, .val (.double (9218868437227405312 : UInt64)), .second, .val (.double vv), .second, .val (.double vv), .second, .val (.double vv), .second, .val (.ref xl), .val (.ref xu), .unset, .unset, .unset] [(.int ((1 : Int32) - (1 : Int32))), (.ref xl)]) fun _ _ X _ k => XS.isub X.here hx rfl (hb hby dl1_136) rfl k
    rw [show (1 : Int32) - (1 : Int32) = (0 : Int32) from by decide] at A184
    have A185 := A184.go (f' := mkF m 139 #[.val (.int p1), .val (.int p2), .val (.int p3), .val (.int p4), .val (.int (1 : Int32)), .val (.long lo), .second, .val (.long dd), .second, .val (.long hi), .second, .val (.double (9094988921128908188 : UInt64)), .second, .val (.double (9218868437227405312 : UInt64)), .second, .val (.double vv), .second, .val (.double vv), .second, .val (.double vv), .second, .val (.ref xl), .val (.ref xu), .unset, .unset, .unset] [(.long lo), (.int (0 : Int32)), (.ref xl)]) fun _ _ X _ k => XS.lload X.here hx rfl (hb hby dl1_137) rfl k
    have A186 : own_R p l e _ _ m _ below meth c S0 n0 h177 2 4 (mkF m 142 #[.val (.int p1), .val (.int p2), .val (.int p3), .val (.int p4), .val (.int (1 : Int32)), .val (.long lo), .second, .val (.long dd), .second, .val (.long hi), .second, .val (.double (9094988921128908188 : UInt64)), .second, .val (.double (9218868437227405312 : UInt64)), .second, .val (.double vv), .second, .val (.double vv), .second, .val (.double vv), .second, .val (.ref xl), .val (.ref xu), .unset, .unset, .unset] [(.long (7 : Int64)), (.long lo), (.int (0 : Int32)), (.ref xl)]) := A185.ldcL hx hZ hown (hb hby dl1_139) (hw _ (List.mem_of_getElem? (i := 2) rfl))
    have A187 := A186.go (f' := mkF m 143 #[.val (.int p1), .val (.int p2), .val (.int p3), .val (.int p4), .val (.int (1 : Int32)), .val (.long lo), .second, .val (.long dd), .second, .val (.long hi), .second, .val (.double (9094988921128908188 : UInt64)), .second, .val (.double (9218868437227405312 : UInt64)), .second, .val (.double vv), .second, .val (.double vv), .second, .val (.double vv), .second, .val (.ref xl), .val (.ref xu), .unset, .unset, .unset] [(.long (lo - (7 : Int64))), (.int (0 : Int32)), (.ref xl)]) fun _ _ X _ k => XS.lsub X.here hx rfl (hb hby dl1_142) rfl k
    have A188 := A187.go (f' := mkF m 144 #[.val (.int p1), .val (.int p2), .val (.int p3), .val (.int p4), .val (.int (1 : Int32)), .val (.long lo), .second, .val (.long dd), .second, .val (.long hi), .second, .val (.double (9094988921128908188 : UInt64)), .second, .val (.double (9218868437227405312 : UInt64)), .second, .val (.double vv), .second, .val (.double vv), .second, .val (.double vv), .second, .val (.ref xl), .val (.ref xu), .unset, .unset, .unset] [(.double (FP.l2d (lo - (7 : Int64)))), (.int (0 : Int32)), (.ref xl)]) fun _ _ X _ k => XS.l2dS X.here hx rfl (hb hby dl1_143) rfl rfl k
    obtain ⟨h189, W190, A191⟩ := A188.stD hx hZ (hb hby dl1_144) V_xl (by decide) (by simp +decide) g_xl
    have V_xl : own_Ar Z h189 xl .double [(.double (FP.l2d (lo - (7 : Int64)))), (.double vv)] := V_xl.same W190
    have V_xu : own_Ar Z h189 xu .double [(.double 0), (.double vv)] := V_xu.other W190 ne_xu_xl
    have Z0 : n0 ≤ h189.size := by rw [W190.size]; exact Z0
    have A192 : own_R p l e _ _ m _ below meth c S0 n0 h189 2 4 (mkF m 145 #[.val (.int p1), .val (.int p2), .val (.int p3), .val (.int p4), .val (.int (1 : Int32)), .val (.long lo), .second, .val (.long dd), .second, .val (.long hi), .second, .val (.double (9094988921128908188 : UInt64)), .second, .val (.double (9218868437227405312 : UInt64)), .second, .val (.double vv), .second, .val (.double vv), .second, .val (.double vv), .second, .val (.ref xl), .val (.ref xu), .unset, .unset, .unset] []) := A191
    have A193 := A192.go (f' := mkF m 147 #[.val (.int p1), .val (.int p2), .val (.int p3), .val (.int p4), .val (.int (1 : Int32)), .val (.long lo), .second, .val (.long dd), .second, .val (.long hi), .second, .val (.double (9094988921128908188 : UInt64)), .second, .val (.double (9218868437227405312 : UInt64)), .second, .val (.double vv), .second, .val (.double vv), .second, .val (.double vv), .second, .val (.ref xl), .val (.ref xu), .unset, .unset, .unset] [(.ref xu)]) fun _ _ X _ k => XS.aload X.here hx rfl (hb hby dl1_145) rfl rfl k
    have A194 := A193.go (f' := mkF m 148 #[.val (.int p1), .val (.int p2), .val (.int p3), .val (.int p4), .val (.int (1 : Int32)), .val (.long lo), .second, .val (.long dd), .second, .val (.long hi), .second, .val (.double (9094988921128908188 : UInt64)), .second, .val (.double (9218868437227405312 : UInt64)), .second, .val (.double vv), .second, .val (.double vv), .second, .val (.double vv), .second, .val (.ref xl), .val (.ref xu), .unset, .unset, .unset] [(.int (1 : Int32)), (.ref xu)]) fun _ _ X _ k => XS.iconst X.here hx rfl (hb hby dl1_147) k
    have A195 := A194.go (f' := mkF m 150 #[.val (.int p1), .val (.int p2), .val (.int p3), .val (.int p4), .val (.int (1 : Int32)), .val (.long lo), .second, .val (.long dd), .second, .val (.long hi), .second, .val (.double (9094988921128908188 : UInt64)), .second, .val (.double (9218868437227405312 : UInt64)), .second, .val (.double vv), .second, .val (.double vv), .second, .val (.double vv), .second, .val (.ref xl), .val (.ref xu), .unset, .unset, .unset] [(.int (1 : Int32)), (.int (1 : Int32)), (.ref xu)]) fun _ _ X _ k => XS.iload X.here hx rfl (hb hby dl1_148) rfl k
    have A196 := A195.go (f' := mkF m 151 #[.val (.int p1), .val (.int p2), .val (.int p3), .val (.int p4), .val (.int (1 : Int32)), .val (.long lo), .second, .val (.long dd), .second, .val (.long hi), .second, .val (.double (9094988921128908188 : UInt64)), .second, .val (.double (9218868437227405312 : UInt64)), .second, .val (.double vv), .second, .val (.double vv), .second, .val (.double vv), .second, .val (.ref xl), .val (.ref xu), .unset, .unset, .unset] [(.int ((1 : Int32) - (1 : Int32))), (.ref xu)]) fun _ _ X _ k => XS.isub X.here hx rfl (hb hby dl1_150) rfl k
    rw [show (1 : Int32) - (1 : Int32) = (0 : Int32) from by decide] at A196
    have A197 := A196.go (f' := mkF m 153 #[.val (.int p1), .val (.int p2), .val (.int p3), .val (.int p4), .val (.int (1 : Int32)), .val (.long lo), .second, .val (.long dd), .second, .val (.long hi), .second, .val (.double (9094988921128908188 : UInt64)), .second, .val (.double (9218868437227405312 : UInt64)), .second, .val (.double vv), .second, .val (.double vv), .second, .val (.double vv), .second, .val (.ref xl), .val (.ref xu), .unset, .unset, .unset] [(.long hi), (.int (0 : Int32)), (.ref xu)]) fun _ _ X _ k => XS.lload X.here hx rfl (hb hby dl1_151) rfl k
    have A198 : own_R p l e _ _ m _ below meth c S0 n0 h189 2 4 (mkF m 156 #[.val (.int p1), .val (.int p2), .val (.int p3), .val (.int p4), .val (.int (1 : Int32)), .val (.long lo), .second, .val (.long dd), .second, .val (.long hi), .second, .val (.double (9094988921128908188 : UInt64)), .second, .val (.double (9218868437227405312 : UInt64)), .second, .val (.double vv), .second, .val (.double vv), .second, .val (.double vv), .second, .val (.ref xl), .val (.ref xu), .unset, .unset, .unset] [(.long (100 : Int64)), (.long hi), (.int (0 : Int32)), (.ref xu)]) := A197.ldcL hx hZ hown (hb hby dl1_153) (hw _ (List.mem_of_getElem? (i := 3) rfl))
    have A199 := A198.go (f' := mkF m 157 #[.val (.int p1), .val (.int p2), .val (.int p3), .val (.int p4), .val (.int (1 : Int32)), .val (.long lo), .second, .val (.long dd), .second, .val (.long hi), .second, .val (.double (9094988921128908188 : UInt64)), .second, .val (.double (9218868437227405312 : UInt64)), .second, .val (.double vv), .second, .val (.double vv), .second, .val (.double vv), .second, .val (.ref xl), .val (.ref xu), .unset, .unset, .unset] [(.long (hi + (100 : Int64))), (.int (0 : Int32)), (.ref xu)]) fun _ _ X _ k => XS.ladd X.here hx rfl (hb hby dl1_156) rfl k
    have A200 := A199.go (f' := mkF m 158 #[.val (.int p1), .val (.int p2), .val (.int p3), .val (.int p4), .val (.int (1 : Int32)), .val (.long lo), .second, .val (.long dd), .second, .val (.long hi), .second, .val (.double (9094988921128908188 : UInt64)), .second, .val (.double (9218868437227405312 : UInt64)), .second, .val (.double vv), .second, .val (.double vv), .second, .val (.double vv), .second, .val (.ref xl), .val (.ref xu), .unset, .unset, .unset] [(.double (FP.l2d (hi + (100 : Int64)))), (.int (0 : Int32)), (.ref xu)]) fun _ _ X _ k => XS.l2dS X.here hx rfl (hb hby dl1_157) rfl rfl k
    obtain ⟨h201, W202, A203⟩ := A200.stD hx hZ (hb hby dl1_158) V_xu (by decide) (by simp +decide) g_xu
    have V_xl : own_Ar Z h201 xl .double [(.double (FP.l2d (lo - (7 : Int64)))), (.double vv)] := V_xl.other W202 ne_xl_xu
    have V_xu : own_Ar Z h201 xu .double [(.double (FP.l2d (hi + (100 : Int64)))), (.double vv)] := V_xu.same W202
    have Z0 : n0 ≤ h201.size := by rw [W202.size]; exact Z0
    have A204 : own_R p l e _ _ m _ below meth c S0 n0 h201 2 4 (mkF m 159 #[.val (.int p1), .val (.int p2), .val (.int p3), .val (.int p4), .val (.int (1 : Int32)), .val (.long lo), .second, .val (.long dd), .second, .val (.long hi), .second, .val (.double (9094988921128908188 : UInt64)), .second, .val (.double (9218868437227405312 : UInt64)), .second, .val (.double vv), .second, .val (.double vv), .second, .val (.double vv), .second, .val (.ref xl), .val (.ref xu), .unset, .unset, .unset] []) := A203
    obtain ⟨h205, E206, E_xv, D_xv, A207⟩ := A204.newO hx hZ hown (hb hby dl1_159) (hw _ (List.mem_of_getElem? (i := 4) rfl)) (hw _ (List.mem_of_getElem? (i := 5) rfl)) (hw _ (List.mem_of_getElem? (i := 6) rfl)) (by decide) (by decide)
    obtain ⟨xv, gxv⟩ : ∃ z, z = h201.size := ⟨_, rfl⟩
    rw [← gxv] at E_xv D_xv A207
    have ne_xl_xv : xl ≠ xv := by rw [gxv]; exact Nat.ne_of_lt V_xl.lt
    have ne_xv_xl := Ne.symm ne_xl_xv
    have ne_xu_xv : xu ≠ xv := by rw [gxv]; exact Nat.ne_of_lt V_xu.lt
    have ne_xv_xu := Ne.symm ne_xu_xv
    have g_xv : n0 ≤ xv := by rw [gxv]; exact Z0
    have V_xl : own_Ar Z h205 xl .double [(.double (FP.l2d (lo - (7 : Int64)))), (.double vv)] := V_xl.ext E206
    have V_xu : own_Ar Z h205 xu .double [(.double (FP.l2d (hi + (100 : Int64)))), (.double vv)] := V_xu.ext E206
    have Z0 : n0 ≤ h205.size := Nat.le_trans Z0 E206.1
    have F_xv_lower : Fld Z h205 xv "com/example/robust_model_checker/robustmodelchecker/checker/ValueBounds" "lower" "[D" .null := D_xv (Or.inr (hw _ (List.mem_of_getElem? (i := 14) rfl))) (ty := (.array .double)) (by decide)
    have F_xv_upper : Fld Z h205 xv "com/example/robust_model_checker/robustmodelchecker/checker/ValueBounds" "upper" "[D" .null := D_xv (Or.inr (hw _ (List.mem_of_getElem? (i := 16) rfl))) (ty := (.array .double)) (by decide)
    have A208 : own_R p l e _ _ m _ below meth c S0 n0 h205 3 6 (mkF m 162 #[.val (.int p1), .val (.int p2), .val (.int p3), .val (.int p4), .val (.int (1 : Int32)), .val (.long lo), .second, .val (.long dd), .second, .val (.long hi), .second, .val (.double (9094988921128908188 : UInt64)), .second, .val (.double (9218868437227405312 : UInt64)), .second, .val (.double vv), .second, .val (.double vv), .second, .val (.double vv), .second, .val (.ref xl), .val (.ref xu), .unset, .unset, .unset] [(.ref xv)]) := A207
    have A209 := A208.go (f' := mkF m 163 #[.val (.int p1), .val (.int p2), .val (.int p3), .val (.int p4), .val (.int (1 : Int32)), .val (.long lo), .second, .val (.long dd), .second, .val (.long hi), .second, .val (.double (9094988921128908188 : UInt64)), .second, .val (.double (9218868437227405312 : UInt64)), .second, .val (.double vv), .second, .val (.double vv), .second, .val (.double vv), .second, .val (.ref xl), .val (.ref xu), .unset, .unset, .unset] [(.ref xv), (.ref xv)]) fun _ _ X _ k => XS.dup X.here hx rfl (hb hby dl1_162) rfl rfl k
    have A210 := A209.go (f' := mkF m 165 #[.val (.int p1), .val (.int p2), .val (.int p3), .val (.int p4), .val (.int (1 : Int32)), .val (.long lo), .second, .val (.long dd), .second, .val (.long hi), .second, .val (.double (9094988921128908188 : UInt64)), .second, .val (.double (9218868437227405312 : UInt64)), .second, .val (.double vv), .second, .val (.double vv), .second, .val (.double vv), .second, .val (.ref xl), .val (.ref xu), .unset, .unset, .unset] [(.ref xl), (.ref xv), (.ref xv)]) fun _ _ X _ k => XS.aload X.here hx rfl (hb hby dl1_163) rfl rfl k
    have A211 := A210.go (f' := mkF m 167 #[.val (.int p1), .val (.int p2), .val (.int p3), .val (.int p4), .val (.int (1 : Int32)), .val (.long lo), .second, .val (.long dd), .second, .val (.long hi), .second, .val (.double (9094988921128908188 : UInt64)), .second, .val (.double (9218868437227405312 : UInt64)), .second, .val (.double vv), .second, .val (.double vv), .second, .val (.double vv), .second, .val (.ref xl), .val (.ref xu), .unset, .unset, .unset] [(.ref xu), (.ref xl), (.ref xv), (.ref xv)]) fun _ _ X _ k => XS.aload X.here hx rfl (hb hby dl1_165) rfl rfl k
    obtain ⟨vA212, hA212, ⟨rfl, KI, F_l, F_u⟩, A212⟩ := A211.callI (b := xv) (own_init l Z a0 hw xv xl xu h205 n0 Z0 E_xv F_xv_lower F_xv_upper g_xv) hx hZ hown (hb hby dl1_167) rfl (hw _ (List.mem_of_getElem? (i := 7) rfl)) (hw _ (List.mem_of_getElem? (i := 8) rfl)) (hw _ (List.mem_of_getElem? (i := 9) rfl)) (hw _ (List.mem_of_getElem? (i := 6) rfl)) ⟨by decide, by decide⟩ (lenOf pd__28_5bD_5bD_29V rfl) (argsL := [(.ref xl), (.ref xu)]) (rest := [(.ref xv)]) rfl rfl (by rw [hml]; rfl) (W := 1) (Nat.le_of_eq rfl) (by decide) (by decide) (by decide) (by decide)
    have V_xl : own_Ar Z hA212 xl .double [(.double (FP.l2d (lo - (7 : Int64)))), (.double vv)] := V_xl.keep KI (ninS ne_xl_xv nin0)
    have V_xu : own_Ar Z hA212 xu .double [(.double (FP.l2d (hi + (100 : Int64)))), (.double vv)] := V_xu.keep KI (ninS ne_xu_xv nin0)
    have E_xv : Exa Z hA212 xv "com/example/robust_model_checker/robustmodelchecker/checker/ValueBounds" := E_xv.keep KI
    have Z0 : n0 ≤ hA212.size := Nat.le_trans Z0 KI.1
    have F_xv_lower := F_l
    have F_xv_upper := F_u
    have A213 : own_R p l e _ _ m _ below meth c S0 n0 hA212 3 6 (mkF m 170 #[.val (.int p1), .val (.int p2), .val (.int p3), .val (.int p4), .val (.int (1 : Int32)), .val (.long lo), .second, .val (.long dd), .second, .val (.long hi), .second, .val (.double (9094988921128908188 : UInt64)), .second, .val (.double (9218868437227405312 : UInt64)), .second, .val (.double vv), .second, .val (.double vv), .second, .val (.double vv), .second, .val (.ref xl), .val (.ref xu), .unset, .unset, .unset] [(.ref xv)]) := A212
    have A214 := A213.go (f' := mkF m 172 #[.val (.int p1), .val (.int p2), .val (.int p3), .val (.int p4), .val (.int (1 : Int32)), .val (.long lo), .second, .val (.long dd), .second, .val (.long hi), .second, .val (.double (9094988921128908188 : UInt64)), .second, .val (.double (9218868437227405312 : UInt64)), .second, .val (.double vv), .second, .val (.double vv), .second, .val (.double vv), .second, .val (.ref xl), .val (.ref xu), .val (.ref xv), .unset, .unset] []) fun _ _ X _ k => XS.astore X.here hx rfl (hb hby dl1_170) rfl rfl (l' := #[.val (.int p1), .val (.int p2), .val (.int p3), .val (.int p4), .val (.int (1 : Int32)), .val (.long lo), .second, .val (.long dd), .second, .val (.long hi), .second, .val (.double (9094988921128908188 : UInt64)), .second, .val (.double (9218868437227405312 : UInt64)), .second, .val (.double vv), .second, .val (.double vv), .second, .val (.double vv), .second, .val (.ref xl), .val (.ref xu), .val (.ref xv), .unset, .unset]) rfl k
    have A215 := A214.go (f' := mkF m 174 #[.val (.int p1), .val (.int p2), .val (.int p3), .val (.int p4), .val (.int (1 : Int32)), .val (.long lo), .second, .val (.long dd), .second, .val (.long hi), .second, .val (.double (9094988921128908188 : UInt64)), .second, .val (.double (9218868437227405312 : UInt64)), .second, .val (.double vv), .second, .val (.double vv), .second, .val (.double vv), .second, .val (.ref xl), .val (.ref xu), .val (.ref xv), .unset, .unset] [(.ref xv)]) fun _ _ X _ k => XS.aload X.here hx rfl (hb hby dl1_172) rfl rfl k
    have A216 := A215.go (f' := mkF m 176 #[.val (.int p1), .val (.int p2), .val (.int p3), .val (.int p4), .val (.int (1 : Int32)), .val (.long lo), .second, .val (.long dd), .second, .val (.long hi), .second, .val (.double (9094988921128908188 : UInt64)), .second, .val (.double (9218868437227405312 : UInt64)), .second, .val (.double vv), .second, .val (.double vv), .second, .val (.double vv), .second, .val (.ref xl), .val (.ref xu), .val (.ref xv), .unset, .unset] [(.int (1 : Int32)), (.ref xv)]) fun _ _ X _ k => XS.iload X.here hx rfl (hb hby dl1_174) rfl k
    have hc0 : cmpValue (FP.dcmp vv vv) .l = (0 : Int32) := dcmpV_self hnv .l
    obtain ⟨vA217, hA217, ⟨rfl, rfl⟩, A217⟩ := A216.callV (b := xv) (own_value1Eq l Z a0 hw xv xl xu (1 : Int32) (FP.l2d (lo - (7 : Int64))) vv (FP.l2d (hi + (100 : Int64))) vv hA212 n0 Z0 F_xv_lower F_xv_upper V_xl V_xu rfl hc0) E_xv hx hZ hown (hb hby dl1_176) (hw _ (List.mem_of_getElem? (i := 17) rfl)) (hw _ (List.mem_of_getElem? (i := 18) rfl)) (hw _ (List.mem_of_getElem? (i := 20) rfl)) (hw _ (List.mem_of_getElem? (i := 19) rfl)) (hw _ (List.mem_of_getElem? (i := 21) rfl)) (hw _ (List.mem_of_getElem? (i := 6) rfl)) (fun _ q => notFace_of_selects (args := #[]) (mvT q (hw _ (List.mem_of_getElem? (i := 20) rfl)))) ⟨by decide, by decide⟩ (lenOf pd__28I_29D rfl) (argsL := [(.int (1 : Int32))]) (rest := []) rfl rfl (by rw [hml]; rfl) (W := 0) (Nat.le_of_eq rfl) (by decide) (by decide) (by decide) (by decide)
    have A218 : own_R p l e _ _ m _ below meth c S0 n0 hA212 3 6 (mkF m 179 #[.val (.int p1), .val (.int p2), .val (.int p3), .val (.int p4), .val (.int (1 : Int32)), .val (.long lo), .second, .val (.long dd), .second, .val (.long hi), .second, .val (.double (9094988921128908188 : UInt64)), .second, .val (.double (9218868437227405312 : UInt64)), .second, .val (.double vv), .second, .val (.double vv), .second, .val (.double vv), .second, .val (.ref xl), .val (.ref xu), .val (.ref xv), .unset, .unset] [(.double vv)]) := A217
    have A219 := A218.go (f' := mkF m 181 #[.val (.int p1), .val (.int p2), .val (.int p3), .val (.int p4), .val (.int (1 : Int32)), .val (.long lo), .second, .val (.long dd), .second, .val (.long hi), .second, .val (.double (9094988921128908188 : UInt64)), .second, .val (.double (9218868437227405312 : UInt64)), .second, .val (.double vv), .second, .val (.double vv), .second, .val (.double vv), .second, .val (.ref xl), .val (.ref xu), .val (.ref xv), .val (.double vv), .second] []) fun _ _ X _ k => XS.dstore X.here hx rfl (hb hby dl1_179) rfl (l' := #[.val (.int p1), .val (.int p2), .val (.int p3), .val (.int p4), .val (.int (1 : Int32)), .val (.long lo), .second, .val (.long dd), .second, .val (.long hi), .second, .val (.double (9094988921128908188 : UInt64)), .second, .val (.double (9218868437227405312 : UInt64)), .second, .val (.double vv), .second, .val (.double vv), .second, .val (.double vv), .second, .val (.ref xl), .val (.ref xu), .val (.ref xv), .val (.double vv), .second]) rfl k
    have A220 := A219.go (f' := mkF m 183 #[.val (.int p1), .val (.int p2), .val (.int p3), .val (.int p4), .val (.int (1 : Int32)), .val (.long lo), .second, .val (.long dd), .second, .val (.long hi), .second, .val (.double (9094988921128908188 : UInt64)), .second, .val (.double (9218868437227405312 : UInt64)), .second, .val (.double vv), .second, .val (.double vv), .second, .val (.double vv), .second, .val (.ref xl), .val (.ref xu), .val (.ref xv), .val (.double vv), .second] [(.double vv)]) fun _ _ X _ k => XS.dload X.here hx rfl (hb hby dl1_181) rfl k
    have A221 := A220.go (f' := mkF m 185 #[.val (.int p1), .val (.int p2), .val (.int p3), .val (.int p4), .val (.int (1 : Int32)), .val (.long lo), .second, .val (.long dd), .second, .val (.long hi), .second, .val (.double (9094988921128908188 : UInt64)), .second, .val (.double (9218868437227405312 : UInt64)), .second, .val (.double vv), .second, .val (.double vv), .second, .val (.double vv), .second, .val (.ref xl), .val (.ref xu), .val (.ref xv), .val (.double vv), .second] [(.double vv), (.double vv)]) fun _ _ X _ k => XS.dload X.here hx rfl (hb hby dl1_183) rfl k
    have A222 := A221.go (f' := mkF m 186 #[.val (.int p1), .val (.int p2), .val (.int p3), .val (.int p4), .val (.int (1 : Int32)), .val (.long lo), .second, .val (.long dd), .second, .val (.long hi), .second, .val (.double (9094988921128908188 : UInt64)), .second, .val (.double (9218868437227405312 : UInt64)), .second, .val (.double vv), .second, .val (.double vv), .second, .val (.double vv), .second, .val (.ref xl), .val (.ref xu), .val (.ref xv), .val (.double vv), .second] [(.int (cmpValue (FP.dcmp vv vv) .l))]) fun _ _ X _ k => XS.dcmpS X.here hx rfl (hb hby dl1_185) rfl rfl k
    have q223 : ((cmpValue (FP.dcmp vv vv) .l) = (0 : Int32)) := dcmpV_self hnv .l
    have A224 := A222.go (f' := mkF m 189 #[.val (.int p1), .val (.int p2), .val (.int p3), .val (.int p4), .val (.int (1 : Int32)), .val (.long lo), .second, .val (.long dd), .second, .val (.long hi), .second, .val (.double (9094988921128908188 : UInt64)), .second, .val (.double (9218868437227405312 : UInt64)), .second, .val (.double vv), .second, .val (.double vv), .second, .val (.double vv), .second, .val (.ref xl), .val (.ref xu), .val (.ref xv), .val (.double vv), .second] []) fun _ _ X _ k => XS.ifNo X.here hx rfl (hb hby dl1_186) rfl ((if0 _ _).trans (teq q223).2) k
    have A225 := A224.go (f' := mkF m 190 #[.val (.int p1), .val (.int p2), .val (.int p3), .val (.int p4), .val (.int (1 : Int32)), .val (.long lo), .second, .val (.long dd), .second, .val (.long hi), .second, .val (.double (9094988921128908188 : UInt64)), .second, .val (.double (9218868437227405312 : UInt64)), .second, .val (.double vv), .second, .val (.double vv), .second, .val (.double vv), .second, .val (.ref xl), .val (.ref xu), .val (.ref xv), .val (.double vv), .second] [(.int (1 : Int32))]) fun _ _ X _ k => XS.iconst X.here hx rfl (hb hby dl1_189) k
    have A226 := A225.go (f' := mkF m 194 #[.val (.int p1), .val (.int p2), .val (.int p3), .val (.int p4), .val (.int (1 : Int32)), .val (.long lo), .second, .val (.long dd), .second, .val (.long hi), .second, .val (.double (9094988921128908188 : UInt64)), .second, .val (.double (9218868437227405312 : UInt64)), .second, .val (.double vv), .second, .val (.double vv), .second, .val (.double vv), .second, .val (.ref xl), .val (.ref xu), .val (.ref xv), .val (.double vv), .second] [(.int (1 : Int32))]) fun _ _ X _ k => XS.goto X.here hx rfl (pc0 := 190) (pc' := 194) rfl (hb hby dl1_190) (by decide) (by decide) k
    exact A226.ret hx hlk hret (hb hby dl1_194) rfl (Or.inl ⟨rfl, by simp, _, rfl⟩) (by decide) (by decide) ⟨rfl, trivial⟩
theorem own_m1 (x : Int32) : (x &&& (1 : Int32)) = 0 ∨ (x &&& (1 : Int32)) = 1 := by
  have e := Jvm.Kit.i32_mask x 1 (k := 1) (by decide) (by decide)
  have c0 : (0 : Int32).toInt = 0 := by decide
  have c1 : (1 : Int32).toInt = 1 := by decide
  simp only [← Int32.toInt_inj, c0, c1, e]
  omega
theorem own_law (l : Launch) (Z : State) (a0 : Array Value) (hw : ∀ d ∈ tables_1, d.before a0 Z = true) (p1 p2 p3 p4 : Int32) (h0 : Heap) (n0 : Nat) (Z0 : n0 ≤ h0.size) :
    own_M l Z x code maxLocals ret tables_1 room_1 #[(.int p1), (.int p2), (.int p3), (.int p4)] h0 n0 (fun v h => v = some (.int 1) ∧ True) := by
  rcases own_m1 p3 with h | h
  · exact own_law0 l Z a0 hw p1 p2 p3 p4 h0 n0 Z0 h
  · exact own_law1 l Z a0 hw p1 p2 p3 p4 h0 n0 Z0 h
set_option maxRecDepth 65536 in
set_option maxHeartbeats 40000000 in
theorem comes_1 {Post : Tables → Env → Array Value → State → Outcome → State → Prop} (hpost : ∀ tb e args s v u, (limb_1_1.after args s (.returned v) u = true ∧ limb_1_2.after args s (.returned v) u = true ∧ True) → FrameEnd s (.returned v) u (Jvm.fieldLocs frame_1_writes args s ++ Jvm.arrayLocs frame_1_arrays args s ++ Jvm.staticLocs frame_1_statics s) 16 128 → Post tb e args s (.returned v) u) :
    ArmFor flags0 classFile x code maxLocals ret World_1 tables_1 room_1 Calls_1 rest_1 Pre_1 Post := by
  intro l hfl _ _ p e ha hc hk s m args below hf hA hF happ hP
  obtain ⟨hcalls, hrest, hpre⟩ := hP
  obtain ⟨-, -, -, hnamed, -, -, -, hat⟩ := (Spec.applies_iff hf).mp happ
  obtain ⟨hg, hn⟩ := and_e (Cond.before_iff.mp (show (Jvm.Cond.and given_1 narrow_1).before args s = true from hpre))
  obtain ⟨h1, g0⟩ := and_e hg
  obtain ⟨w0, w1, w2, w3, rfl⟩ : ∃ w0 w1 w2 w3 : Value, args = #[w0, w1, w2, w3] := by
    have hs : args.size = 4 := by simpa [Cond.value, given_1] using h1
    obtain ⟨L⟩ := args
    match L, hs with
    | [w0, w1, w2, w3], _ => exact ⟨w0, w1, w2, w3, rfl⟩
  have hw := fun d (hd : d ∈ tables_1) => atoms_spec (ws := Jvm.Cond.code x code maxLocals ret :: tables_1) hat d (List.mem_cons_of_mem _ hd)
  have hfit : Fit s := fun {y c} hc i hi => by
    obtain ⟨ha, rfl⟩ := Array.getElem?_eq_some_iff.mp hc
    have q := List.all_eq_true.mp ((Array.all_eq_true_iff_forall_mem.mp hF) _ (Array.getElem_mem ha)) i (List.mem_range.mpr hi)
    simpa [Array.getElem?_eq_getElem hi] using q
  obtain ⟨k0, g1⟩ := and_e g0
  obtain ⟨i0, e0⟩ := is_v k0
  obtain rfl : w0 = (.int i0) := Option.some.inj e0
  obtain ⟨k1, g2⟩ := and_e g1
  obtain ⟨i1, e1⟩ := is_v k1
  obtain rfl : w1 = (.int i1) := Option.some.inj e1
  obtain ⟨k2, g3⟩ := and_e g2
  obtain ⟨i2, e2⟩ := is_v k2
  obtain rfl : w2 = (.int i2) := Option.some.inj e2
  obtain ⟨i3, e3⟩ := is_v g3
  obtain rfl : w3 = (.int i3) := Option.some.inj e3
  obtain ⟨n, o, h1, h2, h3, _, L, rfl, ⟨⟨rfl, -⟩, N⟩, hq⟩ := (own_law l s _ hw i0 i1 i2 i3 s.heap s.heap.size (Nat.le_refl _)) p e ha hc hk s m _ below hf ((Spec.applies_iff_loose hf).mp happ).1 ⟨rfl, State.Warmed39.refl s, rfl⟩ trivial
  refine ⟨n, _, h1, h2, h3, hpost _ _ _ _ _ _ ⟨Cond.after_iff.mpr rfl, Cond.after_iff.mpr (eq_i res_at (Term.int_eval (1)) rfl), trivial⟩ ⟨hq.1, hq.2.1, (hq.2.2.sift fun y hy => Or.inr (N y hy)).mono (by decide) (by decide)⟩⟩
theorem main_1_1 : Claimed_1_1 := comes_1 fun _ _ _ _ _ _ h hF => ⟨h.1, hF⟩
theorem main_1_2 : Claimed_1_2 := comes_1 fun _ _ _ _ _ _ h hF => ⟨h.2.1, hF⟩
end Jvm.Pilot.@@N@@
namespace Jvm.Pilot.@@N@@
open Jvm Jvm.ClassFile Sem Op Lib Jvm.Free Jvm.Stand Jvm.Pilot.@@N@@.Jvm.D
/-! MADE BY PROGRAM (witnessworld.py) out of the Statement's table words and the real class files: 11 classes; the members and pool entries that the words name. The judged class is class 1, her method 1. -/
namespace start1
open Jvm.ClassFile
def u (s : String) : CpInfo := .utf8 (stringToUtf16 s)
/-- a pool by its gaps: so many unusable entries, then the entry; so many at the end -/
def gap : Nat → List CpInfo → List CpInfo
  | 0, r => r
  | n + 1, r => .unusable :: gap n r
def poolList (es : List (Nat × CpInfo)) (last : Nat) : List CpInfo := es.foldr (fun e r => gap e.1 (e.2 :: r)) (gap last [])
def pool (es : List (Nat × CpInfo)) (last : Nat) : Array CpInfo := ⟨poolList es last⟩
def fileOf (pool : Array CpInfo) (this : Nat) (attrs : Array Attribute := #[]) (ms : Array MethodInfo := #[]) (fl : Nat := 33) (sup : Nat := 0) (ifs : Array Nat := #[]) (fds : Array FieldInfo := #[]) : ClassFile where
  minorVersion := 0
  majorVersion := 65
  constantPool := pool
  accessFlags := fl
  thisClass := this
  superClass := sup
  interfaces := ifs
  fields := fds
  methods := ms
  attributes := attrs
def plain (name : String) (sup : Option ClassId) : Class where
  name := name
  kind := .ordinary
  loader := none
  accessFlags := 33
  super := sup
  interfaces := #[]
  cf := none
  fields := #[]
  methods := #[]
  instanceTypes := #[]
  staticTypes := #[]
  resolved := #[]
  callSites := []
  init := .initialized
  statics := none
  mirror := none

def pool0 : Array CpInfo := pool [(5, u "<init>"), (0, u "()V"), (1, .class_ 10), (1, u "java/lang/Object")] 113

def k0c0 : Code := { maxStack := 0, maxLocals := 1, code := object_method_1_code, exceptionTable := #[], attributes := #[] }
def k0m0 : Method := { name := "<init>", desc := "()V", sig := { parameters := [], returnType := none }, accessFlags := 1, code := some k0c0 }
/-- java/lang/Object -/
def k0 : Class := { plain "java/lang/Object" none with
  accessFlags := 33
  interfaces := #[]
  cf := some (fileOf pool0 8 #[] #[{ accessFlags := 1, nameIndex := 5, descriptorIndex := 6, attributes := #[] }] 33 0 #[] #[])
  fields := #[]
  methods := #[k0m0]
  instanceTypes := #[]
  staticTypes := #[]
  resolved := Array.replicate 124 none
  statics := none }

def pool1 : Array CpInfo := pool [(2, .class_ 4), (1, u "java/lang/Object"), (0, u "<init>"), (0, u "()V"), (0, .integer 2147483647), (0, .double 9094988921128908188), (1, .double 4602678819172646912), (1, .long 7), (1, .long 100), (1, .class_ 17), (0, u "com/example/robust_model_checker/robustmodelchecker/checker/ValueBounds"), (0, .methodref 16 19), (0, .nameAndType 5 20), (0, u "([D[D)V"), (0, .methodref 16 22), (0, .nameAndType 23 24), (0, u "value"), (0, u "(I)D"), (0, .class_ 26), (0, u "com/example/robust_model_checker/robustmodelchecker/checker/ValueBoundsValuePinLaw"), (2, u "law"), (0, u "(IIII)Z")] 5

def k1m0 : Method := { name := "<init>", desc := "()V", sig := { parameters := [], returnType := none }, accessFlags := 1, code := none }
def k1c1 : Code := { maxStack := 6, maxLocals := 26, code := code, exceptionTable := #[], attributes := #[] }
def k1m1 : Method := { name := "law", desc := "(IIII)Z", sig := { parameters := [.int, .int, .int, .int], returnType := some .boolean }, accessFlags := 9, code := some k1c1 }
/-- com/example/robust_model_checker/robustmodelchecker/checker/ValueBoundsValuePinLaw -/
def k1 : Class := { plain "com/example/robust_model_checker/robustmodelchecker/checker/ValueBoundsValuePinLaw" (some 0) with
  accessFlags := 49
  interfaces := #[]
  cf := some (fileOf pool1 25 #[] #[{ accessFlags := 1, nameIndex := 5, descriptorIndex := 6, attributes := #[] }, { accessFlags := 9, nameIndex := 29, descriptorIndex := 30, attributes := #[] }] 49 2 #[] #[])
  fields := #[]
  methods := #[k1m0, k1m1]
  instanceTypes := #[]
  staticTypes := #[]
  resolved := Array.replicate 36 none
  statics := none }

def pool2 : Array CpInfo := pool [(1, .methodref 2 3), (0, .class_ 4), (0, .nameAndType 5 6), (0, u "java/lang/Object"), (0, u "<init>"), (0, u "()V"), (0, .fieldref 8 9), (0, .class_ 10), (0, .nameAndType 11 12), (0, u "com/example/robust_model_checker/robustmodelchecker/checker/ValueBounds"), (0, u "lower"), (0, u "[D"), (0, .fieldref 8 14), (0, .nameAndType 15 12), (0, u "upper"), (0, .double 4611686018427387904), (3, u "value"), (0, u "(I)D"), (5, u "Ljava/math/BigDecimal;"), (25, u "HALF"), (11, u "ERROR_BOUND_DIGITS"), (0, u "Ljava/math/MathContext;"), (58, u "([D[D)V")] 16

def k2c0 : Code := { maxStack := 2, maxLocals := 3, code := prog_29_method_1_code, exceptionTable := #[], attributes := #[] }
def k2m0 : Method := { name := "<init>", desc := "([D[D)V", sig := { parameters := [(.array .double), (.array .double)], returnType := none }, accessFlags := 0, code := some k2c0 }
def k2c1 : Code := { maxStack := 6, maxLocals := 2, code := prog_29_method_2_code, exceptionTable := #[], attributes := #[] }
def k2m1 : Method := { name := "value", desc := "(I)D", sig := { parameters := [.int], returnType := some .double }, accessFlags := 0, code := some k2c1 }
/-- com/example/robust_model_checker/robustmodelchecker/checker/ValueBounds -/
def k2 : Class := { plain "com/example/robust_model_checker/robustmodelchecker/checker/ValueBounds" (some 0) with
  accessFlags := 48
  interfaces := #[]
  cf := some (fileOf pool2 8 #[] #[{ accessFlags := 0, nameIndex := 5, descriptorIndex := 125, attributes := #[] }, { accessFlags := 0, nameIndex := 20, descriptorIndex := 21, attributes := #[] }] 48 2 #[] #[{ accessFlags := 26, nameIndex := 65, descriptorIndex := 66, attributes := #[] }, { accessFlags := 26, nameIndex := 53, descriptorIndex := 27, attributes := #[] }, { accessFlags := 16, nameIndex := 11, descriptorIndex := 12, attributes := #[] }, { accessFlags := 16, nameIndex := 15, descriptorIndex := 12, attributes := #[] }])
  fields := #[{ name := "ERROR_BOUND_DIGITS", type := (.object "java/math/MathContext"), accessFlags := 26, slot := 0, constantValue := 0 }, { name := "HALF", type := (.object "java/math/BigDecimal"), accessFlags := 26, slot := 1, constantValue := 0 }, { name := "lower", type := (.array .double), accessFlags := 16, slot := 0, constantValue := 0 }, { name := "upper", type := (.array .double), accessFlags := 16, slot := 1, constantValue := 0 }]
  methods := #[k2m0, k2m1]
  instanceTypes := #[(.array .double), (.array .double)]
  staticTypes := #[(.object "java/math/MathContext"), (.object "java/math/BigDecimal")]
  resolved := Array.replicate 142 none
  statics := none }

def pool3 : Array CpInfo := pool [(1, u "java/lang/Cloneable"), (0, .class_ 1), (0, u "java/lang/Object"), (0, .class_ 3)] 3

/-- java/lang/Cloneable -/
def k3 : Class := { plain "java/lang/Cloneable" (some 0) with
  accessFlags := 1537
  interfaces := #[]
  cf := some (fileOf pool3 2 #[] #[] 1537 4 #[] #[])
  fields := #[]
  methods := #[]
  instanceTypes := #[]
  staticTypes := #[]
  resolved := Array.replicate 8 none
  statics := none }

def pool4 : Array CpInfo := pool [(1, u "java/io/Serializable"), (0, .class_ 1), (0, u "java/lang/Object"), (0, .class_ 3)] 3

/-- java/io/Serializable -/
def k4 : Class := { plain "java/io/Serializable" (some 0) with
  accessFlags := 1537
  interfaces := #[]
  cf := some (fileOf pool4 2 #[] #[] 1537 4 #[] #[])
  fields := #[]
  methods := #[]
  instanceTypes := #[]
  staticTypes := #[]
  resolved := Array.replicate 8 none
  statics := none }

/-- the primitive byte -/
def k5 : Class := { plain "byte" none with kind := .primitive 'B', accessFlags := 0x411 }
/-- [B -/
def k6 : Class := { plain "[B" (some 0) with kind := .array 5 .byte, interfaces := #[3, 4], accessFlags := 1041 }

/-- the primitive double -/
def k7 : Class := { plain "double" none with kind := .primitive 'D', accessFlags := 0x411 }
/-- [D -/
def k8 : Class := { plain "[D" (some 0) with kind := .array 7 .double, interfaces := #[3, 4], accessFlags := 1041 }

/-- the primitive int -/
def k9 : Class := { plain "int" none with kind := .primitive 'I', accessFlags := 0x411 }
/-- [I -/
def k10 : Class := { plain "[I" (some 0) with kind := .array 9 .int, interfaces := #[3, 4], accessFlags := 1041 }

def heap : Heap := #[]
def classes : Array Class := #[k0, k1, k2, k3, k4, k5, k6, k7, k8, k9, k10]
def interned : List (Array UInt16 × Addr) := []
def slotsUsed : Nat := 0
def theMethod : MethodId := ⟨1, 1⟩
def args0 : Array Value := #[.int 1, .int 2, .int 3, .int 4]
def aboutOver (below : List Frame) : State where
  vm := { classes := classes, interned := interned.toArray }
  heap := heap
  slotsUsed := slotsUsed
  threads := #[{ frames := .invoking theMethod args0 :: below }]
def below0 : List Frame := [.native { method := ⟨0, 0⟩, args := #[] }]
def about1 : State := aboutOver below0
def p0 : Program := .bare "" "" ""
def e0 : Env := launch0.env 0 0 0
theorem w_frames : about1.frames = Frame.invoking theMethod args0 :: below0 := rfl
set_option maxRecDepth 65536 in
theorem w_args : argsFit about1.vm theMethod args0 = true := by decide +kernel
set_option maxRecDepth 65536 in
theorem w_heap : heapFits about1 = true := by decide +kernel
set_option maxRecDepth 65536 in
theorem w_runnable : about1.curStatus? = some .runnable := by decide +kernel
set_option maxRecDepth 65536 in
theorem w_alone : about1.alone = true := by decide +kernel
set_option maxRecDepth 65536 in
theorem w_named : about1.methodNamed? x = some theMethod := by decide +kernel
set_option maxRecDepth 65536 in
theorem w_hears : about1.hears theMethod below0 = true := by decide +kernel
set_option maxRecDepth 65536 in
theorem w_ripe : about1.ripe theMethod args0 below0 = true := by decide +kernel
theorem w_running : about1.status = .running := rfl
set_option maxRecDepth 65536 in
theorem w_room : about1.hasRoom e0.platform room_1 = true :=
  launch0.hasRoom_least _ room_1 (by decide +kernel) (by decide +kernel) (by decide +kernel) (by decide +kernel) (by decide +kernel) (by decide +kernel)
theorem allAtoms_all (ts : List Jvm.Cond) (a : Array Jvm.Value) (st : Jvm.State) : (allAtoms ts).before a st = ts.all (fun c => c.before a st) := by
  induction ts with
  | nil => rfl
  | cons c t ih =>
    show (Jvm.Cond.and c (allAtoms t)).before a st = _
    rw [Jvm.Cond.before_and, ih, List.all_cons]
def words1 : List Jvm.Cond := Jvm.Cond.code x code maxLocals ret :: tables_1
/-- a 'code' word, met by the world's own term for the bytes: nothing is compared byte by byte -/
theorem code_word {y : MethodName} {bytes : ByteArray} {mx : Nat} {rt : Option FieldType} {a : Array Value} {s : State} {m : MethodId} {meth : Method} {c : Code} (h1 : s.methodNamed? y = some m) (h2 : s.vm.method? m = some meth) (h3 : meth.code = some c) (h4 : c.code = bytes)
    (h5 : (c.maxLocals == mx && c.exceptionTable.isEmpty && decide (c.maxStack ≤ mostOperands) && decide (meth.sig.returnType = rt) && !meth.locks && decide (parseMethodDescriptor y.desc = some meth.sig)) = true) : (Jvm.Cond.code y bytes mx rt).before a s = true := by
  simp only [Bool.and_eq_true, beq_iff_eq, Bool.not_eq_true', decide_eq_true_eq] at h5
  obtain ⟨⟨⟨⟨⟨g1, g2⟩, g3⟩, g4⟩, g5⟩, g6⟩ := h5
  simp [Cond.before, Cond.holds, Cond.value, h1, h2, h3, h4, g1, g2, g3, g4, g5, g6]
def isCode : Jvm.Cond → Bool
  | .code _ _ _ _ => true
  | _ => false
theorem all_split {L : List Jvm.Cond} {P : Jvm.Cond → Bool} (h1 : L.all (fun c => isCode c || P c) = true) (h2 : ∀ c ∈ L.filter isCode, P c = true) : L.all P = true := by
  refine List.all_eq_true.mpr fun c hc => ?_
  have h := List.all_eq_true.mp h1 c hc
  rcases Bool.eq_false_or_eq_true (isCode c) with hi | hi
  · exact h2 c (List.mem_filter.mpr ⟨hc, hi⟩)
  · simpa [hi] using h
set_option maxRecDepth 65536 in
theorem w_c0 : (Jvm.Cond.code x code maxLocals ret).before args0 about1 = true := code_word (m := ⟨1, 1⟩) (meth := k1m1) (c := k1c1) (by decide +kernel) rfl rfl rfl (by decide +kernel)
set_option maxRecDepth 65536 in
theorem w_c1 : (Jvm.Cond.code ({ cls := "com/example/robust_model_checker/robustmodelchecker/checker/ValueBounds", name := "<init>", desc := "([D[D)V" } : Jvm.MethodName) prog_29_method_1_code (3 : Nat) (Option.none : Option Jvm.ClassFile.FieldType)).before args0 about1 = true := code_word (m := ⟨2, 0⟩) (meth := k2m0) (c := k2c0) (by decide +kernel) rfl rfl rfl (by decide +kernel)
set_option maxRecDepth 65536 in
theorem w_c2 : (Jvm.Cond.code ({ cls := "java/lang/Object", name := "<init>", desc := "()V" } : Jvm.MethodName) object_method_1_code (1 : Nat) (Option.none : Option Jvm.ClassFile.FieldType)).before args0 about1 = true := code_word (m := ⟨0, 0⟩) (meth := k0m0) (c := k0c0) (by decide +kernel) rfl rfl rfl (by decide +kernel)
set_option maxRecDepth 65536 in
theorem w_c3 : (Jvm.Cond.code ({ cls := "com/example/robust_model_checker/robustmodelchecker/checker/ValueBounds", name := "value", desc := "(I)D" } : Jvm.MethodName) prog_29_method_2_code (2 : Nat) (Option.some Jvm.ClassFile.FieldType.double)).before args0 about1 = true := code_word (m := ⟨2, 1⟩) (meth := k2m1) (c := k2c1) (by decide +kernel) rfl rfl rfl (by decide +kernel)
def codes1 : List Jvm.Cond := [Jvm.Cond.code x code maxLocals ret, Jvm.Cond.code ({ cls := "com/example/robust_model_checker/robustmodelchecker/checker/ValueBounds", name := "<init>", desc := "([D[D)V" } : Jvm.MethodName) prog_29_method_1_code (3 : Nat) (Option.none : Option Jvm.ClassFile.FieldType), Jvm.Cond.code ({ cls := "java/lang/Object", name := "<init>", desc := "()V" } : Jvm.MethodName) object_method_1_code (1 : Nat) (Option.none : Option Jvm.ClassFile.FieldType), Jvm.Cond.code ({ cls := "com/example/robust_model_checker/robustmodelchecker/checker/ValueBounds", name := "value", desc := "(I)D" } : Jvm.MethodName) prog_29_method_2_code (2 : Nat) (Option.some Jvm.ClassFile.FieldType.double)]
set_option maxRecDepth 65536 in
theorem codes_eq : words1.filter isCode = codes1 := rfl
theorem w_codes : ∀ c ∈ words1.filter isCode, c.before args0 about1 = true := by
  rw [codes_eq]
  intro c hc
  simp only [codes1, List.mem_cons, List.not_mem_nil, or_false] at hc
  rcases hc with rfl | rfl | rfl | rfl
  · exact w_c0
  · exact w_c1
  · exact w_c2
  · exact w_c3
set_option maxRecDepth 65536 in
theorem w_t1 : (words1.take 24).all (fun c => isCode c || c.before args0 about1) = true := by decide +kernel
set_option maxRecDepth 65536 in
theorem w_t2 : (words1.drop 24).all (fun c => isCode c || c.before args0 about1) = true := by decide +kernel
theorem w_tables : (allAtoms (Jvm.Cond.code x code maxLocals ret :: tables_1)).before args0 about1 = true := by
  rw [allAtoms_all]
  show words1.all (fun c => c.before args0 about1) = true
  refine all_split ?_ w_codes
  rw [← List.take_append_drop 24 words1, List.all_append, w_t1, w_t2]
  rfl
set_option maxRecDepth 65536 in
theorem w_case : (Jvm.Cond.and given_1 narrow_1).before args0 about1 = true := by decide +kernel
theorem w_applies : (headSpec (Jvm.Cond.code x code maxLocals ret :: tables_1) room_1).applies x e0.platform about1 = true :=
  (Spec.applies_iff w_frames).mpr ⟨w_running, w_runnable, w_alone, w_named, w_hears, w_ripe, w_room, w_tables⟩
theorem atStart : AtStart classFile x code maxLocals ret World_1 tables_1 room_1 Calls_1 rest_1 Pre_1 launch0 p0 e0 about1 theMethod args0 below0 :=
  ⟨lists_1, trivial, launch0.admits_env _ _ _, launch0.least_env, fairChoices_fair.cas, fairChoices_fair.clock, w_frames, w_args, w_heap, w_applies, trivial, trivial, w_case⟩
end start1
theorem witness_1 : WitnessClaimed_1 := ⟨start1.p0, start1.e0, start1.about1, start1.theMethod, start1.args0, start1.below0, start1.atStart⟩
end Jvm.Pilot.@@N@@
