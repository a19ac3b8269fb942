import JvmDerived
import JvmDerived.Pilot.@@N@@Statement
import JvmDerived.Pilot.@@N@@Code
set_option linter.unusedVariables false
set_option linter.unusedSimpArgs false
@@BLOCK:NumsL.lean.txt@@
namespace Jvm.Pilot.@@N@@
open Jvm Jvm.ClassFile Sem Op Lib Jvm.Free Jvm.Stand Jvm.LawKit Jvm.RoadKit Bundle Jvm.Pilot.@@N@@.Jvm.D

section Own
variable {p : Program} {l : Launch} {e : Env} {R : Room} {s : State} {m : MethodId} {args : Array Value} {below : List Frame} {meth : Method} {c : Code} {S0 : State} {n0 : Nat} {h h' : Heap} {ce sl ce' sl' : Nat} {f f' : JFrame} {Z : State} {a0 : Array Value}
/-- the walk stands at the frame f over the heap h; it has made ce cells and sl slots; what it wrote lies at or above n0 -/
def own_R (p : Program) (l : Launch) (e : Env) (R : Room) (s : State) (m : MethodId) (args : Array Value) (below : List Frame) (meth : Method) (c : Code) (S0 : State) (n0 : Nat) (h : Heap) (ce sl : Nat) (f : JFrame) : Prop :=
  ∃ T L, Stand p l e R s m args below meth c T L ce sl ∧ T.heap = h ∧ Fr n0 L ∧ Steps p.tables e below S0 (T.setTop f)
/-- the walk has returned, and Q holds of what it returned and of the heap -/
def own_E (p : Program) (e : Env) (R : Room) (s : State) (below : List Frame) (S0 : State) (n0 : Nat) (Q : Option Value → Heap → Prop) : Prop :=
  ∃ s₂ v L, Steps p.tables e below S0 s₂ ∧ s₂.status = .running ∧ Ended s₂ below (.returned v) ∧ (Q v s₂.heap ∧ Fr n0 L) ∧ FrameEnd s (.returned v) s₂ L R.cells R.slots
/-- a body's contract -/
def own_M (l : Launch) (Z : State) (y : MethodName) (bytes : ByteArray) (maxL : Nat) (ret : Option FieldType) (ws : List Cond) (rm : Room) (as : Array Value) (h0 : Heap) (n0 : Nat) (Q : Option Value → Heap → Prop) : Prop :=
  MetFree l y (head1 (Cond.code y bytes maxL ret :: ws) rm) (fun a U => a = as ∧ Z.Warmed39 U.vm ∧ U.heap = h0) (fun _ _ _ _ _ => True) (fun _ U o U' => ∃ v L, o = .returned v ∧ (Q v U'.heap ∧ Fr n0 L) ∧ FrameEnd U o U' L rm.cells rm.slots)
theorem own_M.of {y : MethodName} {bytes : ByteArray} {maxL : Nat} {ret : Option FieldType} {ws : List Cond} {rm : Room} {as : Array Value} {h0 : Heap} {Q : Option Value → Heap → Prop} (pn : plainFor y = true)
    (body : ∀ (p : Program) (e : Env) (s : State) (m : MethodId) (below : List Frame) (meth : Method) (c : Code) (S0 : State), p.tables.exec = Jvm.exec → c.code = bytes → c.maxLocals = maxL → s.vm.findClass y.cls = some m.cls → meth.name = y.name → meth.sig.returnType = ret → meth.locks = false → Z.Warmed39 s.vm →
      own_R p l e rm s m as below meth c S0 n0 h0 0 0 (entryFrame m as maxL) → own_E p e rm s below S0 n0 Q) :
    own_M l Z y bytes maxL ret ws rm as h0 n0 Q := by
  refine MetFree.of_bodySF pn hisR ?_
  intro p e s m args below meth c s₁ Bd hml0 hP hK
  obtain ⟨rfl, hZ, hh⟩ := hP
  have e0 : s₁.heap = h0 := by rw [← hh, Bd.state]; rfl
  obtain ⟨s₂, v, L, k, hrun, hend, hq, hF⟩ := body p e s m below meth c _ Bd.exec Bd.bytes hml0 (findClass_of_methodNamed Bd.named) (name_of_methodNamed Bd.named Bd.method).1 Bd.returns Bd.notSynchronized hZ ⟨s₁, [], Stand.of_body Bd, e0, Fr.nil n0, Steps.refl _⟩
  exact ⟨s₂, _, k, hrun, hend, v, L, rfl, hq, hF⟩
theorem own_R.cast (A : own_R p l e R s m args below meth c S0 n0 h ce sl f) (q : f = f') : own_R p l e R s m args below meth c S0 n0 h ce sl f' := q ▸ A
theorem own_R.go (A : own_R p l e R s m args below meth c S0 n0 h ce sl f)
    (st : ∀ T L, Stand p l e R s m args below meth c T L ce sl → ∀ target, Steps p.tables e below (T.setTop f') target → Steps p.tables e below (T.setTop f) target) :
    own_R p l e R s m args below meth c S0 n0 h ce sl f' := by
  obtain ⟨T, L, X, eT, N, k⟩ := A
  exact ⟨T, L, X, eT, N, k.trans (st T L X _ (Steps.refl _))⟩
theorem own_R.law (A : own_R p l e R s m args below meth c S0 n0 h ce sl f)
    (st : ∀ T L, Stand p l e R s m args below meth c T L ce sl → T.heap = h → Fr n0 L → ∃ T' L', Stand p l e R s m args below meth c T' L' ce' sl' ∧ T'.heap = h' ∧ Fr n0 L' ∧ ∀ target, Steps p.tables e below (T'.setTop f') target → Steps p.tables e below (T.setTop f) target) :
    own_R p l e R s m args below meth c S0 n0 h' ce' sl' f' := by
  obtain ⟨T, L, X, eT, N, k⟩ := A
  obtain ⟨T', L', X', e', N', k'⟩ := st T L X eT N
  exact ⟨T', L', X', e', N', k.trans (k' _ (Steps.refl _))⟩
theorem own_R.getF {pc : Nat} {Ls : Array Slot} {rest : List Value} {a : Addr} {v : Value} {own R0 O n d : String} {index : Nat}
    (A : own_R p l e R s m args below meth c S0 n0 h ce sl (mkF m pc Ls (.ref a :: rest))) (hx : p.tables.exec = Jvm.exec) (hZ : Z.Warmed39 s.vm) (hown : s.vm.findClass own = some m.cls)
    (hd : decode c.code pc = .ok (.getfield index, 3)) (w : (Cond.fieldLink own index R0 n d).before a0 Z = true) (via : Via Z R0 O n d) (F : Fld Z h a O n d v) :
    own_R p l e R s m args below meth c S0 n0 h ce sl (mkF m (pc + 3) Ls (v :: rest)) := A.law fun T L X eT N => by
  obtain ⟨T', X', e', st⟩ := RoadKit.getF X hx hZ hown (host := "") (Or.inl w) via eT F (g := mkF m pc Ls (.ref a :: rest)) rfl rfl hd
  exact ⟨T', L, X', e', N, st⟩
theorem own_R.getS {pc : Nat} {Ls : Array Slot} {st : List Value} {v : Value} {own R0 O n d : String} {index : Nat}
    (A : own_R p l e R s m args below meth c S0 n0 h ce sl (mkF m pc Ls st)) (hx : p.tables.exec = Jvm.exec) (hZ : Z.Warmed39 s.vm) (hown : s.vm.findClass own = some m.cls)
    (hd : decode c.code pc = .ok (.getstatic index, 3)) (w : (Cond.fieldLink own index R0 n d).before a0 Z = true) (via : Via Z R0 O n d) (F : Sta Z h O n d v) :
    own_R p l e R s m args below meth c S0 n0 h ce sl (mkF m (pc + 3) Ls (v :: st)) := A.law fun T L X eT N => by
  obtain ⟨T', X', e', k⟩ := RoadKit.getS X hx hZ hown (host := "") w via eT F (g := mkF m pc Ls st) rfl hd
  exact ⟨T', L, X', e', N, k⟩
theorem own_R.ldcI {pc : Nat} {Ls : Array Slot} {st : List Value} {v : Int32} {own : String} {index : Nat}
    (A : own_R p l e R s m args below meth c S0 n0 h ce sl (mkF m pc Ls st)) (hx : p.tables.exec = Jvm.exec) (hZ : Z.Warmed39 s.vm) (hown : s.vm.findClass own = some m.cls)
    (hd : decode c.code pc = .ok (.ldc index, 2)) (w : (Cond.constant own index v).before a0 Z = true) :
    own_R p l e R s m args below meth c S0 n0 h ce sl (mkF m (pc + 2) Ls (.int v :: st)) := A.go fun T L X t k =>
  X.ldcInt hx hown (mvT hZ w) (g := mkF m pc Ls st) rfl hd t k
theorem own_R.ldcL {pc : Nat} {Ls : Array Slot} {st : List Value} {v : Int64} {own : String} {index : Nat}
    (A : own_R p l e R s m args below meth c S0 n0 h ce sl (mkF m pc Ls st)) (hx : p.tables.exec = Jvm.exec) (hZ : Z.Warmed39 s.vm) (hown : s.vm.findClass own = some m.cls)
    (hd : decode c.code pc = .ok (.ldc2_w index, 3)) (w : (Cond.constantLong own index v).before a0 Z = true) :
    own_R p l e R s m args below meth c S0 n0 h ce sl (mkF m (pc + 3) Ls (.long v :: st)) := A.go fun T L X t k =>
  X.ldc2Long hx hown (mvT hZ w) (g := mkF m pc Ls st) rfl hd t k
theorem own_R.ldcD {pc : Nat} {Ls : Array Slot} {st : List Value} {v : UInt64} {own : String} {index : Nat}
    (A : own_R p l e R s m args below meth c S0 n0 h ce sl (mkF m pc Ls st)) (hx : p.tables.exec = Jvm.exec) (hZ : Z.Warmed39 s.vm) (hown : s.vm.findClass own = some m.cls)
    (hd : decode c.code pc = .ok (.ldc2_w index, 3)) (w : (Cond.constantDouble own index v).before a0 Z = true) :
    own_R p l e R s m args below meth c S0 n0 h ce sl (mkF m (pc + 3) Ls (.double v :: st)) := A.go fun T L X t k =>
  X.ldc2DoubleC hx hown (mvT hZ w) (g := mkF m pc Ls st) rfl hd t k
theorem own_R.callS {pc : Nat} {Ls : Array Slot} {st : List Value} {own : String} {index W : Nat} {y : MethodName} {bytes : ByteArray} {maxL : Nat} {ret : Option FieldType} {rm : Room} {as : Array Value} {Q : Option Value → Heap → Prop} {argsL rest : List Value}
    (A : own_R p l e R s m args below meth c S0 n0 h ce sl (mkF m pc Ls st)) (M : own_M l Z y bytes maxL ret [] rm as h n0 Q) (hx : p.tables.exec = Jvm.exec) (hZ : Z.Warmed39 s.vm) (hown : s.vm.findClass own = some m.cls)
    (hd : decode c.code pc = .ok (.invokestatic index, 3)) (w1 : (Cond.methodLink own index y).before a0 Z = true) (w2 : (Cond.static y).before a0 Z = true) (w3 : (Cond.initialized y.cls).before a0 Z = true) (w4 : (Cond.code y bytes maxL ret).before a0 Z = true)
    (hy : y.cls ≠ "java/lang/invoke/MethodHandle" ∧ y.cls ≠ "java/lang/invoke/VarHandle") (hlen : ∀ sig, parseMethodDescriptor y.desc = some sig → argsL.length = sig.parameters.length) (hst : st = argsL.reverse ++ rest) (has : argsL.toArray = as)
    (hsz : Ls.size = c.maxLocals) (hW : (rest.map fun v => v.category).sum ≤ W) (hf : rm.frames + 1 ≤ R.frames) (hl : W + (maxL + 11) + rm.locals ≤ R.locals) (hc : ce + rm.cells ≤ R.cells) (hs : sl + rm.slots ≤ R.slots) :
    ∃ v h', Q v h' ∧ own_R p l e R s m args below meth c S0 n0 h' (ce + rm.cells) (sl + rm.slots) (mkF m (pc + 3) Ls (v.toList ++ rest)) := by
  obtain ⟨T, L, X, eT, N, k⟩ := A
  obtain ⟨v, vm₁, ⟨T', L', k', n'⟩, -, X', ⟨Lc, hQ, l1, l2, l3⟩, sT⟩ := Jvm.LawKit.callS X hx (y := y) hown (mvT hZ w1) (mvT hZ w2) (mvT hZ w3) (mvT hZ w4) hy (backOf (W := W) (Q := fun v h' L => Q v h' ∧ Fr n0 L) M hZ w4 w3 hf hl) (g := mkF m pc Ls st) rfl hsz (argsL := argsL) (rest := rest) hlen hst (by show 2 * 0 + _ ≤ _; omega) hd (fun _ _ => ⟨has, eT, hc, hs⟩)
  dsimp only [Pt.U, Pt.locs, Pt.cells, Pt.slots] at X' l1 l2 l3 sT hQ
  subst l1 l2 l3
  exact ⟨v, _, hQ.1, T', _, X', rfl, Fr.app N hQ.2, k.trans (sT _ (Steps.refl _))⟩
theorem own_R.callV {pc : Nat} {Ls : Array Slot} {st : List Value} {own C : String} {index W : Nat} {y z : MethodName} {bytes : ByteArray} {maxL : Nat} {ret : Option FieldType} {rm : Room} {as : Array Value} {Q : Option Value → Heap → Prop} {b : Addr} {argsL rest : List Value}
    (A : own_R p l e R s m args below meth c S0 n0 h ce sl (mkF m pc Ls st)) (M : own_M l Z z bytes maxL ret [] rm as h n0 Q) (E : Exa Z h b C) (hx : p.tables.exec = Jvm.exec) (hZ : Z.Warmed39 s.vm) (hown : s.vm.findClass own = some m.cls)
    (hd : decode c.code pc = .ok (.invokevirtual index, 3)) (w1 : (Cond.methodLink own index y).before a0 Z = true) (w2 : (Cond.declares y).before a0 Z = true) (w3 : (Cond.selects C y z).before a0 Z = true) (w4 : (Cond.instanceMethod z).before a0 Z = true) (w5 : (Cond.code z bytes maxL ret).before a0 Z = true) (w6 : (Cond.initialized z.cls).before a0 Z = true) (hnf : ∀ s' : State, Z.Warmed39 s'.vm → NotFace s' y)
    (hy : y.cls ≠ "java/lang/invoke/MethodHandle" ∧ y.cls ≠ "java/lang/invoke/VarHandle") (hlen : ∀ sig, parseMethodDescriptor y.desc = some sig → argsL.length = sig.parameters.length) (hst : st = argsL.reverse ++ .ref b :: rest) (has : (Value.ref b :: argsL).toArray = as)
    (hsz : Ls.size = c.maxLocals) (hW : (rest.map fun v => v.category).sum ≤ W) (hf : rm.frames + 1 ≤ R.frames) (hl : W + (maxL + 11) + rm.locals ≤ R.locals) (hc : ce + rm.cells ≤ R.cells) (hs : sl + rm.slots ≤ R.slots) :
    ∃ v h', Q v h' ∧ own_R p l e R s m args below meth c S0 n0 h' (ce + rm.cells) (sl + rm.slots) (mkF m (pc + 3) Ls (v.toList ++ rest)) := by
  obtain ⟨T, L, X, eT, N, k⟩ := A
  obtain ⟨cq, kq, qa, qb, qc⟩ := isOf hZ eT E
  obtain ⟨v, vm₁, ⟨T', L', k', n'⟩, -, X', ⟨Lc, hQ, l1, l2, l3⟩, sT⟩ := X.virtualBack hx (y := y) (z := z) hown (mvT hZ w1) (mvT hZ w2) (hnf s hZ) (mvT hZ w3) (mvT hZ w4) hy (backOf (W := W) (Q := fun v h' L => Q v h' ∧ Fr n0 L) M hZ w5 w6 hf hl) qa qc (g := mkF m pc Ls st) rfl hsz (Steps.refl _) (argsL := argsL) (rest := rest) hlen hst (by show 2 * 0 + _ ≤ _; omega) hd (fun _ _ => ⟨has, eT, hc, hs⟩)
  dsimp only [Pt.U, Pt.locs, Pt.cells, Pt.slots] at X' l1 l2 l3 sT hQ
  subst l1 l2 l3
  exact ⟨v, _, hQ.1, T', _, X', rfl, Fr.app N hQ.2, k.trans sT⟩
theorem own_R.callI {pc : Nat} {Ls : Array Slot} {st : List Value} {own : String} {index W : Nat} {y : MethodName} {bytes : ByteArray} {maxL : Nat} {rm : Room} {as : Array Value} {Q : Option Value → Heap → Prop} {b : Addr} {argsL rest : List Value}
    (A : own_R p l e R s m args below meth c S0 n0 h ce sl (mkF m pc Ls st)) (M : own_M l Z y bytes maxL none [] rm as h n0 Q) (hx : p.tables.exec = Jvm.exec) (hZ : Z.Warmed39 s.vm) (hown : s.vm.findClass own = some m.cls)
    (hd : decode c.code pc = .ok (.invokespecial index, 3)) (hy1 : y.name = "<init>") (w1 : (Cond.methodLink own index y).before a0 Z = true) (w2 : (Cond.instanceMethod y).before a0 Z = true) (w3 : (Cond.code y bytes maxL none).before a0 Z = true) (w4 : (Cond.initialized y.cls).before a0 Z = true)
    (hy : y.cls ≠ "java/lang/invoke/MethodHandle" ∧ y.cls ≠ "java/lang/invoke/VarHandle") (hlen : ∀ sig, parseMethodDescriptor y.desc = some sig → argsL.length = sig.parameters.length) (hst : st = argsL.reverse ++ .ref b :: rest) (has : (Value.ref b :: argsL).toArray = as)
    (hsz : Ls.size = c.maxLocals) (hW : (rest.map fun v => v.category).sum ≤ W) (hf : rm.frames + 1 ≤ R.frames) (hl : W + (maxL + 11) + rm.locals ≤ R.locals) (hc : ce + rm.cells ≤ R.cells) (hs : sl + rm.slots ≤ R.slots) :
    ∃ v h', Q v h' ∧ own_R p l e R s m args below meth c S0 n0 h' (ce + rm.cells) (sl + rm.slots) (mkF m (pc + 3) Ls (v.toList ++ rest)) := by
  obtain ⟨T, L, X, eT, N, k⟩ := A
  obtain ⟨v, vm₁, ⟨T', L', k', n'⟩, -, X', ⟨Lc, hQ, l1, l2, l3⟩, sT⟩ := X.specialBack hx (y := y) hy1 hown (mvT hZ w1) (mvT hZ w2) (mvT hZ w3) hy (backOf (W := W) (Q := fun v h' L => Q v h' ∧ Fr n0 L) M hZ w3 w4 hf hl) (g := mkF m pc Ls st) rfl hsz (Steps.refl _) (a := b) (argsL := argsL) (rest := rest) hlen hst (by show 2 * 0 + _ ≤ _; omega) hd (fun _ _ => ⟨has, eT, hc, hs⟩)
  dsimp only [Pt.U, Pt.locs, Pt.cells, Pt.slots] at X' l1 l2 l3 sT hQ
  subst l1 l2 l3
  exact ⟨v, _, hQ.1, T', _, X', rfl, Fr.app N hQ.2, k.trans sT⟩
theorem own_R.ret {pc : Nat} {Ls : Array Slot} {rest : List Value} {w : Value} {t : FieldType} {i : Instr} {Q : Option Value → Heap → Prop}
    (A : own_R p l e R s m args below meth c S0 n0 h ce sl (mkF m pc Ls (w :: rest))) (hx : p.tables.exec = Jvm.exec) (hlk : meth.locks = false) (hret : meth.sig.returnType = some t) (hd : decode c.code pc = .ok (i, 1)) (hn : narrow t w = w)
    (hi : (i = .ireturn ∧ (t = .int ∨ t = .boolean ∨ t = .byte ∨ t = .char ∨ t = .short) ∧ ∃ z, w = .int z) ∨ (i = .lreturn ∧ t = .long ∧ ∃ z, w = .long z) ∨ (i = .dreturn ∧ t = .double ∧ ∃ z, w = .double z) ∨ (i = .freturn ∧ t = .float ∧ ∃ z, w = .float z) ∨ (i = .areturn ∧ t.isReference = true ∧ w.isRef = true))
    (hc : ce ≤ R.cells) (hs : sl ≤ R.slots) (q : Q (some w) h) : own_E p e R s below S0 n0 Q := by
  obtain ⟨T, L, X, eT, N, k⟩ := A
  obtain ⟨fs, hr, hrun, hended, hW, hsame⟩ := X.leave (v := some w) (fun h => by rw [hret] at h; cases h) hlk
  refine ⟨_, _, _, k.trans (retOut X hx hret hn hi hd hr), hrun, hended, ⟨?_, N⟩, ⟨_, rfl⟩, hW, hsame.mono hc hs⟩
  show Q _ T.heap
  rw [eT]; exact q
theorem own_R.retV {pc : Nat} {Ls : Array Slot} {Q : Option Value → Heap → Prop}
    (A : own_R p l e R s m args below meth c S0 n0 h ce sl (mkF m pc Ls [])) (hx : p.tables.exec = Jvm.exec) (hlk : meth.locks = false) (hret : meth.sig.returnType = none) (hd : decode c.code pc = .ok (.return_, 1))
    (hc : ce ≤ R.cells) (hs : sl ≤ R.slots) (q : Q none h) : own_E p e R s below S0 n0 Q := by
  obtain ⟨T, L, X, eT, N, k⟩ := A
  obtain ⟨fs, hr, hrun, hended, hW, hsame⟩ := X.leave (v := none) (fun _ => rfl) hlk
  refine ⟨_, _, _, k.trans (X.returnOut hx hret hd hr), hrun, hended, ⟨?_, N⟩, ⟨_, rfl⟩, hW, hsame.mono hc hs⟩
  show Q _ T.heap
  rw [eT]; exact q
end Own
section Own2
variable {p : Program} {l : Launch} {e : Env} {R : Room} {s : State} {m : MethodId} {args : Array Value} {below : List Frame} {meth : Method} {c : Code} {S0 : State} {n0 : Nat} {h h' : Heap} {ce sl : Nat} {Z : State} {a0 : Array Value} {pc : Nat} {Ls : Array Slot} {rest : List Value} {a b : Addr} {ty : FieldType} {vs : List Value} {ws : List Addr} {v : Value} {i : Nat}
/-- an array whose components are listed -/
def own_Ar (Z : State) (h : Heap) (a : Addr) (ty : FieldType) (vs : List Value) : Prop := ∃ cl : Cell, Arr Z h a cl ty ∧ cl.slots.toList = vs
theorem own_Ar.ext (F : own_Ar Z h a ty vs) (E : Ext h h') : own_Ar Z h' a ty vs := by obtain ⟨cl, A, q⟩ := F; exact ⟨cl, A.ext E, q⟩
theorem own_Ar.other (F : own_Ar Z h a ty vs) (W : Wr h h' b i v) (q : a ≠ b) : own_Ar Z h' a ty vs := by obtain ⟨cl, A, r⟩ := F; exact ⟨cl, A.other W q, r⟩
theorem own_Ar.same (F : own_Ar Z h a ty vs) (W : Wr h h' a i v) : own_Ar Z h' a ty (vs.set i v) := by
  obtain ⟨cl, A, rfl⟩ := F
  exact ⟨_, A.same W, by simp [Cell.setSlot, Array.toList_setIfInBounds]⟩
theorem own_Ar.keep (F : own_Ar Z h a ty vs) (K : Keep h h' ws) (q : a ∉ ws) : own_Ar Z h' a ty vs := by obtain ⟨cl, A, r⟩ := F; exact ⟨cl, ⟨K.2.1 a cl A.1 q, A.2⟩, r⟩
theorem own_Ar.lt (F : own_Ar Z h a ty vs) : a < h.size := by obtain ⟨cl, A, -⟩ := F; exact A.lt
theorem own_R.newP {n : Int32} {aty : ArrayType} {cap : Nat} (A : own_R p l e R s m args below meth c S0 n0 h ce sl (mkF m pc Ls (.int n :: rest))) (hx : p.tables.exec = Jvm.exec) (hZ : Z.Warmed39 s.vm)
    (hd : decode c.code pc = .ok (.newarray aty, 2)) (w : (Cond.arrayClass (newarray.typeOf aty)).before a0 Z = true) (hn : ¬ n < 0) (hcap : n.toNatClampNeg ≤ cap) (hb : cap * 8 ≤ 536870912) (hc : ce + 1 ≤ R.cells) (hl : sl + cap ≤ R.slots) :
    ∃ h', Ext h h' ∧ own_Ar Z h' h.size (newarray.typeOf aty) (List.replicate n.toNatClampNeg (defaultValue (newarray.typeOf aty))) ∧ own_R p l e R s m args below meth c S0 n0 h' (ce + 1) (sl + cap) (mkF m (pc + 2) Ls (.ref h.size :: rest)) := by
  obtain ⟨T, L, X, eT, N, k⟩ := A
  obtain ⟨T', h', cA, X', e', E, AA, st⟩ := RoadKit.newP X hx hZ w eT (g := mkF m pc Ls (.int n :: rest)) rfl hd rfl hn hcap hb hc hl
  exact ⟨h', E, ⟨_, AA, by simp [newA]⟩, T', L, X', e', N, k.trans (st _ (Steps.refl _))⟩
theorem own_R.newO {own C : String} {index n : Nat} (A : own_R p l e R s m args below meth c S0 n0 h ce sl (mkF m pc Ls rest)) (hx : p.tables.exec = Jvm.exec) (hZ : Z.Warmed39 s.vm) (hown : s.vm.findClass own = some m.cls)
    (hd : decode c.code pc = .ok (.new index, 3)) (w : (Cond.classLink own index C).before a0 Z = true) (wi : (Cond.instantiable C n).before a0 Z = true) (wz : (Cond.initialized C).before a0 Z = true) (hc : ce + 1 ≤ R.cells) (hl : sl + n ≤ R.slots) :
    ∃ h', Ext h h' ∧ Exa Z h' h.size C ∧ (∀ {O nm d : String} {ty : FieldType}, Laid Z a0 C O nm d → parseFieldDescriptor d = some ty → Fld Z h' h.size O nm d (defaultValue ty)) ∧ own_R p l e R s m args below meth c S0 n0 h' (ce + 1) (sl + n) (mkF m (pc + 3) Ls (.ref h.size :: rest)) := by
  obtain ⟨T, L, X, eT, N, k⟩ := A
  obtain ⟨T', h', X', e', E, AA, D, -, st⟩ := RoadKit.newO X hx hZ hown w wi wz eT (g := mkF m pc Ls rest) rfl hd hc hl
  exact ⟨h', E, AA, D, T', L, X', e', N, k.trans (st _ (Steps.refl _))⟩
theorem own_R.putF {own O n d C : String} {index kk : Nat} {v old : Value} (A : own_R p l e R s m args below meth c S0 n0 h ce sl (mkF m pc Ls (v :: .ref a :: rest))) (hx : p.tables.exec = Jvm.exec) (hZ : Z.Warmed39 s.vm) (hown : s.vm.findClass own = some m.cls)
    (hd : decode c.code pc = .ok (.putfield index, 3)) (w : (Cond.fieldLink own index O n d).before a0 Z = true) (F : Fld Z h a O n d old) (E : Exa Z h a C) (L : (Cond.lays C O n d).before a0 Z = true ∨ ((Cond.laysFinal C O n d).before a0 Z = true ∧ own = O ∧ meth.name = "<init>")) (wi : (Cond.instantiable C kk).before a0 Z = true)
    (hty : parseFieldDescriptor d = some ty) (hn : narrow ty v = v) (hf : fits ty v = true) (q : n0 ≤ a) :
    ∃ h', Wr h h' a (RoadKit.slotOf Z O n d) v ∧ own_R p l e R s m args below meth c S0 n0 h' ce sl (mkF m (pc + 3) Ls rest) := by
  obtain ⟨T, Lc, X, eT, N, k⟩ := A
  obtain ⟨T', h', X', e', W, st⟩ := RoadKit.putF X hx hZ hown (host := "") (Or.inl w) Via.refl eT F E L wi hty hn hf (g := mkF m pc Ls (v :: .ref a :: rest)) rfl rfl hd
  exact ⟨h', W, T', _, X', e', Fr.snoc X' N q, k.trans (st _ (Steps.refl _))⟩
theorem own_R.initO {own : String} {idx W : Nat} (A : own_R p l e R s m args below meth c S0 n0 h ce sl (mkF m pc Ls (.ref a :: rest))) (hx : p.tables.exec = Jvm.exec) (hZ : Z.Warmed39 s.vm) (hown : s.vm.findClass own = some m.cls)
    (hd : decode c.code pc = .ok (.invokespecial idx, 3)) (w1 : (Cond.methodLink own idx Lib.objectInit).before a0 Z = true) (w2 : (Cond.instanceMethod Lib.objectInit).before a0 Z = true) (w3 : (Cond.code Lib.objectInit ⟨#[0xb1]⟩ 1 none).before a0 Z = true)
    (hsz : Ls.size = c.maxLocals) (hW : (rest.map fun v => v.category).sum ≤ W) (hf : 1 ≤ R.frames) (hl : W + 12 ≤ R.locals) : own_R p l e R s m args below meth c S0 n0 h ce sl (mkF m (pc + 3) Ls rest) := A.law fun T L X eT N => by
  obtain ⟨T', X', e', st⟩ := RoadKit.initO X hx hZ hown w1 w2 w3 eT (g := mkF m pc Ls (.ref a :: rest)) rfl hsz rfl hd hf (by show 2 * 0 + _ ≤ _; exact (Nat.zero_add _).symm ▸ hW) hl
  exact ⟨T', L, X', e', N, st⟩
theorem own_R.stI {j x : Int32} (A : own_R p l e R s m args below meth c S0 n0 h ce sl (mkF m pc Ls (.int x :: .int j :: .ref a :: rest))) (hx : p.tables.exec = Jvm.exec) (hZ : Z.Warmed39 s.vm)
    (hd : decode c.code pc = .ok (.iastore, 1)) (F : own_Ar Z h a .int vs) (hj : ¬ j < 0) (hi : j.toNatClampNeg < vs.length) (q : n0 ≤ a) :
    ∃ h', Wr h h' a j.toNatClampNeg (.int x) ∧ own_R p l e R s m args below meth c S0 n0 h' ce sl (mkF m (pc + 1) Ls rest) := by
  obtain ⟨cl, F, rfl⟩ := F
  obtain ⟨T, Lc, X, eT, N, k⟩ := A
  obtain ⟨T', h', X', e', W, st⟩ := RoadKit.stI X hx hZ eT F (j := j) (fun z => z.elim hj fun u => by rw [Array.length_toList] at hi; omega) (g := mkF m pc Ls (.int x :: .int j :: .ref a :: rest)) rfl rfl hd
  exact ⟨h', W, T', _, X', e', Fr.snoc X' N q, k.trans (st _ (Steps.refl _))⟩
theorem own_R.stB {j x : Int32} (A : own_R p l e R s m args below meth c S0 n0 h ce sl (mkF m pc Ls (.int x :: .int j :: .ref a :: rest))) (hx : p.tables.exec = Jvm.exec) (hZ : Z.Warmed39 s.vm)
    (hd : decode c.code pc = .ok (.bastore, 1)) (F : own_Ar Z h a .byte vs) (hj : ¬ j < 0) (hi : j.toNatClampNeg < vs.length) (q : n0 ≤ a) :
    ∃ h', Wr h h' a j.toNatClampNeg (.int (nar .byte x)) ∧ own_R p l e R s m args below meth c S0 n0 h' ce sl (mkF m (pc + 1) Ls rest) := by
  obtain ⟨cl, F, rfl⟩ := F
  obtain ⟨T, Lc, X, eT, N, k⟩ := A
  obtain ⟨T', h', X', e', W, st⟩ := RoadKit.stB X hx hZ eT F (j := j) (fun z => z.elim hj fun u => by rw [Array.length_toList] at hi; omega) (g := mkF m pc Ls (.int x :: .int j :: .ref a :: rest)) rfl rfl hd
  exact ⟨h', W, T', _, X', e', Fr.snoc X' N q, k.trans (st _ (Steps.refl _))⟩
theorem own_R.ldI {j : Int32} (A : own_R p l e R s m args below meth c S0 n0 h ce sl (mkF m pc Ls (.int j :: .ref a :: rest))) (hx : p.tables.exec = Jvm.exec) (hZ : Z.Warmed39 s.vm)
    (hd : decode c.code pc = .ok (.iaload, 1)) (F : own_Ar Z h a .int vs) (hj : ¬ j < 0) (hv : vs[j.toNatClampNeg]? = some v) :
    own_R p l e R s m args below meth c S0 n0 h ce sl (mkF m (pc + 1) Ls (v :: rest)) := A.law fun T L X eT N => by
  obtain ⟨cl, F, rfl⟩ := F
  rw [Array.getElem?_toList] at hv
  have hlt := (Array.getElem?_eq_some_iff.mp hv).1
  exact ⟨T, L, X, eT, N, fun t k => X.iaload hx (j := j) (v := v) (by rw [eT]; exact F.1) (State.isArrayOf_alike hZ.alike F.2.1) F.2.2 (fun z => z.elim hj fun u => by omega) hv (g := mkF m pc Ls (.int j :: .ref a :: rest)) rfl rfl hd t k⟩
theorem own_R.ldB {j : Int32} (A : own_R p l e R s m args below meth c S0 n0 h ce sl (mkF m pc Ls (.int j :: .ref a :: rest))) (hx : p.tables.exec = Jvm.exec) (hZ : Z.Warmed39 s.vm)
    (hd : decode c.code pc = .ok (.baload, 1)) (F : own_Ar Z h a .byte vs) (hj : ¬ j < 0) (hv : vs[j.toNatClampNeg]? = some v) :
    own_R p l e R s m args below meth c S0 n0 h ce sl (mkF m (pc + 1) Ls (v :: rest)) := A.law fun T L X eT N => by
  obtain ⟨cl, F, rfl⟩ := F
  rw [Array.getElem?_toList] at hv
  have hlt := (Array.getElem?_eq_some_iff.mp hv).1
  exact ⟨T, L, X, eT, N, fun t k => X.baloadBytes hx (j := j) (v := v) (by rw [eT]; exact F.1) (State.isArrayOf_alike hZ.alike F.2.1) F.2.2 (fun z => z.elim hj fun u => by omega) hv (g := mkF m pc Ls (.int j :: .ref a :: rest)) rfl rfl hd t k⟩
theorem own_R.stD {j : Int32} {x : UInt64} (A : own_R p l e R s m args below meth c S0 n0 h ce sl (mkF m pc Ls (.double x :: .int j :: .ref a :: rest))) (hx : p.tables.exec = Jvm.exec) (hZ : Z.Warmed39 s.vm)
    (hd : decode c.code pc = .ok (.dastore, 1)) (F : own_Ar Z h a .double vs) (hj : ¬ j < 0) (hi : j.toNatClampNeg < vs.length) (q : n0 ≤ a) :
    ∃ h', Wr h h' a j.toNatClampNeg (.double x) ∧ own_R p l e R s m args below meth c S0 n0 h' ce sl (mkF m (pc + 1) Ls rest) := by
  obtain ⟨cl, F, rfl⟩ := F
  obtain ⟨T, Lc, X, eT, N, k⟩ := A
  obtain ⟨T', h', X', e', W, st⟩ := RoadKit.stD X hx hZ eT F (j := j) (fun z => z.elim hj fun u => by rw [Array.length_toList] at hi; omega) (g := mkF m pc Ls (.double x :: .int j :: .ref a :: rest)) rfl rfl hd
  exact ⟨h', W, T', _, X', e', Fr.snoc X' N q, k.trans (st _ (Steps.refl _))⟩
theorem own_R.stC {j : Int32} {x : Int32} (A : own_R p l e R s m args below meth c S0 n0 h ce sl (mkF m pc Ls (.int x :: .int j :: .ref a :: rest))) (hx : p.tables.exec = Jvm.exec) (hZ : Z.Warmed39 s.vm)
    (hd : decode c.code pc = .ok (.castore, 1)) (F : own_Ar Z h a .char vs) (hj : ¬ j < 0) (hi : j.toNatClampNeg < vs.length) (q : n0 ≤ a) :
    ∃ h', Wr h h' a j.toNatClampNeg (.int (nar .char x)) ∧ own_R p l e R s m args below meth c S0 n0 h' ce sl (mkF m (pc + 1) Ls rest) := by
  obtain ⟨cl, F, rfl⟩ := F
  obtain ⟨T, Lc, X, eT, N, k⟩ := A
  obtain ⟨T', h', X', e', W, st⟩ := RoadKit.stC X hx hZ eT F (j := j) (fun z => z.elim hj fun u => by rw [Array.length_toList] at hi; omega) (g := mkF m pc Ls (.int x :: .int j :: .ref a :: rest)) rfl rfl hd
  exact ⟨h', W, T', _, X', e', Fr.snoc X' N q, k.trans (st _ (Steps.refl _))⟩
theorem own_R.stL {j : Int32} {x : Int64} (A : own_R p l e R s m args below meth c S0 n0 h ce sl (mkF m pc Ls (.long x :: .int j :: .ref a :: rest))) (hx : p.tables.exec = Jvm.exec) (hZ : Z.Warmed39 s.vm)
    (hd : decode c.code pc = .ok (.lastore, 1)) (F : own_Ar Z h a .long vs) (hj : ¬ j < 0) (hi : j.toNatClampNeg < vs.length) (q : n0 ≤ a) :
    ∃ h', Wr h h' a j.toNatClampNeg (.long x) ∧ own_R p l e R s m args below meth c S0 n0 h' ce sl (mkF m (pc + 1) Ls rest) := by
  obtain ⟨cl, F, rfl⟩ := F
  obtain ⟨T, Lc, X, eT, N, k⟩ := A
  obtain ⟨T', h', X', e', W, st⟩ := RoadKit.stJ X hx hZ eT F (j := j) (fun z => z.elim hj fun u => by rw [Array.length_toList] at hi; omega) (g := mkF m pc Ls (.long x :: .int j :: .ref a :: rest)) rfl rfl hd
  exact ⟨h', W, T', _, X', e', Fr.snoc X' N q, k.trans (st _ (Steps.refl _))⟩
theorem own_R.ldD {j : Int32} (A : own_R p l e R s m args below meth c S0 n0 h ce sl (mkF m pc Ls (.int j :: .ref a :: rest))) (hx : p.tables.exec = Jvm.exec) (hZ : Z.Warmed39 s.vm)
    (hd : decode c.code pc = .ok (.daload, 1)) (F : own_Ar Z h a .double vs) (hj : ¬ j < 0) (hv : vs[j.toNatClampNeg]? = some v) :
    own_R p l e R s m args below meth c S0 n0 h ce sl (mkF m (pc + 1) Ls (v :: rest)) := A.law fun T L X eT N => by
  obtain ⟨cl, F, rfl⟩ := F
  rw [Array.getElem?_toList] at hv
  have hlt := (Array.getElem?_eq_some_iff.mp hv).1
  exact ⟨T, L, X, eT, N, fun t k => X.daload hx (j := j) (v := v) (by rw [eT]; exact F.1) (State.isArrayOf_alike hZ.alike F.2.1) F.2.2 (fun z => z.elim hj fun u => by omega) hv (g := mkF m pc Ls (.int j :: .ref a :: rest)) rfl rfl hd t k⟩
theorem own_R.ldC {j : Int32} (A : own_R p l e R s m args below meth c S0 n0 h ce sl (mkF m pc Ls (.int j :: .ref a :: rest))) (hx : p.tables.exec = Jvm.exec) (hZ : Z.Warmed39 s.vm)
    (hd : decode c.code pc = .ok (.caload, 1)) (F : own_Ar Z h a .char vs) (hj : ¬ j < 0) (hv : vs[j.toNatClampNeg]? = some v) :
    own_R p l e R s m args below meth c S0 n0 h ce sl (mkF m (pc + 1) Ls (v :: rest)) := A.law fun T L X eT N => by
  obtain ⟨cl, F, rfl⟩ := F
  rw [Array.getElem?_toList] at hv
  have hlt := (Array.getElem?_eq_some_iff.mp hv).1
  exact ⟨T, L, X, eT, N, fun t k => X.caload hx (j := j) (v := v) (by rw [eT]; exact F.1) (State.isArrayOf_alike hZ.alike F.2.1) F.2.2 (fun z => z.elim hj fun u => by omega) hv (g := mkF m pc Ls (.int j :: .ref a :: rest)) rfl rfl hd t k⟩
theorem own_R.ldL {j : Int32} (A : own_R p l e R s m args below meth c S0 n0 h ce sl (mkF m pc Ls (.int j :: .ref a :: rest))) (hx : p.tables.exec = Jvm.exec) (hZ : Z.Warmed39 s.vm)
    (hd : decode c.code pc = .ok (.laload, 1)) (F : own_Ar Z h a .long vs) (hj : ¬ j < 0) (hv : vs[j.toNatClampNeg]? = some v) :
    own_R p l e R s m args below meth c S0 n0 h ce sl (mkF m (pc + 1) Ls (v :: rest)) := A.law fun T L X eT N => by
  obtain ⟨cl, F, rfl⟩ := F
  rw [Array.getElem?_toList] at hv
  have hlt := (Array.getElem?_eq_some_iff.mp hv).1
  exact ⟨T, L, X, eT, N, fun t k => X.laload hx (j := j) (v := v) (by rw [eT]; exact F.1) (State.isArrayOf_alike hZ.alike F.2.1) F.2.2 (fun z => z.elim hj fun u => by omega) hv (g := mkF m pc Ls (.int j :: .ref a :: rest)) rfl rfl hd t k⟩
theorem own_R.len (A : own_R p l e R s m args below meth c S0 n0 h ce sl (mkF m pc Ls (.ref a :: rest))) (hx : p.tables.exec = Jvm.exec) (hZ : Z.Warmed39 s.vm)
    (hd : decode c.code pc = .ok (.arraylength, 1)) (F : own_Ar Z h a ty vs) :
    own_R p l e R s m args below meth c S0 n0 h ce sl (mkF m (pc + 1) Ls (.int vs.length.toInt32 :: rest)) := A.law fun T L X eT N => by
  obtain ⟨cl, F, rfl⟩ := F
  exact ⟨T, L, X, eT, N, fun t k => X.arraylength hx (by rw [eT]; exact F.1) (State.isArrayOf_alike hZ.alike F.2.1) (g := mkF m pc Ls (.ref a :: rest)) rfl rfl hd t (by rw [Array.length_toList] at k; exact k)⟩
end Own2
section Own2b
variable {p : Program} {l : Launch} {e : Env} {R : Room} {s : State} {m : MethodId} {args : Array Value} {below : List Frame} {meth : Method} {c : Code} {S0 : State} {n0 : Nat} {h h' : Heap} {ce sl : Nat} {Z : State} {a0 : Array Value} {pc : Nat} {Ls : Array Slot} {rest : List Value} {a : Addr}
theorem own_R.instY {own K : String} {index : Nat} (A : own_R p l e R s m args below meth c S0 n0 h ce sl (mkF m pc Ls (.ref a :: rest))) (hx : p.tables.exec = Jvm.exec) (hZ : Z.Warmed39 s.vm) (hown : s.vm.findClass own = some m.cls)
    (hd : decode c.code pc = .ok (.instanceof index, 3)) (w : (Cond.classLink own index K).before a0 Z = true) (F : Ins Z h a K true) : own_R p l e R s m args below meth c S0 n0 h ce sl (mkF m (pc + 3) Ls (.int 1 :: rest)) := A.law fun T L X eT N => by
  obtain ⟨T', X', e', st⟩ := RoadKit.instY X hx hZ hown w eT F (g := mkF m pc Ls (.ref a :: rest)) rfl rfl hd
  exact ⟨T', L, X', e', N, st⟩
theorem own_R.castY {own K : String} {index : Nat} (A : own_R p l e R s m args below meth c S0 n0 h ce sl (mkF m pc Ls (.ref a :: rest))) (hx : p.tables.exec = Jvm.exec) (hZ : Z.Warmed39 s.vm) (hown : s.vm.findClass own = some m.cls)
    (hd : decode c.code pc = .ok (.checkcast index, 3)) (w : (Cond.classLink own index K).before a0 Z = true) (F : Ins Z h a K true) : own_R p l e R s m args below meth c S0 n0 h ce sl (mkF m (pc + 3) Ls (.ref a :: rest)) := A.law fun T L X eT N => by
  obtain ⟨T', X', e', st⟩ := RoadKit.castY X hx hZ hown w eT F (g := mkF m pc Ls (.ref a :: rest)) rfl rfl hd
  exact ⟨T', L, X', e', N, st⟩
theorem own_eqI {args : Array Value} {t : Term} {k : Int32} (h : (Cond.eq t (.int k)).value args Z none Z [] = some true) : t.eval args Z none [] Z = some (.int k) := by
  simp only [Cond.value, Term.int_eval] at h
  cases hv : t.eval args Z none [] Z with
  | none => rw [hv] at h; cases h
  | some w =>
    rw [hv] at h
    cases w <;> simp at h
    rw [h]
theorem own_Ar.start3 {args : Array Value} {t : Term} {x y z : Int32} (ev : t.eval args Z none [] Z = some (.ref a)) (hA : (Cond.arrayOf t .byte).value args Z none Z [] = some true) (hL : (Cond.eq (.length t) (.int 3)).value args Z none Z [] = some true)
    (h0 : (Cond.eq (.elem t (.int 0)) (.int x)).value args Z none Z [] = some true) (h1 : (Cond.eq (.elem t (.int 1)) (.int y)).value args Z none Z [] = some true) (h2 : (Cond.eq (.elem t (.int 2)) (.int z)).value args Z none Z [] = some true) : own_Ar Z Z.heap a .byte [.int x, .int y, .int z] := by
  obtain ⟨cl, A⟩ := Arr.start ev hA
  have e0 := (elem_in (own_eqI h0) ev (Term.int_eval _) A.1).2
  have e1 := (elem_in (own_eqI h1) ev (Term.int_eval _) A.1).2
  have e2 := (elem_in (own_eqI h2) ev (Term.int_eval _) A.1).2
  have q0 : (0 : Int32).toNatClampNeg = 0 := by decide
  have q1 : (1 : Int32).toNatClampNeg = 1 := by decide
  have q2 : (2 : Int32).toNatClampNeg = 2 := by decide
  rw [q0] at e0
  rw [q1] at e1
  rw [q2] at e2
  have ha : Z.arrayAt? a = some cl := Arr.fin (U := Z) (State.Warmed39.refl Z).alike A
  have hl := own_eqI hL
  simp only [Term.eval, ev, ha, Option.bind_eq_bind, Option.bind_some, Option.pure_def] at hl
  have hsz : cl.slots.size = 3 := by
    split at hl
    · rename_i hlt
      have e3 : cl.slots.size.toInt32 = 3 := by simpa using hl
      have e4 := len_toInt hlt
      rw [e3] at e4
      have e5 : (3 : Int32).toInt = 3 := by decide
      omega
    · cases hl
  refine ⟨cl, A, ?_⟩
  apply List.ext_getElem?
  intro i
  rw [Array.getElem?_toList]
  match i with
  | 0 => exact e0
  | 1 => exact e1
  | 2 => exact e2
  | n + 3 => rw [Array.getElem?_eq_none (by omega)]; rfl
end Own2b
section Own3
variable {p : Program} {l : Launch} {e : Env} {R : Room} {s : State} {vm0 vmS : Vm} {k0 : Nat} {m : MethodId} {args : Array Value} {below : List Frame} {meth : Method} {c : Code} {S0 : State} {n0 : Nat} {h h' hS0 : Heap} {ce sl : Nat} {Z : State} {a0 : Array Value} {pc : Nat} {Ls : Array Slot} {rest st : List Value} {EL : List (String × Nat)} {own : String}
/-- the end of a walk that may have interned -/
def own_ES (Z : State) (EL : List (String × Nat)) (p : Program) (e : Env) (R : Room) (s : State) (below : List Frame) (S0 : State) (n0 : Nat) (Q : Option Value → Heap → Prop) : Prop :=
  ∃ s₂ v L, Steps p.tables e below S0 s₂ ∧ s₂.status = .running ∧ Ended s₂ below (.returned v) ∧ (Q v s₂.heap ∧ Fr n0 L) ∧ CHr Z EL s.vm s.heap s₂.vm s₂.heap ∧ ReturnedEndW s (.returned v) s₂ L R.cells R.slots
/-- the contract of a body that may intern -/
def own_MS (l : Launch) (Z : State) (EL : List (String × Nat)) (y : MethodName) (bytes : ByteArray) (maxL : Nat) (ret : Option FieldType) (ws : List Cond) (rm : Room) (as : Array Value) (h0 : Heap) (n0 : Nat) (Q : Option Value → Heap → Prop) : Prop :=
  MetFree l y (head1 (Cond.code y bytes maxL ret :: ws) rm) (fun a U => a = as ∧ Z.Warmed39 U.vm ∧ U.heap = h0 ∧ CHv Z EL U.vm h0) (fun _ _ _ _ _ => True) (fun _ U o U' => ∃ v L, o = .returned v ∧ (Q v U'.heap ∧ Fr n0 L) ∧ CHr Z EL U.vm U.heap U'.vm U'.heap ∧ ReturnedEndW U o U' L rm.cells rm.slots)
theorem own_MS.of {y : MethodName} {bytes : ByteArray} {maxL : Nat} {ret : Option FieldType} {ws : List Cond} {rm : Room} {as : Array Value} {h0 : Heap} {Q : Option Value → Heap → Prop} (pn : plainFor y = true)
    (body : ∀ (p : Program) (e : Env) (s : State) (m : MethodId) (below : List Frame) (meth : Method) (c : Code) (S0 : State) (vm0 : Vm) (k0 : Nat), p.tables.exec = Jvm.exec → c.code = bytes → c.maxLocals = maxL → vm0.findClass y.cls = some m.cls → meth.name = y.name → meth.sig.returnType = ret → meth.locks = false → Z.Warmed39 vm0 →
      s.Since vm0 k0 → k0 ≤ h0.size → CHr Z EL s.vm s.heap vm0 h0 → own_R p l e rm (s.setVm vm0) m as below meth c S0 n0 h0 0 0 (entryFrame m as maxL) → own_ES Z EL p e rm s below S0 n0 Q) :
    own_MS l Z EL y bytes maxL ret ws rm as h0 n0 Q := by
  refine MetFree.of_bodySF pn hisR ?_
  intro p e s m args below meth c s₁ Bd hml0 hP hK
  obtain ⟨rfl, hZ, hh, HC⟩ := hP
  have e0 : s₁.heap = h0 := by rw [← hh, Bd.state]; rfl
  have X0 : Stand p l e rm (s.setVm s.vm) m args below meth c s₁ [] 0 0 := Stand.of_body Bd
  obtain ⟨s₂, v, L, k, hrun, hend, hq, hC, hF⟩ := body p e s m below meth c _ s.vm h0.size Bd.exec Bd.bytes hml0 (findClass_of_methodNamed Bd.named) (name_of_methodNamed Bd.named Bd.method).1 Bd.returns Bd.notSynchronized hZ ((State.WarmedH.refl s).since _) (Nat.le_refl _) (by rw [hh]; exact CHr.refl HC) ⟨s₁, [], X0, e0, Fr.nil n0, Steps.refl _⟩
  exact ⟨s₂, _, k, hrun, hend, v, L, rfl, hq, hC, hF⟩
theorem own_Ar.safe {a : Addr} {ty : FieldType} {vs : List Value} {vm : Vm} (hal : Z.vm.Alike vm) (F : own_Ar Z h a ty vs) (ht : ty ≠ .byte) : Safe Z EL vm h a := by
  obtain ⟨cl, A, -⟩ := F
  exact Safe.arr hal A ht
theorem own_Ar.of_arv {a : Addr} {k : ClassId} {ty : FieldType} {z : Int32} {vs : List Value} {d : Value} (A : Arv Z h a k ty z vs d) (hl : z.toNatClampNeg = vs.length) : own_Ar Z h a ty vs := by
  obtain ⟨cl, A1, -, hs, -, hH, -⟩ := A
  refine ⟨cl, A1, ?_⟩
  apply List.ext_getElem?
  intro i
  rw [Array.getElem?_toList]
  by_cases hi : i < cl.slots.size
  · have hi' : i < vs.length := by omega
    rw [hH i hi, List.getD_eq_getElem?_getD, List.getElem?_eq_getElem hi']
    rfl
  · have hi' : ¬ i < vs.length := by omega
    rw [List.getElem?_eq_none (Nat.le_of_not_lt hi'), Array.getElem?_eq_none (Nat.le_of_not_lt hi)]
theorem own_R.ldcS {text : String} {index n : Nat} {vs : List Value} {z : Int32} (A : own_R p l e R (s.setVm vm0) m args below meth c S0 n0 h ce sl (mkF m pc Ls st)) (hx : p.tables.exec = Jvm.exec) (hZ : Z.Warmed39 vm0) (hown : vm0.findClass own = some m.cls)
    (hd : decode c.code pc = .ok (.ldc index, 2)) (w : (Cond.stringLink own index text).before a0 Z = true) (wS : ∀ a ∈ Bundle.stringAtoms, a.before a0 Z = true) (hS : s.Since vm0 k0) (hk : k0 ≤ h.size) (hEL : EW Z a0 EL) (hmem : (own, index) ∈ EL) (HC : CHr Z EL vmS hS0 vm0 h)
    (ht : (∀ c ∈ text.toList, c.toNat < 256) ∧ text.toList.map (fun c => Value.int (Jvm.Lit.byteI c.toNat.toUInt16)) = vs) (hz : ¬ z < 0) (hl : z.toNatClampNeg = vs.length) (hn : 4 * text.toList.length ≤ n) (hbig : n ≤ 536870912) (hc : ce + 2 ≤ R.cells) (hl' : sl + (n + 4) ≤ R.slots) :
    ∃ a b vm1 k1 h', Ext h h' ∧ Exa Z h' a "java/lang/String" ∧ Fld Z h' a "java/lang/String" "coder" "B" (.int 0) ∧ Fld Z h' a "java/lang/String" "value" "[B" (.ref b) ∧ own_Ar Z h' b .byte vs ∧ (∀ x, Safe Z EL vm1 h' x → x ≠ a ∧ x ≠ b) ∧
      s.Since vm1 k1 ∧ k1 ≤ h'.size ∧ Z.Warmed39 vm1 ∧ vm1.findClass own = some m.cls ∧ CHr Z EL vmS hS0 vm1 h' ∧ Lit (s.setVm vm1) own index a ∧ own_R p l e R (s.setVm vm1) m args below meth c S0 n0 h' (ce + 2) (sl + (n + 4)) (mkF m (pc + 2) Ls (.ref a :: st)) := by
  obtain ⟨T, L, X, eT, N, k⟩ := A
  obtain ⟨a, T', h', k1, b, kc, X', e', E, hS', hk', hZ', hown', E1, F1, F2, V, -, -, HC', HL, hne, sT⟩ := ldcCH X hx hZ hown w wS eT hS hk hEL hmem HC.1 ht hz hl (g := mkF m pc Ls st) rfl hd hn hbig hc hl'
  exact ⟨a, b, T'.vm, k1, h', E, E1, F1, F2, own_Ar.of_arv V hl, hne, hS', hk', hZ', hown', HC.trans HC', HL, T', L, X', e', N, k.trans (sT _ (Steps.refl _))⟩
theorem own_R.ldcO {text : String} {index n : Nat} (A : own_R p l e R (s.setVm vm0) m args below meth c S0 n0 h ce sl (mkF m pc Ls st)) (hx : p.tables.exec = Jvm.exec) (hZ : Z.Warmed39 vm0) (hown : vm0.findClass own = some m.cls)
    (hd : decode c.code pc = .ok (.ldc index, 2)) (w : (Cond.stringLink own index text).before a0 Z = true) (wS : ∀ a ∈ Bundle.stringAtoms, a.before a0 Z = true) (hS : s.Since vm0 k0) (hk : k0 ≤ h.size) (hEL : EW Z a0 EL) (HC : CHr Z EL vmS hS0 vm0 h)
    (hn : 4 * text.toList.length ≤ n) (hbig : n ≤ 536870912) (hc : ce + 2 ≤ R.cells) (hl' : sl + (n + 4) ≤ R.slots) :
    ∃ a vm1 k1 h', Ext h h' ∧ s.Since vm1 k1 ∧ k1 ≤ h'.size ∧ Z.Warmed39 vm1 ∧ vm1.findClass own = some m.cls ∧ CHr Z EL vmS hS0 vm1 h' ∧ own_R p l e R (s.setVm vm1) m args below meth c S0 n0 h' (ce + 2) (sl + (n + 4)) (mkF m (pc + 2) Ls (.ref a :: st)) := by
  obtain ⟨T, L, X, eT, N, k⟩ := A
  obtain ⟨a, T', h', k1, X', e', E, hS', hk', hZ', hown', HC', HL, sT⟩ := ldcOH X hx hZ hown w wS eT hS hk hEL HC.1 (g := mkF m pc Ls st) rfl hd hn hbig hc hl'
  exact ⟨a, T'.vm, k1, h', E, hS', hk', hZ', hown', HC.trans HC', T', L, X', e', N, k.trans (sT _ (Steps.refl _))⟩
theorem own_R.callSS {index W : Nat} {y : MethodName} {bytes : ByteArray} {maxL : Nat} {ret : Option FieldType} {rm : Room} {as : Array Value} {Q : Option Value → Heap → Prop} {argsL : List Value}
    (A : own_R p l e R (s.setVm vm0) m args below meth c S0 n0 h ce sl (mkF m pc Ls st)) (M : own_MS l Z EL y bytes maxL ret [] rm as h n0 Q) (hx : p.tables.exec = Jvm.exec) (hZ : Z.Warmed39 vm0) (hown : vm0.findClass own = some m.cls)
    (hd : decode c.code pc = .ok (.invokestatic index, 3)) (w1 : (Cond.methodLink own index y).before a0 Z = true) (w2 : (Cond.static y).before a0 Z = true) (w3 : (Cond.initialized y.cls).before a0 Z = true) (w4 : (Cond.code y bytes maxL ret).before a0 Z = true) (hS : s.Since vm0 k0) (hk : k0 ≤ h.size) (hEL : EW Z a0 EL) (HC : CHr Z EL vmS hS0 vm0 h)
    (hy : y.cls ≠ "java/lang/invoke/MethodHandle" ∧ y.cls ≠ "java/lang/invoke/VarHandle") (hlen : ∀ sig, parseMethodDescriptor y.desc = some sig → argsL.length = sig.parameters.length) (hst : st = argsL.reverse ++ rest) (has : argsL.toArray = as)
    (hsz : Ls.size = c.maxLocals) (hW : (rest.map fun v => v.category).sum ≤ W) (hf : rm.frames + 1 ≤ R.frames) (hl : W + (maxL + 11) + rm.locals ≤ R.locals) (hc : ce + rm.cells ≤ R.cells) (hs : sl + rm.slots ≤ R.slots) :
    ∃ v vm1 k1 h', Q v h' ∧ s.Since vm1 k1 ∧ k1 ≤ h'.size ∧ Z.Warmed39 vm1 ∧ vm1.findClass own = some m.cls ∧ CHr Z EL vmS hS0 vm1 h' ∧ h.size ≤ h'.size ∧ (∀ vm2, vm2 = vm0 → (s.setVm vm2).Warmed39 vm1) ∧ own_R p l e R (s.setVm vm1) m args below meth c S0 n0 h' (ce + rm.cells) (sl + rm.slots) (mkF m (pc + 3) Ls (v.toList ++ rest)) := by
  obtain ⟨T, L, X, eT, N, k⟩ := A
  have hZs : Z.Warmed39 (s.setVm vm0).vm := hZ
  obtain ⟨v, vm₁, ⟨T', L', k', n'⟩, -, X', hS', hgr, ⟨Lc, hQ, l1, l2, l3, HC'⟩, sT⟩ := RoadKit.callSS X hx (y := y) hown (mvT hZs w1) (mvT hZs w2) (mvT hZs w3) (mvT hZs w4) hy (backOfSH (W := W) (Q := fun v h' L => Q v h' ∧ Fr n0 L) M hZ w4 w3 hf hl hEL HC.1) (g := mkF m pc Ls st) rfl hsz (argsL := argsL) (rest := rest) hlen hst (by show 2 * 0 + _ ≤ _; omega) hd (fun _ _ => ⟨has, eT, hc, hs⟩)
  dsimp only [Pt.U, Pt.locs, Pt.cells, Pt.slots] at X' l1 l2 l3 sT hQ hS' hgr HC'
  subst l1 l2 l3
  rw [eT] at hgr
  obtain ⟨X2, hS2, hZ2, hown2⟩ := rebS hS hk X' hS' hgr hZs hown
  exact ⟨v, T'.vm, _, _, hQ.1, hS2, Nat.le_refl _, hZ2, hown2, HC.trans HC', hgr, fun _ q => q ▸ hS'.1, T', _, X2, rfl, Fr.app N hQ.2, k.trans sT⟩
theorem own_R.callVS {C : String} {index W : Nat} {y z : MethodName} {bytes : ByteArray} {maxL : Nat} {ret : Option FieldType} {rm : Room} {as : Array Value} {Q : Option Value → Heap → Prop} {b : Addr} {argsL : List Value}
    (A : own_R p l e R (s.setVm vm0) m args below meth c S0 n0 h ce sl (mkF m pc Ls st)) (M : own_MS l Z EL z bytes maxL ret [] rm as h n0 Q) (E : Exa Z h b C) (hx : p.tables.exec = Jvm.exec) (hZ : Z.Warmed39 vm0) (hown : vm0.findClass own = some m.cls)
    (hd : decode c.code pc = .ok (.invokevirtual index, 3)) (w1 : (Cond.methodLink own index y).before a0 Z = true) (w2 : (Cond.declares y).before a0 Z = true) (w3 : (Cond.selects C y z).before a0 Z = true) (w4 : (Cond.instanceMethod z).before a0 Z = true) (w5 : (Cond.code z bytes maxL ret).before a0 Z = true) (w6 : (Cond.initialized z.cls).before a0 Z = true) (hnf : ∀ s' : State, Z.Warmed39 s'.vm → NotFace s' y) (hS : s.Since vm0 k0) (hk : k0 ≤ h.size) (hEL : EW Z a0 EL) (HC : CHr Z EL vmS hS0 vm0 h)
    (hy : y.cls ≠ "java/lang/invoke/MethodHandle" ∧ y.cls ≠ "java/lang/invoke/VarHandle") (hlen : ∀ sig, parseMethodDescriptor y.desc = some sig → argsL.length = sig.parameters.length) (hst : st = argsL.reverse ++ .ref b :: rest) (has : (Value.ref b :: argsL).toArray = as)
    (hsz : Ls.size = c.maxLocals) (hW : (rest.map fun v => v.category).sum ≤ W) (hf : rm.frames + 1 ≤ R.frames) (hl : W + (maxL + 11) + rm.locals ≤ R.locals) (hc : ce + rm.cells ≤ R.cells) (hs : sl + rm.slots ≤ R.slots) :
    ∃ v vm1 k1 h', Q v h' ∧ s.Since vm1 k1 ∧ k1 ≤ h'.size ∧ Z.Warmed39 vm1 ∧ vm1.findClass own = some m.cls ∧ CHr Z EL vmS hS0 vm1 h' ∧ h.size ≤ h'.size ∧ (∀ vm2, vm2 = vm0 → (s.setVm vm2).Warmed39 vm1) ∧ own_R p l e R (s.setVm vm1) m args below meth c S0 n0 h' (ce + rm.cells) (sl + rm.slots) (mkF m (pc + 3) Ls (v.toList ++ rest)) := by
  obtain ⟨T, L, X, eT, N, k⟩ := A
  have hZs : Z.Warmed39 (s.setVm vm0).vm := hZ
  obtain ⟨cq, kq, qa, qb, qc⟩ := isOf hZs eT E
  obtain ⟨v, vm₁, ⟨T', L', k', n'⟩, -, X', hS', hgr, ⟨Lc, hQ, l1, l2, l3, HC'⟩, sT⟩ := X.virtualBackS hx (y := y) (z := z) hown (mvT hZs w1) (mvT hZs w2) (hnf _ hZs) (mvT hZs w3) (mvT hZs w4) hy (backOfSH (W := W) (Q := fun v h' L => Q v h' ∧ Fr n0 L) M hZ w5 w6 hf hl hEL HC.1) qa qc (g := mkF m pc Ls st) rfl hsz (Steps.refl _) (argsL := argsL) (rest := rest) hlen hst (by show 2 * 0 + _ ≤ _; omega) hd (fun _ _ => ⟨has, eT, hc, hs⟩)
  dsimp only [Pt.U, Pt.locs, Pt.cells, Pt.slots] at X' l1 l2 l3 sT hQ hS' hgr HC'
  subst l1 l2 l3
  rw [eT] at hgr
  obtain ⟨X2, hS2, hZ2, hown2⟩ := rebS hS hk X' hS' hgr hZs hown
  exact ⟨v, T'.vm, _, _, hQ.1, hS2, Nat.le_refl _, hZ2, hown2, HC.trans HC', hgr, fun _ q => q ▸ hS'.1, T', _, X2, rfl, Fr.app N hQ.2, k.trans sT⟩
theorem own_R.callIS {index W : Nat} {y : MethodName} {bytes : ByteArray} {maxL : Nat} {rm : Room} {as : Array Value} {Q : Option Value → Heap → Prop} {b : Addr} {argsL : List Value}
    (A : own_R p l e R (s.setVm vm0) m args below meth c S0 n0 h ce sl (mkF m pc Ls st)) (M : own_MS l Z EL y bytes maxL none [] rm as h n0 Q) (hx : p.tables.exec = Jvm.exec) (hZ : Z.Warmed39 vm0) (hown : vm0.findClass own = some m.cls)
    (hd : decode c.code pc = .ok (.invokespecial index, 3)) (hy1 : y.name = "<init>") (w1 : (Cond.methodLink own index y).before a0 Z = true) (w2 : (Cond.instanceMethod y).before a0 Z = true) (w3 : (Cond.code y bytes maxL none).before a0 Z = true) (w4 : (Cond.initialized y.cls).before a0 Z = true) (hS : s.Since vm0 k0) (hk : k0 ≤ h.size) (hEL : EW Z a0 EL) (HC : CHr Z EL vmS hS0 vm0 h)
    (hy : y.cls ≠ "java/lang/invoke/MethodHandle" ∧ y.cls ≠ "java/lang/invoke/VarHandle") (hlen : ∀ sig, parseMethodDescriptor y.desc = some sig → argsL.length = sig.parameters.length) (hst : st = argsL.reverse ++ .ref b :: rest) (has : (Value.ref b :: argsL).toArray = as)
    (hsz : Ls.size = c.maxLocals) (hW : (rest.map fun v => v.category).sum ≤ W) (hf : rm.frames + 1 ≤ R.frames) (hl : W + (maxL + 11) + rm.locals ≤ R.locals) (hc : ce + rm.cells ≤ R.cells) (hs : sl + rm.slots ≤ R.slots) :
    ∃ v vm1 k1 h', Q v h' ∧ s.Since vm1 k1 ∧ k1 ≤ h'.size ∧ Z.Warmed39 vm1 ∧ vm1.findClass own = some m.cls ∧ CHr Z EL vmS hS0 vm1 h' ∧ h.size ≤ h'.size ∧ (∀ vm2, vm2 = vm0 → (s.setVm vm2).Warmed39 vm1) ∧ own_R p l e R (s.setVm vm1) m args below meth c S0 n0 h' (ce + rm.cells) (sl + rm.slots) (mkF m (pc + 3) Ls (v.toList ++ rest)) := by
  obtain ⟨T, L, X, eT, N, k⟩ := A
  have hZs : Z.Warmed39 (s.setVm vm0).vm := hZ
  obtain ⟨v, vm₁, ⟨T', L', k', n'⟩, -, X', hS', hgr, ⟨Lc, hQ, l1, l2, l3, HC'⟩, sT⟩ := X.specialBackS hx (y := y) hy1 hown (mvT hZs w1) (mvT hZs w2) (mvT hZs w3) hy (backOfSH (W := W) (Q := fun v h' L => Q v h' ∧ Fr n0 L) M hZ w3 w4 hf hl hEL HC.1) (g := mkF m pc Ls st) rfl hsz (Steps.refl _) (a := b) (argsL := argsL) (rest := rest) hlen hst (by show 2 * 0 + _ ≤ _; omega) hd (fun _ _ => ⟨has, eT, hc, hs⟩)
  dsimp only [Pt.U, Pt.locs, Pt.cells, Pt.slots] at X' l1 l2 l3 sT hQ hS' hgr HC'
  subst l1 l2 l3
  rw [eT] at hgr
  obtain ⟨X2, hS2, hZ2, hown2⟩ := rebS hS hk X' hS' hgr hZs hown
  exact ⟨v, T'.vm, _, _, hQ.1, hS2, Nat.le_refl _, hZ2, hown2, HC.trans HC', hgr, fun _ q => q ▸ hS'.1, T', _, X2, rfl, Fr.app N hQ.2, k.trans sT⟩
theorem own_R.retSS {w : Value} {t : FieldType} {i : Instr} {Q : Option Value → Heap → Prop}
    (A : own_R p l e R (s.setVm vm0) m args below meth c S0 n0 h ce sl (mkF m pc Ls (w :: rest))) (hx : p.tables.exec = Jvm.exec) (hlk : meth.locks = false) (hZ : Z.Warmed39 vm0) (hS : s.Since vm0 k0) (hk : k0 ≤ h.size) (hEL : EW Z a0 EL) (HC : CHr Z EL s.vm s.heap vm0 h) (hret : meth.sig.returnType = some t) (hd : decode c.code pc = .ok (i, 1)) (hn : narrow t w = w)
    (hi : (i = .ireturn ∧ (t = .int ∨ t = .boolean ∨ t = .byte ∨ t = .char ∨ t = .short) ∧ ∃ z, w = .int z) ∨ (i = .lreturn ∧ t = .long ∧ ∃ z, w = .long z) ∨ (i = .dreturn ∧ t = .double ∧ ∃ z, w = .double z) ∨ (i = .freturn ∧ t = .float ∧ ∃ z, w = .float z) ∨ (i = .areturn ∧ t.isReference = true ∧ w.isRef = true))
    (hc : ce ≤ R.cells) (hs : sl ≤ R.slots) (q : Q (some w) h) : own_ES Z EL p e R s below S0 n0 Q := by
  obtain ⟨T, L, X, eT, N, k⟩ := A
  obtain ⟨fs, hr, hrun, hended, hW⟩ := X.leaveW hS (by rw [eT]; exact hk) (v := some w) (fun h => by rw [hret] at h; cases h) hlk
  have HC2 := HC.trans (CHv.at X hZ hEL HC.1)
  refine ⟨_, _, _, k.trans (retOut X hx hret hn hi hd hr), hrun, hended, ⟨?_, N⟩, ?_, hW.1, hW.2.1, hW.2.2.1, hW.2.2.2.mono hc hs⟩
  · show Q _ T.heap
    rw [eT]; exact q
  · show CHr Z EL s.vm s.heap T.vm T.heap
    rw [eT]; exact HC2
theorem own_R.retVS {Q : Option Value → Heap → Prop}
    (A : own_R p l e R (s.setVm vm0) m args below meth c S0 n0 h ce sl (mkF m pc Ls [])) (hx : p.tables.exec = Jvm.exec) (hlk : meth.locks = false) (hZ : Z.Warmed39 vm0) (hS : s.Since vm0 k0) (hk : k0 ≤ h.size) (hEL : EW Z a0 EL) (HC : CHr Z EL s.vm s.heap vm0 h) (hret : meth.sig.returnType = none) (hd : decode c.code pc = .ok (.return_, 1))
    (hc : ce ≤ R.cells) (hs : sl ≤ R.slots) (q : Q none h) : own_ES Z EL p e R s below S0 n0 Q := by
  obtain ⟨T, L, X, eT, N, k⟩ := A
  obtain ⟨fs, hr, hrun, hended, hW⟩ := X.leaveW hS (by rw [eT]; exact hk) (v := none) (fun _ => rfl) hlk
  have HC2 := HC.trans (CHv.at X hZ hEL HC.1)
  refine ⟨_, _, _, k.trans (X.returnOut hx hret hd hr), hrun, hended, ⟨?_, N⟩, ?_, hW.1, hW.2.1, hW.2.2.1, hW.2.2.2.mono hc hs⟩
  · show Q _ T.heap
    rw [eT]; exact q
  · show CHr Z EL s.vm s.heap T.vm T.heap
    rw [eT]; exact HC2
end Own3

theorem own_ne {Z : State} {args : Array Value} {t1 t2 : Term} {C n d : String} {b1 b2 : Addr} {i j : Int32} (e1 : t1.eval args Z none [] Z = some (.ref b1)) (e2 : t2.eval args Z none [] Z = some (.ref b2)) (f1 : (Cond.eq (.field t1 C n d) (.int i)).value args Z none Z [] = some true)
    (f2 : (Cond.eq (.field t2 C n d) (.int j)).value args Z none Z [] = some true) (hij : i ≠ j) : b1 ≠ b2 := by
  intro q
  subst q
  have g1 := fld_at (C := C) (n := n) (dd := d) e1
  have g2 := fld_at (C := C) (n := n) (dd := d) e2
  simp only [Cond.value, g1, Term.int_eval] at f1
  simp only [Cond.value, g2, Term.int_eval] at f2
  cases hv : Z.fieldOf? b1 C n d with
  | none => rw [hv] at f1; cases f1
  | some w =>
    rw [hv] at f1 f2
    cases w <;> simp at f1 f2
    exact hij (f1.symm.trans f2)
def own_EL : List (String × Nat) := [("com/example/robust_model_checker/robustmodelchecker/property/ExtremumOppositePinLaw", 24), ("com/example/robust_model_checker/robustmodelchecker/property/ExtremumOppositePinLaw", 26)]
theorem d1_0 : decode prog_46_method_5_code 0 = .ok (.aload_n 0, 1) := by decide +kernel
theorem d1_1 : decode prog_46_method_5_code 1 = .ok (.getstatic 3, 3) := by decide +kernel
theorem d1_4 : decode prog_46_method_5_code 4 = .ok (.if_acmp .ne 9, 3) := by decide +kernel
theorem d1_7 : decode prog_46_method_5_code 7 = .ok (.getstatic 7, 3) := by decide +kernel
theorem d1_10 : decode prog_46_method_5_code 10 = .ok (.goto 6, 3) := by decide +kernel
theorem d1_13 : decode prog_46_method_5_code 13 = .ok (.getstatic 3, 3) := by decide +kernel
theorem d1_16 : decode prog_46_method_5_code 16 = .ok (.areturn, 1) := by decide +kernel
theorem ef1 (m : MethodId) (a1 : Addr) : entryFrame m #[(.ref a1)] 1 = mkF m 0 #[.val (.ref a1)] [] := by first | (simp [entryFrame, mkF, argsToLocals, Value.category, maxLocals]; done) | rfl
set_option maxRecDepth 65536 in
set_option maxHeartbeats 40000000 in
theorem own_opp (l : Launch) (Z : State) (a0 : Array Value) (hw : ∀ d ∈ tables_1, d.before a0 Z = true) (a1 b_MAXIMUM b_MINIMUM z : Addr) (h0 : Heap) (n0 : Nat) (Z0 : n0 ≤ h0.size) (S_MAXIMUM : Sta Z h0 "com/example/robust_model_checker/robustmodelchecker/property/Extremum" "MAXIMUM" "Lcom/example/robust_model_checker/robustmodelchecker/property/Extremum;" (.ref b_MAXIMUM)) (S_MINIMUM : Sta Z h0 "com/example/robust_model_checker/robustmodelchecker/property/Extremum" "MINIMUM" "Lcom/example/robust_model_checker/robustmodelchecker/property/Extremum;" (.ref b_MINIMUM)) (hz : (if a1 = b_MAXIMUM then b_MINIMUM else b_MAXIMUM) = z) :
    own_M l Z (⟨"com/example/robust_model_checker/robustmodelchecker/property/Extremum", "opposite", "()Lcom/example/robust_model_checker/robustmodelchecker/property/Extremum;"⟩ : MethodName) prog_46_method_5_code 1 (some (.object "com/example/robust_model_checker/robustmodelchecker/property/Extremum")) [] ({ frames := 0, cells := 0, slots := 0, locals := 0 } : Room) #[(.ref a1)] h0 n0 (fun v h => v = some (.ref z) ∧ h0 = h) := by
  refine own_M.of (plainFor_of_name (by first | (simp [plainName, overriddenIn]; done) | decide +kernel)) ?_
  intro p e s m below meth c S0 hx hby hml hown hnm hret hlk hZ A00
  have A0 := A00.cast (ef1 m a1)
  have A1 := A0.go (f' := mkF m 1 #[.val (.ref a1)] [(.ref a1)]) fun _ _ X _ k => XS.aloadN X.here hx rfl (hb hby d1_0) rfl rfl k
  have A2 : own_R p l e _ _ m _ below meth c S0 n0 h0 0 0 (mkF m 4 #[.val (.ref a1)] [(.ref b_MAXIMUM), (.ref a1)]) := A1.getS hx hZ hown (hb hby d1_1) (hw _ (List.mem_of_getElem? (i := 8) rfl)) Via.refl S_MAXIMUM
  by_cases q3 : a1 = b_MAXIMUM
  · skip
    have A4 := A2.go (f' := mkF m 7 #[.val (.ref a1)] []) fun _ _ X _ k => acmp X hx rfl rfl rfl (same := true) (pc0 := 4) (pc' := 7) rfl (hb hby d1_4) rfl (decide_eq_true (congrArg Value.ref q3)) (by decide) rfl k
    have A5 : own_R p l e _ _ m _ below meth c S0 n0 h0 0 0 (mkF m 10 #[.val (.ref a1)] [(.ref b_MINIMUM)]) := A4.getS hx hZ hown (hb hby d1_7) (hw _ (List.mem_of_getElem? (i := 9) rfl)) Via.refl S_MINIMUM
    have A6 := A5.go (f' := mkF m 16 #[.val (.ref a1)] [(.ref b_MINIMUM)]) fun _ _ X _ k => XS.goto X.here hx rfl (pc0 := 10) (pc' := 16) rfl (hb hby d1_10) (by decide) (by decide) k
    exact A6.ret hx hlk hret (hb hby d1_16) rfl (Or.inr (Or.inr (Or.inr (Or.inr ⟨rfl, rfl, rfl⟩)))) (by decide) (by decide) ⟨by rw [← hz]; simp [q3], rfl⟩
  · skip
    have A7 := A2.go (f' := mkF m 13 #[.val (.ref a1)] []) fun _ _ X _ k => acmp X hx rfl rfl rfl (same := false) (pc0 := 4) (pc' := 13) rfl (hb hby d1_4) rfl (decide_eq_false fun q => q3 (Value.ref.inj q)) (by decide) rfl k
    have A8 : own_R p l e _ _ m _ below meth c S0 n0 h0 0 0 (mkF m 16 #[.val (.ref a1)] [(.ref b_MAXIMUM)]) := A7.getS hx hZ hown (hb hby d1_13) (hw _ (List.mem_of_getElem? (i := 8) rfl)) Via.refl S_MAXIMUM
    exact A8.ret hx hlk hret (hb hby d1_16) rfl (Or.inr (Or.inr (Or.inr (Or.inr ⟨rfl, rfl, rfl⟩)))) (by decide) (by decide) ⟨by rw [← hz]; simp [q3], rfl⟩
theorem d2_0 : decode prog_46_method_4_code 0 = .ok (.aload_n 0, 1) := by decide +kernel
theorem d2_1 : decode prog_46_method_4_code 1 = .ok (.getfield 29, 3) := by decide +kernel
theorem d2_4 : decode prog_46_method_4_code 4 = .ok (.areturn, 1) := by decide +kernel
theorem ef2 (m : MethodId) (a1 : Addr) : entryFrame m #[(.ref a1)] 1 = mkF m 0 #[.val (.ref a1)] [] := by first | (simp [entryFrame, mkF, argsToLocals, Value.category, maxLocals]; done) | rfl
set_option maxRecDepth 65536 in
set_option maxHeartbeats 40000000 in
theorem own_symbol (l : Launch) (Z : State) (a0 : Array Value) (hw : ∀ d ∈ tables_1, d.before a0 Z = true) (a1 y : Addr) (h0 : Heap) (n0 : Nat) (Z0 : n0 ≤ h0.size) (F : Fld Z h0 a1 "com/example/robust_model_checker/robustmodelchecker/property/Extremum" "symbol" "Ljava/lang/String;" (.ref y)) :
    own_M l Z (⟨"com/example/robust_model_checker/robustmodelchecker/property/Extremum", "symbol", "()Ljava/lang/String;"⟩ : MethodName) prog_46_method_4_code 1 (some (.object "java/lang/String")) [] ({ frames := 0, cells := 0, slots := 0, locals := 0 } : Room) #[(.ref a1)] h0 n0 (fun v h => v = some (.ref y) ∧ h0 = h) := by
  refine own_M.of (plainFor_of_name (by first | (simp [plainName, overriddenIn]; done) | decide +kernel)) ?_
  intro p e s m below meth c S0 hx hby hml hown hnm hret hlk hZ A00
  have A0 := A00.cast (ef2 m a1)
  have A1 := A0.go (f' := mkF m 1 #[.val (.ref a1)] [(.ref a1)]) fun _ _ X _ k => XS.aloadN X.here hx rfl (hb hby d2_0) rfl rfl k
  have A2 : own_R p l e _ _ m _ below meth c S0 n0 h0 0 0 (mkF m 4 #[.val (.ref a1)] [(.ref y)]) := A1.getF hx hZ hown (hb hby d2_1) (hw _ (List.mem_of_getElem? (i := 17) rfl)) Via.refl F
  exact A2.ret hx hlk hret (hb hby d2_4) rfl (Or.inr (Or.inr (Or.inr (Or.inr ⟨rfl, rfl, rfl⟩)))) (by decide) (by decide) ⟨rfl, rfl⟩
theorem d3_0 : decode jdk_43_method_13_code 0 = .ok (.aload_n 0, 1) := by decide +kernel
theorem d3_1 : decode jdk_43_method_13_code 1 = .ok (.arraylength, 1) := by decide +kernel
theorem d3_2 : decode jdk_43_method_13_code 2 = .ok (.aload_n 1, 1) := by decide +kernel
theorem d3_3 : decode jdk_43_method_13_code 3 = .ok (.arraylength, 1) := by decide +kernel
theorem d3_4 : decode jdk_43_method_13_code 4 = .ok (.if_icmp .ne 30, 3) := by decide +kernel
theorem d3_7 : decode jdk_43_method_13_code 7 = .ok (.iconst 0, 1) := by decide +kernel
theorem d3_8 : decode jdk_43_method_13_code 8 = .ok (.istore_n 2, 1) := by decide +kernel
theorem d3_9 : decode jdk_43_method_13_code 9 = .ok (.iload_n 2, 1) := by decide +kernel
theorem d3_10 : decode jdk_43_method_13_code 10 = .ok (.aload_n 0, 1) := by decide +kernel
theorem d3_11 : decode jdk_43_method_13_code 11 = .ok (.arraylength, 1) := by decide +kernel
theorem d3_12 : decode jdk_43_method_13_code 12 = .ok (.if_icmp .ge 20, 3) := by decide +kernel
theorem d3_15 : decode jdk_43_method_13_code 15 = .ok (.aload_n 0, 1) := by decide +kernel
theorem d3_16 : decode jdk_43_method_13_code 16 = .ok (.iload_n 2, 1) := by decide +kernel
theorem d3_17 : decode jdk_43_method_13_code 17 = .ok (.baload, 1) := by decide +kernel
theorem d3_18 : decode jdk_43_method_13_code 18 = .ok (.aload_n 1, 1) := by decide +kernel
theorem d3_19 : decode jdk_43_method_13_code 19 = .ok (.iload_n 2, 1) := by decide +kernel
theorem d3_20 : decode jdk_43_method_13_code 20 = .ok (.baload, 1) := by decide +kernel
theorem d3_21 : decode jdk_43_method_13_code 21 = .ok (.if_icmp .eq 5, 3) := by decide +kernel
theorem d3_26 : decode jdk_43_method_13_code 26 = .ok (.iinc 2 1, 3) := by decide +kernel
theorem d3_29 : decode jdk_43_method_13_code 29 = .ok (.goto (-20), 3) := by decide +kernel
theorem d3_32 : decode jdk_43_method_13_code 32 = .ok (.iconst 1, 1) := by decide +kernel
theorem d3_33 : decode jdk_43_method_13_code 33 = .ok (.ireturn, 1) := by decide +kernel
theorem ef3 (m : MethodId) (a1 : Addr) (a2 : Addr) : entryFrame m #[(.ref a1), (.ref a2)] 3 = mkF m 0 #[.val (.ref a1), .val (.ref a2), .unset] [] := by first | (simp [entryFrame, mkF, argsToLocals, Value.category, maxLocals]; done) | rfl
set_option maxRecDepth 65536 in
set_option maxHeartbeats 40000000 in
theorem own_leq (l : Launch) (Z : State) (a0 : Array Value) (hw : ∀ d ∈ tables_1, d.before a0 Z = true) (a1 a2 : Addr) (e0 e1 e2 : Int32) (h0 : Heap) (n0 : Nat) (Z0 : n0 ≤ h0.size) (V_a1 : own_Ar Z h0 a1 .byte [(.int e0), (.int e1), (.int e2)]) (V_a2 : own_Ar Z h0 a2 .byte [(.int e0), (.int e1), (.int e2)]) :
    own_M l Z (⟨"java/lang/StringLatin1", "equals", "([B[B)Z"⟩ : MethodName) jdk_43_method_13_code 3 (some .boolean) [] ({ frames := 0, cells := 0, slots := 0, locals := 0 } : Room) #[(.ref a1), (.ref a2)] h0 n0 (fun v h => v = some (.int 1) ∧ h0 = h) := by
  refine own_M.of (plainFor_of_name (by first | (simp [plainName, overriddenIn]; done) | decide +kernel)) ?_
  intro p e s m below meth c S0 hx hby hml hown hnm hret hlk hZ A00
  have A0 := A00.cast (ef3 m a1 a2)
  have A1 := A0.go (f' := mkF m 1 #[.val (.ref a1), .val (.ref a2), .unset] [(.ref a1)]) fun _ _ X _ k => XS.aloadN X.here hx rfl (hb hby d3_0) rfl rfl k
  have A2 : own_R p l e _ _ m _ below meth c S0 n0 h0 0 0 (mkF m 2 #[.val (.ref a1), .val (.ref a2), .unset] [(.int (3 : Int32))]) := A1.len hx hZ (hb hby d3_1) V_a1
  have A3 := A2.go (f' := mkF m 3 #[.val (.ref a1), .val (.ref a2), .unset] [(.ref a2), (.int (3 : Int32))]) fun _ _ X _ k => XS.aloadN X.here hx rfl (hb hby d3_2) rfl rfl k
  have A4 : own_R p l e _ _ m _ below meth c S0 n0 h0 0 0 (mkF m 4 #[.val (.ref a1), .val (.ref a2), .unset] [(.int (3 : Int32)), (.int (3 : Int32))]) := A3.len hx hZ (hb hby d3_3) V_a2
  have q5 : ((3 : Int32) = (3 : Int32)) := by decide
  have A6 := A4.go (f' := mkF m 7 #[.val (.ref a1), .val (.ref a2), .unset] []) fun _ _ X _ k => XS.icmpNo X.here hx rfl (hb hby d3_4) rfl ((teq q5).2) k
  have A7 := A6.go (f' := mkF m 8 #[.val (.ref a1), .val (.ref a2), .unset] [(.int (0 : Int32))]) fun _ _ X _ k => XS.iconst X.here hx rfl (hb hby d3_7) k
  have A8 := A7.go (f' := mkF m 9 #[.val (.ref a1), .val (.ref a2), .val (.int (0 : Int32))] []) fun _ _ X _ k => XS.istoreN X.here hx rfl (hb hby d3_8) rfl (l' := #[.val (.ref a1), .val (.ref a2), .val (.int (0 : Int32))]) rfl k
  have A9 := A8.go (f' := mkF m 10 #[.val (.ref a1), .val (.ref a2), .val (.int (0 : Int32))] [(.int (0 : Int32))]) fun _ _ X _ k => XS.iloadN X.here hx rfl (hb hby d3_9) rfl k
  have A10 := A9.go (f' := mkF m 11 #[.val (.ref a1), .val (.ref a2), .val (.int (0 : Int32))] [(.ref a1), (.int (0 : Int32))]) fun _ _ X _ k => XS.aloadN X.here hx rfl (hb hby d3_10) rfl rfl k
  have A11 : own_R p l e _ _ m _ below meth c S0 n0 h0 0 0 (mkF m 12 #[.val (.ref a1), .val (.ref a2), .val (.int (0 : Int32))] [(.int (3 : Int32)), (.int (0 : Int32))]) := A10.len hx hZ (hb hby d3_11) V_a1
  have q12 : ((0 : Int32) < (3 : Int32)) := by decide
  have A13 := A11.go (f' := mkF m 15 #[.val (.ref a1), .val (.ref a2), .val (.int (0 : Int32))] []) fun _ _ X _ k => XS.icmpNo X.here hx rfl (hb hby d3_12) rfl ((tlt q12).2.1) k
  have A14 := A13.go (f' := mkF m 16 #[.val (.ref a1), .val (.ref a2), .val (.int (0 : Int32))] [(.ref a1)]) fun _ _ X _ k => XS.aloadN X.here hx rfl (hb hby d3_15) rfl rfl k
  have A15 := A14.go (f' := mkF m 17 #[.val (.ref a1), .val (.ref a2), .val (.int (0 : Int32))] [(.int (0 : Int32)), (.ref a1)]) fun _ _ X _ k => XS.iloadN X.here hx rfl (hb hby d3_16) rfl k
  have A16 : own_R p l e _ _ m _ below meth c S0 n0 h0 0 0 (mkF m 18 #[.val (.ref a1), .val (.ref a2), .val (.int (0 : Int32))] [(.int e0)]) := A15.ldB hx hZ (hb hby d3_17) V_a1 (by decide) rfl
  have A17 := A16.go (f' := mkF m 19 #[.val (.ref a1), .val (.ref a2), .val (.int (0 : Int32))] [(.ref a2), (.int e0)]) fun _ _ X _ k => XS.aloadN X.here hx rfl (hb hby d3_18) rfl rfl k
  have A18 := A17.go (f' := mkF m 20 #[.val (.ref a1), .val (.ref a2), .val (.int (0 : Int32))] [(.int (0 : Int32)), (.ref a2), (.int e0)]) fun _ _ X _ k => XS.iloadN X.here hx rfl (hb hby d3_19) rfl k
  have A19 : own_R p l e _ _ m _ below meth c S0 n0 h0 0 0 (mkF m 21 #[.val (.ref a1), .val (.ref a2), .val (.int (0 : Int32))] [(.int e0), (.int e0)]) := A18.ldB hx hZ (hb hby d3_20) V_a2 (by decide) rfl
  have q20 : (e0 = e0) := rfl
  have A21 := A19.go (f' := mkF m 26 #[.val (.ref a1), .val (.ref a2), .val (.int (0 : Int32))] []) fun _ _ X _ k => XS.icmpYes X.here hx rfl (pc0 := 21) (pc' := 26) rfl (hb hby d3_21) rfl ((teq q20).1) (by decide) (by decide) k
  have A22 := A21.go (f' := mkF m 29 #[.val (.ref a1), .val (.ref a2), .val (.int (1 : Int32))] []) fun _ _ X _ k => XS.iinc X.here hx rfl (hb hby d3_26) rfl (l' := #[.val (.ref a1), .val (.ref a2), .val (.int (1 : Int32))]) rfl k
  have A23 := A22.go (f' := mkF m 9 #[.val (.ref a1), .val (.ref a2), .val (.int (1 : Int32))] []) fun _ _ X _ k => XS.goto X.here hx rfl (pc0 := 29) (pc' := 9) rfl (hb hby d3_29) (by decide) (by decide) k
  have A24 := A23.go (f' := mkF m 10 #[.val (.ref a1), .val (.ref a2), .val (.int (1 : Int32))] [(.int (1 : Int32))]) fun _ _ X _ k => XS.iloadN X.here hx rfl (hb hby d3_9) rfl k
  have A25 := A24.go (f' := mkF m 11 #[.val (.ref a1), .val (.ref a2), .val (.int (1 : Int32))] [(.ref a1), (.int (1 : Int32))]) fun _ _ X _ k => XS.aloadN X.here hx rfl (hb hby d3_10) rfl rfl k
  have A26 : own_R p l e _ _ m _ below meth c S0 n0 h0 0 0 (mkF m 12 #[.val (.ref a1), .val (.ref a2), .val (.int (1 : Int32))] [(.int (3 : Int32)), (.int (1 : Int32))]) := A25.len hx hZ (hb hby d3_11) V_a1
  have q27 : ((1 : Int32) < (3 : Int32)) := by decide
  have A28 := A26.go (f' := mkF m 15 #[.val (.ref a1), .val (.ref a2), .val (.int (1 : Int32))] []) fun _ _ X _ k => XS.icmpNo X.here hx rfl (hb hby d3_12) rfl ((tlt q27).2.1) k
  have A29 := A28.go (f' := mkF m 16 #[.val (.ref a1), .val (.ref a2), .val (.int (1 : Int32))] [(.ref a1)]) fun _ _ X _ k => XS.aloadN X.here hx rfl (hb hby d3_15) rfl rfl k
  have A30 := A29.go (f' := mkF m 17 #[.val (.ref a1), .val (.ref a2), .val (.int (1 : Int32))] [(.int (1 : Int32)), (.ref a1)]) fun _ _ X _ k => XS.iloadN X.here hx rfl (hb hby d3_16) rfl k
  have A31 : own_R p l e _ _ m _ below meth c S0 n0 h0 0 0 (mkF m 18 #[.val (.ref a1), .val (.ref a2), .val (.int (1 : Int32))] [(.int e1)]) := A30.ldB hx hZ (hb hby d3_17) V_a1 (by decide) rfl
  have A32 := A31.go (f' := mkF m 19 #[.val (.ref a1), .val (.ref a2), .val (.int (1 : Int32))] [(.ref a2), (.int e1)]) fun _ _ X _ k => XS.aloadN X.here hx rfl (hb hby d3_18) rfl rfl k
  have A33 := A32.go (f' := mkF m 20 #[.val (.ref a1), .val (.ref a2), .val (.int (1 : Int32))] [(.int (1 : Int32)), (.ref a2), (.int e1)]) fun _ _ X _ k => XS.iloadN X.here hx rfl (hb hby d3_19) rfl k
  have A34 : own_R p l e _ _ m _ below meth c S0 n0 h0 0 0 (mkF m 21 #[.val (.ref a1), .val (.ref a2), .val (.int (1 : Int32))] [(.int e1), (.int e1)]) := A33.ldB hx hZ (hb hby d3_20) V_a2 (by decide) rfl
  have q35 : (e1 = e1) := rfl
  have A36 := A34.go (f' := mkF m 26 #[.val (.ref a1), .val (.ref a2), .val (.int (1 : Int32))] []) fun _ _ X _ k => XS.icmpYes X.here hx rfl (pc0 := 21) (pc' := 26) rfl (hb hby d3_21) rfl ((teq q35).1) (by decide) (by decide) k
  have A37 := A36.go (f' := mkF m 29 #[.val (.ref a1), .val (.ref a2), .val (.int (2 : Int32))] []) fun _ _ X _ k => XS.iinc X.here hx rfl (hb hby d3_26) rfl (l' := #[.val (.ref a1), .val (.ref a2), .val (.int (2 : Int32))]) rfl k
  have A38 := A37.go (f' := mkF m 9 #[.val (.ref a1), .val (.ref a2), .val (.int (2 : Int32))] []) fun _ _ X _ k => XS.goto X.here hx rfl (pc0 := 29) (pc' := 9) rfl (hb hby d3_29) (by decide) (by decide) k
  have A39 := A38.go (f' := mkF m 10 #[.val (.ref a1), .val (.ref a2), .val (.int (2 : Int32))] [(.int (2 : Int32))]) fun _ _ X _ k => XS.iloadN X.here hx rfl (hb hby d3_9) rfl k
  have A40 := A39.go (f' := mkF m 11 #[.val (.ref a1), .val (.ref a2), .val (.int (2 : Int32))] [(.ref a1), (.int (2 : Int32))]) fun _ _ X _ k => XS.aloadN X.here hx rfl (hb hby d3_10) rfl rfl k
  have A41 : own_R p l e _ _ m _ below meth c S0 n0 h0 0 0 (mkF m 12 #[.val (.ref a1), .val (.ref a2), .val (.int (2 : Int32))] [(.int (3 : Int32)), (.int (2 : Int32))]) := A40.len hx hZ (hb hby d3_11) V_a1
  have q42 : ((2 : Int32) < (3 : Int32)) := by decide
  have A43 := A41.go (f' := mkF m 15 #[.val (.ref a1), .val (.ref a2), .val (.int (2 : Int32))] []) fun _ _ X _ k => XS.icmpNo X.here hx rfl (hb hby d3_12) rfl ((tlt q42).2.1) k
  have A44 := A43.go (f' := mkF m 16 #[.val (.ref a1), .val (.ref a2), .val (.int (2 : Int32))] [(.ref a1)]) fun _ _ X _ k => XS.aloadN X.here hx rfl (hb hby d3_15) rfl rfl k
  have A45 := A44.go (f' := mkF m 17 #[.val (.ref a1), .val (.ref a2), .val (.int (2 : Int32))] [(.int (2 : Int32)), (.ref a1)]) fun _ _ X _ k => XS.iloadN X.here hx rfl (hb hby d3_16) rfl k
  have A46 : own_R p l e _ _ m _ below meth c S0 n0 h0 0 0 (mkF m 18 #[.val (.ref a1), .val (.ref a2), .val (.int (2 : Int32))] [(.int e2)]) := A45.ldB hx hZ (hb hby d3_17) V_a1 (by decide) rfl
  have A47 := A46.go (f' := mkF m 19 #[.val (.ref a1), .val (.ref a2), .val (.int (2 : Int32))] [(.ref a2), (.int e2)]) fun _ _ X _ k => XS.aloadN X.here hx rfl (hb hby d3_18) rfl rfl k
  have A48 := A47.go (f' := mkF m 20 #[.val (.ref a1), .val (.ref a2), .val (.int (2 : Int32))] [(.int (2 : Int32)), (.ref a2), (.int e2)]) fun _ _ X _ k => XS.iloadN X.here hx rfl (hb hby d3_19) rfl k
  have A49 : own_R p l e _ _ m _ below meth c S0 n0 h0 0 0 (mkF m 21 #[.val (.ref a1), .val (.ref a2), .val (.int (2 : Int32))] [(.int e2), (.int e2)]) := A48.ldB hx hZ (hb hby d3_20) V_a2 (by decide) rfl
  have q50 : (e2 = e2) := rfl
  have A51 := A49.go (f' := mkF m 26 #[.val (.ref a1), .val (.ref a2), .val (.int (2 : Int32))] []) fun _ _ X _ k => XS.icmpYes X.here hx rfl (pc0 := 21) (pc' := 26) rfl (hb hby d3_21) rfl ((teq q50).1) (by decide) (by decide) k
  have A52 := A51.go (f' := mkF m 29 #[.val (.ref a1), .val (.ref a2), .val (.int (3 : Int32))] []) fun _ _ X _ k => XS.iinc X.here hx rfl (hb hby d3_26) rfl (l' := #[.val (.ref a1), .val (.ref a2), .val (.int (3 : Int32))]) rfl k
  have A53 := A52.go (f' := mkF m 9 #[.val (.ref a1), .val (.ref a2), .val (.int (3 : Int32))] []) fun _ _ X _ k => XS.goto X.here hx rfl (pc0 := 29) (pc' := 9) rfl (hb hby d3_29) (by decide) (by decide) k
  have A54 := A53.go (f' := mkF m 10 #[.val (.ref a1), .val (.ref a2), .val (.int (3 : Int32))] [(.int (3 : Int32))]) fun _ _ X _ k => XS.iloadN X.here hx rfl (hb hby d3_9) rfl k
  have A55 := A54.go (f' := mkF m 11 #[.val (.ref a1), .val (.ref a2), .val (.int (3 : Int32))] [(.ref a1), (.int (3 : Int32))]) fun _ _ X _ k => XS.aloadN X.here hx rfl (hb hby d3_10) rfl rfl k
  have A56 : own_R p l e _ _ m _ below meth c S0 n0 h0 0 0 (mkF m 12 #[.val (.ref a1), .val (.ref a2), .val (.int (3 : Int32))] [(.int (3 : Int32)), (.int (3 : Int32))]) := A55.len hx hZ (hb hby d3_11) V_a1
  have q57 : ¬ ((3 : Int32) < (3 : Int32)) := by decide
  have A58 := A56.go (f' := mkF m 32 #[.val (.ref a1), .val (.ref a2), .val (.int (3 : Int32))] []) fun _ _ X _ k => XS.icmpYes X.here hx rfl (pc0 := 12) (pc' := 32) rfl (hb hby d3_12) rfl ((flt q57).2.1) (by decide) (by decide) k
  have A59 := A58.go (f' := mkF m 33 #[.val (.ref a1), .val (.ref a2), .val (.int (3 : Int32))] [(.int (1 : Int32))]) fun _ _ X _ k => XS.iconst X.here hx rfl (hb hby d3_32) k
  exact A59.ret hx hlk hret (hb hby d3_33) rfl (Or.inl ⟨rfl, by simp, _, rfl⟩) (by decide) (by decide) ⟨rfl, rfl⟩
theorem pd__28_5bB_5bB_29Z : parseMethodDescriptor "([B[B)Z" = some ⟨[(.array .byte), (.array .byte)], some .boolean⟩ := by decide +kernel
theorem d4_0 : decode jdk_42_method_66_code 0 = .ok (.aload_n 0, 1) := by decide +kernel
theorem d4_1 : decode jdk_42_method_66_code 1 = .ok (.aload_n 1, 1) := by decide +kernel
theorem d4_2 : decode jdk_42_method_66_code 2 = .ok (.if_acmp .ne 5, 3) := by decide +kernel
theorem d4_5 : decode jdk_42_method_66_code 5 = .ok (.iconst 1, 1) := by decide +kernel
theorem d4_6 : decode jdk_42_method_66_code 6 = .ok (.ireturn, 1) := by decide +kernel
theorem d4_7 : decode jdk_42_method_66_code 7 = .ok (.aload_n 1, 1) := by decide +kernel
theorem d4_8 : decode jdk_42_method_66_code 8 = .ok (.instanceof 10, 3) := by decide +kernel
theorem d4_11 : decode jdk_42_method_66_code 11 = .ok (.ifCond .eq 43, 3) := by decide +kernel
theorem d4_14 : decode jdk_42_method_66_code 14 = .ok (.aload_n 1, 1) := by decide +kernel
theorem d4_15 : decode jdk_42_method_66_code 15 = .ok (.checkcast 10, 3) := by decide +kernel
theorem d4_18 : decode jdk_42_method_66_code 18 = .ok (.astore_n 2, 1) := by decide +kernel
theorem d4_19 : decode jdk_42_method_66_code 19 = .ok (.getstatic 38, 3) := by decide +kernel
theorem d4_22 : decode jdk_42_method_66_code 22 = .ok (.ifCond .eq 14, 3) := by decide +kernel
theorem d4_25 : decode jdk_42_method_66_code 25 = .ok (.aload_n 0, 1) := by decide +kernel
theorem d4_26 : decode jdk_42_method_66_code 26 = .ok (.getfield 15, 3) := by decide +kernel
theorem d4_29 : decode jdk_42_method_66_code 29 = .ok (.aload_n 2, 1) := by decide +kernel
theorem d4_30 : decode jdk_42_method_66_code 30 = .ok (.getfield 15, 3) := by decide +kernel
theorem d4_33 : decode jdk_42_method_66_code 33 = .ok (.if_icmp .ne 21, 3) := by decide +kernel
theorem d4_36 : decode jdk_42_method_66_code 36 = .ok (.aload_n 0, 1) := by decide +kernel
theorem d4_37 : decode jdk_42_method_66_code 37 = .ok (.getfield 9, 3) := by decide +kernel
theorem d4_40 : decode jdk_42_method_66_code 40 = .ok (.aload_n 2, 1) := by decide +kernel
theorem d4_41 : decode jdk_42_method_66_code 41 = .ok (.getfield 9, 3) := by decide +kernel
theorem d4_44 : decode jdk_42_method_66_code 44 = .ok (.invokestatic 541, 3) := by decide +kernel
theorem d4_47 : decode jdk_42_method_66_code 47 = .ok (.ifCond .eq 7, 3) := by decide +kernel
theorem d4_50 : decode jdk_42_method_66_code 50 = .ok (.iconst 1, 1) := by decide +kernel
theorem d4_51 : decode jdk_42_method_66_code 51 = .ok (.goto 4, 3) := by decide +kernel
theorem d4_55 : decode jdk_42_method_66_code 55 = .ok (.ireturn, 1) := by decide +kernel
theorem ef4 (m : MethodId) (a1 : Addr) (a2 : Addr) : entryFrame m #[(.ref a1), (.ref a2)] 3 = mkF m 0 #[.val (.ref a1), .val (.ref a2), .unset] [] := by first | (simp [entryFrame, mkF, argsToLocals, Value.category, maxLocals]; done) | rfl
set_option maxRecDepth 65536 in
set_option maxHeartbeats 40000000 in
theorem own_eq (l : Launch) (Z : State) (a0 : Array Value) (hw : ∀ d ∈ tables_1, d.before a0 Z = true) (a1 a2 va1 va2 : Addr) (e0 e1 e2 cs : Int32) (h0 : Heap) (n0 : Nat) (Z0 : n0 ≤ h0.size) (E_a1 : Exa Z h0 a1 "java/lang/String") (F_a1_coder : Fld Z h0 a1 "java/lang/String" "coder" "B" (.int (0 : Int32))) (F_a1_value : Fld Z h0 a1 "java/lang/String" "value" "[B" (.ref va1)) (V_va1 : own_Ar Z h0 va1 .byte [(.int e0), (.int e1), (.int e2)]) (E_a2 : Exa Z h0 a2 "java/lang/String") (F_a2_coder : Fld Z h0 a2 "java/lang/String" "coder" "B" (.int (0 : Int32))) (F_a2_value : Fld Z h0 a2 "java/lang/String" "value" "[B" (.ref va2)) (V_va2 : own_Ar Z h0 va2 .byte [(.int e0), (.int e1), (.int e2)]) (S_cs : Sta Z h0 "java/lang/String" "COMPACT_STRINGS" "Z" (.int cs)) (hcs : cs ≠ 0) :
    own_M l Z (⟨"java/lang/String", "equals", "(Ljava/lang/Object;)Z"⟩ : MethodName) jdk_42_method_66_code 3 (some .boolean) [] ({ frames := 1, cells := 0, slots := 0, locals := 16 } : Room) #[(.ref a1), (.ref a2)] h0 n0 (fun v h => v = some (.int 1) ∧ h0 = h) := by
  refine own_M.of (plainFor_of_name (by first | (simp [plainName, overriddenIn]; done) | decide +kernel)) ?_
  intro p e s m below meth c S0 hx hby hml hown hnm hret hlk hZ A00
  have A0 := A00.cast (ef4 m a1 a2)
  have A1 := A0.go (f' := mkF m 1 #[.val (.ref a1), .val (.ref a2), .unset] [(.ref a1)]) fun _ _ X _ k => XS.aloadN X.here hx rfl (hb hby d4_0) rfl rfl k
  have A2 := A1.go (f' := mkF m 2 #[.val (.ref a1), .val (.ref a2), .unset] [(.ref a2), (.ref a1)]) fun _ _ X _ k => XS.aloadN X.here hx rfl (hb hby d4_1) rfl rfl k
  by_cases q3 : a1 = a2
  · skip
    have A4 := A2.go (f' := mkF m 5 #[.val (.ref a1), .val (.ref a2), .unset] []) fun _ _ X _ k => acmp X hx rfl rfl rfl (same := true) (pc0 := 2) (pc' := 5) rfl (hb hby d4_2) rfl (decide_eq_true (congrArg Value.ref q3)) (by decide) rfl k
    have A5 := A4.go (f' := mkF m 6 #[.val (.ref a1), .val (.ref a2), .unset] [(.int (1 : Int32))]) fun _ _ X _ k => XS.iconst X.here hx rfl (hb hby d4_5) k
    exact A5.ret hx hlk hret (hb hby d4_6) rfl (Or.inl ⟨rfl, by simp, _, rfl⟩) (by decide) (by decide) ⟨rfl, rfl⟩
  · skip
    have A6 := A2.go (f' := mkF m 7 #[.val (.ref a1), .val (.ref a2), .unset] []) fun _ _ X _ k => acmp X hx rfl rfl rfl (same := false) (pc0 := 2) (pc' := 7) rfl (hb hby d4_2) rfl (decide_eq_false fun q => q3 (Value.ref.inj q)) (by decide) rfl k
    have A7 := A6.go (f' := mkF m 8 #[.val (.ref a1), .val (.ref a2), .unset] [(.ref a2)]) fun _ _ X _ k => XS.aloadN X.here hx rfl (hb hby d4_7) rfl rfl k
    have A8 : own_R p l e _ _ m _ below meth c S0 n0 h0 0 0 (mkF m 11 #[.val (.ref a1), .val (.ref a2), .unset] [(.int (1 : Int32))]) := A7.instY hx hZ hown (hb hby d4_8) (hw _ (List.mem_of_getElem? (i := 32) rfl)) (Ins.self E_a2)
    have q9 : ¬ ((1 : Int32) = (0 : Int32)) := by decide
    have A10 := A8.go (f' := mkF m 14 #[.val (.ref a1), .val (.ref a2), .unset] []) fun _ _ X _ k => XS.ifNo X.here hx rfl (hb hby d4_11) rfl ((if0 _ _).trans (feq q9).1) k
    have A11 := A10.go (f' := mkF m 15 #[.val (.ref a1), .val (.ref a2), .unset] [(.ref a2)]) fun _ _ X _ k => XS.aloadN X.here hx rfl (hb hby d4_14) rfl rfl k
    have A12 : own_R p l e _ _ m _ below meth c S0 n0 h0 0 0 (mkF m 18 #[.val (.ref a1), .val (.ref a2), .unset] [(.ref a2)]) := A11.castY hx hZ hown (hb hby d4_15) (hw _ (List.mem_of_getElem? (i := 32) rfl)) (Ins.self E_a2)
    have A13 := A12.go (f' := mkF m 19 #[.val (.ref a1), .val (.ref a2), .val (.ref a2)] []) fun _ _ X _ k => XS.astoreN X.here hx rfl (hb hby d4_18) rfl rfl (l' := #[.val (.ref a1), .val (.ref a2), .val (.ref a2)]) rfl k
    have A14 : own_R p l e _ _ m _ below meth c S0 n0 h0 0 0 (mkF m 22 #[.val (.ref a1), .val (.ref a2), .val (.ref a2)] [(.int cs)]) := A13.getS hx hZ hown (hb hby d4_19) (hw _ (List.mem_of_getElem? (i := 34) rfl)) Via.refl S_cs
    have q15 : ¬ (cs = (0 : Int32)) := hcs
    have A16 := A14.go (f' := mkF m 25 #[.val (.ref a1), .val (.ref a2), .val (.ref a2)] []) fun _ _ X _ k => XS.ifNo X.here hx rfl (hb hby d4_22) rfl ((if0 _ _).trans (feq q15).1) k
    have A17 := A16.go (f' := mkF m 26 #[.val (.ref a1), .val (.ref a2), .val (.ref a2)] [(.ref a1)]) fun _ _ X _ k => XS.aloadN X.here hx rfl (hb hby d4_25) rfl rfl k
    have A18 : own_R p l e _ _ m _ below meth c S0 n0 h0 0 0 (mkF m 29 #[.val (.ref a1), .val (.ref a2), .val (.ref a2)] [(.int (0 : Int32))]) := A17.getF hx hZ hown (hb hby d4_26) (hw _ (List.mem_of_getElem? (i := 35) rfl)) Via.refl F_a1_coder
    have A19 := A18.go (f' := mkF m 30 #[.val (.ref a1), .val (.ref a2), .val (.ref a2)] [(.ref a2), (.int (0 : Int32))]) fun _ _ X _ k => XS.aloadN X.here hx rfl (hb hby d4_29) rfl rfl k
    have A20 : own_R p l e _ _ m _ below meth c S0 n0 h0 0 0 (mkF m 33 #[.val (.ref a1), .val (.ref a2), .val (.ref a2)] [(.int (0 : Int32)), (.int (0 : Int32))]) := A19.getF hx hZ hown (hb hby d4_30) (hw _ (List.mem_of_getElem? (i := 35) rfl)) Via.refl F_a2_coder
    have q21 : ((0 : Int32) = (0 : Int32)) := by decide
    have A22 := A20.go (f' := mkF m 36 #[.val (.ref a1), .val (.ref a2), .val (.ref a2)] []) fun _ _ X _ k => XS.icmpNo X.here hx rfl (hb hby d4_33) rfl ((teq q21).2) k
    have A23 := A22.go (f' := mkF m 37 #[.val (.ref a1), .val (.ref a2), .val (.ref a2)] [(.ref a1)]) fun _ _ X _ k => XS.aloadN X.here hx rfl (hb hby d4_36) rfl rfl k
    have A24 : own_R p l e _ _ m _ below meth c S0 n0 h0 0 0 (mkF m 40 #[.val (.ref a1), .val (.ref a2), .val (.ref a2)] [(.ref va1)]) := A23.getF hx hZ hown (hb hby d4_37) (hw _ (List.mem_of_getElem? (i := 36) rfl)) Via.refl F_a1_value
    have A25 := A24.go (f' := mkF m 41 #[.val (.ref a1), .val (.ref a2), .val (.ref a2)] [(.ref a2), (.ref va1)]) fun _ _ X _ k => XS.aloadN X.here hx rfl (hb hby d4_40) rfl rfl k
    have A26 : own_R p l e _ _ m _ below meth c S0 n0 h0 0 0 (mkF m 44 #[.val (.ref a1), .val (.ref a2), .val (.ref a2)] [(.ref va2), (.ref va1)]) := A25.getF hx hZ hown (hb hby d4_41) (hw _ (List.mem_of_getElem? (i := 36) rfl)) Via.refl F_a2_value
    obtain ⟨vA27, hA27, ⟨rfl, rfl⟩, A27⟩ := A26.callS (own_leq l Z a0 hw va1 va2 e0 e1 e2 h0 n0 Z0 V_va1 V_va2) hx hZ hown (hb hby d4_44) (hw _ (List.mem_of_getElem? (i := 37) rfl)) (hw _ (List.mem_of_getElem? (i := 38) rfl)) (hw _ (List.mem_of_getElem? (i := 39) rfl)) (hw _ (List.mem_of_getElem? (i := 40) rfl)) ⟨by decide, by decide⟩ (lenOf pd__28_5bB_5bB_29Z rfl) (argsL := [(.ref va1), (.ref va2)]) (rest := []) rfl rfl (by rw [hml]; rfl) (W := 0) (Nat.le_of_eq rfl) (by decide) (by decide) (by decide) (by decide)
    have A28 : own_R p l e _ _ m _ below meth c S0 n0 h0 0 0 (mkF m 47 #[.val (.ref a1), .val (.ref a2), .val (.ref a2)] [(.int (1 : Int32))]) := A27
    have A29 := A28.go (f' := mkF m 50 #[.val (.ref a1), .val (.ref a2), .val (.ref a2)] []) fun _ _ X _ k => XS.ifNo X.here hx rfl (hb hby d4_47) rfl ((if0 _ _).trans (feq q9).1) k
    have A30 := A29.go (f' := mkF m 51 #[.val (.ref a1), .val (.ref a2), .val (.ref a2)] [(.int (1 : Int32))]) fun _ _ X _ k => XS.iconst X.here hx rfl (hb hby d4_50) k
    have A31 := A30.go (f' := mkF m 55 #[.val (.ref a1), .val (.ref a2), .val (.ref a2)] [(.int (1 : Int32))]) fun _ _ X _ k => XS.goto X.here hx rfl (pc0 := 51) (pc' := 55) rfl (hb hby d4_51) (by decide) (by decide) k
    exact A31.ret hx hlk hret (hb hby d4_55) rfl (Or.inl ⟨rfl, by simp, _, rfl⟩) (by decide) (by decide) ⟨rfl, rfl⟩
theorem pd__28_29Lcom_2fexample_2frobust_model_checker_2frobustmodelchecker_2fproperty_2fExtremum_3b : parseMethodDescriptor "()Lcom/example/robust_model_checker/robustmodelchecker/property/Extremum;" = some ⟨[], some (.object "com/example/robust_model_checker/robustmodelchecker/property/Extremum")⟩ := by decide +kernel
theorem pd__28_29Ljava_2flang_2fString_3b : parseMethodDescriptor "()Ljava/lang/String;" = some ⟨[], some (.object "java/lang/String")⟩ := by decide +kernel
theorem pd__28Ljava_2flang_2fObject_3b_29Z : parseMethodDescriptor "(Ljava/lang/Object;)Z" = some ⟨[(.object "java/lang/Object")], some .boolean⟩ := by decide +kernel
theorem d0_0 : decode code 0 = .ok (.iload_n 0, 1) := at_0
theorem d0_1 : decode code 1 = .ok (.iconst 1, 1) := at_1
theorem d0_2 : decode code 2 = .ok (.iand, 1) := at_2
theorem d0_3 : decode code 3 = .ok (.ifCond .ne 7, 3) := at_3
theorem d0_6 : decode code 6 = .ok (.iconst 1, 1) := at_6
theorem d0_7 : decode code 7 = .ok (.goto 4, 3) := at_7
theorem d0_10 : decode code 10 = .ok (.iconst 0, 1) := at_10
theorem d0_11 : decode code 11 = .ok (.istore_n 1, 1) := at_11
theorem d0_12 : decode code 12 = .ok (.iload_n 1, 1) := at_12
theorem d0_13 : decode code 13 = .ok (.ifCond .eq 9, 3) := at_13
theorem d0_16 : decode code 16 = .ok (.getstatic 7, 3) := at_16
theorem d0_19 : decode code 19 = .ok (.goto 6, 3) := at_19
theorem d0_22 : decode code 22 = .ok (.getstatic 13, 3) := at_22
theorem d0_25 : decode code 25 = .ok (.astore_n 2, 1) := at_25
theorem d0_26 : decode code 26 = .ok (.aload_n 2, 1) := at_26
theorem d0_27 : decode code 27 = .ok (.invokevirtual 16, 3) := at_27
theorem d0_30 : decode code 30 = .ok (.astore_n 3, 1) := at_30
theorem d0_31 : decode code 31 = .ok (.iload_n 1, 1) := at_31
theorem d0_32 : decode code 32 = .ok (.ifCond .eq 9, 3) := at_32
theorem d0_35 : decode code 35 = .ok (.getstatic 13, 3) := at_35
theorem d0_38 : decode code 38 = .ok (.goto 6, 3) := at_38
theorem d0_41 : decode code 41 = .ok (.getstatic 7, 3) := at_41
theorem d0_44 : decode code 44 = .ok (.astore 4, 2) := at_44
theorem d0_46 : decode code 46 = .ok (.aload_n 3, 1) := at_46
theorem d0_47 : decode code 47 = .ok (.aload 4, 2) := at_47
theorem d0_49 : decode code 49 = .ok (.if_acmp .eq 5, 3) := at_49
theorem d0_54 : decode code 54 = .ok (.aload_n 3, 1) := at_54
theorem d0_55 : decode code 55 = .ok (.aload_n 2, 1) := at_55
theorem d0_56 : decode code 56 = .ok (.if_acmp .ne 5, 3) := at_56
theorem d0_61 : decode code 61 = .ok (.aload_n 3, 1) := at_61
theorem d0_62 : decode code 62 = .ok (.invokevirtual 16, 3) := at_62
theorem d0_65 : decode code 65 = .ok (.aload_n 2, 1) := at_65
theorem d0_66 : decode code 66 = .ok (.if_acmp .eq 5, 3) := at_66
theorem d0_71 : decode code 71 = .ok (.aload_n 3, 1) := at_71
theorem d0_72 : decode code 72 = .ok (.invokevirtual 20, 3) := at_72
theorem d0_75 : decode code 75 = .ok (.astore 5, 2) := at_75
theorem d0_77 : decode code 77 = .ok (.aload 5, 2) := at_77
theorem d0_79 : decode code 79 = .ok (.iload_n 1, 1) := at_79
theorem d0_80 : decode code 80 = .ok (.ifCond .eq 8, 3) := at_80
theorem d0_83 : decode code 83 = .ok (.ldc 24, 2) := at_83
theorem d0_85 : decode code 85 = .ok (.goto 5, 3) := at_85
theorem d0_88 : decode code 88 = .ok (.ldc 26, 2) := at_88
theorem d0_90 : decode code 90 = .ok (.invokevirtual 28, 3) := at_90
theorem d0_93 : decode code 93 = .ok (.ireturn, 1) := at_93
theorem ef0 (m : MethodId) (p1 : Int32) : entryFrame m #[(.int p1)] maxLocals = mkF m 0 #[.val (.int p1), .unset, .unset, .unset, .unset, .unset] [] := by first | (simp [entryFrame, mkF, argsToLocals, Value.category, maxLocals]; done) | rfl
set_option maxRecDepth 65536 in
set_option maxHeartbeats 40000000 in
theorem own_law (l : Launch) (Z : State) (a0 : Array Value) (hw : ∀ d ∈ tables_1, d.before a0 Z = true) (p1 cs : Int32) (b_MAXIMUM y_MAXIMUM z_MAXIMUM b_MINIMUM y_MINIMUM z_MINIMUM : Addr) (h0 : Heap) (n0 : Nat) (Z0 : n0 ≤ h0.size) (hEL : EW Z a0 own_EL) (own_wS : ∀ a ∈ Bundle.stringAtoms, a.before a0 Z = true) (S_MAXIMUM : Sta Z h0 "com/example/robust_model_checker/robustmodelchecker/property/Extremum" "MAXIMUM" "Lcom/example/robust_model_checker/robustmodelchecker/property/Extremum;" (.ref b_MAXIMUM)) (E_MAXIMUM : Exa Z h0 b_MAXIMUM "com/example/robust_model_checker/robustmodelchecker/property/Extremum") (F_MAXIMUM_symbol : Fld Z h0 b_MAXIMUM "com/example/robust_model_checker/robustmodelchecker/property/Extremum" "symbol" "Ljava/lang/String;" (.ref y_MAXIMUM)) (Ey_MAXIMUM : Exa Z h0 y_MAXIMUM "java/lang/String") (Fc_MAXIMUM : Fld Z h0 y_MAXIMUM "java/lang/String" "coder" "B" (.int (0 : Int32))) (Fv_MAXIMUM : Fld Z h0 y_MAXIMUM "java/lang/String" "value" "[B" (.ref z_MAXIMUM)) (V_MAXIMUM : own_Ar Z h0 z_MAXIMUM .byte [(.int (109 : Int32)), (.int (97 : Int32)), (.int (120 : Int32))]) (S_MINIMUM : Sta Z h0 "com/example/robust_model_checker/robustmodelchecker/property/Extremum" "MINIMUM" "Lcom/example/robust_model_checker/robustmodelchecker/property/Extremum;" (.ref b_MINIMUM)) (E_MINIMUM : Exa Z h0 b_MINIMUM "com/example/robust_model_checker/robustmodelchecker/property/Extremum") (F_MINIMUM_symbol : Fld Z h0 b_MINIMUM "com/example/robust_model_checker/robustmodelchecker/property/Extremum" "symbol" "Ljava/lang/String;" (.ref y_MINIMUM)) (Ey_MINIMUM : Exa Z h0 y_MINIMUM "java/lang/String") (Fc_MINIMUM : Fld Z h0 y_MINIMUM "java/lang/String" "coder" "B" (.int (0 : Int32))) (Fv_MINIMUM : Fld Z h0 y_MINIMUM "java/lang/String" "value" "[B" (.ref z_MINIMUM)) (V_MINIMUM : own_Ar Z h0 z_MINIMUM .byte [(.int (109 : Int32)), (.int (105 : Int32)), (.int (110 : Int32))]) (S_cs : Sta Z h0 "java/lang/String" "COMPACT_STRINGS" "Z" (.int cs)) (hcs : cs ≠ 0) (ne1 : b_MINIMUM ≠ b_MAXIMUM) :
    own_MS l Z own_EL x code maxLocals ret tables_1 room_1 #[(.int p1)] h0 n0 (fun v h => v = some (.int 1) ∧ True) := by
  refine own_MS.of (plainFor_of_name (by first | (simp [plainName, overriddenIn]; done) | decide +kernel)) ?_
  intro p e s m below meth c S0 vm0 k0 hx hby hml hown hnm hret hlk hZ hS hk HC A00
  have A0 := A00.cast (ef0 m p1)
  have A1 := A0.go (f' := mkF m 1 #[.val (.int p1), .unset, .unset, .unset, .unset, .unset] [(.int p1)]) fun _ _ X _ k => XS.iloadN X.here hx rfl (hb hby d0_0) rfl k
  have A2 := A1.go (f' := mkF m 2 #[.val (.int p1), .unset, .unset, .unset, .unset, .unset] [(.int (1 : Int32)), (.int p1)]) fun _ _ X _ k => XS.iconst X.here hx rfl (hb hby d0_1) k
  have A3 := A2.go (f' := mkF m 3 #[.val (.int p1), .unset, .unset, .unset, .unset, .unset] [(.int (p1 &&& (1 : Int32)))]) fun _ _ X _ k => XS.iand X.here hx rfl (hb hby d0_2) rfl k
  by_cases q4 : (p1 &&& (1 : Int32)) = (0 : Int32)
  · skip
    have A5 := A3.go (f' := mkF m 6 #[.val (.int p1), .unset, .unset, .unset, .unset, .unset] []) fun _ _ X _ k => XS.ifNo X.here hx rfl (hb hby d0_3) rfl ((if0 _ _).trans (teq q4).2) k
    have A6 := A5.go (f' := mkF m 7 #[.val (.int p1), .unset, .unset, .unset, .unset, .unset] [(.int (1 : Int32))]) fun _ _ X _ k => XS.iconst X.here hx rfl (hb hby d0_6) k
    have A7 := A6.go (f' := mkF m 11 #[.val (.int p1), .unset, .unset, .unset, .unset, .unset] [(.int (1 : Int32))]) fun _ _ X _ k => XS.goto X.here hx rfl (pc0 := 7) (pc' := 11) rfl (hb hby d0_7) (by decide) (by decide) k
    have A8 := A7.go (f' := mkF m 12 #[.val (.int p1), .val (.int (1 : Int32)), .unset, .unset, .unset, .unset] []) fun _ _ X _ k => XS.istoreN X.here hx rfl (hb hby d0_11) rfl (l' := #[.val (.int p1), .val (.int (1 : Int32)), .unset, .unset, .unset, .unset]) rfl k
    have A9 := A8.go (f' := mkF m 13 #[.val (.int p1), .val (.int (1 : Int32)), .unset, .unset, .unset, .unset] [(.int (1 : Int32))]) fun _ _ X _ k => XS.iloadN X.here hx rfl (hb hby d0_12) rfl k
    have q10 : ¬ ((1 : Int32) = (0 : Int32)) := by decide
    have A11 := A9.go (f' := mkF m 16 #[.val (.int p1), .val (.int (1 : Int32)), .unset, .unset, .unset, .unset] []) fun _ _ X _ k => XS.ifNo X.here hx rfl (hb hby d0_13) rfl ((if0 _ _).trans (feq q10).1) k
    have A12 : own_R p l e _ _ m _ below meth c S0 n0 h0 0 0 (mkF m 19 #[.val (.int p1), .val (.int (1 : Int32)), .unset, .unset, .unset, .unset] [(.ref b_MAXIMUM)]) := A11.getS hx hZ hown (hb hby d0_16) (hw _ (List.mem_of_getElem? (i := 0) rfl)) Via.refl S_MAXIMUM
    have A13 := A12.go (f' := mkF m 25 #[.val (.int p1), .val (.int (1 : Int32)), .unset, .unset, .unset, .unset] [(.ref b_MAXIMUM)]) fun _ _ X _ k => XS.goto X.here hx rfl (pc0 := 19) (pc' := 25) rfl (hb hby d0_19) (by decide) (by decide) k
    have A14 := A13.go (f' := mkF m 26 #[.val (.int p1), .val (.int (1 : Int32)), .val (.ref b_MAXIMUM), .unset, .unset, .unset] []) fun _ _ X _ k => XS.astoreN X.here hx rfl (hb hby d0_25) rfl rfl (l' := #[.val (.int p1), .val (.int (1 : Int32)), .val (.ref b_MAXIMUM), .unset, .unset, .unset]) rfl k
    have A15 := A14.go (f' := mkF m 27 #[.val (.int p1), .val (.int (1 : Int32)), .val (.ref b_MAXIMUM), .unset, .unset, .unset] [(.ref b_MAXIMUM)]) fun _ _ X _ k => XS.aloadN X.here hx rfl (hb hby d0_26) rfl rfl k
    obtain ⟨vA16, hA16, ⟨rfl, rfl⟩, A16⟩ := A15.callV (b := b_MAXIMUM) (own_opp l Z a0 hw b_MAXIMUM b_MAXIMUM b_MINIMUM b_MINIMUM h0 n0 Z0 S_MAXIMUM S_MINIMUM (by simp)) E_MAXIMUM hx hZ hown (hb hby d0_27) (hw _ (List.mem_of_getElem? (i := 3) rfl)) (hw _ (List.mem_of_getElem? (i := 4) rfl)) (hw _ (List.mem_of_getElem? (i := 6) rfl)) (hw _ (List.mem_of_getElem? (i := 5) rfl)) (hw _ (List.mem_of_getElem? (i := 7) rfl)) (hw _ (List.mem_of_getElem? (i := 1) rfl)) (fun _ q => notFace_of_selects (args := #[]) (mvT q (hw _ (List.mem_of_getElem? (i := 6) rfl)))) ⟨by decide, by decide⟩ (lenOf pd__28_29Lcom_2fexample_2frobust_model_checker_2frobustmodelchecker_2fproperty_2fExtremum_3b rfl) (argsL := []) (rest := []) rfl rfl (by rw [hml]; rfl) (W := 0) (Nat.le_of_eq rfl) (by decide) (by decide) (by decide) (by decide)
    have A17 : own_R p l e _ _ m _ below meth c S0 n0 h0 0 0 (mkF m 30 #[.val (.int p1), .val (.int (1 : Int32)), .val (.ref b_MAXIMUM), .unset, .unset, .unset] [(.ref b_MINIMUM)]) := A16
    have A18 := A17.go (f' := mkF m 31 #[.val (.int p1), .val (.int (1 : Int32)), .val (.ref b_MAXIMUM), .val (.ref b_MINIMUM), .unset, .unset] []) fun _ _ X _ k => XS.astoreN X.here hx rfl (hb hby d0_30) rfl rfl (l' := #[.val (.int p1), .val (.int (1 : Int32)), .val (.ref b_MAXIMUM), .val (.ref b_MINIMUM), .unset, .unset]) rfl k
    have A19 := A18.go (f' := mkF m 32 #[.val (.int p1), .val (.int (1 : Int32)), .val (.ref b_MAXIMUM), .val (.ref b_MINIMUM), .unset, .unset] [(.int (1 : Int32))]) fun _ _ X _ k => XS.iloadN X.here hx rfl (hb hby d0_31) rfl k
    have A20 := A19.go (f' := mkF m 35 #[.val (.int p1), .val (.int (1 : Int32)), .val (.ref b_MAXIMUM), .val (.ref b_MINIMUM), .unset, .unset] []) fun _ _ X _ k => XS.ifNo X.here hx rfl (hb hby d0_32) rfl ((if0 _ _).trans (feq q10).1) k
    have A21 : own_R p l e _ _ m _ below meth c S0 n0 h0 0 0 (mkF m 38 #[.val (.int p1), .val (.int (1 : Int32)), .val (.ref b_MAXIMUM), .val (.ref b_MINIMUM), .unset, .unset] [(.ref b_MINIMUM)]) := A20.getS hx hZ hown (hb hby d0_35) (hw _ (List.mem_of_getElem? (i := 11) rfl)) Via.refl S_MINIMUM
    have A22 := A21.go (f' := mkF m 44 #[.val (.int p1), .val (.int (1 : Int32)), .val (.ref b_MAXIMUM), .val (.ref b_MINIMUM), .unset, .unset] [(.ref b_MINIMUM)]) fun _ _ X _ k => XS.goto X.here hx rfl (pc0 := 38) (pc' := 44) rfl (hb hby d0_38) (by decide) (by decide) k
    have A23 := A22.go (f' := mkF m 46 #[.val (.int p1), .val (.int (1 : Int32)), .val (.ref b_MAXIMUM), .val (.ref b_MINIMUM), .val (.ref b_MINIMUM), .unset] []) fun _ _ X _ k => XS.astore X.here hx rfl (hb hby d0_44) rfl rfl (l' := #[.val (.int p1), .val (.int (1 : Int32)), .val (.ref b_MAXIMUM), .val (.ref b_MINIMUM), .val (.ref b_MINIMUM), .unset]) rfl k
    have A24 := A23.go (f' := mkF m 47 #[.val (.int p1), .val (.int (1 : Int32)), .val (.ref b_MAXIMUM), .val (.ref b_MINIMUM), .val (.ref b_MINIMUM), .unset] [(.ref b_MINIMUM)]) fun _ _ X _ k => XS.aloadN X.here hx rfl (hb hby d0_46) rfl rfl k
    have A25 := A24.go (f' := mkF m 49 #[.val (.int p1), .val (.int (1 : Int32)), .val (.ref b_MAXIMUM), .val (.ref b_MINIMUM), .val (.ref b_MINIMUM), .unset] [(.ref b_MINIMUM), (.ref b_MINIMUM)]) fun _ _ X _ k => XS.aload X.here hx rfl (hb hby d0_47) rfl rfl k
    have q26 : (b_MINIMUM = b_MINIMUM) := rfl
    have A27 := A25.go (f' := mkF m 54 #[.val (.int p1), .val (.int (1 : Int32)), .val (.ref b_MAXIMUM), .val (.ref b_MINIMUM), .val (.ref b_MINIMUM), .unset] []) fun _ _ X _ k => acmp X hx rfl rfl rfl (same := true) (pc0 := 49) (pc' := 54) rfl (hb hby d0_49) rfl (decide_eq_true (congrArg Value.ref q26)) (by decide) rfl k
    have A28 := A27.go (f' := mkF m 55 #[.val (.int p1), .val (.int (1 : Int32)), .val (.ref b_MAXIMUM), .val (.ref b_MINIMUM), .val (.ref b_MINIMUM), .unset] [(.ref b_MINIMUM)]) fun _ _ X _ k => XS.aloadN X.here hx rfl (hb hby d0_54) rfl rfl k
    have A29 := A28.go (f' := mkF m 56 #[.val (.int p1), .val (.int (1 : Int32)), .val (.ref b_MAXIMUM), .val (.ref b_MINIMUM), .val (.ref b_MINIMUM), .unset] [(.ref b_MAXIMUM), (.ref b_MINIMUM)]) fun _ _ X _ k => XS.aloadN X.here hx rfl (hb hby d0_55) rfl rfl k
    have q30 : ¬ (b_MINIMUM = b_MAXIMUM) := ne1
    have A31 := A29.go (f' := mkF m 61 #[.val (.int p1), .val (.int (1 : Int32)), .val (.ref b_MAXIMUM), .val (.ref b_MINIMUM), .val (.ref b_MINIMUM), .unset] []) fun _ _ X _ k => acmp X hx rfl rfl rfl (same := false) (pc0 := 56) (pc' := 61) rfl (hb hby d0_56) rfl (decide_eq_false fun q => q30 (Value.ref.inj q)) (by decide) rfl k
    have A32 := A31.go (f' := mkF m 62 #[.val (.int p1), .val (.int (1 : Int32)), .val (.ref b_MAXIMUM), .val (.ref b_MINIMUM), .val (.ref b_MINIMUM), .unset] [(.ref b_MINIMUM)]) fun _ _ X _ k => XS.aloadN X.here hx rfl (hb hby d0_61) rfl rfl k
    obtain ⟨vA33, hA33, ⟨rfl, rfl⟩, A33⟩ := A32.callV (b := b_MINIMUM) (own_opp l Z a0 hw b_MINIMUM b_MAXIMUM b_MINIMUM b_MAXIMUM h0 n0 Z0 S_MAXIMUM S_MINIMUM (by simp [ne1])) E_MINIMUM hx hZ hown (hb hby d0_62) (hw _ (List.mem_of_getElem? (i := 3) rfl)) (hw _ (List.mem_of_getElem? (i := 4) rfl)) (hw _ (List.mem_of_getElem? (i := 6) rfl)) (hw _ (List.mem_of_getElem? (i := 5) rfl)) (hw _ (List.mem_of_getElem? (i := 7) rfl)) (hw _ (List.mem_of_getElem? (i := 1) rfl)) (fun _ q => notFace_of_selects (args := #[]) (mvT q (hw _ (List.mem_of_getElem? (i := 6) rfl)))) ⟨by decide, by decide⟩ (lenOf pd__28_29Lcom_2fexample_2frobust_model_checker_2frobustmodelchecker_2fproperty_2fExtremum_3b rfl) (argsL := []) (rest := []) rfl rfl (by rw [hml]; rfl) (W := 0) (Nat.le_of_eq rfl) (by decide) (by decide) (by decide) (by decide)
    have A34 : own_R p l e _ _ m _ below meth c S0 n0 h0 0 0 (mkF m 65 #[.val (.int p1), .val (.int (1 : Int32)), .val (.ref b_MAXIMUM), .val (.ref b_MINIMUM), .val (.ref b_MINIMUM), .unset] [(.ref b_MAXIMUM)]) := A33
    have A35 := A34.go (f' := mkF m 66 #[.val (.int p1), .val (.int (1 : Int32)), .val (.ref b_MAXIMUM), .val (.ref b_MINIMUM), .val (.ref b_MINIMUM), .unset] [(.ref b_MAXIMUM), (.ref b_MAXIMUM)]) fun _ _ X _ k => XS.aloadN X.here hx rfl (hb hby d0_65) rfl rfl k
    have q36 : (b_MAXIMUM = b_MAXIMUM) := rfl
    have A37 := A35.go (f' := mkF m 71 #[.val (.int p1), .val (.int (1 : Int32)), .val (.ref b_MAXIMUM), .val (.ref b_MINIMUM), .val (.ref b_MINIMUM), .unset] []) fun _ _ X _ k => acmp X hx rfl rfl rfl (same := true) (pc0 := 66) (pc' := 71) rfl (hb hby d0_66) rfl (decide_eq_true (congrArg Value.ref q36)) (by decide) rfl k
    have A38 := A37.go (f' := mkF m 72 #[.val (.int p1), .val (.int (1 : Int32)), .val (.ref b_MAXIMUM), .val (.ref b_MINIMUM), .val (.ref b_MINIMUM), .unset] [(.ref b_MINIMUM)]) fun _ _ X _ k => XS.aloadN X.here hx rfl (hb hby d0_71) rfl rfl k
    obtain ⟨vA39, hA39, ⟨rfl, rfl⟩, A39⟩ := A38.callV (b := b_MINIMUM) (own_symbol l Z a0 hw b_MINIMUM y_MINIMUM h0 n0 Z0 F_MINIMUM_symbol) E_MINIMUM hx hZ hown (hb hby d0_72) (hw _ (List.mem_of_getElem? (i := 12) rfl)) (hw _ (List.mem_of_getElem? (i := 13) rfl)) (hw _ (List.mem_of_getElem? (i := 15) rfl)) (hw _ (List.mem_of_getElem? (i := 14) rfl)) (hw _ (List.mem_of_getElem? (i := 16) rfl)) (hw _ (List.mem_of_getElem? (i := 1) rfl)) (fun _ q => notFace_of_selects (args := #[]) (mvT q (hw _ (List.mem_of_getElem? (i := 15) rfl)))) ⟨by decide, by decide⟩ (lenOf pd__28_29Ljava_2flang_2fString_3b rfl) (argsL := []) (rest := []) rfl rfl (by rw [hml]; rfl) (W := 0) (Nat.le_of_eq rfl) (by decide) (by decide) (by decide) (by decide)
    have A40 : own_R p l e _ _ m _ below meth c S0 n0 h0 0 0 (mkF m 75 #[.val (.int p1), .val (.int (1 : Int32)), .val (.ref b_MAXIMUM), .val (.ref b_MINIMUM), .val (.ref b_MINIMUM), .unset] [(.ref y_MINIMUM)]) := A39
    have A41 := A40.go (f' := mkF m 77 #[.val (.int p1), .val (.int (1 : Int32)), .val (.ref b_MAXIMUM), .val (.ref b_MINIMUM), .val (.ref b_MINIMUM), .val (.ref y_MINIMUM)] []) fun _ _ X _ k => XS.astore X.here hx rfl (hb hby d0_75) rfl rfl (l' := #[.val (.int p1), .val (.int (1 : Int32)), .val (.ref b_MAXIMUM), .val (.ref b_MINIMUM), .val (.ref b_MINIMUM), .val (.ref y_MINIMUM)]) rfl k
    have A42 := A41.go (f' := mkF m 79 #[.val (.int p1), .val (.int (1 : Int32)), .val (.ref b_MAXIMUM), .val (.ref b_MINIMUM), .val (.ref b_MINIMUM), .val (.ref y_MINIMUM)] [(.ref y_MINIMUM)]) fun _ _ X _ k => XS.aload X.here hx rfl (hb hby d0_77) rfl rfl k
    have A43 := A42.go (f' := mkF m 80 #[.val (.int p1), .val (.int (1 : Int32)), .val (.ref b_MAXIMUM), .val (.ref b_MINIMUM), .val (.ref b_MINIMUM), .val (.ref y_MINIMUM)] [(.int (1 : Int32)), (.ref y_MINIMUM)]) fun _ _ X _ k => XS.iloadN X.here hx rfl (hb hby d0_79) rfl k
    have A44 := A43.go (f' := mkF m 83 #[.val (.int p1), .val (.int (1 : Int32)), .val (.ref b_MAXIMUM), .val (.ref b_MINIMUM), .val (.ref b_MINIMUM), .val (.ref y_MINIMUM)] [(.ref y_MINIMUM)]) fun _ _ X _ k => XS.ifNo X.here hx rfl (hb hby d0_80) rfl ((if0 _ _).trans (feq q10).1) k
    obtain ⟨xs, xb, vmA47, kA47, h45, E46, E_xs, F_xs_coder, F_xs_value, V_xb, ns_xs, hS, hk, hZ, hown, HC, hLA47, A47⟩ := A44.ldcS hx hZ hown (hb hby d0_83) (hw _ (List.mem_of_getElem? (i := 19) rfl)) own_wS hS hk hEL (by simp +decide [own_EL, x]) HC (vs := [(.int (109 : Int32)), (.int (105 : Int32)), (.int (110 : Int32))]) (z := (3 : Int32)) ⟨by decide, by decide⟩ (by decide) (by decide) (n := 12) (by decide) (by decide) (by decide) (by decide)
    have S_MAXIMUM : Sta Z h45 "com/example/robust_model_checker/robustmodelchecker/property/Extremum" "MAXIMUM" "Lcom/example/robust_model_checker/robustmodelchecker/property/Extremum;" (.ref b_MAXIMUM) := S_MAXIMUM.ext E46
    have E_MAXIMUM : Exa Z h45 b_MAXIMUM "com/example/robust_model_checker/robustmodelchecker/property/Extremum" := E_MAXIMUM.ext E46
    have F_MAXIMUM_symbol : Fld Z h45 b_MAXIMUM "com/example/robust_model_checker/robustmodelchecker/property/Extremum" "symbol" "Ljava/lang/String;" (.ref y_MAXIMUM) := F_MAXIMUM_symbol.ext E46
    have Ey_MAXIMUM : Exa Z h45 y_MAXIMUM "java/lang/String" := Ey_MAXIMUM.ext E46
    have Fc_MAXIMUM : Fld Z h45 y_MAXIMUM "java/lang/String" "coder" "B" (.int (0 : Int32)) := Fc_MAXIMUM.ext E46
    have Fv_MAXIMUM : Fld Z h45 y_MAXIMUM "java/lang/String" "value" "[B" (.ref z_MAXIMUM) := Fv_MAXIMUM.ext E46
    have V_MAXIMUM : own_Ar Z h45 z_MAXIMUM .byte [(.int (109 : Int32)), (.int (97 : Int32)), (.int (120 : Int32))] := V_MAXIMUM.ext E46
    have S_MINIMUM : Sta Z h45 "com/example/robust_model_checker/robustmodelchecker/property/Extremum" "MINIMUM" "Lcom/example/robust_model_checker/robustmodelchecker/property/Extremum;" (.ref b_MINIMUM) := S_MINIMUM.ext E46
    have E_MINIMUM : Exa Z h45 b_MINIMUM "com/example/robust_model_checker/robustmodelchecker/property/Extremum" := E_MINIMUM.ext E46
    have F_MINIMUM_symbol : Fld Z h45 b_MINIMUM "com/example/robust_model_checker/robustmodelchecker/property/Extremum" "symbol" "Ljava/lang/String;" (.ref y_MINIMUM) := F_MINIMUM_symbol.ext E46
    have Ey_MINIMUM : Exa Z h45 y_MINIMUM "java/lang/String" := Ey_MINIMUM.ext E46
    have Fc_MINIMUM : Fld Z h45 y_MINIMUM "java/lang/String" "coder" "B" (.int (0 : Int32)) := Fc_MINIMUM.ext E46
    have Fv_MINIMUM : Fld Z h45 y_MINIMUM "java/lang/String" "value" "[B" (.ref z_MINIMUM) := Fv_MINIMUM.ext E46
    have V_MINIMUM : own_Ar Z h45 z_MINIMUM .byte [(.int (109 : Int32)), (.int (105 : Int32)), (.int (110 : Int32))] := V_MINIMUM.ext E46
    have S_cs : Sta Z h45 "java/lang/String" "COMPACT_STRINGS" "Z" (.int cs) := S_cs.ext E46
    have Z0 : n0 ≤ h45.size := Nat.le_trans Z0 E46.1
    have A48 : own_R p l e _ _ m _ below meth c S0 n0 h45 2 16 (mkF m 85 #[.val (.int p1), .val (.int (1 : Int32)), .val (.ref b_MAXIMUM), .val (.ref b_MINIMUM), .val (.ref b_MINIMUM), .val (.ref y_MINIMUM)] [(.ref xs), (.ref y_MINIMUM)]) := A47
    have A49 := A48.go (f' := mkF m 90 #[.val (.int p1), .val (.int (1 : Int32)), .val (.ref b_MAXIMUM), .val (.ref b_MINIMUM), .val (.ref b_MINIMUM), .val (.ref y_MINIMUM)] [(.ref xs), (.ref y_MINIMUM)]) fun _ _ X _ k => XS.goto X.here hx rfl (pc0 := 85) (pc' := 90) rfl (hb hby d0_85) (by decide) (by decide) k
    obtain ⟨vA50, hA50, ⟨rfl, rfl⟩, A50⟩ := A49.callV (b := y_MINIMUM) (own_eq l Z a0 hw y_MINIMUM xs z_MINIMUM xb (109 : Int32) (105 : Int32) (110 : Int32) cs h45 n0 Z0 Ey_MINIMUM Fc_MINIMUM Fv_MINIMUM V_MINIMUM E_xs F_xs_coder F_xs_value V_xb S_cs hcs) Ey_MINIMUM hx hZ hown (hb hby d0_90) (hw _ (List.mem_of_getElem? (i := 27) rfl)) (hw _ (List.mem_of_getElem? (i := 28) rfl)) (hw _ (List.mem_of_getElem? (i := 30) rfl)) (hw _ (List.mem_of_getElem? (i := 29) rfl)) (hw _ (List.mem_of_getElem? (i := 31) rfl)) (hw _ (List.mem_of_getElem? (i := 20) rfl)) (fun _ q => notFace_of_selects (args := #[]) (mvT q (hw _ (List.mem_of_getElem? (i := 30) rfl)))) ⟨by decide, by decide⟩ (lenOf pd__28Ljava_2flang_2fObject_3b_29Z rfl) (argsL := [(.ref xs)]) (rest := []) rfl rfl (by rw [hml]; rfl) (W := 0) (Nat.le_of_eq rfl) (by decide) (by decide) (by decide) (by decide)
    have A51 : own_R p l e _ _ m _ below meth c S0 n0 h45 2 16 (mkF m 93 #[.val (.int p1), .val (.int (1 : Int32)), .val (.ref b_MAXIMUM), .val (.ref b_MINIMUM), .val (.ref b_MINIMUM), .val (.ref y_MINIMUM)] [(.int (1 : Int32))]) := A50
    exact A51.retSS hx hlk hZ hS hk hEL HC hret (hb hby d0_93) rfl (Or.inl ⟨rfl, by simp, _, rfl⟩) (by decide) (by decide) ⟨rfl, trivial⟩
  · skip
    have A52 := A3.go (f' := mkF m 10 #[.val (.int p1), .unset, .unset, .unset, .unset, .unset] []) fun _ _ X _ k => XS.ifYes X.here hx rfl (pc0 := 3) (pc' := 10) rfl (hb hby d0_3) rfl ((if0 _ _).trans (feq q4).2) (by decide) (by decide) k
    have A53 := A52.go (f' := mkF m 11 #[.val (.int p1), .unset, .unset, .unset, .unset, .unset] [(.int (0 : Int32))]) fun _ _ X _ k => XS.iconst X.here hx rfl (hb hby d0_10) k
    have A54 := A53.go (f' := mkF m 12 #[.val (.int p1), .val (.int (0 : Int32)), .unset, .unset, .unset, .unset] []) fun _ _ X _ k => XS.istoreN X.here hx rfl (hb hby d0_11) rfl (l' := #[.val (.int p1), .val (.int (0 : Int32)), .unset, .unset, .unset, .unset]) rfl k
    have A55 := A54.go (f' := mkF m 13 #[.val (.int p1), .val (.int (0 : Int32)), .unset, .unset, .unset, .unset] [(.int (0 : Int32))]) fun _ _ X _ k => XS.iloadN X.here hx rfl (hb hby d0_12) rfl k
    have q56 : ((0 : Int32) = (0 : Int32)) := by decide
    have A57 := A55.go (f' := mkF m 22 #[.val (.int p1), .val (.int (0 : Int32)), .unset, .unset, .unset, .unset] []) fun _ _ X _ k => XS.ifYes X.here hx rfl (pc0 := 13) (pc' := 22) rfl (hb hby d0_13) rfl ((if0 _ _).trans (teq q56).1) (by decide) (by decide) k
    have A58 : own_R p l e _ _ m _ below meth c S0 n0 h0 0 0 (mkF m 25 #[.val (.int p1), .val (.int (0 : Int32)), .unset, .unset, .unset, .unset] [(.ref b_MINIMUM)]) := A57.getS hx hZ hown (hb hby d0_22) (hw _ (List.mem_of_getElem? (i := 11) rfl)) Via.refl S_MINIMUM
    have A59 := A58.go (f' := mkF m 26 #[.val (.int p1), .val (.int (0 : Int32)), .val (.ref b_MINIMUM), .unset, .unset, .unset] []) fun _ _ X _ k => XS.astoreN X.here hx rfl (hb hby d0_25) rfl rfl (l' := #[.val (.int p1), .val (.int (0 : Int32)), .val (.ref b_MINIMUM), .unset, .unset, .unset]) rfl k
    have A60 := A59.go (f' := mkF m 27 #[.val (.int p1), .val (.int (0 : Int32)), .val (.ref b_MINIMUM), .unset, .unset, .unset] [(.ref b_MINIMUM)]) fun _ _ X _ k => XS.aloadN X.here hx rfl (hb hby d0_26) rfl rfl k
    obtain ⟨vA61, hA61, ⟨rfl, rfl⟩, A61⟩ := A60.callV (b := b_MINIMUM) (own_opp l Z a0 hw b_MINIMUM b_MAXIMUM b_MINIMUM b_MAXIMUM h0 n0 Z0 S_MAXIMUM S_MINIMUM (by simp [ne1])) E_MINIMUM hx hZ hown (hb hby d0_27) (hw _ (List.mem_of_getElem? (i := 3) rfl)) (hw _ (List.mem_of_getElem? (i := 4) rfl)) (hw _ (List.mem_of_getElem? (i := 6) rfl)) (hw _ (List.mem_of_getElem? (i := 5) rfl)) (hw _ (List.mem_of_getElem? (i := 7) rfl)) (hw _ (List.mem_of_getElem? (i := 1) rfl)) (fun _ q => notFace_of_selects (args := #[]) (mvT q (hw _ (List.mem_of_getElem? (i := 6) rfl)))) ⟨by decide, by decide⟩ (lenOf pd__28_29Lcom_2fexample_2frobust_model_checker_2frobustmodelchecker_2fproperty_2fExtremum_3b rfl) (argsL := []) (rest := []) rfl rfl (by rw [hml]; rfl) (W := 0) (Nat.le_of_eq rfl) (by decide) (by decide) (by decide) (by decide)
    have A62 : own_R p l e _ _ m _ below meth c S0 n0 h0 0 0 (mkF m 30 #[.val (.int p1), .val (.int (0 : Int32)), .val (.ref b_MINIMUM), .unset, .unset, .unset] [(.ref b_MAXIMUM)]) := A61
    have A63 := A62.go (f' := mkF m 31 #[.val (.int p1), .val (.int (0 : Int32)), .val (.ref b_MINIMUM), .val (.ref b_MAXIMUM), .unset, .unset] []) fun _ _ X _ k => XS.astoreN X.here hx rfl (hb hby d0_30) rfl rfl (l' := #[.val (.int p1), .val (.int (0 : Int32)), .val (.ref b_MINIMUM), .val (.ref b_MAXIMUM), .unset, .unset]) rfl k
    have A64 := A63.go (f' := mkF m 32 #[.val (.int p1), .val (.int (0 : Int32)), .val (.ref b_MINIMUM), .val (.ref b_MAXIMUM), .unset, .unset] [(.int (0 : Int32))]) fun _ _ X _ k => XS.iloadN X.here hx rfl (hb hby d0_31) rfl k
    have A65 := A64.go (f' := mkF m 41 #[.val (.int p1), .val (.int (0 : Int32)), .val (.ref b_MINIMUM), .val (.ref b_MAXIMUM), .unset, .unset] []) fun _ _ X _ k => XS.ifYes X.here hx rfl (pc0 := 32) (pc' := 41) rfl (hb hby d0_32) rfl ((if0 _ _).trans (teq q56).1) (by decide) (by decide) k
    have A66 : own_R p l e _ _ m _ below meth c S0 n0 h0 0 0 (mkF m 44 #[.val (.int p1), .val (.int (0 : Int32)), .val (.ref b_MINIMUM), .val (.ref b_MAXIMUM), .unset, .unset] [(.ref b_MAXIMUM)]) := A65.getS hx hZ hown (hb hby d0_41) (hw _ (List.mem_of_getElem? (i := 0) rfl)) Via.refl S_MAXIMUM
    have A67 := A66.go (f' := mkF m 46 #[.val (.int p1), .val (.int (0 : Int32)), .val (.ref b_MINIMUM), .val (.ref b_MAXIMUM), .val (.ref b_MAXIMUM), .unset] []) fun _ _ X _ k => XS.astore X.here hx rfl (hb hby d0_44) rfl rfl (l' := #[.val (.int p1), .val (.int (0 : Int32)), .val (.ref b_MINIMUM), .val (.ref b_MAXIMUM), .val (.ref b_MAXIMUM), .unset]) rfl k
    have A68 := A67.go (f' := mkF m 47 #[.val (.int p1), .val (.int (0 : Int32)), .val (.ref b_MINIMUM), .val (.ref b_MAXIMUM), .val (.ref b_MAXIMUM), .unset] [(.ref b_MAXIMUM)]) fun _ _ X _ k => XS.aloadN X.here hx rfl (hb hby d0_46) rfl rfl k
    have A69 := A68.go (f' := mkF m 49 #[.val (.int p1), .val (.int (0 : Int32)), .val (.ref b_MINIMUM), .val (.ref b_MAXIMUM), .val (.ref b_MAXIMUM), .unset] [(.ref b_MAXIMUM), (.ref b_MAXIMUM)]) fun _ _ X _ k => XS.aload X.here hx rfl (hb hby d0_47) rfl rfl k
    have q70 : (b_MAXIMUM = b_MAXIMUM) := rfl
    have A71 := A69.go (f' := mkF m 54 #[.val (.int p1), .val (.int (0 : Int32)), .val (.ref b_MINIMUM), .val (.ref b_MAXIMUM), .val (.ref b_MAXIMUM), .unset] []) fun _ _ X _ k => acmp X hx rfl rfl rfl (same := true) (pc0 := 49) (pc' := 54) rfl (hb hby d0_49) rfl (decide_eq_true (congrArg Value.ref q70)) (by decide) rfl k
    have A72 := A71.go (f' := mkF m 55 #[.val (.int p1), .val (.int (0 : Int32)), .val (.ref b_MINIMUM), .val (.ref b_MAXIMUM), .val (.ref b_MAXIMUM), .unset] [(.ref b_MAXIMUM)]) fun _ _ X _ k => XS.aloadN X.here hx rfl (hb hby d0_54) rfl rfl k
    have A73 := A72.go (f' := mkF m 56 #[.val (.int p1), .val (.int (0 : Int32)), .val (.ref b_MINIMUM), .val (.ref b_MAXIMUM), .val (.ref b_MAXIMUM), .unset] [(.ref b_MINIMUM), (.ref b_MAXIMUM)]) fun _ _ X _ k => XS.aloadN X.here hx rfl (hb hby d0_55) rfl rfl k
    have q74 : ¬ (b_MAXIMUM = b_MINIMUM) := Ne.symm ne1
    have A75 := A73.go (f' := mkF m 61 #[.val (.int p1), .val (.int (0 : Int32)), .val (.ref b_MINIMUM), .val (.ref b_MAXIMUM), .val (.ref b_MAXIMUM), .unset] []) fun _ _ X _ k => acmp X hx rfl rfl rfl (same := false) (pc0 := 56) (pc' := 61) rfl (hb hby d0_56) rfl (decide_eq_false fun q => q74 (Value.ref.inj q)) (by decide) rfl k
    have A76 := A75.go (f' := mkF m 62 #[.val (.int p1), .val (.int (0 : Int32)), .val (.ref b_MINIMUM), .val (.ref b_MAXIMUM), .val (.ref b_MAXIMUM), .unset] [(.ref b_MAXIMUM)]) fun _ _ X _ k => XS.aloadN X.here hx rfl (hb hby d0_61) rfl rfl k
    obtain ⟨vA77, hA77, ⟨rfl, rfl⟩, A77⟩ := A76.callV (b := b_MAXIMUM) (own_opp l Z a0 hw b_MAXIMUM b_MAXIMUM b_MINIMUM b_MINIMUM h0 n0 Z0 S_MAXIMUM S_MINIMUM (by simp)) E_MAXIMUM hx hZ hown (hb hby d0_62) (hw _ (List.mem_of_getElem? (i := 3) rfl)) (hw _ (List.mem_of_getElem? (i := 4) rfl)) (hw _ (List.mem_of_getElem? (i := 6) rfl)) (hw _ (List.mem_of_getElem? (i := 5) rfl)) (hw _ (List.mem_of_getElem? (i := 7) rfl)) (hw _ (List.mem_of_getElem? (i := 1) rfl)) (fun _ q => notFace_of_selects (args := #[]) (mvT q (hw _ (List.mem_of_getElem? (i := 6) rfl)))) ⟨by decide, by decide⟩ (lenOf pd__28_29Lcom_2fexample_2frobust_model_checker_2frobustmodelchecker_2fproperty_2fExtremum_3b rfl) (argsL := []) (rest := []) rfl rfl (by rw [hml]; rfl) (W := 0) (Nat.le_of_eq rfl) (by decide) (by decide) (by decide) (by decide)
    have A78 : own_R p l e _ _ m _ below meth c S0 n0 h0 0 0 (mkF m 65 #[.val (.int p1), .val (.int (0 : Int32)), .val (.ref b_MINIMUM), .val (.ref b_MAXIMUM), .val (.ref b_MAXIMUM), .unset] [(.ref b_MINIMUM)]) := A77
    have A79 := A78.go (f' := mkF m 66 #[.val (.int p1), .val (.int (0 : Int32)), .val (.ref b_MINIMUM), .val (.ref b_MAXIMUM), .val (.ref b_MAXIMUM), .unset] [(.ref b_MINIMUM), (.ref b_MINIMUM)]) fun _ _ X _ k => XS.aloadN X.here hx rfl (hb hby d0_65) rfl rfl k
    have q80 : (b_MINIMUM = b_MINIMUM) := rfl
    have A81 := A79.go (f' := mkF m 71 #[.val (.int p1), .val (.int (0 : Int32)), .val (.ref b_MINIMUM), .val (.ref b_MAXIMUM), .val (.ref b_MAXIMUM), .unset] []) fun _ _ X _ k => acmp X hx rfl rfl rfl (same := true) (pc0 := 66) (pc' := 71) rfl (hb hby d0_66) rfl (decide_eq_true (congrArg Value.ref q80)) (by decide) rfl k
    have A82 := A81.go (f' := mkF m 72 #[.val (.int p1), .val (.int (0 : Int32)), .val (.ref b_MINIMUM), .val (.ref b_MAXIMUM), .val (.ref b_MAXIMUM), .unset] [(.ref b_MAXIMUM)]) fun _ _ X _ k => XS.aloadN X.here hx rfl (hb hby d0_71) rfl rfl k
    obtain ⟨vA83, hA83, ⟨rfl, rfl⟩, A83⟩ := A82.callV (b := b_MAXIMUM) (own_symbol l Z a0 hw b_MAXIMUM y_MAXIMUM h0 n0 Z0 F_MAXIMUM_symbol) E_MAXIMUM hx hZ hown (hb hby d0_72) (hw _ (List.mem_of_getElem? (i := 12) rfl)) (hw _ (List.mem_of_getElem? (i := 13) rfl)) (hw _ (List.mem_of_getElem? (i := 15) rfl)) (hw _ (List.mem_of_getElem? (i := 14) rfl)) (hw _ (List.mem_of_getElem? (i := 16) rfl)) (hw _ (List.mem_of_getElem? (i := 1) rfl)) (fun _ q => notFace_of_selects (args := #[]) (mvT q (hw _ (List.mem_of_getElem? (i := 15) rfl)))) ⟨by decide, by decide⟩ (lenOf pd__28_29Ljava_2flang_2fString_3b rfl) (argsL := []) (rest := []) rfl rfl (by rw [hml]; rfl) (W := 0) (Nat.le_of_eq rfl) (by decide) (by decide) (by decide) (by decide)
    have A84 : own_R p l e _ _ m _ below meth c S0 n0 h0 0 0 (mkF m 75 #[.val (.int p1), .val (.int (0 : Int32)), .val (.ref b_MINIMUM), .val (.ref b_MAXIMUM), .val (.ref b_MAXIMUM), .unset] [(.ref y_MAXIMUM)]) := A83
    have A85 := A84.go (f' := mkF m 77 #[.val (.int p1), .val (.int (0 : Int32)), .val (.ref b_MINIMUM), .val (.ref b_MAXIMUM), .val (.ref b_MAXIMUM), .val (.ref y_MAXIMUM)] []) fun _ _ X _ k => XS.astore X.here hx rfl (hb hby d0_75) rfl rfl (l' := #[.val (.int p1), .val (.int (0 : Int32)), .val (.ref b_MINIMUM), .val (.ref b_MAXIMUM), .val (.ref b_MAXIMUM), .val (.ref y_MAXIMUM)]) rfl k
    have A86 := A85.go (f' := mkF m 79 #[.val (.int p1), .val (.int (0 : Int32)), .val (.ref b_MINIMUM), .val (.ref b_MAXIMUM), .val (.ref b_MAXIMUM), .val (.ref y_MAXIMUM)] [(.ref y_MAXIMUM)]) fun _ _ X _ k => XS.aload X.here hx rfl (hb hby d0_77) rfl rfl k
    have A87 := A86.go (f' := mkF m 80 #[.val (.int p1), .val (.int (0 : Int32)), .val (.ref b_MINIMUM), .val (.ref b_MAXIMUM), .val (.ref b_MAXIMUM), .val (.ref y_MAXIMUM)] [(.int (0 : Int32)), (.ref y_MAXIMUM)]) fun _ _ X _ k => XS.iloadN X.here hx rfl (hb hby d0_79) rfl k
    have A88 := A87.go (f' := mkF m 88 #[.val (.int p1), .val (.int (0 : Int32)), .val (.ref b_MINIMUM), .val (.ref b_MAXIMUM), .val (.ref b_MAXIMUM), .val (.ref y_MAXIMUM)] [(.ref y_MAXIMUM)]) fun _ _ X _ k => XS.ifYes X.here hx rfl (pc0 := 80) (pc' := 88) rfl (hb hby d0_80) rfl ((if0 _ _).trans (teq q56).1) (by decide) (by decide) k
    obtain ⟨xs, xb, vmA91, kA91, h89, E90, E_xs, F_xs_coder, F_xs_value, V_xb, ns_xs, hS, hk, hZ, hown, HC, hLA91, A91⟩ := A88.ldcS hx hZ hown (hb hby d0_88) (hw _ (List.mem_of_getElem? (i := 41) rfl)) own_wS hS hk hEL (by simp +decide [own_EL, x]) HC (vs := [(.int (109 : Int32)), (.int (97 : Int32)), (.int (120 : Int32))]) (z := (3 : Int32)) ⟨by decide, by decide⟩ (by decide) (by decide) (n := 12) (by decide) (by decide) (by decide) (by decide)
    have S_MAXIMUM : Sta Z h89 "com/example/robust_model_checker/robustmodelchecker/property/Extremum" "MAXIMUM" "Lcom/example/robust_model_checker/robustmodelchecker/property/Extremum;" (.ref b_MAXIMUM) := S_MAXIMUM.ext E90
    have E_MAXIMUM : Exa Z h89 b_MAXIMUM "com/example/robust_model_checker/robustmodelchecker/property/Extremum" := E_MAXIMUM.ext E90
    have F_MAXIMUM_symbol : Fld Z h89 b_MAXIMUM "com/example/robust_model_checker/robustmodelchecker/property/Extremum" "symbol" "Ljava/lang/String;" (.ref y_MAXIMUM) := F_MAXIMUM_symbol.ext E90
    have Ey_MAXIMUM : Exa Z h89 y_MAXIMUM "java/lang/String" := Ey_MAXIMUM.ext E90
    have Fc_MAXIMUM : Fld Z h89 y_MAXIMUM "java/lang/String" "coder" "B" (.int (0 : Int32)) := Fc_MAXIMUM.ext E90
    have Fv_MAXIMUM : Fld Z h89 y_MAXIMUM "java/lang/String" "value" "[B" (.ref z_MAXIMUM) := Fv_MAXIMUM.ext E90
    have V_MAXIMUM : own_Ar Z h89 z_MAXIMUM .byte [(.int (109 : Int32)), (.int (97 : Int32)), (.int (120 : Int32))] := V_MAXIMUM.ext E90
    have S_MINIMUM : Sta Z h89 "com/example/robust_model_checker/robustmodelchecker/property/Extremum" "MINIMUM" "Lcom/example/robust_model_checker/robustmodelchecker/property/Extremum;" (.ref b_MINIMUM) := S_MINIMUM.ext E90
    have E_MINIMUM : Exa Z h89 b_MINIMUM "com/example/robust_model_checker/robustmodelchecker/property/Extremum" := E_MINIMUM.ext E90
    have F_MINIMUM_symbol : Fld Z h89 b_MINIMUM "com/example/robust_model_checker/robustmodelchecker/property/Extremum" "symbol" "Ljava/lang/String;" (.ref y_MINIMUM) := F_MINIMUM_symbol.ext E90
    have Ey_MINIMUM : Exa Z h89 y_MINIMUM "java/lang/String" := Ey_MINIMUM.ext E90
    have Fc_MINIMUM : Fld Z h89 y_MINIMUM "java/lang/String" "coder" "B" (.int (0 : Int32)) := Fc_MINIMUM.ext E90
    have Fv_MINIMUM : Fld Z h89 y_MINIMUM "java/lang/String" "value" "[B" (.ref z_MINIMUM) := Fv_MINIMUM.ext E90
    have V_MINIMUM : own_Ar Z h89 z_MINIMUM .byte [(.int (109 : Int32)), (.int (105 : Int32)), (.int (110 : Int32))] := V_MINIMUM.ext E90
    have S_cs : Sta Z h89 "java/lang/String" "COMPACT_STRINGS" "Z" (.int cs) := S_cs.ext E90
    have Z0 : n0 ≤ h89.size := Nat.le_trans Z0 E90.1
    have A92 : own_R p l e _ _ m _ below meth c S0 n0 h89 2 16 (mkF m 90 #[.val (.int p1), .val (.int (0 : Int32)), .val (.ref b_MINIMUM), .val (.ref b_MAXIMUM), .val (.ref b_MAXIMUM), .val (.ref y_MAXIMUM)] [(.ref xs), (.ref y_MAXIMUM)]) := A91
    obtain ⟨vA93, hA93, ⟨rfl, rfl⟩, A93⟩ := A92.callV (b := y_MAXIMUM) (own_eq l Z a0 hw y_MAXIMUM xs z_MAXIMUM xb (109 : Int32) (97 : Int32) (120 : Int32) cs h89 n0 Z0 Ey_MAXIMUM Fc_MAXIMUM Fv_MAXIMUM V_MAXIMUM E_xs F_xs_coder F_xs_value V_xb S_cs hcs) Ey_MAXIMUM hx hZ hown (hb hby d0_90) (hw _ (List.mem_of_getElem? (i := 27) rfl)) (hw _ (List.mem_of_getElem? (i := 28) rfl)) (hw _ (List.mem_of_getElem? (i := 30) rfl)) (hw _ (List.mem_of_getElem? (i := 29) rfl)) (hw _ (List.mem_of_getElem? (i := 31) rfl)) (hw _ (List.mem_of_getElem? (i := 20) rfl)) (fun _ q => notFace_of_selects (args := #[]) (mvT q (hw _ (List.mem_of_getElem? (i := 30) rfl)))) ⟨by decide, by decide⟩ (lenOf pd__28Ljava_2flang_2fObject_3b_29Z rfl) (argsL := [(.ref xs)]) (rest := []) rfl rfl (by rw [hml]; rfl) (W := 0) (Nat.le_of_eq rfl) (by decide) (by decide) (by decide) (by decide)
    have A94 : own_R p l e _ _ m _ below meth c S0 n0 h89 2 16 (mkF m 93 #[.val (.int p1), .val (.int (0 : Int32)), .val (.ref b_MINIMUM), .val (.ref b_MAXIMUM), .val (.ref b_MAXIMUM), .val (.ref y_MAXIMUM)] [(.int (1 : Int32))]) := A93
    exact A94.retSS hx hlk hZ hS hk hEL HC hret (hb hby d0_93) rfl (Or.inl ⟨rfl, by simp, _, rfl⟩) (by decide) (by decide) ⟨rfl, trivial⟩
set_option maxRecDepth 65536 in
set_option maxHeartbeats 40000000 in
theorem comes_1 {Post : Tables → Env → Array Value → State → Outcome → State → Prop} (hpost : ∀ tb e args s v u, (limb_1_1.after args s (.returned v) u = true ∧ limb_1_2.after args s (.returned v) u = true ∧ True) → ReturnedEndW s (.returned v) u (Jvm.fieldLocs frame_1_writes args s ++ Jvm.arrayLocs frame_1_arrays args s ++ Jvm.staticLocs frame_1_statics s) 8 2112 → Post tb e args s (.returned v) u) :
    ArmFor flags0 classFile x code maxLocals ret World_1 tables_1 room_1 Calls_1 rest_1 Pre_1 Post := by
  intro l hfl _ _ p e ha hc hk s m args below hf hA hF happ hP
  obtain ⟨hcalls, hrest, hpre⟩ := hP
  obtain ⟨-, -, -, hnamed, -, -, -, hat⟩ := (Spec.applies_iff hf).mp happ
  obtain ⟨hg, hn⟩ := and_e (Cond.before_iff.mp (show (Jvm.Cond.and given_1 narrow_1).before args s = true from hpre))
  obtain ⟨h1, g0⟩ := and_e hg
  obtain ⟨w0, rfl⟩ : ∃ w0 : Value, args = #[w0] := by
    have hs : args.size = 1 := by simpa [Cond.value, given_1] using h1
    obtain ⟨L⟩ := args
    match L, hs with
    | [w0], _ => exact ⟨w0, rfl⟩
  have hw := fun d (hd : d ∈ tables_1) => atoms_spec (ws := Jvm.Cond.code x code maxLocals ret :: tables_1) hat d (List.mem_cons_of_mem _ hd)
  have hfit : Fit s := fun {y c} hc i hi => by
    obtain ⟨ha, rfl⟩ := Array.getElem?_eq_some_iff.mp hc
    have q := List.all_eq_true.mp ((Array.all_eq_true_iff_forall_mem.mp hF) _ (Array.getElem_mem ha)) i (List.mem_range.mpr hi)
    simpa [Array.getElem?_eq_getElem hi] using q
  obtain ⟨i0, e0⟩ := is_v g0
  obtain rfl : w0 = (.int i0) := Option.some.inj e0
  have own_wS : ∀ d ∈ Bundle.stringAtoms, d.before #[(.int i0)] s = true := by
    intro d hd
    simp only [Bundle.stringAtoms, List.mem_cons, List.not_mem_nil, or_false] at hd
    rcases hd with rfl | rfl | rfl | rfl | rfl | rfl | rfl
    · exact (hw _ (List.mem_of_getElem? (i := 20) rfl))
    · exact (hw _ (List.mem_of_getElem? (i := 21) rfl))
    · exact (hw _ (List.mem_of_getElem? (i := 22) rfl))
    · exact (hw _ (List.mem_of_getElem? (i := 23) rfl))
    · exact (hw _ (List.mem_of_getElem? (i := 24) rfl))
    · exact (hw _ (List.mem_of_getElem? (i := 25) rfl))
    · exact (hw _ (List.mem_of_getElem? (i := 26) rfl))
  obtain ⟨n0, r0⟩ := and_e hn
  obtain ⟨b_MAXIMUM, ev_MAXIMUM⟩ := exa_v n0
  have E_MAXIMUM := Exa.start ev_MAXIMUM n0
  have S_MAXIMUM := Sta.start ev_MAXIMUM (Or.inr ⟨(hw _ (List.mem_of_getElem? (i := 1) rfl)), (hw _ (List.mem_of_getElem? (i := 2) rfl))⟩)
  obtain ⟨n1, r1⟩ := and_e r0
  obtain ⟨b_MINIMUM, ev_MINIMUM⟩ := exa_v n1
  have E_MINIMUM := Exa.start ev_MINIMUM n1
  have S_MINIMUM := Sta.start ev_MINIMUM (Or.inr ⟨(hw _ (List.mem_of_getElem? (i := 1) rfl)), (hw _ (List.mem_of_getElem? (i := 10) rfl))⟩)
  obtain ⟨n2, r2⟩ := and_e r1
  have o_MINIMUM := n2
  obtain ⟨n3, r3⟩ := and_e r2
  have o_MAXIMUM := n3
  obtain ⟨n4, r4⟩ := and_e r3
  obtain ⟨y_MINIMUM, ey_MINIMUM⟩ := exa_v n4
  have Ey_MINIMUM := Exa.start ey_MINIMUM n4
  have Fs_MINIMUM := Fld.start ((fld_at ev_MINIMUM).symm.trans ey_MINIMUM)
  obtain ⟨n5, r5⟩ := and_e r4
  have Fc_MINIMUM := Fld.start ((fld_at ey_MINIMUM).symm.trans (own_eqI n5))
  obtain ⟨n6, r6⟩ := and_e r5
  obtain ⟨z_MINIMUM, ez_MINIMUM⟩ := arr_v n6
  have Fv_MINIMUM := Fld.start ((fld_at ey_MINIMUM).symm.trans ez_MINIMUM)
  have ha_MINIMUM := n6
  obtain ⟨n7, r7⟩ := and_e r6
  have hl_MINIMUM := n7
  obtain ⟨n8, r8⟩ := and_e r7
  have el0_MINIMUM := n8
  obtain ⟨n9, r9⟩ := and_e r8
  have el1_MINIMUM := n9
  obtain ⟨n10, r10⟩ := and_e r9
  have el2_MINIMUM := n10
  have V_MINIMUM := own_Ar.start3 ez_MINIMUM ha_MINIMUM hl_MINIMUM el0_MINIMUM el1_MINIMUM el2_MINIMUM
  obtain ⟨n11, r11⟩ := and_e r10
  obtain ⟨y_MAXIMUM, ey_MAXIMUM⟩ := exa_v n11
  have Ey_MAXIMUM := Exa.start ey_MAXIMUM n11
  have Fs_MAXIMUM := Fld.start ((fld_at ev_MAXIMUM).symm.trans ey_MAXIMUM)
  obtain ⟨n12, r12⟩ := and_e r11
  have Fc_MAXIMUM := Fld.start ((fld_at ey_MAXIMUM).symm.trans (own_eqI n12))
  obtain ⟨n13, r13⟩ := and_e r12
  obtain ⟨z_MAXIMUM, ez_MAXIMUM⟩ := arr_v n13
  have Fv_MAXIMUM := Fld.start ((fld_at ey_MAXIMUM).symm.trans ez_MAXIMUM)
  have ha_MAXIMUM := n13
  obtain ⟨n14, r14⟩ := and_e r13
  have hl_MAXIMUM := n14
  obtain ⟨n15, r15⟩ := and_e r14
  have el0_MAXIMUM := n15
  obtain ⟨n16, r16⟩ := and_e r15
  have el1_MAXIMUM := n16
  have el2_MAXIMUM := r16
  have V_MAXIMUM := own_Ar.start3 ez_MAXIMUM ha_MAXIMUM hl_MAXIMUM el0_MAXIMUM el1_MAXIMUM el2_MAXIMUM
  obtain ⟨hsets, hown0⟩ := atoms_of _ (rest_1_c_eq ▸ (show rest_1_c.before _ s = true from hrest))
  have n3 := not_v (Cond.before_iff.mp (hsets _ (List.mem_of_getElem? (i := 2) rfl)))
  obtain ⟨cs, ecs⟩ := is_v (Cond.before_iff.mp (hsets _ (List.mem_of_getElem? (i := 1) rfl)))
  have S_cs : Sta s s.heap "java/lang/String" "COMPACT_STRINGS" "Z" (.int cs) := Sta.start ecs (Or.inl (hsets _ (List.mem_of_getElem? (i := 0) rfl)))
  have hcs : cs ≠ 0 := by
    intro q
    subst q
    simp [Cond.value, ecs, Term.int_eval] at n3
  have hEL : EW s _ own_EL := EW.cons (hw _ (List.mem_of_getElem? (i := 19) rfl)) (by decide) (EW.cons (hw _ (List.mem_of_getElem? (i := 41) rfl)) (by decide) EW.nil)
  have hCH : CHv s own_EL s.vm s.heap := CHv.start hEL (fun q hq => hcalls.1 q hq) (hsets _ (List.mem_of_getElem? (i := 2) rfl)) (hw _ (List.mem_of_getElem? (i := 22) rfl)) (hw _ (List.mem_of_getElem? (i := 21) rfl))
  obtain ⟨n, o, h1, h2, h3, _, L, rfl, ⟨⟨rfl, -⟩, N⟩, -, hq⟩ := (own_law l s _ hw i0 cs b_MAXIMUM y_MAXIMUM z_MAXIMUM b_MINIMUM y_MINIMUM z_MINIMUM s.heap s.heap.size (Nat.le_refl _) hEL own_wS S_MAXIMUM E_MAXIMUM Fs_MAXIMUM Ey_MAXIMUM Fc_MAXIMUM Fv_MAXIMUM V_MAXIMUM S_MINIMUM E_MINIMUM Fs_MINIMUM Ey_MINIMUM Fc_MINIMUM Fv_MINIMUM V_MINIMUM S_cs hcs (own_ne ev_MINIMUM ev_MAXIMUM o_MINIMUM o_MAXIMUM (by decide))) p e ha hc hk s m _ below hf ((Spec.applies_iff_loose hf).mp happ).1 ⟨rfl, State.Warmed39.refl s, rfl, hCH⟩ trivial
  refine ⟨n, _, h1, h2, h3, hpost _ _ _ _ _ _ ⟨Cond.after_iff.mpr rfl, Cond.after_iff.mpr (eq_i res_at (Term.int_eval (1)) rfl), trivial⟩ ⟨hq.1, hq.2.1, hq.2.2.1, (hq.2.2.2.sift fun y hy => Or.inr (N y hy)).mono (by decide) (by decide)⟩⟩
theorem main_1_1 : Claimed_1_1 := comes_1 fun _ _ _ _ _ _ h hF => ⟨h.1, hF⟩
theorem main_1_2 : Claimed_1_2 := comes_1 fun _ _ _ _ _ _ h hF => ⟨h.2.1, hF⟩
end Jvm.Pilot.@@N@@
namespace Jvm.Pilot.@@N@@
open Jvm Jvm.ClassFile Sem Op Lib Jvm.Free Jvm.Stand Jvm.Pilot.@@N@@.Jvm.D
/-! MADE BY PROGRAM (witnessworld.py) out of the Statement's table words and the real class files: 18 classes; the members and pool entries that the words name. The judged class is class 1, her method 1. -/
namespace start1
open Jvm.ClassFile
def u (s : String) : CpInfo := .utf8 (stringToUtf16 s)
/-- a pool by its gaps: so many unusable entries, then the entry; so many at the end -/
def gap : Nat → List CpInfo → List CpInfo
  | 0, r => r
  | n + 1, r => .unusable :: gap n r
def poolList (es : List (Nat × CpInfo)) (last : Nat) : List CpInfo := es.foldr (fun e r => gap e.1 (e.2 :: r)) (gap last [])
def pool (es : List (Nat × CpInfo)) (last : Nat) : Array CpInfo := ⟨poolList es last⟩
def fileOf (pool : Array CpInfo) (this : Nat) (attrs : Array Attribute := #[]) (ms : Array MethodInfo := #[]) (fl : Nat := 33) (sup : Nat := 0) (ifs : Array Nat := #[]) (fds : Array FieldInfo := #[]) : ClassFile where
  minorVersion := 0
  majorVersion := 65
  constantPool := pool
  accessFlags := fl
  thisClass := this
  superClass := sup
  interfaces := ifs
  fields := fds
  methods := ms
  attributes := attrs
def plain (name : String) (sup : Option ClassId) : Class where
  name := name
  kind := .ordinary
  loader := none
  accessFlags := 33
  super := sup
  interfaces := #[]
  cf := none
  fields := #[]
  methods := #[]
  instanceTypes := #[]
  staticTypes := #[]
  resolved := #[]
  callSites := []
  init := .initialized
  statics := none
  mirror := none

def pool0 : Array CpInfo := pool [(5, u "<init>"), (0, u "()V"), (1, .class_ 10), (1, u "java/lang/Object")] 113

def k0m0 : Method := { name := "<init>", desc := "()V", sig := { parameters := [], returnType := none }, accessFlags := 1, code := none }
/-- java/lang/Object -/
def k0 : Class := { plain "java/lang/Object" none with
  accessFlags := 33
  interfaces := #[]
  cf := some (fileOf pool0 8 #[] #[{ accessFlags := 1, nameIndex := 5, descriptorIndex := 6, attributes := #[] }] 33 0 #[] #[])
  fields := #[]
  methods := #[k0m0]
  instanceTypes := #[]
  staticTypes := #[]
  resolved := Array.replicate 124 none
  statics := none }

def pool1 : Array CpInfo := pool [(2, .class_ 4), (1, u "java/lang/Object"), (0, u "<init>"), (0, u "()V"), (0, .fieldref 8 9), (0, .class_ 10), (0, .nameAndType 11 12), (0, u "com/example/robust_model_checker/robustmodelchecker/property/Extremum"), (0, u "MAXIMUM"), (0, u "Lcom/example/robust_model_checker/robustmodelchecker/property/Extremum;"), (0, .fieldref 8 14), (0, .nameAndType 15 12), (0, u "MINIMUM"), (0, .methodref 8 17), (0, .nameAndType 18 19), (0, u "opposite"), (0, u "()Lcom/example/robust_model_checker/robustmodelchecker/property/Extremum;"), (0, .methodref 8 21), (0, .nameAndType 22 23), (0, u "symbol"), (0, u "()Ljava/lang/String;"), (0, .string 25), (0, u "min"), (0, .string 27), (0, u "max"), (0, .methodref 29 30), (0, .class_ 31), (0, .nameAndType 32 33), (0, u "java/lang/String"), (0, u "equals"), (0, u "(Ljava/lang/Object;)Z"), (0, .class_ 35), (0, u "com/example/robust_model_checker/robustmodelchecker/property/ExtremumOppositePinLaw"), (2, u "law"), (0, u "(I)Z")] 3

def k1m0 : Method := { name := "<init>", desc := "()V", sig := { parameters := [], returnType := none }, accessFlags := 1, code := none }
def k1c1 : Code := { maxStack := 2, maxLocals := 6, code := code, exceptionTable := #[], attributes := #[] }
def k1m1 : Method := { name := "law", desc := "(I)Z", sig := { parameters := [.int], returnType := some .boolean }, accessFlags := 9, code := some k1c1 }
/-- com/example/robust_model_checker/robustmodelchecker/property/ExtremumOppositePinLaw -/
def k1 : Class := { plain "com/example/robust_model_checker/robustmodelchecker/property/ExtremumOppositePinLaw" (some 0) with
  accessFlags := 49
  interfaces := #[]
  cf := some (fileOf pool1 34 #[] #[{ accessFlags := 1, nameIndex := 5, descriptorIndex := 6, attributes := #[] }, { accessFlags := 9, nameIndex := 38, descriptorIndex := 39, attributes := #[] }] 49 2 #[] #[])
  fields := #[]
  methods := #[k1m0, k1m1]
  instanceTypes := #[]
  staticTypes := #[]
  resolved := Array.replicate 43 none
  statics := none }

def pool2 : Array CpInfo := pool [(1, .class_ 2), (0, u "java/lang/constant/Constable"), (0, .class_ 4), (0, u "java/lang/Object")] 6

/-- java/lang/constant/Constable -/
def k2 : Class := { plain "java/lang/constant/Constable" (some 0) with
  accessFlags := 1537
  interfaces := #[]
  cf := some (fileOf pool2 1 #[] #[] 1537 3 #[] #[])
  fields := #[]
  methods := #[]
  instanceTypes := #[]
  staticTypes := #[]
  resolved := Array.replicate 11 none
  statics := none }

def pool3 : Array CpInfo := pool [(1, .class_ 2), (0, u "java/lang/Comparable"), (0, .class_ 4), (0, u "java/lang/Object")] 7

/-- java/lang/Comparable -/
def k3 : Class := { plain "java/lang/Comparable" (some 0) with
  accessFlags := 1537
  interfaces := #[]
  cf := some (fileOf pool3 1 #[] #[] 1537 3 #[] #[])
  fields := #[]
  methods := #[]
  instanceTypes := #[]
  staticTypes := #[]
  resolved := Array.replicate 12 none
  statics := none }

def pool4 : Array CpInfo := pool [(1, .class_ 2), (0, u "java/io/Serializable"), (0, .class_ 4), (0, u "java/lang/Object")] 2

/-- java/io/Serializable -/
def k4 : Class := { plain "java/io/Serializable" (some 0) with
  accessFlags := 1537
  interfaces := #[]
  cf := some (fileOf pool4 1 #[] #[] 1537 3 #[] #[])
  fields := #[]
  methods := #[]
  instanceTypes := #[]
  staticTypes := #[]
  resolved := Array.replicate 7 none
  statics := none }

def pool5 : Array CpInfo := pool [(2, .class_ 4), (1, u "java/lang/Enum"), (0, u "name"), (0, u "Ljava/lang/String;"), (2, u "ordinal"), (0, u "I"), (1, .class_ 14), (1, u "java/lang/Object"), (4, u "hash"), (86, .class_ 108), (1, u "java/lang/Enum$EnumDesc"), (2, .class_ 112), (0, u "java/lang/constant/Constable"), (0, .class_ 114), (0, u "java/lang/Comparable"), (0, .class_ 116), (0, u "java/io/Serializable")] 87

/-- java/lang/Enum -/
def k5 : Class := { plain "java/lang/Enum" (some 0) with
  accessFlags := 1057
  interfaces := #[2, 3, 4]
  cf := some (fileOf pool5 2 #[.nestMembers #[106]] #[] 1057 12 #[111, 113, 115] #[{ accessFlags := 18, nameIndex := 5, descriptorIndex := 6, attributes := #[] }, { accessFlags := 18, nameIndex := 9, descriptorIndex := 10, attributes := #[] }, { accessFlags := 2, nameIndex := 19, descriptorIndex := 10, attributes := #[] }])
  fields := #[{ name := "name", type := (.object "java/lang/String"), accessFlags := 18, slot := 0, constantValue := 0 }, { name := "ordinal", type := .int, accessFlags := 18, slot := 1, constantValue := 0 }, { name := "hash", type := .int, accessFlags := 2, slot := 2, constantValue := 0 }]
  methods := #[]
  instanceTypes := #[(.object "java/lang/String"), .int, .int]
  staticTypes := #[]
  resolved := Array.replicate 204 none
  statics := none }

def pool6 : Array CpInfo := pool [(1, .class_ 2), (0, u "com/example/robust_model_checker/robustmodelchecker/property/Extremum"), (0, .fieldref 1 4), (0, .nameAndType 5 6), (0, u "MAXIMUM"), (0, u "Lcom/example/robust_model_checker/robustmodelchecker/property/Extremum;"), (0, .fieldref 1 8), (0, .nameAndType 9 6), (0, u "MINIMUM"), (2, u "$VALUES"), (0, u "[Lcom/example/robust_model_checker/robustmodelchecker/property/Extremum;"), (6, .class_ 22), (1, u "java/lang/Enum"), (6, .fieldref 1 30), (0, .nameAndType 31 32), (0, u "symbol"), (0, u "Ljava/lang/String;"), (20, u "()Ljava/lang/String;"), (0, u "opposite"), (0, u "()Lcom/example/robust_model_checker/robustmodelchecker/property/Extremum;")] 6

def k6c0 : Code := { maxStack := 1, maxLocals := 1, code := prog_46_method_4_code, exceptionTable := #[], attributes := #[] }
def k6m0 : Method := { name := "symbol", desc := "()Ljava/lang/String;", sig := { parameters := [], returnType := some (.object "java/lang/String") }, accessFlags := 1, code := some k6c0 }
def k6c1 : Code := { maxStack := 2, maxLocals := 1, code := prog_46_method_5_code, exceptionTable := #[], attributes := #[] }
def k6m1 : Method := { name := "opposite", desc := "()Lcom/example/robust_model_checker/robustmodelchecker/property/Extremum;", sig := { parameters := [], returnType := some (.object "com/example/robust_model_checker/robustmodelchecker/property/Extremum") }, accessFlags := 1, code := some k6c1 }
/-- com/example/robust_model_checker/robustmodelchecker/property/Extremum -/
def k6 : Class := { plain "com/example/robust_model_checker/robustmodelchecker/property/Extremum" (some 5) with
  accessFlags := 16433
  interfaces := #[]
  cf := some (fileOf pool6 1 #[] #[{ accessFlags := 1, nameIndex := 31, descriptorIndex := 53, attributes := #[] }, { accessFlags := 1, nameIndex := 54, descriptorIndex := 55, attributes := #[] }] 16433 20 #[] #[{ accessFlags := 16409, nameIndex := 5, descriptorIndex := 6, attributes := #[] }, { accessFlags := 16409, nameIndex := 9, descriptorIndex := 6, attributes := #[] }, { accessFlags := 18, nameIndex := 31, descriptorIndex := 32, attributes := #[] }, { accessFlags := 4122, nameIndex := 12, descriptorIndex := 13, attributes := #[] }])
  fields := #[{ name := "MAXIMUM", type := (.object "com/example/robust_model_checker/robustmodelchecker/property/Extremum"), accessFlags := 16409, slot := 0, constantValue := 0 }, { name := "MINIMUM", type := (.object "com/example/robust_model_checker/robustmodelchecker/property/Extremum"), accessFlags := 16409, slot := 1, constantValue := 0 }, { name := "symbol", type := (.object "java/lang/String"), accessFlags := 18, slot := 3, constantValue := 0 }, { name := "$VALUES", type := (.array (.object "com/example/robust_model_checker/robustmodelchecker/property/Extremum")), accessFlags := 4122, slot := 2, constantValue := 0 }]
  methods := #[k6m0, k6m1]
  instanceTypes := #[(.object "java/lang/String"), .int, .int, (.object "java/lang/String")]
  staticTypes := #[(.object "com/example/robust_model_checker/robustmodelchecker/property/Extremum"), (.object "com/example/robust_model_checker/robustmodelchecker/property/Extremum"), (.array (.object "com/example/robust_model_checker/robustmodelchecker/property/Extremum"))]
  resolved := Array.replicate 62 none
  statics := some 0 }

def pool7 : Array CpInfo := pool [(2, .class_ 4), (1, u "java/lang/CharSequence"), (42, .class_ 48), (0, u "java/lang/CharSequence$1CodePointIterator"), (10, .class_ 60), (0, u "java/lang/CharSequence$1CharIterator"), (5, .class_ 67), (0, u "java/lang/Object")] 63

/-- java/lang/CharSequence -/
def k7 : Class := { plain "java/lang/CharSequence" (some 0) with
  accessFlags := 1537
  interfaces := #[]
  cf := some (fileOf pool7 2 #[.nestMembers #[47, 59]] #[] 1537 66 #[] #[])
  fields := #[]
  methods := #[]
  instanceTypes := #[]
  staticTypes := #[]
  resolved := Array.replicate 131 none
  statics := none }

def pool8 : Array CpInfo := pool [(1, .class_ 2), (0, u "java/lang/constant/ConstantDesc"), (0, .class_ 4), (0, u "java/lang/Object")] 32

/-- java/lang/constant/ConstantDesc -/
def k8 : Class := { plain "java/lang/constant/ConstantDesc" (some 0) with
  accessFlags := 1537
  interfaces := #[]
  cf := some (fileOf pool8 1 #[] #[] 1537 3 #[] #[])
  fields := #[]
  methods := #[]
  instanceTypes := #[]
  staticTypes := #[]
  resolved := Array.replicate 37 none
  statics := none }

def pool9 : Array CpInfo := pool [(2, .class_ 4), (1, u "java/lang/Object"), (0, u "<init>"), (0, u "()V"), (2, .fieldref 10 11), (0, .class_ 12), (0, .nameAndType 13 14), (0, u "java/lang/String"), (0, u "value"), (0, u "[B"), (0, .fieldref 10 16), (0, .nameAndType 17 18), (0, u "coder"), (0, u "B"), (2, u "hash"), (0, u "I"), (2, u "hashIsZero"), (0, u "Z"), (11, .fieldref 10 39), (0, .nameAndType 40 26), (0, u "COMPACT_STRINGS"), (66, .class_ 109), (1, u "java/lang/StringLatin1"), (431, .methodref 107 542), (0, .nameAndType 543 544), (0, u "equals"), (0, u "([B[B)Z"), (28, u "(Ljava/lang/Object;)Z"), (1, .class_ 576), (0, u "java/lang/CharSequence"), (22, u "CASE_INSENSITIVE_ORDER"), (0, u "Ljava/util/Comparator;"), (500, u "serialPersistentFields"), (0, u "[Ljava/io/ObjectStreamField;"), (0, .class_ 1104), (0, u "java/lang/String$CaseInsensitiveComparator"), (1, .class_ 1107), (0, u "java/io/Serializable"), (0, .class_ 1109), (0, u "java/lang/Comparable"), (0, .class_ 1111), (0, u "java/lang/constant/Constable"), (0, .class_ 1113), (0, u "java/lang/constant/ConstantDesc"), (2, u "serialVersionUID"), (0, u "J"), (3, u "REPL"), (0, u "C"), (2, u "LATIN1"), (1, u "UTF16")] 323

def k9m0 : Method := { name := "<init>", desc := "()V", sig := { parameters := [], returnType := none }, accessFlags := 1, code := none }
def k9c1 : Code := { maxStack := 2, maxLocals := 3, code := jdk_42_method_66_code, exceptionTable := #[], attributes := #[] }
def k9m1 : Method := { name := "equals", desc := "(Ljava/lang/Object;)Z", sig := { parameters := [(.object "java/lang/Object")], returnType := some .boolean }, accessFlags := 1, code := some k9c1 }
/-- java/lang/String -/
def k9 : Class := { plain "java/lang/String" (some 0) with
  accessFlags := 49
  interfaces := #[4, 3, 7, 2, 8]
  cf := some (fileOf pool9 10 #[.nestMembers #[1103]] #[{ accessFlags := 1, nameIndex := 5, descriptorIndex := 6, attributes := #[] }, { accessFlags := 1, nameIndex := 543, descriptorIndex := 573, attributes := #[] }] 49 2 #[1106, 1108, 575, 1110, 1112] #[{ accessFlags := 18, nameIndex := 13, descriptorIndex := 14, attributes := #[] }, { accessFlags := 18, nameIndex := 17, descriptorIndex := 18, attributes := #[] }, { accessFlags := 2, nameIndex := 21, descriptorIndex := 22, attributes := #[] }, { accessFlags := 2, nameIndex := 25, descriptorIndex := 26, attributes := #[] }, { accessFlags := 26, nameIndex := 1116, descriptorIndex := 1117, attributes := #[] }, { accessFlags := 24, nameIndex := 40, descriptorIndex := 26, attributes := #[] }, { accessFlags := 26, nameIndex := 1101, descriptorIndex := 1102, attributes := #[] }, { accessFlags := 26, nameIndex := 1121, descriptorIndex := 1122, attributes := #[] }, { accessFlags := 25, nameIndex := 599, descriptorIndex := 600, attributes := #[] }, { accessFlags := 24, nameIndex := 1125, descriptorIndex := 18, attributes := #[] }, { accessFlags := 24, nameIndex := 1127, descriptorIndex := 18, attributes := #[] }])
  fields := #[{ name := "value", type := (.array .byte), accessFlags := 18, slot := 0, constantValue := 0 }, { name := "coder", type := .byte, accessFlags := 18, slot := 1, constantValue := 0 }, { name := "hash", type := .int, accessFlags := 2, slot := 2, constantValue := 0 }, { name := "hashIsZero", type := .boolean, accessFlags := 2, slot := 3, constantValue := 0 }, { name := "serialVersionUID", type := .long, accessFlags := 26, slot := 0, constantValue := 0 }, { name := "COMPACT_STRINGS", type := .boolean, accessFlags := 24, slot := 1, constantValue := 0 }, { name := "serialPersistentFields", type := (.array (.object "java/io/ObjectStreamField")), accessFlags := 26, slot := 2, constantValue := 0 }, { name := "REPL", type := .char, accessFlags := 26, slot := 3, constantValue := 0 }, { name := "CASE_INSENSITIVE_ORDER", type := (.object "java/util/Comparator"), accessFlags := 25, slot := 4, constantValue := 0 }, { name := "LATIN1", type := .byte, accessFlags := 24, slot := 5, constantValue := 0 }, { name := "UTF16", type := .byte, accessFlags := 24, slot := 6, constantValue := 0 }]
  methods := #[k9m0, k9m1]
  instanceTypes := #[(.array .byte), .byte, .int, .boolean]
  staticTypes := #[.long, .boolean, (.array (.object "java/io/ObjectStreamField")), .char, (.object "java/util/Comparator"), .byte, .byte]
  resolved := Array.replicate 1451 none
  statics := some 1 }

def pool10 : Array CpInfo := pool [(4, .class_ 6), (1, u "java/lang/Object"), (0, u "<init>"), (0, u "()V"), (5, .class_ 16), (1, u "java/lang/StringLatin1"), (104, u "$assertionsDisabled"), (0, u "Z"), (98, .class_ 223), (1, u "java/lang/StringLatin1$LinesSpliterator"), (57, u "equals"), (0, u "([B[B)Z"), (107, .class_ 391), (0, u "java/lang/StringLatin1$CharsSpliterator")] 3

def k10m0 : Method := { name := "<init>", desc := "()V", sig := { parameters := [], returnType := none }, accessFlags := 0, code := none }
def k10c1 : Code := { maxStack := 3, maxLocals := 3, code := jdk_43_method_13_code, exceptionTable := #[], attributes := #[] }
def k10m1 : Method := { name := "equals", desc := "([B[B)Z", sig := { parameters := [(.array .byte), (.array .byte)], returnType := some .boolean }, accessFlags := 9, code := some k10c1 }
/-- java/lang/StringLatin1 -/
def k10 : Class := { plain "java/lang/StringLatin1" (some 0) with
  accessFlags := 48
  interfaces := #[]
  cf := some (fileOf pool10 14 #[.nestMembers #[390, 221]] #[{ accessFlags := 0, nameIndex := 7, descriptorIndex := 8, attributes := #[] }, { accessFlags := 9, nameIndex := 281, descriptorIndex := 282, attributes := #[] }] 48 4 #[] #[{ accessFlags := 4120, nameIndex := 121, descriptorIndex := 122, attributes := #[] }])
  fields := #[{ name := "$assertionsDisabled", type := .boolean, accessFlags := 4120, slot := 0, constantValue := 0 }]
  methods := #[k10m0, k10m1]
  instanceTypes := #[]
  staticTypes := #[.boolean]
  resolved := Array.replicate 395 none
  statics := none }

def pool11 : Array CpInfo := pool [(2, .class_ 4), (1, u "java/lang/Object"), (0, u "<init>"), (0, u "()V"), (17, .class_ 26), (1, u "jdk/internal/util/Preconditions"), (28, .class_ 56), (0, u "jdk/internal/util/Preconditions$4"), (57, .class_ 115), (0, u "jdk/internal/util/Preconditions$1"), (7, u "SIOOBE_FORMATTER"), (0, u "Ljava/util/function/BiFunction;"), (0, .class_ 126), (0, u "jdk/internal/util/Preconditions$2"), (3, u "AIOOBE_FORMATTER"), (0, .class_ 132), (0, u "jdk/internal/util/Preconditions$3"), (3, u "IOOBE_FORMATTER")] 57

def k11m0 : Method := { name := "<init>", desc := "()V", sig := { parameters := [], returnType := none }, accessFlags := 1, code := none }
/-- jdk/internal/util/Preconditions -/
def k11 : Class := { plain "jdk/internal/util/Preconditions" (some 0) with
  accessFlags := 33
  interfaces := #[]
  cf := some (fileOf pool11 24 #[.nestMembers #[55, 131, 125, 114]] #[{ accessFlags := 1, nameIndex := 5, descriptorIndex := 6, attributes := #[] }] 33 2 #[] #[{ accessFlags := 25, nameIndex := 123, descriptorIndex := 124, attributes := #[] }, { accessFlags := 25, nameIndex := 130, descriptorIndex := 124, attributes := #[] }, { accessFlags := 25, nameIndex := 136, descriptorIndex := 124, attributes := #[] }])
  fields := #[{ name := "SIOOBE_FORMATTER", type := (.object "java/util/function/BiFunction"), accessFlags := 25, slot := 0, constantValue := 0 }, { name := "AIOOBE_FORMATTER", type := (.object "java/util/function/BiFunction"), accessFlags := 25, slot := 1, constantValue := 0 }, { name := "IOOBE_FORMATTER", type := (.object "java/util/function/BiFunction"), accessFlags := 25, slot := 2, constantValue := 0 }]
  methods := #[k11m0]
  instanceTypes := #[]
  staticTypes := #[(.object "java/util/function/BiFunction"), (.object "java/util/function/BiFunction"), (.object "java/util/function/BiFunction")]
  resolved := Array.replicate 194 none
  statics := some 2 }

def pool12 : Array CpInfo := pool [(9, u "<init>"), (6, .class_ 18), (1, u "java/lang/Object"), (0, u "()V"), (1, .class_ 23), (1, u "jdk/internal/util/ArraysSupport"), (0, u "LOG2_ARRAY_LONG_INDEX_SCALE"), (0, u "I"), (2, u "U"), (0, u "Ljdk/internal/misc/Unsafe;"), (8, u "BIG_ENDIAN"), (0, u "Z"), (8, u "LOG2_BYTE_BIT_SIZE"), (4, u "LOG2_ARRAY_INT_INDEX_SCALE"), (54, u "JLA"), (0, u "Ljdk/internal/access/JavaLangAccess;"), (11, u "LOG2_ARRAY_BOOLEAN_INDEX_SCALE"), (9, u "LOG2_ARRAY_BYTE_INDEX_SCALE"), (5, u "LOG2_ARRAY_CHAR_INDEX_SCALE"), (5, u "LOG2_ARRAY_SHORT_INDEX_SCALE"), (18, u "LOG2_ARRAY_FLOAT_INDEX_SCALE"), (24, u "LOG2_ARRAY_DOUBLE_INDEX_SCALE"), (89, u "T_BOOLEAN"), (2, u "T_CHAR"), (1, u "T_FLOAT"), (1, u "T_DOUBLE"), (1, u "T_BYTE"), (1, u "T_SHORT"), (1, u "T_INT"), (1, u "T_LONG"), (1, u "SOFT_MAX_ARRAY_LENGTH")] 83

def k12m0 : Method := { name := "<init>", desc := "()V", sig := { parameters := [], returnType := none }, accessFlags := 2, code := none }
/-- jdk/internal/util/ArraysSupport -/
def k12 : Class := { plain "jdk/internal/util/ArraysSupport" (some 0) with
  accessFlags := 33
  interfaces := #[]
  cf := some (fileOf pool12 21 #[] #[{ accessFlags := 2, nameIndex := 9, descriptorIndex := 19, attributes := #[] }] 33 16 #[] #[{ accessFlags := 24, nameIndex := 28, descriptorIndex := 29, attributes := #[] }, { accessFlags := 26, nameIndex := 38, descriptorIndex := 39, attributes := #[] }, { accessFlags := 25, nameIndex := 121, descriptorIndex := 25, attributes := #[] }, { accessFlags := 25, nameIndex := 131, descriptorIndex := 25, attributes := #[] }, { accessFlags := 25, nameIndex := 137, descriptorIndex := 25, attributes := #[] }, { accessFlags := 25, nameIndex := 143, descriptorIndex := 25, attributes := #[] }, { accessFlags := 25, nameIndex := 53, descriptorIndex := 25, attributes := #[] }, { accessFlags := 25, nameIndex := 24, descriptorIndex := 25, attributes := #[] }, { accessFlags := 25, nameIndex := 162, descriptorIndex := 25, attributes := #[] }, { accessFlags := 25, nameIndex := 187, descriptorIndex := 25, attributes := #[] }, { accessFlags := 26, nameIndex := 48, descriptorIndex := 25, attributes := #[] }, { accessFlags := 25, nameIndex := 277, descriptorIndex := 25, attributes := #[] }, { accessFlags := 25, nameIndex := 280, descriptorIndex := 25, attributes := #[] }, { accessFlags := 25, nameIndex := 282, descriptorIndex := 25, attributes := #[] }, { accessFlags := 25, nameIndex := 284, descriptorIndex := 25, attributes := #[] }, { accessFlags := 25, nameIndex := 286, descriptorIndex := 25, attributes := #[] }, { accessFlags := 25, nameIndex := 288, descriptorIndex := 25, attributes := #[] }, { accessFlags := 25, nameIndex := 290, descriptorIndex := 25, attributes := #[] }, { accessFlags := 25, nameIndex := 292, descriptorIndex := 25, attributes := #[] }, { accessFlags := 26, nameIndex := 108, descriptorIndex := 109, attributes := #[] }, { accessFlags := 25, nameIndex := 294, descriptorIndex := 25, attributes := #[] }])
  fields := #[{ name := "U", type := (.object "jdk/internal/misc/Unsafe"), accessFlags := 24, slot := 0, constantValue := 0 }, { name := "BIG_ENDIAN", type := .boolean, accessFlags := 26, slot := 1, constantValue := 0 }, { name := "LOG2_ARRAY_BOOLEAN_INDEX_SCALE", type := .int, accessFlags := 25, slot := 2, constantValue := 0 }, { name := "LOG2_ARRAY_BYTE_INDEX_SCALE", type := .int, accessFlags := 25, slot := 3, constantValue := 0 }, { name := "LOG2_ARRAY_CHAR_INDEX_SCALE", type := .int, accessFlags := 25, slot := 4, constantValue := 0 }, { name := "LOG2_ARRAY_SHORT_INDEX_SCALE", type := .int, accessFlags := 25, slot := 5, constantValue := 0 }, { name := "LOG2_ARRAY_INT_INDEX_SCALE", type := .int, accessFlags := 25, slot := 6, constantValue := 0 }, { name := "LOG2_ARRAY_LONG_INDEX_SCALE", type := .int, accessFlags := 25, slot := 7, constantValue := 0 }, { name := "LOG2_ARRAY_FLOAT_INDEX_SCALE", type := .int, accessFlags := 25, slot := 8, constantValue := 0 }, { name := "LOG2_ARRAY_DOUBLE_INDEX_SCALE", type := .int, accessFlags := 25, slot := 9, constantValue := 0 }, { name := "LOG2_BYTE_BIT_SIZE", type := .int, accessFlags := 26, slot := 10, constantValue := 0 }, { name := "T_BOOLEAN", type := .int, accessFlags := 25, slot := 11, constantValue := 0 }, { name := "T_CHAR", type := .int, accessFlags := 25, slot := 12, constantValue := 0 }, { name := "T_FLOAT", type := .int, accessFlags := 25, slot := 13, constantValue := 0 }, { name := "T_DOUBLE", type := .int, accessFlags := 25, slot := 14, constantValue := 0 }, { name := "T_BYTE", type := .int, accessFlags := 25, slot := 15, constantValue := 0 }, { name := "T_SHORT", type := .int, accessFlags := 25, slot := 16, constantValue := 0 }, { name := "T_INT", type := .int, accessFlags := 25, slot := 17, constantValue := 0 }, { name := "T_LONG", type := .int, accessFlags := 25, slot := 18, constantValue := 0 }, { name := "JLA", type := (.object "jdk/internal/access/JavaLangAccess"), accessFlags := 26, slot := 19, constantValue := 0 }, { name := "SOFT_MAX_ARRAY_LENGTH", type := .int, accessFlags := 25, slot := 20, constantValue := 0 }]
  methods := #[k12m0]
  instanceTypes := #[]
  staticTypes := #[(.object "jdk/internal/misc/Unsafe"), .boolean, .int, .int, .int, .int, .int, .int, .int, .int, .int, .int, .int, .int, .int, .int, .int, .int, .int, (.object "jdk/internal/access/JavaLangAccess"), .int]
  resolved := Array.replicate 378 none
  statics := none }

def pool13 : Array CpInfo := pool [(1, u "java/lang/Cloneable"), (0, .class_ 1), (0, u "java/lang/Object"), (0, .class_ 3)] 3

/-- java/lang/Cloneable -/
def k13 : Class := { plain "java/lang/Cloneable" (some 0) with
  accessFlags := 1537
  interfaces := #[]
  cf := some (fileOf pool13 2 #[] #[] 1537 4 #[] #[])
  fields := #[]
  methods := #[]
  instanceTypes := #[]
  staticTypes := #[]
  resolved := Array.replicate 8 none
  statics := none }

/-- the primitive byte -/
def k14 : Class := { plain "byte" none with kind := .primitive 'B', accessFlags := 0x411 }
/-- [B -/
def k15 : Class := { plain "[B" (some 0) with kind := .array 14 .byte, interfaces := #[13, 4], accessFlags := 1041 }

/-- the primitive int -/
def k16 : Class := { plain "int" none with kind := .primitive 'I', accessFlags := 0x411 }
/-- [I -/
def k17 : Class := { plain "[I" (some 0) with kind := .array 16 .int, interfaces := #[13, 4], accessFlags := 1041 }

def heap : Heap := #[{ cls := 6, slots := #[.ref 3, .ref 4, .null], vm := .statics 6 },
  { cls := 9, slots := #[.long 0, .int 1, .null, .int 0, .null, .int 0, .int 0], vm := .statics 9 },
  { cls := 11, slots := #[.null, .null, .null], vm := .statics 11 },
  { cls := 6, slots := #[.null, .int 0, .int 0, .ref 5], vm := .none },
  { cls := 6, slots := #[.null, .int 1, .int 0, .ref 6], vm := .none },
  { cls := 9, slots := #[.ref 7, .int 0, .int 0, .int 0], vm := .none },
  { cls := 9, slots := #[.ref 8, .int 0, .int 0, .int 0], vm := .none },
  { cls := 15, slots := #[.int 109, .int 97, .int 120], vm := .none },
  { cls := 15, slots := #[.int 109, .int 105, .int 110], vm := .none }]
def classes : Array Class := #[k0, k1, k2, k3, k4, k5, k6, k7, k8, k9, k10, k11, k12, k13, k14, k15, k16, k17]
def interned : List (Array UInt16 × Addr) := []
def slotsUsed : Nat := 35
def theMethod : MethodId := ⟨1, 1⟩
def args0 : Array Value := #[.int 5]
def aboutOver (below : List Frame) : State where
  vm := { classes := classes, interned := interned.toArray }
  heap := heap
  slotsUsed := slotsUsed
  threads := #[{ frames := .invoking theMethod args0 :: below }]
def below0 : List Frame := [.native { method := ⟨0, 0⟩, args := #[] }]
def about1 : State := aboutOver below0
def p0 : Program := .bare "" "" ""
def e0 : Env := launch0.env 0 0 0
theorem w_frames : about1.frames = Frame.invoking theMethod args0 :: below0 := rfl
set_option maxRecDepth 65536 in
theorem w_args : argsFit about1.vm theMethod args0 = true := by decide +kernel
set_option maxRecDepth 65536 in
theorem w_heap : heapFits about1 = true := by decide +kernel
set_option maxRecDepth 65536 in
theorem w_runnable : about1.curStatus? = some .runnable := by decide +kernel
set_option maxRecDepth 65536 in
theorem w_alone : about1.alone = true := by decide +kernel
set_option maxRecDepth 65536 in
theorem w_named : about1.methodNamed? x = some theMethod := by decide +kernel
set_option maxRecDepth 65536 in
theorem w_hears : about1.hears theMethod below0 = true := by decide +kernel
set_option maxRecDepth 65536 in
theorem w_ripe : about1.ripe theMethod args0 below0 = true := by decide +kernel
theorem w_running : about1.status = .running := rfl
set_option maxRecDepth 65536 in
theorem w_room : about1.hasRoom e0.platform room_1 = true :=
  launch0.hasRoom_least _ room_1 (by decide +kernel) (by decide +kernel) (by decide +kernel) (by decide +kernel) (by decide +kernel) (by decide +kernel)
theorem allAtoms_all (ts : List Jvm.Cond) (a : Array Jvm.Value) (st : Jvm.State) : (allAtoms ts).before a st = ts.all (fun c => c.before a st) := by
  induction ts with
  | nil => rfl
  | cons c t ih =>
    show (Jvm.Cond.and c (allAtoms t)).before a st = _
    rw [Jvm.Cond.before_and, ih, List.all_cons]
def words1 : List Jvm.Cond := Jvm.Cond.code x code maxLocals ret :: tables_1
/-- a 'code' word, met by the world's own term for the bytes: nothing is compared byte by byte -/
theorem code_word {y : MethodName} {bytes : ByteArray} {mx : Nat} {rt : Option FieldType} {a : Array Value} {s : State} {m : MethodId} {meth : Method} {c : Code} (h1 : s.methodNamed? y = some m) (h2 : s.vm.method? m = some meth) (h3 : meth.code = some c) (h4 : c.code = bytes)
    (h5 : (c.maxLocals == mx && c.exceptionTable.isEmpty && decide (c.maxStack ≤ mostOperands) && decide (meth.sig.returnType = rt) && !meth.locks && decide (parseMethodDescriptor y.desc = some meth.sig)) = true) : (Jvm.Cond.code y bytes mx rt).before a s = true := by
  simp only [Bool.and_eq_true, beq_iff_eq, Bool.not_eq_true', decide_eq_true_eq] at h5
  obtain ⟨⟨⟨⟨⟨g1, g2⟩, g3⟩, g4⟩, g5⟩, g6⟩ := h5
  simp [Cond.before, Cond.holds, Cond.value, h1, h2, h3, h4, g1, g2, g3, g4, g5, g6]
def isCode : Jvm.Cond → Bool
  | .code _ _ _ _ => true
  | _ => false
theorem all_split {L : List Jvm.Cond} {P : Jvm.Cond → Bool} (h1 : L.all (fun c => isCode c || P c) = true) (h2 : ∀ c ∈ L.filter isCode, P c = true) : L.all P = true := by
  refine List.all_eq_true.mpr fun c hc => ?_
  have h := List.all_eq_true.mp h1 c hc
  rcases Bool.eq_false_or_eq_true (isCode c) with hi | hi
  · exact h2 c (List.mem_filter.mpr ⟨hc, hi⟩)
  · simpa [hi] using h
set_option maxRecDepth 65536 in
theorem w_c0 : (Jvm.Cond.code x code maxLocals ret).before args0 about1 = true := code_word (m := ⟨1, 1⟩) (meth := k1m1) (c := k1c1) (by decide +kernel) rfl rfl rfl (by decide +kernel)
set_option maxRecDepth 65536 in
theorem w_c1 : (Jvm.Cond.code ({ cls := "com/example/robust_model_checker/robustmodelchecker/property/Extremum", name := "opposite", desc := "()Lcom/example/robust_model_checker/robustmodelchecker/property/Extremum;" } : Jvm.MethodName) prog_46_method_5_code (1 : Nat) (Option.some (Jvm.ClassFile.FieldType.object "com/example/robust_model_checker/robustmodelchecker/property/Extremum"))).before args0 about1 = true := code_word (m := ⟨6, 1⟩) (meth := k6m1) (c := k6c1) (by decide +kernel) rfl rfl rfl (by decide +kernel)
set_option maxRecDepth 65536 in
theorem w_c2 : (Jvm.Cond.code ({ cls := "com/example/robust_model_checker/robustmodelchecker/property/Extremum", name := "symbol", desc := "()Ljava/lang/String;" } : Jvm.MethodName) prog_46_method_4_code (1 : Nat) (Option.some (Jvm.ClassFile.FieldType.object "java/lang/String"))).before args0 about1 = true := code_word (m := ⟨6, 0⟩) (meth := k6m0) (c := k6c0) (by decide +kernel) rfl rfl rfl (by decide +kernel)
set_option maxRecDepth 65536 in
theorem w_c3 : (Jvm.Cond.code ({ cls := "java/lang/String", name := "equals", desc := "(Ljava/lang/Object;)Z" } : Jvm.MethodName) jdk_42_method_66_code (3 : Nat) (Option.some Jvm.ClassFile.FieldType.boolean)).before args0 about1 = true := code_word (m := ⟨9, 1⟩) (meth := k9m1) (c := k9c1) (by decide +kernel) rfl rfl rfl (by decide +kernel)
set_option maxRecDepth 65536 in
theorem w_c4 : (Jvm.Cond.code ({ cls := "java/lang/StringLatin1", name := "equals", desc := "([B[B)Z" } : Jvm.MethodName) jdk_43_method_13_code (3 : Nat) (Option.some Jvm.ClassFile.FieldType.boolean)).before args0 about1 = true := code_word (m := ⟨10, 1⟩) (meth := k10m1) (c := k10c1) (by decide +kernel) rfl rfl rfl (by decide +kernel)
def codes1 : List Jvm.Cond := [Jvm.Cond.code x code maxLocals ret, Jvm.Cond.code ({ cls := "com/example/robust_model_checker/robustmodelchecker/property/Extremum", name := "opposite", desc := "()Lcom/example/robust_model_checker/robustmodelchecker/property/Extremum;" } : Jvm.MethodName) prog_46_method_5_code (1 : Nat) (Option.some (Jvm.ClassFile.FieldType.object "com/example/robust_model_checker/robustmodelchecker/property/Extremum")), Jvm.Cond.code ({ cls := "com/example/robust_model_checker/robustmodelchecker/property/Extremum", name := "symbol", desc := "()Ljava/lang/String;" } : Jvm.MethodName) prog_46_method_4_code (1 : Nat) (Option.some (Jvm.ClassFile.FieldType.object "java/lang/String")), Jvm.Cond.code ({ cls := "java/lang/String", name := "equals", desc := "(Ljava/lang/Object;)Z" } : Jvm.MethodName) jdk_42_method_66_code (3 : Nat) (Option.some Jvm.ClassFile.FieldType.boolean), Jvm.Cond.code ({ cls := "java/lang/StringLatin1", name := "equals", desc := "([B[B)Z" } : Jvm.MethodName) jdk_43_method_13_code (3 : Nat) (Option.some Jvm.ClassFile.FieldType.boolean)]
set_option maxRecDepth 65536 in
theorem codes_eq : words1.filter isCode = codes1 := rfl
theorem w_codes : ∀ c ∈ words1.filter isCode, c.before args0 about1 = true := by
  rw [codes_eq]
  intro c hc
  simp only [codes1, List.mem_cons, List.not_mem_nil, or_false] at hc
  rcases hc with rfl | rfl | rfl | rfl | rfl
  · exact w_c0
  · exact w_c1
  · exact w_c2
  · exact w_c3
  · exact w_c4
set_option maxRecDepth 65536 in
theorem w_t1 : (words1.take 24).all (fun c => isCode c || c.before args0 about1) = true := by decide +kernel
set_option maxRecDepth 65536 in
theorem w_t2 : (words1.drop 24).all (fun c => isCode c || c.before args0 about1) = true := by decide +kernel
theorem w_tables : (allAtoms (Jvm.Cond.code x code maxLocals ret :: tables_1)).before args0 about1 = true := by
  rw [allAtoms_all]
  show words1.all (fun c => c.before args0 about1) = true
  refine all_split ?_ w_codes
  rw [← List.take_append_drop 24 words1, List.all_append, w_t1, w_t2]
  rfl
set_option maxRecDepth 65536 in
theorem w_rest : rest_1_c.before args0 about1 = true := by decide +kernel
set_option maxRecDepth 65536 in
theorem w_case : (Jvm.Cond.and given_1 narrow_1).before args0 about1 = true := by decide +kernel
set_option maxRecDepth 65536 in
theorem w_consts : constsHeld consts_1 about1 := Jvm.Lit.constsHeldB_iff.mp (by decide +kernel)
theorem w_applies : (headSpec (Jvm.Cond.code x code maxLocals ret :: tables_1) room_1).applies x e0.platform about1 = true :=
  (Spec.applies_iff w_frames).mpr ⟨w_running, w_runnable, w_alone, w_named, w_hears, w_ripe, w_room, w_tables⟩
theorem atStart : AtStart classFile x code maxLocals ret World_1 tables_1 room_1 Calls_1 rest_1 Pre_1 launch0 p0 e0 about1 theMethod args0 below0 :=
  ⟨lists_1, trivial, launch0.admits_env _ _ _, launch0.least_env, fairChoices_fair.cas, fairChoices_fair.clock, w_frames, w_args, w_heap, w_applies, ⟨w_consts, trivial⟩, w_rest, w_case⟩
end start1
theorem witness_1 : WitnessClaimed_1 := ⟨start1.p0, start1.e0, start1.about1, start1.theMethod, start1.args0, start1.below0, start1.atStart⟩
end Jvm.Pilot.@@N@@
