import JvmDerived
import JvmDerived.Pilot.@@N@@Statement
import JvmDerived.Pilot.@@N@@Code
set_option linter.unusedVariables false
set_option linter.unusedSimpArgs false
@@BLOCK:NumsL.lean.txt@@
namespace Jvm.Pilot.@@N@@
open Jvm Jvm.ClassFile Sem Op Lib Jvm.Free Jvm.Stand Jvm.LawKit Jvm.RoadKit Bundle Jvm.Pilot.@@N@@.Jvm.D
set_option maxRecDepth 65536
set_option maxHeartbeats 40000000

section Own
variable {p : Program} {l : Launch} {e : Env} {R : Room} {s : State} {m : MethodId} {args : Array Value} {below : List Frame} {meth : Method} {c : Code} {S0 : State} {n0 : Nat} {h h' : Heap} {ce sl ce' sl' : Nat} {f f' : JFrame} {Z : State} {a0 : Array Value}
/-- the walk stands at the frame f over the heap h; it has made ce cells and sl slots; what it wrote lies at or above n0 -/
def own_R (p : Program) (l : Launch) (e : Env) (R : Room) (s : State) (m : MethodId) (args : Array Value) (below : List Frame) (meth : Method) (c : Code) (S0 : State) (n0 : Nat) (h : Heap) (ce sl : Nat) (f : JFrame) : Prop :=
  ∃ T L, Stand p l e R s m args below meth c T L ce sl ∧ T.heap = h ∧ Fr n0 L ∧ Steps p.tables e below S0 (T.setTop f)
/-- the walk has returned, and Q holds of what it returned and of the heap -/
def own_E (p : Program) (e : Env) (R : Room) (s : State) (below : List Frame) (S0 : State) (n0 : Nat) (Q : Option Value → Heap → Prop) : Prop :=
  ∃ s₂ v L, Steps p.tables e below S0 s₂ ∧ s₂.status = .running ∧ Ended s₂ below (.returned v) ∧ (Q v s₂.heap ∧ Fr n0 L) ∧ FrameEnd s (.returned v) s₂ L R.cells R.slots
/-- a body's contract -/
def own_M (l : Launch) (Z : State) (y : MethodName) (bytes : ByteArray) (maxL : Nat) (ret : Option FieldType) (ws : List Cond) (rm : Room) (as : Array Value) (h0 : Heap) (n0 : Nat) (Q : Option Value → Heap → Prop) : Prop :=
  MetFree l y (head1 (Cond.code y bytes maxL ret :: ws) rm) (fun a U => a = as ∧ Z.Warmed39 U.vm ∧ U.heap = h0) (fun _ _ _ _ _ => True) (fun _ U o U' => ∃ v L, o = .returned v ∧ (Q v U'.heap ∧ Fr n0 L) ∧ FrameEnd U o U' L rm.cells rm.slots)
theorem own_M.of {y : MethodName} {bytes : ByteArray} {maxL : Nat} {ret : Option FieldType} {ws : List Cond} {rm : Room} {as : Array Value} {h0 : Heap} {Q : Option Value → Heap → Prop} (pn : plainFor y = true)
    (body : ∀ (p : Program) (e : Env) (s : State) (m : MethodId) (below : List Frame) (meth : Method) (c : Code) (S0 : State), p.tables.exec = Jvm.exec → c.code = bytes → c.maxLocals = maxL → s.vm.findClass y.cls = some m.cls → meth.name = y.name → meth.sig.returnType = ret → meth.locks = false → Z.Warmed39 s.vm →
      own_R p l e rm s m as below meth c S0 n0 h0 0 0 (entryFrame m as maxL) → own_E p e rm s below S0 n0 Q) :
    own_M l Z y bytes maxL ret ws rm as h0 n0 Q := by
  refine MetFree.of_bodySF pn hisR ?_
  intro p e s m args below meth c s₁ Bd hml0 hP hK
  obtain ⟨rfl, hZ, hh⟩ := hP
  have e0 : s₁.heap = h0 := by rw [← hh, Bd.state]; rfl
  obtain ⟨s₂, v, L, k, hrun, hend, hq, hF⟩ := body p e s m below meth c _ Bd.exec Bd.bytes hml0 (findClass_of_methodNamed Bd.named) (name_of_methodNamed Bd.named Bd.method).1 Bd.returns Bd.notSynchronized hZ ⟨s₁, [], Stand.of_body Bd, e0, Fr.nil n0, Steps.refl _⟩
  exact ⟨s₂, _, k, hrun, hend, v, L, rfl, hq, hF⟩
theorem own_R.cast (A : own_R p l e R s m args below meth c S0 n0 h ce sl f) (q : f = f') : own_R p l e R s m args below meth c S0 n0 h ce sl f' := q ▸ A
theorem own_R.go (A : own_R p l e R s m args below meth c S0 n0 h ce sl f)
    (st : ∀ T L, Stand p l e R s m args below meth c T L ce sl → ∀ target, Steps p.tables e below (T.setTop f') target → Steps p.tables e below (T.setTop f) target) :
    own_R p l e R s m args below meth c S0 n0 h ce sl f' := by
  obtain ⟨T, L, X, eT, N, k⟩ := A
  exact ⟨T, L, X, eT, N, k.trans (st T L X _ (Steps.refl _))⟩
theorem own_R.law (A : own_R p l e R s m args below meth c S0 n0 h ce sl f)
    (st : ∀ T L, Stand p l e R s m args below meth c T L ce sl → T.heap = h → Fr n0 L → ∃ T' L', Stand p l e R s m args below meth c T' L' ce' sl' ∧ T'.heap = h' ∧ Fr n0 L' ∧ ∀ target, Steps p.tables e below (T'.setTop f') target → Steps p.tables e below (T.setTop f) target) :
    own_R p l e R s m args below meth c S0 n0 h' ce' sl' f' := by
  obtain ⟨T, L, X, eT, N, k⟩ := A
  obtain ⟨T', L', X', e', N', k'⟩ := st T L X eT N
  exact ⟨T', L', X', e', N', k.trans (k' _ (Steps.refl _))⟩
theorem own_R.getF {pc : Nat} {Ls : Array Slot} {rest : List Value} {a : Addr} {v : Value} {own R0 O n d : String} {index : Nat}
    (A : own_R p l e R s m args below meth c S0 n0 h ce sl (mkF m pc Ls (.ref a :: rest))) (hx : p.tables.exec = Jvm.exec) (hZ : Z.Warmed39 s.vm) (hown : s.vm.findClass own = some m.cls)
    (hd : decode c.code pc = .ok (.getfield index, 3)) (w : (Cond.fieldLink own index R0 n d).before a0 Z = true) (via : Via Z R0 O n d) (F : Fld Z h a O n d v) :
    own_R p l e R s m args below meth c S0 n0 h ce sl (mkF m (pc + 3) Ls (v :: rest)) := A.law fun T L X eT N => by
  obtain ⟨T', X', e', st⟩ := RoadKit.getF X hx hZ hown (host := "") (Or.inl w) via eT F (g := mkF m pc Ls (.ref a :: rest)) rfl rfl hd
  exact ⟨T', L, X', e', N, st⟩
theorem own_R.getS {pc : Nat} {Ls : Array Slot} {st : List Value} {v : Value} {own R0 O n d : String} {index : Nat}
    (A : own_R p l e R s m args below meth c S0 n0 h ce sl (mkF m pc Ls st)) (hx : p.tables.exec = Jvm.exec) (hZ : Z.Warmed39 s.vm) (hown : s.vm.findClass own = some m.cls)
    (hd : decode c.code pc = .ok (.getstatic index, 3)) (w : (Cond.fieldLink own index R0 n d).before a0 Z = true) (via : Via Z R0 O n d) (F : Sta Z h O n d v) :
    own_R p l e R s m args below meth c S0 n0 h ce sl (mkF m (pc + 3) Ls (v :: st)) := A.law fun T L X eT N => by
  obtain ⟨T', X', e', k⟩ := RoadKit.getS X hx hZ hown (host := "") w via eT F (g := mkF m pc Ls st) rfl hd
  exact ⟨T', L, X', e', N, k⟩
theorem own_R.ldcI {pc : Nat} {Ls : Array Slot} {st : List Value} {v : Int32} {own : String} {index : Nat}
    (A : own_R p l e R s m args below meth c S0 n0 h ce sl (mkF m pc Ls st)) (hx : p.tables.exec = Jvm.exec) (hZ : Z.Warmed39 s.vm) (hown : s.vm.findClass own = some m.cls)
    (hd : decode c.code pc = .ok (.ldc index, 2)) (w : (Cond.constant own index v).before a0 Z = true) :
    own_R p l e R s m args below meth c S0 n0 h ce sl (mkF m (pc + 2) Ls (.int v :: st)) := A.go fun T L X t k =>
  X.ldcInt hx hown (mvT hZ w) (g := mkF m pc Ls st) rfl hd t k
theorem own_R.callS {pc : Nat} {Ls : Array Slot} {st : List Value} {own : String} {index W : Nat} {y : MethodName} {bytes : ByteArray} {maxL : Nat} {ret : Option FieldType} {rm : Room} {as : Array Value} {Q : Option Value → Heap → Prop} {argsL rest : List Value}
    (A : own_R p l e R s m args below meth c S0 n0 h ce sl (mkF m pc Ls st)) (M : own_M l Z y bytes maxL ret [] rm as h n0 Q) (hx : p.tables.exec = Jvm.exec) (hZ : Z.Warmed39 s.vm) (hown : s.vm.findClass own = some m.cls)
    (hd : decode c.code pc = .ok (.invokestatic index, 3)) (w1 : (Cond.methodLink own index y).before a0 Z = true) (w2 : (Cond.static y).before a0 Z = true) (w3 : (Cond.initialized y.cls).before a0 Z = true) (w4 : (Cond.code y bytes maxL ret).before a0 Z = true)
    (hy : y.cls ≠ "java/lang/invoke/MethodHandle" ∧ y.cls ≠ "java/lang/invoke/VarHandle") (hlen : ∀ sig, parseMethodDescriptor y.desc = some sig → argsL.length = sig.parameters.length) (hst : st = argsL.reverse ++ rest) (has : argsL.toArray = as)
    (hsz : Ls.size = c.maxLocals) (hW : (rest.map fun v => v.category).sum ≤ W) (hf : rm.frames + 1 ≤ R.frames) (hl : W + (maxL + 11) + rm.locals ≤ R.locals) (hc : ce + rm.cells ≤ R.cells) (hs : sl + rm.slots ≤ R.slots) :
    ∃ v h', Q v h' ∧ own_R p l e R s m args below meth c S0 n0 h' (ce + rm.cells) (sl + rm.slots) (mkF m (pc + 3) Ls (v.toList ++ rest)) := by
  obtain ⟨T, L, X, eT, N, k⟩ := A
  obtain ⟨v, vm₁, ⟨T', L', k', n'⟩, -, X', ⟨Lc, hQ, l1, l2, l3⟩, sT⟩ := Jvm.LawKit.callS X hx (y := y) hown (mvT hZ w1) (mvT hZ w2) (mvT hZ w3) (mvT hZ w4) hy (backOf (W := W) (Q := fun v h' L => Q v h' ∧ Fr n0 L) M hZ w4 w3 hf hl) (g := mkF m pc Ls st) rfl hsz (argsL := argsL) (rest := rest) hlen hst (by show 2 * 0 + _ ≤ _; omega) hd (fun _ _ => ⟨has, eT, hc, hs⟩)
  dsimp only [Pt.U, Pt.locs, Pt.cells, Pt.slots] at X' l1 l2 l3 sT hQ
  subst l1 l2 l3
  exact ⟨v, _, hQ.1, T', _, X', rfl, Fr.app N hQ.2, k.trans (sT _ (Steps.refl _))⟩
theorem own_R.callV {pc : Nat} {Ls : Array Slot} {st : List Value} {own C : String} {index W : Nat} {y z : MethodName} {bytes : ByteArray} {maxL : Nat} {ret : Option FieldType} {rm : Room} {as : Array Value} {Q : Option Value → Heap → Prop} {b : Addr} {argsL rest : List Value}
    (A : own_R p l e R s m args below meth c S0 n0 h ce sl (mkF m pc Ls st)) (M : own_M l Z z bytes maxL ret [] rm as h n0 Q) (E : Exa Z h b C) (hx : p.tables.exec = Jvm.exec) (hZ : Z.Warmed39 s.vm) (hown : s.vm.findClass own = some m.cls)
    (hd : decode c.code pc = .ok (.invokevirtual index, 3)) (w1 : (Cond.methodLink own index y).before a0 Z = true) (w2 : (Cond.declares y).before a0 Z = true) (w3 : (Cond.selects C y z).before a0 Z = true) (w4 : (Cond.instanceMethod z).before a0 Z = true) (w5 : (Cond.code z bytes maxL ret).before a0 Z = true) (w6 : (Cond.initialized z.cls).before a0 Z = true) (hnf : ∀ s' : State, Z.Warmed39 s'.vm → NotFace s' y)
    (hy : y.cls ≠ "java/lang/invoke/MethodHandle" ∧ y.cls ≠ "java/lang/invoke/VarHandle") (hlen : ∀ sig, parseMethodDescriptor y.desc = some sig → argsL.length = sig.parameters.length) (hst : st = argsL.reverse ++ .ref b :: rest) (has : (Value.ref b :: argsL).toArray = as)
    (hsz : Ls.size = c.maxLocals) (hW : (rest.map fun v => v.category).sum ≤ W) (hf : rm.frames + 1 ≤ R.frames) (hl : W + (maxL + 11) + rm.locals ≤ R.locals) (hc : ce + rm.cells ≤ R.cells) (hs : sl + rm.slots ≤ R.slots) :
    ∃ v h', Q v h' ∧ own_R p l e R s m args below meth c S0 n0 h' (ce + rm.cells) (sl + rm.slots) (mkF m (pc + 3) Ls (v.toList ++ rest)) := by
  obtain ⟨T, L, X, eT, N, k⟩ := A
  obtain ⟨cq, kq, qa, qb, qc⟩ := isOf hZ eT E
  obtain ⟨v, vm₁, ⟨T', L', k', n'⟩, -, X', ⟨Lc, hQ, l1, l2, l3⟩, sT⟩ := X.virtualBack hx (y := y) (z := z) hown (mvT hZ w1) (mvT hZ w2) (hnf s hZ) (mvT hZ w3) (mvT hZ w4) hy (backOf (W := W) (Q := fun v h' L => Q v h' ∧ Fr n0 L) M hZ w5 w6 hf hl) qa qc (g := mkF m pc Ls st) rfl hsz (Steps.refl _) (argsL := argsL) (rest := rest) hlen hst (by show 2 * 0 + _ ≤ _; omega) hd (fun _ _ => ⟨has, eT, hc, hs⟩)
  dsimp only [Pt.U, Pt.locs, Pt.cells, Pt.slots] at X' l1 l2 l3 sT hQ
  subst l1 l2 l3
  exact ⟨v, _, hQ.1, T', _, X', rfl, Fr.app N hQ.2, k.trans sT⟩
theorem own_R.callI {pc : Nat} {Ls : Array Slot} {st : List Value} {own : String} {index W : Nat} {y : MethodName} {bytes : ByteArray} {maxL : Nat} {rm : Room} {as : Array Value} {Q : Option Value → Heap → Prop} {b : Addr} {argsL rest : List Value}
    (A : own_R p l e R s m args below meth c S0 n0 h ce sl (mkF m pc Ls st)) (M : own_M l Z y bytes maxL none [] rm as h n0 Q) (hx : p.tables.exec = Jvm.exec) (hZ : Z.Warmed39 s.vm) (hown : s.vm.findClass own = some m.cls)
    (hd : decode c.code pc = .ok (.invokespecial index, 3)) (hy1 : y.name = "<init>") (w1 : (Cond.methodLink own index y).before a0 Z = true) (w2 : (Cond.instanceMethod y).before a0 Z = true) (w3 : (Cond.code y bytes maxL none).before a0 Z = true) (w4 : (Cond.initialized y.cls).before a0 Z = true)
    (hy : y.cls ≠ "java/lang/invoke/MethodHandle" ∧ y.cls ≠ "java/lang/invoke/VarHandle") (hlen : ∀ sig, parseMethodDescriptor y.desc = some sig → argsL.length = sig.parameters.length) (hst : st = argsL.reverse ++ .ref b :: rest) (has : (Value.ref b :: argsL).toArray = as)
    (hsz : Ls.size = c.maxLocals) (hW : (rest.map fun v => v.category).sum ≤ W) (hf : rm.frames + 1 ≤ R.frames) (hl : W + (maxL + 11) + rm.locals ≤ R.locals) (hc : ce + rm.cells ≤ R.cells) (hs : sl + rm.slots ≤ R.slots) :
    ∃ v h', Q v h' ∧ own_R p l e R s m args below meth c S0 n0 h' (ce + rm.cells) (sl + rm.slots) (mkF m (pc + 3) Ls (v.toList ++ rest)) := by
  obtain ⟨T, L, X, eT, N, k⟩ := A
  obtain ⟨v, vm₁, ⟨T', L', k', n'⟩, -, X', ⟨Lc, hQ, l1, l2, l3⟩, sT⟩ := X.specialBack hx (y := y) hy1 hown (mvT hZ w1) (mvT hZ w2) (mvT hZ w3) hy (backOf (W := W) (Q := fun v h' L => Q v h' ∧ Fr n0 L) M hZ w3 w4 hf hl) (g := mkF m pc Ls st) rfl hsz (Steps.refl _) (a := b) (argsL := argsL) (rest := rest) hlen hst (by show 2 * 0 + _ ≤ _; omega) hd (fun _ _ => ⟨has, eT, hc, hs⟩)
  dsimp only [Pt.U, Pt.locs, Pt.cells, Pt.slots] at X' l1 l2 l3 sT hQ
  subst l1 l2 l3
  exact ⟨v, _, hQ.1, T', _, X', rfl, Fr.app N hQ.2, k.trans sT⟩
theorem own_R.ret {pc : Nat} {Ls : Array Slot} {rest : List Value} {w : Value} {t : FieldType} {i : Instr} {Q : Option Value → Heap → Prop}
    (A : own_R p l e R s m args below meth c S0 n0 h ce sl (mkF m pc Ls (w :: rest))) (hx : p.tables.exec = Jvm.exec) (hlk : meth.locks = false) (hret : meth.sig.returnType = some t) (hd : decode c.code pc = .ok (i, 1)) (hn : narrow t w = w)
    (hi : (i = .ireturn ∧ (t = .int ∨ t = .boolean ∨ t = .byte ∨ t = .char ∨ t = .short) ∧ ∃ z, w = .int z) ∨ (i = .lreturn ∧ t = .long ∧ ∃ z, w = .long z) ∨ (i = .dreturn ∧ t = .double ∧ ∃ z, w = .double z) ∨ (i = .freturn ∧ t = .float ∧ ∃ z, w = .float z) ∨ (i = .areturn ∧ t.isReference = true ∧ w.isRef = true))
    (hc : ce ≤ R.cells) (hs : sl ≤ R.slots) (q : Q (some w) h) : own_E p e R s below S0 n0 Q := by
  obtain ⟨T, L, X, eT, N, k⟩ := A
  obtain ⟨fs, hr, hrun, hended, hW, hsame⟩ := X.leave (v := some w) (fun h => by rw [hret] at h; cases h) hlk
  refine ⟨_, _, _, k.trans (retOut X hx hret hn hi hd hr), hrun, hended, ⟨?_, N⟩, ⟨_, rfl⟩, hW, hsame.mono hc hs⟩
  show Q _ T.heap
  rw [eT]; exact q
theorem own_R.retV {pc : Nat} {Ls : Array Slot} {Q : Option Value → Heap → Prop}
    (A : own_R p l e R s m args below meth c S0 n0 h ce sl (mkF m pc Ls [])) (hx : p.tables.exec = Jvm.exec) (hlk : meth.locks = false) (hret : meth.sig.returnType = none) (hd : decode c.code pc = .ok (.return_, 1))
    (hc : ce ≤ R.cells) (hs : sl ≤ R.slots) (q : Q none h) : own_E p e R s below S0 n0 Q := by
  obtain ⟨T, L, X, eT, N, k⟩ := A
  obtain ⟨fs, hr, hrun, hended, hW, hsame⟩ := X.leave (v := none) (fun _ => rfl) hlk
  refine ⟨_, _, _, k.trans (X.returnOut hx hret hd hr), hrun, hended, ⟨?_, N⟩, ⟨_, rfl⟩, hW, hsame.mono hc hs⟩
  show Q _ T.heap
  rw [eT]; exact q
end Own
section Own2
variable {p : Program} {l : Launch} {e : Env} {R : Room} {s : State} {m : MethodId} {args : Array Value} {below : List Frame} {meth : Method} {c : Code} {S0 : State} {n0 : Nat} {h h' : Heap} {ce sl : Nat} {Z : State} {a0 : Array Value} {pc : Nat} {Ls : Array Slot} {rest : List Value} {a b : Addr} {ty : FieldType} {vs : List Value} {ws : List Addr} {v : Value} {i : Nat}
/-- an array whose components are listed -/
def own_Ar (Z : State) (h : Heap) (a : Addr) (ty : FieldType) (vs : List Value) : Prop := ∃ cl : Cell, Arr Z h a cl ty ∧ cl.slots.toList = vs
theorem own_Ar.ext (F : own_Ar Z h a ty vs) (E : Ext h h') : own_Ar Z h' a ty vs := by obtain ⟨cl, A, q⟩ := F; exact ⟨cl, A.ext E, q⟩
theorem own_Ar.other (F : own_Ar Z h a ty vs) (W : Wr h h' b i v) (q : a ≠ b) : own_Ar Z h' a ty vs := by obtain ⟨cl, A, r⟩ := F; exact ⟨cl, A.other W q, r⟩
theorem own_Ar.same (F : own_Ar Z h a ty vs) (W : Wr h h' a i v) : own_Ar Z h' a ty (vs.set i v) := by
  obtain ⟨cl, A, rfl⟩ := F
  exact ⟨_, A.same W, by simp [Cell.setSlot, Array.toList_setIfInBounds]⟩
theorem own_Ar.keep (F : own_Ar Z h a ty vs) (K : Keep h h' ws) (q : a ∉ ws) : own_Ar Z h' a ty vs := by obtain ⟨cl, A, r⟩ := F; exact ⟨cl, ⟨K.2.1 a cl A.1 q, A.2⟩, r⟩
theorem own_Ar.lt (F : own_Ar Z h a ty vs) : a < h.size := by obtain ⟨cl, A, -⟩ := F; exact A.lt
theorem own_R.newP {n : Int32} {aty : ArrayType} {cap : Nat} (A : own_R p l e R s m args below meth c S0 n0 h ce sl (mkF m pc Ls (.int n :: rest))) (hx : p.tables.exec = Jvm.exec) (hZ : Z.Warmed39 s.vm)
    (hd : decode c.code pc = .ok (.newarray aty, 2)) (w : (Cond.arrayClass (newarray.typeOf aty)).before a0 Z = true) (hn : ¬ n < 0) (hcap : n.toNatClampNeg ≤ cap) (hb : cap * 8 ≤ 536870912) (hc : ce + 1 ≤ R.cells) (hl : sl + cap ≤ R.slots) :
    ∃ h', Ext h h' ∧ own_Ar Z h' h.size (newarray.typeOf aty) (List.replicate n.toNatClampNeg (defaultValue (newarray.typeOf aty))) ∧ own_R p l e R s m args below meth c S0 n0 h' (ce + 1) (sl + cap) (mkF m (pc + 2) Ls (.ref h.size :: rest)) := by
  obtain ⟨T, L, X, eT, N, k⟩ := A
  obtain ⟨T', h', cA, X', e', E, AA, st⟩ := RoadKit.newP X hx hZ w eT (g := mkF m pc Ls (.int n :: rest)) rfl hd rfl hn hcap hb hc hl
  exact ⟨h', E, ⟨_, AA, by simp [newA]⟩, T', L, X', e', N, k.trans (st _ (Steps.refl _))⟩
theorem own_R.newO {own C : String} {index n : Nat} (A : own_R p l e R s m args below meth c S0 n0 h ce sl (mkF m pc Ls rest)) (hx : p.tables.exec = Jvm.exec) (hZ : Z.Warmed39 s.vm) (hown : s.vm.findClass own = some m.cls)
    (hd : decode c.code pc = .ok (.new index, 3)) (w : (Cond.classLink own index C).before a0 Z = true) (wi : (Cond.instantiable C n).before a0 Z = true) (wz : (Cond.initialized C).before a0 Z = true) (hc : ce + 1 ≤ R.cells) (hl : sl + n ≤ R.slots) :
    ∃ h', Ext h h' ∧ Exa Z h' h.size C ∧ (∀ {O nm d : String} {ty : FieldType}, Laid Z a0 C O nm d → parseFieldDescriptor d = some ty → Fld Z h' h.size O nm d (defaultValue ty)) ∧ own_R p l e R s m args below meth c S0 n0 h' (ce + 1) (sl + n) (mkF m (pc + 3) Ls (.ref h.size :: rest)) := by
  obtain ⟨T, L, X, eT, N, k⟩ := A
  obtain ⟨T', h', X', e', E, AA, D, -, st⟩ := RoadKit.newO X hx hZ hown w wi wz eT (g := mkF m pc Ls rest) rfl hd hc hl
  exact ⟨h', E, AA, D, T', L, X', e', N, k.trans (st _ (Steps.refl _))⟩
theorem own_R.putF {own O n d C : String} {index kk : Nat} {v old : Value} (A : own_R p l e R s m args below meth c S0 n0 h ce sl (mkF m pc Ls (v :: .ref a :: rest))) (hx : p.tables.exec = Jvm.exec) (hZ : Z.Warmed39 s.vm) (hown : s.vm.findClass own = some m.cls)
    (hd : decode c.code pc = .ok (.putfield index, 3)) (w : (Cond.fieldLink own index O n d).before a0 Z = true) (F : Fld Z h a O n d old) (E : Exa Z h a C) (L : (Cond.lays C O n d).before a0 Z = true ∨ ((Cond.laysFinal C O n d).before a0 Z = true ∧ own = O ∧ meth.name = "<init>")) (wi : (Cond.instantiable C kk).before a0 Z = true)
    (hty : parseFieldDescriptor d = some ty) (hn : narrow ty v = v) (hf : fits ty v = true) (q : n0 ≤ a) :
    ∃ h', Wr h h' a (RoadKit.slotOf Z O n d) v ∧ own_R p l e R s m args below meth c S0 n0 h' ce sl (mkF m (pc + 3) Ls rest) := by
  obtain ⟨T, Lc, X, eT, N, k⟩ := A
  obtain ⟨T', h', X', e', W, st⟩ := RoadKit.putF X hx hZ hown (host := "") (Or.inl w) Via.refl eT F E L wi hty hn hf (g := mkF m pc Ls (v :: .ref a :: rest)) rfl rfl hd
  exact ⟨h', W, T', _, X', e', Fr.snoc X' N q, k.trans (st _ (Steps.refl _))⟩
theorem own_R.initO {own : String} {idx W : Nat} (A : own_R p l e R s m args below meth c S0 n0 h ce sl (mkF m pc Ls (.ref a :: rest))) (hx : p.tables.exec = Jvm.exec) (hZ : Z.Warmed39 s.vm) (hown : s.vm.findClass own = some m.cls)
    (hd : decode c.code pc = .ok (.invokespecial idx, 3)) (w1 : (Cond.methodLink own idx Lib.objectInit).before a0 Z = true) (w2 : (Cond.instanceMethod Lib.objectInit).before a0 Z = true) (w3 : (Cond.code Lib.objectInit ⟨#[0xb1]⟩ 1 none).before a0 Z = true)
    (hsz : Ls.size = c.maxLocals) (hW : (rest.map fun v => v.category).sum ≤ W) (hf : 1 ≤ R.frames) (hl : W + 12 ≤ R.locals) : own_R p l e R s m args below meth c S0 n0 h ce sl (mkF m (pc + 3) Ls rest) := A.law fun T L X eT N => by
  obtain ⟨T', X', e', st⟩ := RoadKit.initO X hx hZ hown w1 w2 w3 eT (g := mkF m pc Ls (.ref a :: rest)) rfl hsz rfl hd hf (by show 2 * 0 + _ ≤ _; exact (Nat.zero_add _).symm ▸ hW) hl
  exact ⟨T', L, X', e', N, st⟩
theorem own_R.stB {j x : Int32} (A : own_R p l e R s m args below meth c S0 n0 h ce sl (mkF m pc Ls (.int x :: .int j :: .ref a :: rest))) (hx : p.tables.exec = Jvm.exec) (hZ : Z.Warmed39 s.vm)
    (hd : decode c.code pc = .ok (.bastore, 1)) (F : own_Ar Z h a .byte vs) (hj : ¬ j < 0) (hi : j.toNatClampNeg < vs.length) (q : n0 ≤ a) :
    ∃ h', Wr h h' a j.toNatClampNeg (.int (nar .byte x)) ∧ own_R p l e R s m args below meth c S0 n0 h' ce sl (mkF m (pc + 1) Ls rest) := by
  obtain ⟨cl, F, rfl⟩ := F
  obtain ⟨T, Lc, X, eT, N, k⟩ := A
  obtain ⟨T', h', X', e', W, st⟩ := RoadKit.stB X hx hZ eT F (j := j) (fun z => z.elim hj fun u => by rw [Array.length_toList] at hi; omega) (g := mkF m pc Ls (.int x :: .int j :: .ref a :: rest)) rfl rfl hd
  exact ⟨h', W, T', _, X', e', Fr.snoc X' N q, k.trans (st _ (Steps.refl _))⟩
theorem own_R.ldB {j : Int32} (A : own_R p l e R s m args below meth c S0 n0 h ce sl (mkF m pc Ls (.int j :: .ref a :: rest))) (hx : p.tables.exec = Jvm.exec) (hZ : Z.Warmed39 s.vm)
    (hd : decode c.code pc = .ok (.baload, 1)) (F : own_Ar Z h a .byte vs) (hj : ¬ j < 0) (hv : vs[j.toNatClampNeg]? = some v) :
    own_R p l e R s m args below meth c S0 n0 h ce sl (mkF m (pc + 1) Ls (v :: rest)) := A.law fun T L X eT N => by
  obtain ⟨cl, F, rfl⟩ := F
  rw [Array.getElem?_toList] at hv
  have hlt := (Array.getElem?_eq_some_iff.mp hv).1
  exact ⟨T, L, X, eT, N, fun t k => X.baloadBytes hx (j := j) (v := v) (by rw [eT]; exact F.1) (State.isArrayOf_alike hZ.alike F.2.1) F.2.2 (fun z => z.elim hj fun u => by omega) hv (g := mkF m pc Ls (.int j :: .ref a :: rest)) rfl rfl hd t k⟩
theorem own_R.stC {j : Int32} {x : Int32} (A : own_R p l e R s m args below meth c S0 n0 h ce sl (mkF m pc Ls (.int x :: .int j :: .ref a :: rest))) (hx : p.tables.exec = Jvm.exec) (hZ : Z.Warmed39 s.vm)
    (hd : decode c.code pc = .ok (.castore, 1)) (F : own_Ar Z h a .char vs) (hj : ¬ j < 0) (hi : j.toNatClampNeg < vs.length) (q : n0 ≤ a) :
    ∃ h', Wr h h' a j.toNatClampNeg (.int (nar .char x)) ∧ own_R p l e R s m args below meth c S0 n0 h' ce sl (mkF m (pc + 1) Ls rest) := by
  obtain ⟨cl, F, rfl⟩ := F
  obtain ⟨T, Lc, X, eT, N, k⟩ := A
  obtain ⟨T', h', X', e', W, st⟩ := RoadKit.stC X hx hZ eT F (j := j) (fun z => z.elim hj fun u => by rw [Array.length_toList] at hi; omega) (g := mkF m pc Ls (.int x :: .int j :: .ref a :: rest)) rfl rfl hd
  exact ⟨h', W, T', _, X', e', Fr.snoc X' N q, k.trans (st _ (Steps.refl _))⟩
theorem own_R.ldC {j : Int32} (A : own_R p l e R s m args below meth c S0 n0 h ce sl (mkF m pc Ls (.int j :: .ref a :: rest))) (hx : p.tables.exec = Jvm.exec) (hZ : Z.Warmed39 s.vm)
    (hd : decode c.code pc = .ok (.caload, 1)) (F : own_Ar Z h a .char vs) (hj : ¬ j < 0) (hv : vs[j.toNatClampNeg]? = some v) :
    own_R p l e R s m args below meth c S0 n0 h ce sl (mkF m (pc + 1) Ls (v :: rest)) := A.law fun T L X eT N => by
  obtain ⟨cl, F, rfl⟩ := F
  rw [Array.getElem?_toList] at hv
  have hlt := (Array.getElem?_eq_some_iff.mp hv).1
  exact ⟨T, L, X, eT, N, fun t k => X.caload hx (j := j) (v := v) (by rw [eT]; exact F.1) (State.isArrayOf_alike hZ.alike F.2.1) F.2.2 (fun z => z.elim hj fun u => by omega) hv (g := mkF m pc Ls (.int j :: .ref a :: rest)) rfl rfl hd t k⟩
theorem own_R.len (A : own_R p l e R s m args below meth c S0 n0 h ce sl (mkF m pc Ls (.ref a :: rest))) (hx : p.tables.exec = Jvm.exec) (hZ : Z.Warmed39 s.vm)
    (hd : decode c.code pc = .ok (.arraylength, 1)) (F : own_Ar Z h a ty vs) :
    own_R p l e R s m args below meth c S0 n0 h ce sl (mkF m (pc + 1) Ls (.int vs.length.toInt32 :: rest)) := A.law fun T L X eT N => by
  obtain ⟨cl, F, rfl⟩ := F
  exact ⟨T, L, X, eT, N, fun t k => X.arraylength hx (by rw [eT]; exact F.1) (State.isArrayOf_alike hZ.alike F.2.1) (g := mkF m pc Ls (.ref a :: rest)) rfl rfl hd t (by rw [Array.length_toList] at k; exact k)⟩
end Own2
section Own2b
variable {p : Program} {l : Launch} {e : Env} {R : Room} {s : State} {m : MethodId} {args : Array Value} {below : List Frame} {meth : Method} {c : Code} {S0 : State} {n0 : Nat} {h h' : Heap} {ce sl : Nat} {Z : State} {a0 : Array Value} {pc : Nat} {Ls : Array Slot} {rest : List Value} {a : Addr}
theorem own_eqI {args : Array Value} {t : Term} {k : Int32} (h : (Cond.eq t (.int k)).value args Z none Z [] = some true) : t.eval args Z none [] Z = some (.int k) := by
  simp only [Cond.value, Term.int_eval] at h
  cases hv : t.eval args Z none [] Z with
  | none => rw [hv] at h; cases h
  | some w =>
    rw [hv] at h
    cases w <;> simp at h
    rw [h]
end Own2b
section Own3
variable {p : Program} {l : Launch} {e : Env} {R : Room} {s : State} {vm0 vmS : Vm} {k0 : Nat} {m : MethodId} {args : Array Value} {below : List Frame} {meth : Method} {c : Code} {S0 : State} {n0 : Nat} {h h' hS0 : Heap} {ce sl : Nat} {Z : State} {a0 : Array Value} {pc : Nat} {Ls : Array Slot} {rest st : List Value} {EL : List (String × Nat)} {own : String}
/-- the end of a walk that may have interned -/
def own_ES (Z : State) (EL : List (String × Nat)) (p : Program) (e : Env) (R : Room) (s : State) (below : List Frame) (S0 : State) (n0 : Nat) (Q : Option Value → Heap → Prop) : Prop :=
  ∃ s₂ v L, Steps p.tables e below S0 s₂ ∧ s₂.status = .running ∧ Ended s₂ below (.returned v) ∧ (Q v s₂.heap ∧ Fr n0 L) ∧ CHr Z EL s.vm s.heap s₂.vm s₂.heap ∧ ReturnedEndW s (.returned v) s₂ L R.cells R.slots
/-- the contract of a body that may intern -/
def own_MS (l : Launch) (Z : State) (EL : List (String × Nat)) (y : MethodName) (bytes : ByteArray) (maxL : Nat) (ret : Option FieldType) (ws : List Cond) (rm : Room) (as : Array Value) (h0 : Heap) (n0 : Nat) (Q : Option Value → Heap → Prop) : Prop :=
  MetFree l y (head1 (Cond.code y bytes maxL ret :: ws) rm) (fun a U => a = as ∧ Z.Warmed39 U.vm ∧ U.heap = h0 ∧ CHv Z EL U.vm h0) (fun _ _ _ _ _ => True) (fun _ U o U' => ∃ v L, o = .returned v ∧ (Q v U'.heap ∧ Fr n0 L) ∧ CHr Z EL U.vm U.heap U'.vm U'.heap ∧ ReturnedEndW U o U' L rm.cells rm.slots)
theorem own_MS.of {y : MethodName} {bytes : ByteArray} {maxL : Nat} {ret : Option FieldType} {ws : List Cond} {rm : Room} {as : Array Value} {h0 : Heap} {Q : Option Value → Heap → Prop} (pn : plainFor y = true)
    (body : ∀ (p : Program) (e : Env) (s : State) (m : MethodId) (below : List Frame) (meth : Method) (c : Code) (S0 : State) (vm0 : Vm) (k0 : Nat), p.tables.exec = Jvm.exec → c.code = bytes → c.maxLocals = maxL → vm0.findClass y.cls = some m.cls → meth.name = y.name → meth.sig.returnType = ret → meth.locks = false → Z.Warmed39 vm0 →
      s.Since vm0 k0 → k0 ≤ h0.size → CHr Z EL s.vm s.heap vm0 h0 → own_R p l e rm (s.setVm vm0) m as below meth c S0 n0 h0 0 0 (entryFrame m as maxL) → own_ES Z EL p e rm s below S0 n0 Q) :
    own_MS l Z EL y bytes maxL ret ws rm as h0 n0 Q := by
  refine MetFree.of_bodySF pn hisR ?_
  intro p e s m args below meth c s₁ Bd hml0 hP hK
  obtain ⟨rfl, hZ, hh, HC⟩ := hP
  have e0 : s₁.heap = h0 := by rw [← hh, Bd.state]; rfl
  have X0 : Stand p l e rm (s.setVm s.vm) m args below meth c s₁ [] 0 0 := Stand.of_body Bd
  obtain ⟨s₂, v, L, k, hrun, hend, hq, hC, hF⟩ := body p e s m below meth c _ s.vm h0.size Bd.exec Bd.bytes hml0 (findClass_of_methodNamed Bd.named) (name_of_methodNamed Bd.named Bd.method).1 Bd.returns Bd.notSynchronized hZ ((State.WarmedH.refl s).since _) (Nat.le_refl _) (by rw [hh]; exact CHr.refl HC) ⟨s₁, [], X0, e0, Fr.nil n0, Steps.refl _⟩
  exact ⟨s₂, _, k, hrun, hend, v, L, rfl, hq, hC, hF⟩
theorem own_Ar.safe {a : Addr} {ty : FieldType} {vs : List Value} {vm : Vm} (hal : Z.vm.Alike vm) (F : own_Ar Z h a ty vs) (ht : ty ≠ .byte) : Safe Z EL vm h a := by
  obtain ⟨cl, A, -⟩ := F
  exact Safe.arr hal A ht
theorem own_Ar.of_arv {a : Addr} {k : ClassId} {ty : FieldType} {z : Int32} {vs : List Value} {d : Value} (A : Arv Z h a k ty z vs d) (hl : z.toNatClampNeg = vs.length) : own_Ar Z h a ty vs := by
  obtain ⟨cl, A1, -, hs, -, hH, -⟩ := A
  refine ⟨cl, A1, ?_⟩
  apply List.ext_getElem?
  intro i
  rw [Array.getElem?_toList]
  by_cases hi : i < cl.slots.size
  · have hi' : i < vs.length := by omega
    rw [hH i hi, List.getD_eq_getElem?_getD, List.getElem?_eq_getElem hi']
    rfl
  · have hi' : ¬ i < vs.length := by omega
    rw [List.getElem?_eq_none (Nat.le_of_not_lt hi'), Array.getElem?_eq_none (Nat.le_of_not_lt hi)]
theorem own_R.ldcS {text : String} {index n : Nat} {vs : List Value} {z : Int32} (A : own_R p l e R (s.setVm vm0) m args below meth c S0 n0 h ce sl (mkF m pc Ls st)) (hx : p.tables.exec = Jvm.exec) (hZ : Z.Warmed39 vm0) (hown : vm0.findClass own = some m.cls)
    (hd : decode c.code pc = .ok (.ldc index, 2)) (w : (Cond.stringLink own index text).before a0 Z = true) (wS : ∀ a ∈ Bundle.stringAtoms, a.before a0 Z = true) (hS : s.Since vm0 k0) (hk : k0 ≤ h.size) (hEL : EW Z a0 EL) (hmem : (own, index) ∈ EL) (HC : CHr Z EL vmS hS0 vm0 h)
    (ht : (∀ c ∈ text.toList, c.toNat < 256) ∧ text.toList.map (fun c => Value.int (Jvm.Lit.byteI c.toNat.toUInt16)) = vs) (hz : ¬ z < 0) (hl : z.toNatClampNeg = vs.length) (hn : 4 * text.toList.length ≤ n) (hbig : n ≤ 536870912) (hc : ce + 2 ≤ R.cells) (hl' : sl + (n + 4) ≤ R.slots) :
    ∃ a b vm1 k1 h', Ext h h' ∧ Exa Z h' a "java/lang/String" ∧ Fld Z h' a "java/lang/String" "coder" "B" (.int 0) ∧ Fld Z h' a "java/lang/String" "value" "[B" (.ref b) ∧ own_Ar Z h' b .byte vs ∧ (∀ x, Safe Z EL vm1 h' x → x ≠ a ∧ x ≠ b) ∧
      s.Since vm1 k1 ∧ k1 ≤ h'.size ∧ Z.Warmed39 vm1 ∧ vm1.findClass own = some m.cls ∧ CHr Z EL vmS hS0 vm1 h' ∧ Lit (s.setVm vm1) own index a ∧ own_R p l e R (s.setVm vm1) m args below meth c S0 n0 h' (ce + 2) (sl + (n + 4)) (mkF m (pc + 2) Ls (.ref a :: st)) := by
  obtain ⟨T, L, X, eT, N, k⟩ := A
  obtain ⟨a, T', h', k1, b, kc, X', e', E, hS', hk', hZ', hown', E1, F1, F2, V, -, -, HC', HL, hne, sT⟩ := ldcCH X hx hZ hown w wS eT hS hk hEL hmem HC.1 ht hz hl (g := mkF m pc Ls st) rfl hd hn hbig hc hl'
  exact ⟨a, b, T'.vm, k1, h', E, E1, F1, F2, own_Ar.of_arv V hl, hne, hS', hk', hZ', hown', HC.trans HC', HL, T', L, X', e', N, k.trans (sT _ (Steps.refl _))⟩
theorem own_R.callSS {index W : Nat} {y : MethodName} {bytes : ByteArray} {maxL : Nat} {ret : Option FieldType} {rm : Room} {as : Array Value} {Q : Option Value → Heap → Prop} {argsL : List Value}
    (A : own_R p l e R (s.setVm vm0) m args below meth c S0 n0 h ce sl (mkF m pc Ls st)) (M : own_MS l Z EL y bytes maxL ret [] rm as h n0 Q) (hx : p.tables.exec = Jvm.exec) (hZ : Z.Warmed39 vm0) (hown : vm0.findClass own = some m.cls)
    (hd : decode c.code pc = .ok (.invokestatic index, 3)) (w1 : (Cond.methodLink own index y).before a0 Z = true) (w2 : (Cond.static y).before a0 Z = true) (w3 : (Cond.initialized y.cls).before a0 Z = true) (w4 : (Cond.code y bytes maxL ret).before a0 Z = true) (hS : s.Since vm0 k0) (hk : k0 ≤ h.size) (hEL : EW Z a0 EL) (HC : CHr Z EL vmS hS0 vm0 h)
    (hy : y.cls ≠ "java/lang/invoke/MethodHandle" ∧ y.cls ≠ "java/lang/invoke/VarHandle") (hlen : ∀ sig, parseMethodDescriptor y.desc = some sig → argsL.length = sig.parameters.length) (hst : st = argsL.reverse ++ rest) (has : argsL.toArray = as)
    (hsz : Ls.size = c.maxLocals) (hW : (rest.map fun v => v.category).sum ≤ W) (hf : rm.frames + 1 ≤ R.frames) (hl : W + (maxL + 11) + rm.locals ≤ R.locals) (hc : ce + rm.cells ≤ R.cells) (hs : sl + rm.slots ≤ R.slots) :
    ∃ v vm1 k1 h', Q v h' ∧ s.Since vm1 k1 ∧ k1 ≤ h'.size ∧ Z.Warmed39 vm1 ∧ vm1.findClass own = some m.cls ∧ CHr Z EL vmS hS0 vm1 h' ∧ h.size ≤ h'.size ∧ (∀ vm2, vm2 = vm0 → (s.setVm vm2).Warmed39 vm1) ∧ own_R p l e R (s.setVm vm1) m args below meth c S0 n0 h' (ce + rm.cells) (sl + rm.slots) (mkF m (pc + 3) Ls (v.toList ++ rest)) := by
  obtain ⟨T, L, X, eT, N, k⟩ := A
  have hZs : Z.Warmed39 (s.setVm vm0).vm := hZ
  obtain ⟨v, vm₁, ⟨T', L', k', n'⟩, -, X', hS', hgr, ⟨Lc, hQ, l1, l2, l3, HC'⟩, sT⟩ := RoadKit.callSS X hx (y := y) hown (mvT hZs w1) (mvT hZs w2) (mvT hZs w3) (mvT hZs w4) hy (backOfSH (W := W) (Q := fun v h' L => Q v h' ∧ Fr n0 L) M hZ w4 w3 hf hl hEL HC.1) (g := mkF m pc Ls st) rfl hsz (argsL := argsL) (rest := rest) hlen hst (by show 2 * 0 + _ ≤ _; omega) hd (fun _ _ => ⟨has, eT, hc, hs⟩)
  dsimp only [Pt.U, Pt.locs, Pt.cells, Pt.slots] at X' l1 l2 l3 sT hQ hS' hgr HC'
  subst l1 l2 l3
  rw [eT] at hgr
  obtain ⟨X2, hS2, hZ2, hown2⟩ := rebS hS hk X' hS' hgr hZs hown
  exact ⟨v, T'.vm, _, _, hQ.1, hS2, Nat.le_refl _, hZ2, hown2, HC.trans HC', hgr, fun _ q => q ▸ hS'.1, T', _, X2, rfl, Fr.app N hQ.2, k.trans sT⟩
theorem own_R.callIS {index W : Nat} {y : MethodName} {bytes : ByteArray} {maxL : Nat} {rm : Room} {as : Array Value} {Q : Option Value → Heap → Prop} {b : Addr} {argsL : List Value}
    (A : own_R p l e R (s.setVm vm0) m args below meth c S0 n0 h ce sl (mkF m pc Ls st)) (M : own_MS l Z EL y bytes maxL none [] rm as h n0 Q) (hx : p.tables.exec = Jvm.exec) (hZ : Z.Warmed39 vm0) (hown : vm0.findClass own = some m.cls)
    (hd : decode c.code pc = .ok (.invokespecial index, 3)) (hy1 : y.name = "<init>") (w1 : (Cond.methodLink own index y).before a0 Z = true) (w2 : (Cond.instanceMethod y).before a0 Z = true) (w3 : (Cond.code y bytes maxL none).before a0 Z = true) (w4 : (Cond.initialized y.cls).before a0 Z = true) (hS : s.Since vm0 k0) (hk : k0 ≤ h.size) (hEL : EW Z a0 EL) (HC : CHr Z EL vmS hS0 vm0 h)
    (hy : y.cls ≠ "java/lang/invoke/MethodHandle" ∧ y.cls ≠ "java/lang/invoke/VarHandle") (hlen : ∀ sig, parseMethodDescriptor y.desc = some sig → argsL.length = sig.parameters.length) (hst : st = argsL.reverse ++ .ref b :: rest) (has : (Value.ref b :: argsL).toArray = as)
    (hsz : Ls.size = c.maxLocals) (hW : (rest.map fun v => v.category).sum ≤ W) (hf : rm.frames + 1 ≤ R.frames) (hl : W + (maxL + 11) + rm.locals ≤ R.locals) (hc : ce + rm.cells ≤ R.cells) (hs : sl + rm.slots ≤ R.slots) :
    ∃ v vm1 k1 h', Q v h' ∧ s.Since vm1 k1 ∧ k1 ≤ h'.size ∧ Z.Warmed39 vm1 ∧ vm1.findClass own = some m.cls ∧ CHr Z EL vmS hS0 vm1 h' ∧ h.size ≤ h'.size ∧ (∀ vm2, vm2 = vm0 → (s.setVm vm2).Warmed39 vm1) ∧ own_R p l e R (s.setVm vm1) m args below meth c S0 n0 h' (ce + rm.cells) (sl + rm.slots) (mkF m (pc + 3) Ls (v.toList ++ rest)) := by
  obtain ⟨T, L, X, eT, N, k⟩ := A
  have hZs : Z.Warmed39 (s.setVm vm0).vm := hZ
  obtain ⟨v, vm₁, ⟨T', L', k', n'⟩, -, X', hS', hgr, ⟨Lc, hQ, l1, l2, l3, HC'⟩, sT⟩ := X.specialBackS hx (y := y) hy1 hown (mvT hZs w1) (mvT hZs w2) (mvT hZs w3) hy (backOfSH (W := W) (Q := fun v h' L => Q v h' ∧ Fr n0 L) M hZ w3 w4 hf hl hEL HC.1) (g := mkF m pc Ls st) rfl hsz (Steps.refl _) (a := b) (argsL := argsL) (rest := rest) hlen hst (by show 2 * 0 + _ ≤ _; omega) hd (fun _ _ => ⟨has, eT, hc, hs⟩)
  dsimp only [Pt.U, Pt.locs, Pt.cells, Pt.slots] at X' l1 l2 l3 sT hQ hS' hgr HC'
  subst l1 l2 l3
  rw [eT] at hgr
  obtain ⟨X2, hS2, hZ2, hown2⟩ := rebS hS hk X' hS' hgr hZs hown
  exact ⟨v, T'.vm, _, _, hQ.1, hS2, Nat.le_refl _, hZ2, hown2, HC.trans HC', hgr, fun _ q => q ▸ hS'.1, T', _, X2, rfl, Fr.app N hQ.2, k.trans sT⟩
theorem own_R.retSS {w : Value} {t : FieldType} {i : Instr} {Q : Option Value → Heap → Prop}
    (A : own_R p l e R (s.setVm vm0) m args below meth c S0 n0 h ce sl (mkF m pc Ls (w :: rest))) (hx : p.tables.exec = Jvm.exec) (hlk : meth.locks = false) (hZ : Z.Warmed39 vm0) (hS : s.Since vm0 k0) (hk : k0 ≤ h.size) (hEL : EW Z a0 EL) (HC : CHr Z EL s.vm s.heap vm0 h) (hret : meth.sig.returnType = some t) (hd : decode c.code pc = .ok (i, 1)) (hn : narrow t w = w)
    (hi : (i = .ireturn ∧ (t = .int ∨ t = .boolean ∨ t = .byte ∨ t = .char ∨ t = .short) ∧ ∃ z, w = .int z) ∨ (i = .lreturn ∧ t = .long ∧ ∃ z, w = .long z) ∨ (i = .dreturn ∧ t = .double ∧ ∃ z, w = .double z) ∨ (i = .freturn ∧ t = .float ∧ ∃ z, w = .float z) ∨ (i = .areturn ∧ t.isReference = true ∧ w.isRef = true))
    (hc : ce ≤ R.cells) (hs : sl ≤ R.slots) (q : Q (some w) h) : own_ES Z EL p e R s below S0 n0 Q := by
  obtain ⟨T, L, X, eT, N, k⟩ := A
  obtain ⟨fs, hr, hrun, hended, hW⟩ := X.leaveW hS (by rw [eT]; exact hk) (v := some w) (fun h => by rw [hret] at h; cases h) hlk
  have HC2 := HC.trans (CHv.at X hZ hEL HC.1)
  refine ⟨_, _, _, k.trans (retOut X hx hret hn hi hd hr), hrun, hended, ⟨?_, N⟩, ?_, hW.1, hW.2.1, hW.2.2.1, hW.2.2.2.mono hc hs⟩
  · show Q _ T.heap
    rw [eT]; exact q
  · show CHr Z EL s.vm s.heap T.vm T.heap
    rw [eT]; exact HC2
theorem own_R.retVS {Q : Option Value → Heap → Prop}
    (A : own_R p l e R (s.setVm vm0) m args below meth c S0 n0 h ce sl (mkF m pc Ls [])) (hx : p.tables.exec = Jvm.exec) (hlk : meth.locks = false) (hZ : Z.Warmed39 vm0) (hS : s.Since vm0 k0) (hk : k0 ≤ h.size) (hEL : EW Z a0 EL) (HC : CHr Z EL s.vm s.heap vm0 h) (hret : meth.sig.returnType = none) (hd : decode c.code pc = .ok (.return_, 1))
    (hc : ce ≤ R.cells) (hs : sl ≤ R.slots) (q : Q none h) : own_ES Z EL p e R s below S0 n0 Q := by
  obtain ⟨T, L, X, eT, N, k⟩ := A
  obtain ⟨fs, hr, hrun, hended, hW⟩ := X.leaveW hS (by rw [eT]; exact hk) (v := none) (fun _ => rfl) hlk
  have HC2 := HC.trans (CHv.at X hZ hEL HC.1)
  refine ⟨_, _, _, k.trans (X.returnOut hx hret hd hr), hrun, hended, ⟨?_, N⟩, ?_, hW.1, hW.2.1, hW.2.2.1, hW.2.2.2.mono hc hs⟩
  · show Q _ T.heap
    rw [eT]; exact q
  · show CHr Z EL s.vm s.heap T.vm T.heap
    rw [eT]; exact HC2
end Own3
section Own4
variable {p : Program} {l : Launch} {e : Env} {R : Room} {s : State} {m : MethodId} {args : Array Value} {below : List Frame} {meth : Method} {c : Code} {S0 : State} {n0 : Nat} {h h' : Heap} {ce sl : Nat} {Z : State} {a0 : Array Value} {pc : Nat} {Ls : Array Slot} {rest st : List Value} {a b : Addr} {ty : FieldType} {vs : List Value} {ws : List Addr} {v : Value} {i : Nat} {own C : String}
theorem own_declares {y : MethodName} {bytes : ByteArray} {maxL : Nat} {ret : Option FieldType} (w4 : (Cond.instanceMethod y).before a0 Z = true) (w5 : (Cond.code y bytes maxL ret).before a0 Z = true) : (Cond.declares y).before a0 Z = true := by
  obtain ⟨mk, me, hn, hm, hs, -⟩ := Cond.instanceMethod_spec w4
  obtain ⟨me', ck, hm', -, -, -, -, -, -, hd⟩ := Cond.code_spec hn w5
  cases hm.symm.trans hm'
  simp [Cond.before, Cond.holds, Cond.value, hn, hm, hs, hd]
theorem own_nf {y y' : MethodName} (w : (Cond.selects C y' y').before a0 Z = true) (hc : y'.cls = y.cls) (s' : State) (hZ : Z.Warmed39 s'.vm) : NotFace s' y := by
  intro r0 h0
  obtain ⟨c1, r1, m1, -, -, hm, -, mk, hk, hi⟩ := Cond.selects_spec (mvT (args := #[]) hZ w)
  have e1 := findClass_of_methodNamed hm
  have e2 := findClass_of_methodNamed h0
  rw [hc, e2] at e1
  rw [← Option.some.inj e1] at hk
  exact ⟨mk, hk, hi⟩
theorem own_same {y y' : MethodName} (w : (Cond.selects C y' y').before a0 Z = true) (hc : y'.cls = y.cls) (w3 : (Cond.instanceMethod y).before a0 Z = true) (hy : y.cls ≠ "java/lang/invoke/MethodHandle" ∧ y.cls ≠ "java/lang/invoke/VarHandle") : (Cond.sameMethod y.cls y.cls y.name y.desc).before a0 Z = true := by
  obtain ⟨mk, me, hn, hm, hs, -⟩ := Cond.instanceMethod_spec w3
  obtain ⟨c1, r1, m1, -, -, hm1, -, kk, hk, hi⟩ := Cond.selects_spec w
  have e1 := findClass_of_methodNamed hm1
  have e2 := findClass_of_methodNamed hn
  have e3 := State.methodFound?_of_named hn hy
  rw [hc, e2] at e1
  rw [← Option.some.inj e1] at hk
  have hn' : Z.methodNamed? ⟨y.cls, y.name, y.desc⟩ = some mk := hn
  simp [Cond.before, Cond.holds, Cond.value, e2, e3, hn', hk, hi]
theorem own_R.callU {K : String} {index W : Nat} {y : MethodName} {bytes : ByteArray} {maxL : Nat} {ret : Option FieldType} {rm : Room} {as : Array Value} {Q : Option Value → Heap → Prop} {b : Addr} {argsL : List Value}
    (A : own_R p l e R s m args below meth c S0 n0 h ce sl (mkF m pc Ls st)) (M : own_M l Z y bytes maxL ret [] rm as h n0 Q) (E : Exa Z h b K) (hx : p.tables.exec = Jvm.exec) (hZ : Z.Warmed39 s.vm) (hown : s.vm.findClass own = some m.cls)
    (hd : decode c.code pc = .ok (.invokespecial index, 3)) (hn : y.name ≠ "<init>") (w1 : (Cond.methodLink own index y).before a0 Z = true) (w2 : (Cond.sameMethod y.cls y.cls y.name y.desc).before a0 Z = true) (w3 : (Cond.instanceMethod y).before a0 Z = true) (w4 : (Cond.superclass own y.cls).before a0 Z = true) (w5 : (Cond.code y bytes maxL ret).before a0 Z = true) (w6 : (Cond.initialized y.cls).before a0 Z = true)
    (hlen : ∀ sig, parseMethodDescriptor y.desc = some sig → argsL.length = sig.parameters.length) (hst : st = argsL.reverse ++ .ref b :: rest) (has : (Value.ref b :: argsL).toArray = as)
    (hsz : Ls.size = c.maxLocals) (hW : (rest.map fun v => v.category).sum ≤ W) (hf : rm.frames + 1 ≤ R.frames) (hl : W + (maxL + 11) + rm.locals ≤ R.locals) (hc : ce + rm.cells ≤ R.cells) (hs : sl + rm.slots ≤ R.slots) :
    ∃ v h', Q v h' ∧ own_R p l e R s m args below meth c S0 n0 h' (ce + rm.cells) (sl + rm.slots) (mkF m (pc + 3) Ls (v.toList ++ rest)) := by
  obtain ⟨T, L, X, eT, N, k⟩ := A
  obtain ⟨v, vm₁, ⟨T', L', k', n'⟩, -, X', ⟨Lc, hQ, l1, l2, l3⟩, sT⟩ := superBack X hx hZ hown w1 w2 w3 w4 hn (backOf (W := W) (Q := fun v h' L => Q v h' ∧ Fr n0 L) M hZ w5 w6 hf hl) eT (Ins.self E) (g := mkF m pc Ls st) rfl hsz w5 (argsL := argsL) (rest := rest) hlen hst (by show 2 * 0 + _ ≤ _; omega) hd (fun _ _ => ⟨has, eT, hc, hs⟩)
  dsimp only [Pt.U, Pt.locs, Pt.cells, Pt.slots] at X' l1 l2 l3 sT hQ
  subst l1 l2 l3
  exact ⟨v, _, hQ.1, T', _, X', rfl, Fr.app N hQ.2, k.trans sT⟩
theorem own_Ar.arv {z : Int32} {dv : Value} (F : own_Ar Z h a ty vs) (f : ∀ v ∈ vs, fits ty v = true) (hz : z.toNatClampNeg = vs.length) (hn : ¬ z < 0) : ∃ k, Arv Z h a k ty z vs dv := by
  obtain ⟨cl, A, rfl⟩ := F
  have g : ∀ i, i < cl.slots.size → cl.slots[i]? = some (cl.slots.toList.getD i dv) := fun i hi => by
    rw [List.getD_eq_getElem?_getD, Array.getElem?_toList, Array.getElem?_eq_getElem hi]; rfl
  refine ⟨_, cl, A, rfl, by rw [hz, Array.length_toList], hn, g, fun i hi => f _ ?_⟩
  have q := g i hi
  rw [← Array.getElem?_toList] at q
  exact List.mem_of_getElem? q
theorem own_R.cpA {index W : Nat} {vd vr : List Value} {sp dp nn z1 z2 : Int32} (A : own_R p l e R s m args below meth c S0 n0 h ce sl (mkF m pc Ls (.int nn :: .int dp :: .ref b :: .int sp :: .ref a :: rest))) (hx : p.tables.exec = Jvm.exec) (hZ : Z.Warmed39 s.vm) (hown : s.vm.findClass own = some m.cls)
    (hd : decode c.code pc = .ok (.invokestatic index, 3)) (w1 : (Cond.methodLink own index Jvm.Stand.acN).before a0 Z = true) (w2 : (Cond.native Jvm.Stand.acN).before a0 Z = true) (w3 : (Cond.static Jvm.Stand.acN).before a0 Z = true) (w4 : (Cond.initialized "java/lang/System").before a0 Z = true)
    (F : own_Ar Z h a ty vs) (G : own_Ar Z h b ty vd) (hty : refKind ty = false) (f1 : ∀ v ∈ vs, fits ty v = true) (f2 : ∀ v ∈ vd, fits ty v = true) (e1 : z1.toNatClampNeg = vs.length) (e2 : z2.toNatClampNeg = vd.length) (p1 : ¬ z1 < 0) (p2 : ¬ z2 < 0)
    (h1 : ¬ sp < 0) (h2 : ¬ dp < 0) (h3 : ¬ nn < 0) (h4 : sp.toNatClampNeg + nn.toNatClampNeg ≤ vs.length) (h5 : dp.toNatClampNeg + nn.toNatClampNeg ≤ vd.length)
    (hr : vd.take dp.toNatClampNeg ++ ((List.range nn.toNatClampNeg).map fun i => vs.getD (sp.toNatClampNeg + i) .null) ++ vd.drop (dp.toNatClampNeg + nn.toNatClampNeg) = vr) (hlr : vr.length = vd.length)
    (q : n0 ≤ b) (hsz : Ls.size = c.maxLocals) (hW : (rest.map fun v => v.category).sum ≤ W) (hf : 1 ≤ R.frames) (hl : W + 18 ≤ R.locals) :
    ∃ h', Keep h h' [b] ∧ own_Ar Z h' b ty vr ∧ own_R p l e R s m args below meth c S0 n0 h' ce sl (mkF m (pc + 3) Ls rest) := by
  obtain ⟨T, L, X, eT, N, k⟩ := A
  have hnw : nativeFrameWords "java/lang/System" "arraycopy" 5 = 7 := by decide
  obtain ⟨k1, V1⟩ := F.arv (dv := .null) f1 e1 p1
  obtain ⟨k2, V2⟩ := G.arv (dv := .null) f2 e2 p2
  obtain ⟨T', h', L', X', e', N', K, V, st⟩ := RoadKit.cpA X hx hZ hown w1 w2 w3 w4 eT V1 V2 (Or.inl ⟨rfl, hty⟩) h1 h2 h3 (by omega) (by omega) rfl h5 N q (g := mkF m pc Ls (.int nn :: .int dp :: .ref b :: .int sp :: .ref a :: rest)) rfl hsz rfl hd hf (W := W) (by show 2 * 0 + _ ≤ _; omega) (by omega)
  rw [hr] at V
  exact ⟨h', K, own_Ar.of_arv V (by omega), T', _, X', e', N', k.trans (st _ (Steps.refl _))⟩
theorem own_Ar.nostat (F : own_Ar Z h a ty vs) : ∀ cell : Cell, h[a]? = some cell → cell.vm.isStatics = false := by
  obtain ⟨cl, A, -⟩ := F
  exact Arr.nostat A
theorem own_staK {O n d : String} {w : Value} (F : Sta Z h O n d w) (K : Keep h h' ws) (hn : ∀ x ∈ ws, ∀ cell : Cell, h[x]? = some cell → cell.vm.isStatics = false) : Sta Z h' O n d w := by
  obtain ⟨cf, i, k, f, st, cell, h1, h2, h3, h4, h5, h6, h7⟩ := F
  refine ⟨cf, i, k, f, st, cell, h1, h2, h3, h4, K.2.1 _ _ h5 fun q => ?_, h6, h7⟩
  have := hn _ q _ h5
  rw [h6] at this
  cases this
theorem own_and16 (x : Int32) : ¬ (x &&& 65535) < 0 ∧ ¬ (65535 : Int32) < (x &&& 65535) := by
  have h : (x &&& 65535).toInt = ((x.toBitVec.toNat &&& 65535 : Nat) : Int) := by
    show (x.toBitVec &&& (65535#32)).toInt = _
    have e : (x.toBitVec &&& (65535#32)).toNat = x.toBitVec.toNat &&& 65535 := by rw [BitVec.toNat_and]; rfl
    have le : x.toBitVec.toNat &&& 65535 ≤ 65535 := Nat.and_le_right
    rw [BitVec.toInt_eq_toNat_of_lt (by omega), e]
  have le : x.toBitVec.toNat &&& 65535 ≤ 65535 := Nat.and_le_right
  have e0 : (0 : Int32).toInt = 0 := by decide
  have e1 : (65535 : Int32).toInt = 65535 := by decide
  constructor
  · rw [Int32.lt_iff_toInt_lt, h, e0]; omega
  · rw [Int32.lt_iff_toInt_lt, h, e1]; omega
end Own4
theorem own_mask (i : Nat) (h : i < 32) : (255#32).getLsbD i = decide (i < 8) := by
  revert i; decide
theorem own_bA (x : BitVec 32) (hx : ∀ i, 8 ≤ i → x.getLsbD i = false) : (((x.signExtend 8).signExtend 32 &&& 255#32).setWidth 16).setWidth 32 = x := by
  apply BitVec.eq_of_getLsbD_eq
  intro i hi
  simp only [BitVec.getLsbD_setWidth, BitVec.getLsbD_and, BitVec.getLsbD_signExtend, own_mask i hi]
  by_cases h8 : i < 8
  · have h16 : i < 16 := by omega
    simp [hi, h8, h16]
  · simp [h8, hx i (by omega)]
theorem own_bB (x : BitVec 32) (hx : ∀ i, 16 ≤ i → x.getLsbD i = false) : (((((x.sshiftRight 0).signExtend 8).signExtend 32 &&& 255#32) <<< 0 ||| ((((x.sshiftRight 8).signExtend 8).signExtend 32 &&& 255#32) <<< 8)).setWidth 16).setWidth 32 = x := by
  apply BitVec.eq_of_getLsbD_eq
  intro i hi
  simp only [BitVec.getLsbD_setWidth, BitVec.getLsbD_and, BitVec.getLsbD_or, BitVec.getLsbD_shiftLeft, BitVec.getLsbD_signExtend, BitVec.getLsbD_sshiftRight]
  by_cases h16 : i < 16
  · by_cases h8 : i < 8
    · have m1 : (255#32)[i] = true := by have := own_mask i hi; rw [BitVec.getLsbD_eq_getElem hi] at this; simpa [h8] using this
      have n1 : ¬ 32 ≤ i := by omega
      simp [hi, h8, h16, m1, n1]
    · have a1 : i - 8 < 8 := by omega
      have a2 : i - 8 < 32 := by omega
      have a3 : 8 + (i - 8) = i := by omega
      have m1 : (255#32)[i] = false := by have := own_mask i hi; rw [BitVec.getLsbD_eq_getElem hi] at this; simpa [h8] using this
      have m2 : (255#32)[i - 8] = true := by have := own_mask (i - 8) a2; rw [BitVec.getLsbD_eq_getElem a2] at this; simpa [a1] using this
      have n1 : ¬ 32 ≤ i - 8 := by omega
      simp [hi, h8, h16, m1, m2, a1, a2, a3, n1]
  · simp [h16, hx i (by omega)]
theorem own_bits {c : Int32} {k : Nat} (h0 : ¬ c < 0) (h1 : c.toInt < ((2 ^ k : Nat) : Int)) (i : Nat) (hi : k ≤ i) : c.toBitVec.getLsbD i = false := by
  have e0 : (0 : Int32).toInt = 0 := by decide
  rw [Int32.lt_iff_toInt_lt, e0] at h0
  have e : c.toBitVec.toInt = c.toInt := rfl
  have hlt : c.toBitVec.toNat < 2 ^ k := by
    have h2 := BitVec.toInt_eq_toNat_cond c.toBitVec
    have h3 := c.toBitVec.isLt
    split at h2 <;> omega
  have h4 : c.toBitVec.toNat < 2 ^ i := Nat.lt_of_lt_of_le hlt (Nat.pow_le_pow_right (by decide) hi)
  exact Nat.testBit_lt_two_pow h4
theorem own_nb (c : Int32) : nar .byte c.toInt8.toInt32 = c.toInt8.toInt32 := by
  show c.toInt8.toInt32.toInt8.toInt32 = _
  simp
theorem own_cA {c : Int32} (h0 : ¬ c < 0) (h1 : ¬ (255 : Int32) < c) : (c.toInt8.toInt32 &&& 255).toUInt32.toUInt16.toUInt32.toInt32 = c := by
  have e1 : (255 : Int32).toInt = 255 := by decide
  rw [Int32.lt_iff_toInt_lt, e1] at h1
  apply Int32.toBitVec_inj.mp
  exact own_bA c.toBitVec (own_bits h0 (k := 8) (by omega))
theorem own_cB {c : Int32} (h0 : ¬ c < 0) (h1 : ¬ (65535 : Int32) < c) : (((c >>> ((0 : Int32) &&& 31)).toInt8.toInt32 &&& 255) <<< ((0 : Int32) &&& 31) ||| ((c >>> ((8 : Int32) &&& 31)).toInt8.toInt32 &&& 255) <<< ((8 : Int32) &&& 31)).toUInt32.toUInt16.toUInt32.toInt32 = c := by
  have e1 : (65535 : Int32).toInt = 65535 := by decide
  rw [Int32.lt_iff_toInt_lt, e1] at h1
  apply Int32.toBitVec_inj.mp
  exact own_bB c.toBitVec (own_bits h0 (k := 16) (by omega))
section Own5
variable {Z : State} {h h' : Heap} {a0 : Array Value} {EL : List (String × Nat)} {vm : Vm}
def own_lo (c : Int32) : Value := .int c.toInt8.toInt32
def own_u16 : List Int32 → List Value
  | [] => []
  | c :: r => .int (c >>> ((0 : Int32) &&& 31)).toInt8.toInt32 :: .int (c >>> ((8 : Int32) &&& 31)).toInt8.toInt32 :: own_u16 r
/-- the bytes of a String of the coder k whose chars are cs -/
def own_by (k : Int32) (cs : List Int32) : List Value := if k = 0 then cs.map own_lo else own_u16 cs
/-- what the coder k says of the chars cs -/
def own_ok (k : Int32) (cs : List Int32) : Prop := (k = 0 ∧ ∀ c ∈ cs, ¬ c < 0 ∧ ¬ (255 : Int32) < c) ∨ (k = 1 ∧ ∀ c ∈ cs, ¬ c < 0 ∧ ¬ (65535 : Int32) < c)
theorem own_u16_len : ∀ cs : List Int32, (own_u16 cs).length = 2 * cs.length
  | [] => rfl
  | c :: r => by simp only [own_u16, List.length_cons, own_u16_len r]; omega
theorem own_u16_at : ∀ (cs : List Int32) (i : Nat) (c : Int32), cs[i]? = some c → (own_u16 cs)[2 * i]? = some (.int (c >>> ((0 : Int32) &&& 31)).toInt8.toInt32) ∧ (own_u16 cs)[2 * i + 1]? = some (.int (c >>> ((8 : Int32) &&& 31)).toInt8.toInt32)
  | [], i, c, h => by simp at h
  | d :: r, 0, c, h => by simp at h; subst h; exact ⟨rfl, rfl⟩
  | d :: r, i + 1, c, h => by
    have h' : r[i]? = some c := by simpa using h
    have q := own_u16_at r i c h'
    have e : 2 * (i + 1) = 2 * i + 1 + 1 := by omega
    rw [e]
    simpa [own_u16] using q
theorem own_sh0 : ∀ n, n < 64 → (n.toInt32 >>> ((0 : Int32) &&& 31)) = n.toInt32 := by decide
theorem own_sh1 : ∀ n, n < 64 → ((2 * n).toInt32 >>> ((1 : Int32) &&& 31)) = n.toInt32 := by decide
theorem own_lenk {k : Int32} {cs : List Int32} (hk : own_ok k cs) (hn : cs.length < 64) : (own_by k cs).length.toInt32 >>> (k &&& 31) = cs.length.toInt32 := by
  rcases hk with ⟨rfl, -⟩ | ⟨rfl, -⟩
  · rw [own_by, if_pos rfl, List.length_map]; exact own_sh0 _ hn
  · rw [own_by, if_neg (by decide), own_u16_len]; exact own_sh1 _ hn
theorem own_safeNull {x : Addr} (hal : Z.vm.Alike vm) (E : Exa Z h x "java/lang/String") (F : Fld Z h x "java/lang/String" "value" "[B" .null) : Safe Z EL vm h x := fun B => by
  obtain ⟨p, hp, u, a, hb, q, hq, G, rfl | rfl⟩ := B
  · obtain ⟨cell, cf, k, i, f, e1, e2, -, -, -, -, e7⟩ := F
    have ha : h[q.sa]? = some q.sC := G.ha
    cases ha.symm.trans e1
    obtain ⟨cS, ⟨⟨-, -, -, ⟨cv, kv, iv, s4, -⟩, -, -, -, s8, -⟩, -, -⟩, -⟩ := G
    obtain ⟨kv', z4⟩ := ff_back (U := Wst Z vm h) hal s4
    cases e2.symm.trans z4
    cases s8.symm.trans e7
  · obtain ⟨cell, k, e1, e2, -⟩ := E
    have ha : h[q.sd]? = some q.SA := G.hd
    cases ha.symm.trans e1
    obtain ⟨cS, -, -, f, -⟩ := G
    have f' : Z.vm.findClass "[B" = some q.SA.cls := by rw [← hal.findClass]; exact f
    obtain ⟨k1, q1, q2⟩ := Vm.findClass_spec f'
    obtain ⟨k2, q3, q4⟩ := Vm.findClass_spec e2
    cases q1.symm.trans q3
    exact absurd (q2.symm.trans q4) (by decide)
end Own5
section Own6
theorem own_bC (x : BitVec 32) (hx : ∀ i, 16 ≤ i → x.getLsbD i = false) : (x.setWidth 16).setWidth 32 = x := by
  apply BitVec.eq_of_getLsbD_eq
  intro i hi
  simp only [BitVec.getLsbD_setWidth]
  by_cases h16 : i < 16
  · simp [hi, h16]
  · simp [h16, hx i (by omega)]
theorem own_cC {c : Int32} (h0 : ¬ c < 0) (h1 : ¬ (65535 : Int32) < c) : c.toUInt32.toUInt16.toUInt32.toInt32 = c := by
  have e1 : (65535 : Int32).toInt = 65535 := by decide
  rw [Int32.lt_iff_toInt_lt, e1] at h1
  apply Int32.toBitVec_inj.mp
  exact own_bC c.toBitVec (own_bits h0 (k := 16) (by omega))
theorem own_nc {c : Int32} (h0 : ¬ c < 0) (h1 : ¬ (65535 : Int32) < c) : narrow .char (.int c) = .int c := by
  show Value.int c.toUInt32.toUInt16.toUInt32.toInt32 = _
  rw [own_cC h0 h1]
theorem own_jlt {j : Int32} {n : Nat} (h0 : ¬ j < 0) (h1 : j.toNatClampNeg < n) (h2 : n < 64) : j < n.toInt32 := by
  rw [Int32.lt_iff_toInt_lt]
  have e0 : (0 : Int32).toInt = 0 := by decide
  rw [Int32.lt_iff_toInt_lt, e0] at h0
  have e : n.toInt32.toInt = n := len_toInt (by omega)
  rw [e]
  simp only [Int32.toNatClampNeg] at h1
  omega
theorem own_jnat {j : Int32} (h0 : ¬ j < 0) (h1 : j.toNatClampNeg < 64) : j = j.toNatClampNeg.toInt32 := by
  apply Int32.toInt_inj.mp
  have e0 : (0 : Int32).toInt = 0 := by decide
  rw [Int32.lt_iff_toInt_lt, e0] at h0
  rw [len_toInt (by omega)]
  simp only [Int32.toNatClampNeg]
  omega
theorem own_j2a : ∀ i, i < 64 → ¬ (i.toInt32 <<< ((1 : Int32) &&& 31)) < 0 ∧ (i.toInt32 <<< ((1 : Int32) &&& 31)).toNatClampNeg = 2 * i ∧ ¬ (i.toInt32 <<< ((1 : Int32) &&& 31)) + (1 : Int32) < 0 ∧ ((i.toInt32 <<< ((1 : Int32) &&& 31)) + (1 : Int32)).toNatClampNeg = 2 * i + 1 := by decide
theorem own_j2 {j : Int32} (h0 : ¬ j < 0) (h1 : j.toNatClampNeg < 64) : ¬ (j <<< ((1 : Int32) &&& 31)) < 0 ∧ (j <<< ((1 : Int32) &&& 31)).toNatClampNeg = 2 * j.toNatClampNeg ∧ ¬ (j <<< ((1 : Int32) &&& 31)) + (1 : Int32) < 0 ∧ ((j <<< ((1 : Int32) &&& 31)) + (1 : Int32)).toNatClampNeg = 2 * j.toNatClampNeg + 1 := by
  have q := own_j2a j.toNatClampNeg h1
  rw [← own_jnat h0 h1] at q
  exact q
end Own6
section Own7
theorem own_i32a : ∀ i, i < 64 → ¬ i.toInt32 < (0 : Int32) ∧ i.toInt32.toNatClampNeg = i ∧ i.toInt32 + (1 : Int32) = (i + 1).toInt32 := by decide
theorem own_i32lt {i n : Nat} (hi : i < n) (hn : n < 64) : i.toInt32 < n.toInt32 := own_jlt (own_i32a i (by omega)).1 (by rw [(own_i32a i (by omega)).2.1]; exact hi) hn
theorem own_setk {ch : List Int32} {i : Nat} {c : Int32} (h : ch[i]? = some c) : ((ch.take i).map own_lo ++ List.replicate (ch.length - i) (Value.int (0 : Int32))).set i (own_lo c) = (ch.take (i + 1)).map own_lo ++ List.replicate (ch.length - (i + 1)) (.int 0) := by
  have hl : i < ch.length := (List.getElem?_eq_some_iff.mp h).1
  have e1 : ((ch.take i).map own_lo).length = i := by rw [List.length_map, List.length_take]; omega
  obtain ⟨k, hk⟩ : ∃ k, ch.length - i = k + 1 := ⟨ch.length - i - 1, by omega⟩
  have hk' : ch.length - (i + 1) = k := by omega
  rw [List.set_append_right _ _ (by omega), e1, hk, hk', Nat.sub_self, List.replicate_succ, List.set_cons_zero, List.take_add_one, h, List.map_append]
  simp
theorem own_u16_app : ∀ (a b : List Int32), own_u16 (a ++ b) = own_u16 a ++ own_u16 b
  | [], b => rfl
  | c :: r, b => by simp only [List.cons_append, own_u16, own_u16_app r b]
theorem own_setu {ch : List Int32} {i : Nat} {c : Int32} (h : ch[i]? = some c) : ((own_u16 (ch.take i) ++ List.replicate (2 * (ch.length - i)) (Value.int (0 : Int32))).set (2 * i) (.int (c >>> ((0 : Int32) &&& 31)).toInt8.toInt32)).set (2 * i + 1) (.int (c >>> ((8 : Int32) &&& 31)).toInt8.toInt32) = own_u16 (ch.take (i + 1)) ++ List.replicate (2 * (ch.length - (i + 1))) (.int 0) := by
  have hl : i < ch.length := (List.getElem?_eq_some_iff.mp h).1
  have e1 : (own_u16 (ch.take i)).length = 2 * i := by rw [own_u16_len, List.length_take]; omega
  obtain ⟨k, hk⟩ : ∃ k, 2 * (ch.length - i) = k + 1 + 1 := ⟨2 * (ch.length - i) - 2, by omega⟩
  have hk' : 2 * (ch.length - (i + 1)) = k := by omega
  have e2 : 2 * i + 1 - (own_u16 (ch.take i)).length = 1 := by omega
  rw [List.set_append_right _ _ (by omega), e1, Nat.sub_self, hk, List.replicate_succ, List.set_cons_zero, List.set_append_right _ _ (by omega), e2, List.replicate_succ, List.set_cons_succ, List.set_cons_zero, hk', List.take_add_one, h, own_u16_app]
  simp [own_u16]
end Own7
section Own8
theorem own_cod0 : ∀ n, n < 64 → ((n.toInt32 - n.toInt32).toUInt32 >>> ((31 : Int32) &&& 31).toUInt32).toInt32.toInt8.toInt32 = 0 := by decide
theorem own_cod1 : ∀ n, n < 64 → 0 < n → ((n.toInt32 - (2 * n).toInt32).toUInt32 >>> ((31 : Int32) &&& 31).toUInt32).toInt32.toInt8.toInt32 = 1 := by decide
theorem own_cod {k : Int32} {ch : List Int32} (hk : own_ok k ch) (hn : ch.length < 64) (h1 : 0 < ch.length) : ((ch.length.toInt32 - (own_by k ch).length.toInt32).toUInt32 >>> ((31 : Int32) &&& 31).toUInt32).toInt32.toInt8.toInt32 = k := by
  rcases hk with ⟨rfl, -⟩ | ⟨rfl, -⟩
  · rw [own_by, if_pos rfl, List.length_map]; exact own_cod0 _ hn
  · rw [own_by, if_neg (by decide), own_u16_len]; exact own_cod1 _ hn h1
theorem own_fk {k : Int32} {ch : List Int32} (hk : own_ok k ch) : fits .byte (.int k) = true := by
  rcases hk with ⟨rfl, -⟩ | ⟨rfl, -⟩ <;> decide
end Own8
section Own9
variable {p : Program} {l : Launch} {e : Env} {R : Room} {s : State} {m : MethodId} {args : Array Value} {below : List Frame} {meth : Method} {c : Code} {S0 : State} {n0 : Nat} {h h' : Heap} {ce sl : Nat} {Z : State} {a0 : Array Value} {pc : Nat} {Ls : Array Slot} {rest : List Value} {a b : Addr} {own : String}
theorem own_flo (us : List Int32) : ∀ v ∈ us.map own_lo, fits .byte v = true := by
  intro v hv
  obtain ⟨x, -, rfl⟩ := List.mem_map.mp hv
  exact Jvm.Free.SBG.fits_of_int8 _
theorem own_mid (us : List Int32) (S N : Nat) (h : S + N ≤ us.length) : ((List.range N).map fun i => (us.map own_lo).getD (S + i) Value.null) = ((us.drop S).take N).map own_lo := by
  apply List.ext_getElem
  · simp; omega
  · intro i h1 h2
    have hi : i < N := by simpa using h1
    have hs : S + i < us.length := by omega
    simp [List.getD_eq_getElem?_getD, hs]
theorem own_R.cpL {index W : Nat} {us ud : List Int32} {sp dp nn z1 z2 : Int32} {S D N : Nat} (A : own_R p l e R s m args below meth c S0 n0 h ce sl (mkF m pc Ls (.int nn :: .int dp :: .ref b :: .int sp :: .ref a :: rest))) (hx : p.tables.exec = Jvm.exec) (hZ : Z.Warmed39 s.vm) (hown : s.vm.findClass own = some m.cls)
    (hd : decode c.code pc = .ok (.invokestatic index, 3)) (w1 : (Cond.methodLink own index Jvm.Stand.acN).before a0 Z = true) (w2 : (Cond.native Jvm.Stand.acN).before a0 Z = true) (w3 : (Cond.static Jvm.Stand.acN).before a0 Z = true) (w4 : (Cond.initialized "java/lang/System").before a0 Z = true)
    (F : own_Ar Z h a .byte (us.map own_lo)) (G : own_Ar Z h b .byte (ud.map own_lo)) (e1 : z1.toNatClampNeg = us.length) (e2 : z2.toNatClampNeg = ud.length) (p1 : ¬ z1 < 0) (p2 : ¬ z2 < 0)
    (h1 : ¬ sp < 0) (h2 : ¬ dp < 0) (h3 : ¬ nn < 0) (hS : sp.toNatClampNeg = S) (hD : dp.toNatClampNeg = D) (hN : nn.toNatClampNeg = N) (h4 : S + N ≤ us.length) (h5 : D + N ≤ ud.length)
    (q : n0 ≤ b) (hsz : Ls.size = c.maxLocals) (hW : (rest.map fun v => v.category).sum ≤ W) (hf : 1 ≤ R.frames) (hl : W + 18 ≤ R.locals) :
    ∃ h', Keep h h' [b] ∧ own_Ar Z h' b .byte ((ud.take D ++ (us.drop S).take N ++ ud.drop (D + N)).map own_lo) ∧ own_R p l e R s m args below meth c S0 n0 h' ce sl (mkF m (pc + 3) Ls rest) := by
  subst hS hD hN
  refine A.cpA hx hZ hown hd w1 w2 w3 w4 F G rfl (own_flo us) (own_flo ud) (by rw [e1, List.length_map]) (by rw [e2, List.length_map]) p1 p2 h1 h2 h3 (by rw [List.length_map]; exact h4) (by rw [List.length_map]; exact h5) ?_ ?_ q hsz hW hf hl
  · rw [own_mid us _ _ h4]
    simp only [List.map_append, List.map_take, List.map_drop]
  · simp; omega
theorem own_setM (us : List Int32) (k : Nat) (v : Int32) : (us.map own_lo).set k (.int v.toInt8.toInt32) = (us.set k v).map own_lo := by
  rw [List.map_set]; rfl
end Own9
theorem own_dupx1 {tb : Tables} [Ours tb] {e : Env} {below : List Frame} {T target : State} {m : MethodId} {c : Code} {g : JFrame} (h : At T m c below) (hx : tb.exec = Jvm.exec) (hg : g.method = m) {x y : Value} {rest : List Value} (hd : decode c.code g.pc = .ok (.dup_x1, 1)) (hs : g.stack = x :: y :: rest) (hc : x.category = 1) (hc' : y.category = 1)
    (hr : Steps tb e below (T.setTop { g with pc := g.pc + 1, stack := x :: y :: x :: rest }) target) : Steps tb e below (T.setTop g) target := by
  subst hg
  jvm_step h [h.top, hx, hd, hs, hc, hc']
  exact hr
section Own10
variable {p : Program} {l : Launch} {e : Env} {R : Room} {s : State} {m : MethodId} {args : Array Value} {below : List Frame} {meth : Method} {c : Code} {S0 : State} {n0 : Nat} {h : Heap} {ce sl pc pc0 : Nat} {Ls : Array Slot} {st rest : List Value} {bytes : ByteArray} {x y : Int32} {a : Addr} {u w : Value} {k : Nat} {kf : Fin 4} {i o : Int} {cd : ClassFile.Cond}
def own_H (p : Program) (c : Code) (bytes : ByteArray) : Prop := p.tables.exec = Jvm.exec ∧ c.code = bytes
theorem own_R.iN (A : own_R p l e R s m args below meth c S0 n0 h ce sl (mkF m pc Ls st)) (H : own_H p c bytes) (hd : decode bytes pc0 = .ok (.iload_n kf, 1)) (hp : pc = pc0) (hl : Ls[kf.val]? = some (.val (.int x))) : own_R p l e R s m args below meth c S0 n0 h ce sl (mkF m (pc0 + 1) Ls (.int x :: st)) := by
  subst hp; exact A.go fun _ _ X _ k => XS.iloadN X.here H.1 rfl (hb H.2 hd) hl k
theorem own_R.iL (A : own_R p l e R s m args below meth c S0 n0 h ce sl (mkF m pc Ls st)) (H : own_H p c bytes) (hd : decode bytes pc0 = .ok (.iload k, 2)) (hp : pc = pc0) (hl : Ls[k]? = some (.val (.int x))) : own_R p l e R s m args below meth c S0 n0 h ce sl (mkF m (pc0 + 2) Ls (.int x :: st)) := by
  subst hp; exact A.go fun _ _ X _ k => XS.iload X.here H.1 rfl (hb H.2 hd) hl k
theorem own_R.aN (A : own_R p l e R s m args below meth c S0 n0 h ce sl (mkF m pc Ls st)) (H : own_H p c bytes) (hd : decode bytes pc0 = .ok (.aload_n kf, 1)) (hp : pc = pc0) (hl : Ls[kf.val]? = some (.val u)) (hv : u.isRef = true) : own_R p l e R s m args below meth c S0 n0 h ce sl (mkF m (pc0 + 1) Ls (u :: st)) := by
  subst hp; exact A.go fun _ _ X _ k => XS.aloadN X.here H.1 rfl (hb H.2 hd) hl hv k
theorem own_R.aL (A : own_R p l e R s m args below meth c S0 n0 h ce sl (mkF m pc Ls st)) (H : own_H p c bytes) (hd : decode bytes pc0 = .ok (.aload k, 2)) (hp : pc = pc0) (hl : Ls[k]? = some (.val u)) (hv : u.isRef = true) : own_R p l e R s m args below meth c S0 n0 h ce sl (mkF m (pc0 + 2) Ls (u :: st)) := by
  subst hp; exact A.go fun _ _ X _ k => XS.aload X.here H.1 rfl (hb H.2 hd) hl hv k
theorem own_R.iM (A : own_R p l e R s m args below meth c S0 n0 h ce sl (mkF m pc Ls (.int x :: rest))) (H : own_H p c bytes) (hd : decode bytes pc0 = .ok (.istore_n kf, 1)) (hp : pc = pc0) (L' : Array Slot) (hl : storeLocals Ls kf.val (.int x) = some L') : own_R p l e R s m args below meth c S0 n0 h ce sl (mkF m (pc0 + 1) L' rest) := by
  subst hp; exact A.go fun _ _ X _ k => XS.istoreN X.here H.1 rfl (hb H.2 hd) rfl hl k
theorem own_R.iS (A : own_R p l e R s m args below meth c S0 n0 h ce sl (mkF m pc Ls (.int x :: rest))) (H : own_H p c bytes) (hd : decode bytes pc0 = .ok (.istore k, 2)) (hp : pc = pc0) (L' : Array Slot) (hl : storeLocals Ls k (.int x) = some L') : own_R p l e R s m args below meth c S0 n0 h ce sl (mkF m (pc0 + 2) L' rest) := by
  subst hp; exact A.go fun _ _ X _ k => XS.istore X.here H.1 rfl (hb H.2 hd) rfl hl k
theorem own_R.aM (A : own_R p l e R s m args below meth c S0 n0 h ce sl (mkF m pc Ls (u :: rest))) (H : own_H p c bytes) (hd : decode bytes pc0 = .ok (.astore_n kf, 1)) (hp : pc = pc0) (hv : u.isRef = true) (L' : Array Slot) (hl : storeLocals Ls kf.val u = some L') : own_R p l e R s m args below meth c S0 n0 h ce sl (mkF m (pc0 + 1) L' rest) := by
  subst hp; exact A.go fun _ _ X _ k => XS.astoreN X.here H.1 rfl (hb H.2 hd) rfl hv hl k
theorem own_R.aS (A : own_R p l e R s m args below meth c S0 n0 h ce sl (mkF m pc Ls (u :: rest))) (H : own_H p c bytes) (hd : decode bytes pc0 = .ok (.astore k, 2)) (hp : pc = pc0) (hv : u.isRef = true) (L' : Array Slot) (hl : storeLocals Ls k u = some L') : own_R p l e R s m args below meth c S0 n0 h ce sl (mkF m (pc0 + 2) L' rest) := by
  subst hp; exact A.go fun _ _ X _ k => XS.astore X.here H.1 rfl (hb H.2 hd) rfl hv hl k
theorem own_R.ic (A : own_R p l e R s m args below meth c S0 n0 h ce sl (mkF m pc Ls st)) (H : own_H p c bytes) (hd : decode bytes pc0 = .ok (.iconst i, 1)) (hp : pc = pc0) (v : Int32) (hv : Int32.ofInt i = v) : own_R p l e R s m args below meth c S0 n0 h ce sl (mkF m (pc0 + 1) Ls (.int v :: st)) := by
  subst hp; subst hv; exact A.go fun _ _ X _ k => XS.iconst X.here H.1 rfl (hb H.2 hd) k
theorem own_R.bp (A : own_R p l e R s m args below meth c S0 n0 h ce sl (mkF m pc Ls st)) (H : own_H p c bytes) (hd : decode bytes pc0 = .ok (.bipush i, 2)) (hp : pc = pc0) (v : Int32) (hv : (Int8.ofInt i).toInt32 = v) : own_R p l e R s m args below meth c S0 n0 h ce sl (mkF m (pc0 + 2) Ls (.int v :: st)) := by
  subst hp; subst hv; exact A.go fun _ _ X _ k => XS.bipush X.here H.1 rfl (hb H.2 hd) k
theorem own_R.sp (A : own_R p l e R s m args below meth c S0 n0 h ce sl (mkF m pc Ls st)) (H : own_H p c bytes) (hd : decode bytes pc0 = .ok (.sipush i, 3)) (hp : pc = pc0) (v : Int32) (hv : (Int16.ofInt i).toInt32 = v) : own_R p l e R s m args below meth c S0 n0 h ce sl (mkF m (pc0 + 3) Ls (.int v :: st)) := by
  subst hp; subst hv; exact A.go fun _ _ X _ k => XS.sipush X.here H.1 rfl (hb H.2 hd) k
theorem own_R.nu (A : own_R p l e R s m args below meth c S0 n0 h ce sl (mkF m pc Ls st)) (H : own_H p c bytes) (hd : decode bytes pc0 = .ok (.aconst_null, 1)) (hp : pc = pc0) : own_R p l e R s m args below meth c S0 n0 h ce sl (mkF m (pc0 + 1) Ls (.null :: st)) := by
  subst hp; exact A.go fun _ _ X _ k => XS.aconstNull X.here H.1 rfl (hb H.2 hd) k
theorem own_R.ad (A : own_R p l e R s m args below meth c S0 n0 h ce sl (mkF m pc Ls (.int y :: .int x :: rest))) (H : own_H p c bytes) (hd : decode bytes pc0 = .ok (.iadd, 1)) (hp : pc = pc0) (v : Int32) (hv : x + y = v) : own_R p l e R s m args below meth c S0 n0 h ce sl (mkF m (pc0 + 1) Ls (.int v :: rest)) := by
  subst hp; subst hv; exact A.go fun _ _ X _ k => XS.iadd X.here H.1 rfl (hb H.2 hd) rfl k
theorem own_R.sb (A : own_R p l e R s m args below meth c S0 n0 h ce sl (mkF m pc Ls (.int y :: .int x :: rest))) (H : own_H p c bytes) (hd : decode bytes pc0 = .ok (.isub, 1)) (hp : pc = pc0) (v : Int32) (hv : x - y = v) : own_R p l e R s m args below meth c S0 n0 h ce sl (mkF m (pc0 + 1) Ls (.int v :: rest)) := by
  subst hp; subst hv; exact A.go fun _ _ X _ k => XS.isub X.here H.1 rfl (hb H.2 hd) rfl k
theorem own_R.nd (A : own_R p l e R s m args below meth c S0 n0 h ce sl (mkF m pc Ls (.int y :: .int x :: rest))) (H : own_H p c bytes) (hd : decode bytes pc0 = .ok (.iand, 1)) (hp : pc = pc0) (v : Int32) (hv : x &&& y = v) : own_R p l e R s m args below meth c S0 n0 h ce sl (mkF m (pc0 + 1) Ls (.int v :: rest)) := by
  subst hp; subst hv; exact A.go fun _ _ X _ k => XS.iand X.here H.1 rfl (hb H.2 hd) rfl k
theorem own_R.ro (A : own_R p l e R s m args below meth c S0 n0 h ce sl (mkF m pc Ls (.int y :: .int x :: rest))) (H : own_H p c bytes) (hd : decode bytes pc0 = .ok (.ior, 1)) (hp : pc = pc0) (v : Int32) (hv : x ||| y = v) : own_R p l e R s m args below meth c S0 n0 h ce sl (mkF m (pc0 + 1) Ls (.int v :: rest)) := by
  subst hp; subst hv; exact A.go fun _ _ X _ k => XS.ior X.here H.1 rfl (hb H.2 hd) rfl k
theorem own_R.lS (A : own_R p l e R s m args below meth c S0 n0 h ce sl (mkF m pc Ls (.int y :: .int x :: rest))) (H : own_H p c bytes) (hd : decode bytes pc0 = .ok (.ishl, 1)) (hp : pc = pc0) (v : Int32) (hv : x <<< (y &&& 31) = v) : own_R p l e R s m args below meth c S0 n0 h ce sl (mkF m (pc0 + 1) Ls (.int v :: rest)) := by
  subst hp; subst hv; exact A.go fun _ _ X _ k => XS.ishl X.here H.1 rfl (hb H.2 hd) rfl k
theorem own_R.sr (A : own_R p l e R s m args below meth c S0 n0 h ce sl (mkF m pc Ls (.int y :: .int x :: rest))) (H : own_H p c bytes) (hd : decode bytes pc0 = .ok (.ishr, 1)) (hp : pc = pc0) (v : Int32) (hv : x >>> (y &&& 31) = v) : own_R p l e R s m args below meth c S0 n0 h ce sl (mkF m (pc0 + 1) Ls (.int v :: rest)) := by
  subst hp; subst hv; exact A.go fun _ _ X _ k => XS.ishr X.here H.1 rfl (hb H.2 hd) rfl k
theorem own_R.us (A : own_R p l e R s m args below meth c S0 n0 h ce sl (mkF m pc Ls (.int y :: .int x :: rest))) (H : own_H p c bytes) (hd : decode bytes pc0 = .ok (.iushr, 1)) (hp : pc = pc0) (v : Int32) (hv : (x.toUInt32 >>> (y &&& 31).toUInt32).toInt32 = v) : own_R p l e R s m args below meth c S0 n0 h ce sl (mkF m (pc0 + 1) Ls (.int v :: rest)) := by
  subst hp; subst hv; exact A.go fun _ _ X _ k => XS.iushr X.here H.1 rfl (hb H.2 hd) rfl k
theorem own_R.ib (A : own_R p l e R s m args below meth c S0 n0 h ce sl (mkF m pc Ls (.int x :: rest))) (H : own_H p c bytes) (hd : decode bytes pc0 = .ok (.i2b, 1)) (hp : pc = pc0) (v : Int32) (hv : x.toInt8.toInt32 = v) : own_R p l e R s m args below meth c S0 n0 h ce sl (mkF m (pc0 + 1) Ls (.int v :: rest)) := by
  subst hp; subst hv; exact A.go fun _ _ X _ k => XS.i2b X.here H.1 rfl (hb H.2 hd) rfl k
theorem own_R.ch (A : own_R p l e R s m args below meth c S0 n0 h ce sl (mkF m pc Ls (.int x :: rest))) (H : own_H p c bytes) (hd : decode bytes pc0 = .ok (.i2c, 1)) (hp : pc = pc0) (v : Int32) (hv : x.toUInt32.toUInt16.toUInt32.toInt32 = v) : own_R p l e R s m args below meth c S0 n0 h ce sl (mkF m (pc0 + 1) Ls (.int v :: rest)) := by
  subst hp; subst hv; exact A.go fun _ _ X _ k => XS.i2c X.here H.1 rfl (hb H.2 hd) rfl k
theorem own_R.s0 (A : own_R p l e R s m args below meth c S0 n0 h ce sl (mkF m pc Ls (.int 0 :: .int x :: rest))) (H : own_H p c bytes) (hd : decode bytes pc0 = .ok (.isub, 1)) (hp : pc = pc0) : own_R p l e R s m args below meth c S0 n0 h ce sl (mkF m (pc0 + 1) Ls (.int x :: rest)) := A.sb H hd hp _ (Int32.sub_zero x)
theorem own_R.du (A : own_R p l e R s m args below meth c S0 n0 h ce sl (mkF m pc Ls (u :: rest))) (H : own_H p c bytes) (hd : decode bytes pc0 = .ok (.dup, 1)) (hp : pc = pc0) (hc : u.category = 1) : own_R p l e R s m args below meth c S0 n0 h ce sl (mkF m (pc0 + 1) Ls (u :: u :: rest)) := by
  subst hp; exact A.go fun _ _ X _ k => XS.dup X.here H.1 rfl (hb H.2 hd) rfl hc k
theorem own_R.po (A : own_R p l e R s m args below meth c S0 n0 h ce sl (mkF m pc Ls (u :: rest))) (H : own_H p c bytes) (hd : decode bytes pc0 = .ok (.pop, 1)) (hp : pc = pc0) (hc : u.category = 1) : own_R p l e R s m args below meth c S0 n0 h ce sl (mkF m (pc0 + 1) Ls rest) := by
  subst hp; exact A.go fun _ _ X _ k => XS.pop X.here H.1 rfl (hb H.2 hd) rfl hc k
theorem own_R.dx (A : own_R p l e R s m args below meth c S0 n0 h ce sl (mkF m pc Ls (u :: w :: rest))) (H : own_H p c bytes) (hd : decode bytes pc0 = .ok (.dup_x1, 1)) (hp : pc = pc0) (hc : u.category = 1) (hc' : w.category = 1) : own_R p l e R s m args below meth c S0 n0 h ce sl (mkF m (pc0 + 1) Ls (u :: w :: u :: rest)) := by
  subst hp; exact A.go fun _ _ X _ k => own_dupx1 X.here H.1 rfl (hb H.2 hd) rfl hc hc' k
theorem own_R.ii (A : own_R p l e R s m args below meth c S0 n0 h ce sl (mkF m pc Ls st)) (H : own_H p c bytes) (hd : decode bytes pc0 = .ok (.iinc k i, 3)) (hp : pc = pc0) (hl : Ls[k]? = some (.val (.int x))) (L' : Array Slot) (hl' : storeLocals Ls k (.int (x + Int32.ofInt i)) = some L') : own_R p l e R s m args below meth c S0 n0 h ce sl (mkF m (pc0 + 3) L' st) := by
  subst hp; exact A.go fun _ _ X _ k => XS.iinc X.here H.1 rfl (hb H.2 hd) hl hl' k
theorem own_R.gt (A : own_R p l e R s m args below meth c S0 n0 h ce sl (mkF m pc Ls st)) (H : own_H p c bytes) (hd : decode bytes pc0 = .ok (.goto o, 3)) (hp : pc = pc0) (q : Nat) (ho : 0 ≤ (pc0 : Int) + o) (hq : ((pc0 : Int) + o).toNat = q) : own_R p l e R s m args below meth c S0 n0 h ce sl (mkF m q Ls st) := by
  subst hp; exact A.go fun _ _ X _ k => XS.goto X.here H.1 rfl (pc0 := pc) (pc' := q) rfl (hb H.2 hd) ho hq k
theorem own_R.cy (A : own_R p l e R s m args below meth c S0 n0 h ce sl (mkF m pc Ls (.int y :: .int x :: rest))) (H : own_H p c bytes) (hd : decode bytes pc0 = .ok (.if_icmp cd o, 3)) (hp : pc = pc0) (hc : if_icmp.holds cd x y = true) (q : Nat) (ho : 0 ≤ (pc0 : Int) + o) (hq : ((pc0 : Int) + o).toNat = q) : own_R p l e R s m args below meth c S0 n0 h ce sl (mkF m q Ls rest) := by
  subst hp; exact A.go fun _ _ X _ k => XS.icmpYes X.here H.1 rfl (pc0 := pc) (pc' := q) rfl (hb H.2 hd) rfl hc ho hq k
theorem own_R.cn (A : own_R p l e R s m args below meth c S0 n0 h ce sl (mkF m pc Ls (.int y :: .int x :: rest))) (H : own_H p c bytes) (hd : decode bytes pc0 = .ok (.if_icmp cd o, 3)) (hp : pc = pc0) (hc : if_icmp.holds cd x y = false) : own_R p l e R s m args below meth c S0 n0 h ce sl (mkF m (pc0 + 3) Ls rest) := by
  subst hp; exact A.go fun _ _ X _ k => XS.icmpNo X.here H.1 rfl (hb H.2 hd) rfl hc k
theorem own_R.fy (A : own_R p l e R s m args below meth c S0 n0 h ce sl (mkF m pc Ls (.int x :: rest))) (H : own_H p c bytes) (hd : decode bytes pc0 = .ok (.ifCond cd o, 3)) (hp : pc = pc0) (hc : ifCond.holds cd x = true) (q : Nat) (ho : 0 ≤ (pc0 : Int) + o) (hq : ((pc0 : Int) + o).toNat = q) : own_R p l e R s m args below meth c S0 n0 h ce sl (mkF m q Ls rest) := by
  subst hp; exact A.go fun _ _ X _ k => XS.ifYes X.here H.1 rfl (pc0 := pc) (pc' := q) rfl (hb H.2 hd) rfl hc ho hq k
theorem own_R.fn (A : own_R p l e R s m args below meth c S0 n0 h ce sl (mkF m pc Ls (.int x :: rest))) (H : own_H p c bytes) (hd : decode bytes pc0 = .ok (.ifCond cd o, 3)) (hp : pc = pc0) (hc : ifCond.holds cd x = false) : own_R p l e R s m args below meth c S0 n0 h ce sl (mkF m (pc0 + 3) Ls rest) := by
  subst hp; exact A.go fun _ _ X _ k => XS.ifNo X.here H.1 rfl (hb H.2 hd) rfl hc k
theorem own_R.ny (A : own_R p l e R s m args below meth c S0 n0 h ce sl (mkF m pc Ls (.ref a :: rest))) (H : own_H p c bytes) (hd : decode bytes pc0 = .ok (.ifnonnull o, 3)) (hp : pc = pc0) (q : Nat) (ho : 0 ≤ (pc0 : Int) + o) (hq : ((pc0 : Int) + o).toNat = q) : own_R p l e R s m args below meth c S0 n0 h ce sl (mkF m q Ls rest) := by
  subst hp; exact A.go fun _ _ X _ k => XS.ifnonnullYes X.here H.1 rfl (pc0 := pc) (pc' := q) rfl (hb H.2 hd) rfl ho hq k
theorem own_R.nn (A : own_R p l e R s m args below meth c S0 n0 h ce sl (mkF m pc Ls (.ref a :: rest))) (H : own_H p c bytes) (hd : decode bytes pc0 = .ok (.ifnull o, 3)) (hp : pc = pc0) : own_R p l e R s m args below meth c S0 n0 h ce sl (mkF m (pc0 + 3) Ls rest) := by
  subst hp; exact A.go fun _ _ X _ k => XS.ifnullNo X.here H.1 rfl (hb H.2 hd) rfl k
theorem own_R.cl (A : own_R p l e R s m args below meth c S0 n0 h ce sl (mkF m pc Ls ((some u).toList ++ rest))) : own_R p l e R s m args below meth c S0 n0 h ce sl (mkF m pc Ls (u :: rest)) := A
theorem own_R.c0 (A : own_R p l e R s m args below meth c S0 n0 h ce sl (mkF m pc Ls ((none : Option Value).toList ++ rest))) : own_R p l e R s m args below meth c S0 n0 h ce sl (mkF m pc Ls rest) := A
def own_fit (R rm : Room) (ce sl maxL : Nat) (rest : List Value) : Bool := Nat.ble (rm.frames + 1) R.frames && (Nat.ble ((rest.map fun v => v.category).sum + (maxL + 11) + rm.locals) R.locals && (Nat.ble (ce + rm.cells) R.cells && Nat.ble (sl + rm.slots) R.slots))
theorem own_fit.out {rm : Room} {maxL : Nat} (h : own_fit R rm ce sl maxL rest = true) : rm.frames + 1 ≤ R.frames ∧ (rest.map fun v => v.category).sum + (maxL + 11) + rm.locals ≤ R.locals ∧ ce + rm.cells ≤ R.cells ∧ sl + rm.slots ≤ R.slots := by
  unfold own_fit at h
  rw [Bool.and_eq_true, Bool.and_eq_true, Bool.and_eq_true] at h
  exact ⟨Nat.le_of_ble_eq_true h.1, Nat.le_of_ble_eq_true h.2.1, Nat.le_of_ble_eq_true h.2.2.1, Nat.le_of_ble_eq_true h.2.2.2⟩
end Own10
section Own11
variable {p : Program} {l : Launch} {e : Env} {R : Room} {s : State} {m : MethodId} {args : Array Value} {below : List Frame} {meth : Method} {c : Code} {S0 : State} {n0 : Nat} {h : Heap} {ce sl pc pc0 maxL N index : Nat} {Ls : Array Slot} {st as : List Value} {bytes bs : ByteArray} {Z : State} {a0 : Array Value} {own C : String} {y z : MethodName} {ret : Option FieldType} {rm : Room} {Q : Option Value → Heap → Prop} {b : Addr}
def own_hy (y : MethodName) (n : Nat) : Prop := (y.cls ≠ "java/lang/invoke/MethodHandle" ∧ y.cls ≠ "java/lang/invoke/VarHandle") ∧ ∀ sig, parseMethodDescriptor y.desc = some sig → n = sig.parameters.length
def own_kS (a0 : Array Value) (Z : State) (y : MethodName) (bs : ByteArray) (maxL : Nat) (ret : Option FieldType) (n : Nat) : Prop := (Cond.static y).before a0 Z = true ∧ (Cond.initialized y.cls).before a0 Z = true ∧ (Cond.code y bs maxL ret).before a0 Z = true ∧ own_hy y n
def own_kV (a0 : Array Value) (Z : State) (C : String) (y z : MethodName) (bs : ByteArray) (maxL : Nat) (ret : Option FieldType) (n : Nat) : Prop := (Cond.declares y).before a0 Z = true ∧ (Cond.selects C y z).before a0 Z = true ∧ (Cond.instanceMethod z).before a0 Z = true ∧ (Cond.code z bs maxL ret).before a0 Z = true ∧ (Cond.initialized z.cls).before a0 Z = true ∧ (∀ s' : State, Z.Warmed39 s'.vm → NotFace s' y) ∧ own_hy y n
def own_kI (a0 : Array Value) (Z : State) (y : MethodName) (bs : ByteArray) (maxL : Nat) (n : Nat) : Prop := (Cond.instanceMethod y).before a0 Z = true ∧ (Cond.code y bs maxL none).before a0 Z = true ∧ (Cond.initialized y.cls).before a0 Z = true ∧ y.name = "<init>" ∧ own_hy y n
theorem own_R.cS (A : own_R p l e R s m args below meth c S0 n0 h ce sl (mkF m pc Ls st)) (M : own_M l Z y bs maxL ret [] rm as.toArray h n0 Q) (H : own_H p c bytes) (hZ : Z.Warmed39 s.vm) (hown : s.vm.findClass own = some m.cls) (hd : decode bytes pc0 = .ok (.invokestatic index, 3)) (w1 : (Cond.methodLink own index y).before a0 Z = true) (K : own_kS a0 Z y bs maxL ret as.length) (hml : c.maxLocals = N) (hp : pc = pc0) (hsz : Ls.size = N) (rest : List Value) (hst : st = as.reverse ++ rest) (hf : own_fit R rm ce sl maxL rest = true) :
    ∃ v h', Q v h' ∧ own_R p l e R s m args below meth c S0 n0 h' (ce + rm.cells) (sl + rm.slots) (mkF m (pc0 + 3) Ls (v.toList ++ rest)) := by
  subst hp
  obtain ⟨f1, f2, f3, f4⟩ := own_fit.out hf
  obtain ⟨k1, k2, k3, k4, k5⟩ := K
  exact A.callS M H.1 hZ hown (hb H.2 hd) w1 k1 k2 k3 k4 k5 hst rfl (hsz.trans hml.symm) (Nat.le_refl _) f1 f2 f3 f4
theorem own_R.cV (A : own_R p l e R s m args below meth c S0 n0 h ce sl (mkF m pc Ls st)) (M : own_M l Z z bs maxL ret [] rm (Value.ref b :: as).toArray h n0 Q) (E : Exa Z h b C) (H : own_H p c bytes) (hZ : Z.Warmed39 s.vm) (hown : s.vm.findClass own = some m.cls) (hd : decode bytes pc0 = .ok (.invokevirtual index, 3)) (w1 : (Cond.methodLink own index y).before a0 Z = true) (K : own_kV a0 Z C y z bs maxL ret as.length) (hml : c.maxLocals = N) (hp : pc = pc0) (hsz : Ls.size = N) (rest : List Value) (hst : st = as.reverse ++ .ref b :: rest) (hf : own_fit R rm ce sl maxL rest = true) :
    ∃ v h', Q v h' ∧ own_R p l e R s m args below meth c S0 n0 h' (ce + rm.cells) (sl + rm.slots) (mkF m (pc0 + 3) Ls (v.toList ++ rest)) := by
  subst hp
  obtain ⟨f1, f2, f3, f4⟩ := own_fit.out hf
  obtain ⟨k1, k2, k3, k4, k5, k6, k7, k8⟩ := K
  exact A.callV (b := b) M E H.1 hZ hown (hb H.2 hd) w1 k1 k2 k3 k4 k5 k6 k7 k8 hst rfl (hsz.trans hml.symm) (Nat.le_refl _) f1 f2 f3 f4
theorem own_R.cI (A : own_R p l e R s m args below meth c S0 n0 h ce sl (mkF m pc Ls st)) (M : own_M l Z y bs maxL none [] rm (Value.ref b :: as).toArray h n0 Q) (H : own_H p c bytes) (hZ : Z.Warmed39 s.vm) (hown : s.vm.findClass own = some m.cls) (hd : decode bytes pc0 = .ok (.invokespecial index, 3)) (w1 : (Cond.methodLink own index y).before a0 Z = true) (K : own_kI a0 Z y bs maxL as.length) (hml : c.maxLocals = N) (hp : pc = pc0) (hsz : Ls.size = N) (rest : List Value) (hst : st = as.reverse ++ .ref b :: rest) (hf : own_fit R rm ce sl maxL rest = true) :
    ∃ v h', Q v h' ∧ own_R p l e R s m args below meth c S0 n0 h' (ce + rm.cells) (sl + rm.slots) (mkF m (pc0 + 3) Ls (v.toList ++ rest)) := by
  subst hp
  obtain ⟨f1, f2, f3, f4⟩ := own_fit.out hf
  obtain ⟨k1, k2, k3, k4, k5, k6⟩ := K
  exact A.callI (b := b) M H.1 hZ hown (hb H.2 hd) k4 w1 k1 k2 k3 k5 k6 hst rfl (hsz.trans hml.symm) (Nat.le_refl _) f1 f2 f3 f4
theorem own_ln {d : String} {ps : List FieldType} {r : Option FieldType} {n : Nat} (hd : parseMethodDescriptor d = some ⟨ps, r⟩) (hl : n = ps.length) : ∀ sig, parseMethodDescriptor d = some sig → n = sig.parameters.length := fun sig h => by
  cases hd.symm.trans h; exact hl
theorem own_cpt (us : List Int32) (N : Nat) : (List.replicate N (0 : Int32)).take 0 ++ (us.drop 0).take N ++ (List.replicate N (0 : Int32)).drop (0 + N) = List.take N us := by simp
abbrev own_ST (Z : State) (h : Heap) (cs : Int32) (fm : Value) : Prop := Sta Z h "java/lang/String" "COMPACT_STRINGS" "Z" (.int cs) ∧ Sta Z h "jdk/internal/util/Preconditions" "SIOOBE_FORMATTER" "Ljava/util/function/BiFunction;" fm ∧ Sta Z h "java/lang/StringUTF16" "$assertionsDisabled" "Z" (.int 1) ∧ Sta Z h "java/lang/StringUTF16" "HI_BYTE_SHIFT" "I" (.int 0) ∧ Sta Z h "java/lang/StringUTF16" "LO_BYTE_SHIFT" "I" (.int 8)
theorem own_ST.ext {h' : Heap} {cs : Int32} {fm : Value} (F : own_ST Z h cs fm) (E : Ext h h') : own_ST Z h' cs fm := ⟨F.1.ext E, F.2.1.ext E, F.2.2.1.ext E, F.2.2.2.1.ext E, F.2.2.2.2.ext E⟩
theorem own_ST.wr {h' : Heap} {cs : Int32} {fm : Value} {b : Addr} {i : Nat} {v : Value} (F : own_ST Z h cs fm) (W : Wr h h' b i v) : own_ST Z h' cs fm := ⟨F.1.wr W, F.2.1.wr W, F.2.2.1.wr W, F.2.2.2.1.wr W, F.2.2.2.2.wr W⟩
theorem own_ST.kp {h' : Heap} {cs : Int32} {fm : Value} {ws : List Addr} (F : own_ST Z h cs fm) (K : Keep h h' ws) (q : ∀ x ∈ ws, ∀ cell : Cell, h[x]? = some cell → cell.vm.isStatics = false) : own_ST Z h' cs fm := ⟨own_staK F.1 K q, own_staK F.2.1 K q, own_staK F.2.2.1 K q, own_staK F.2.2.2.1 K q, own_staK F.2.2.2.2 K q⟩
theorem oW {Z : State} {a0 : Array Value} (hw : ∀ d ∈ tables_1, d.before a0 Z = true) (i : Nat) {d : Jvm.Cond} (h : tables_1[i]? = some d) : d.before a0 Z = true := hw _ (List.mem_of_getElem? h)
end Own11
theorem pd__28IILjava_2futil_2ffunction_2fBiFunction_3b_29I : parseMethodDescriptor "(IILjava/util/function/BiFunction;)I" = some ⟨[.int, .int, (.object "java/util/function/BiFunction")], some .int⟩ := by decide +kernel
theorem pd__28II_29V : parseMethodDescriptor "(II)V" = some ⟨[.int, .int], none⟩ := by decide +kernel
theorem pd__28_5bB_29I : parseMethodDescriptor "([B)I" = some ⟨[(.array .byte)], some .int⟩ := by decide +kernel
theorem pd__28I_5bB_29V : parseMethodDescriptor "(I[B)V" = some ⟨[.int, (.array .byte)], none⟩ := by decide +kernel
theorem pd__28_5bBI_29C : parseMethodDescriptor "([BI)C" = some ⟨[(.array .byte), .int], some .char⟩ := by decide +kernel
theorem pd__28_29B : parseMethodDescriptor "()B" = some ⟨[], some .byte⟩ := by decide +kernel
theorem pd__28_29Z : parseMethodDescriptor "()Z" = some ⟨[], some .boolean⟩ := by decide +kernel
theorem pd__28I_29I : parseMethodDescriptor "(I)I" = some ⟨[.int], some .int⟩ := by decide +kernel
theorem pd__28I_29_5bB : parseMethodDescriptor "(I)[B" = some ⟨[.int], some (.array .byte)⟩ := by decide +kernel
theorem pd__28_5bBII_29V : parseMethodDescriptor "([BII)V" = some ⟨[(.array .byte), .int, .int], none⟩ := by decide +kernel
theorem pd__28_5bCII_29_5bB : parseMethodDescriptor "([CII)[B" = some ⟨[(.array .char), .int, .int], some (.array .byte)⟩ := by decide +kernel
theorem pd__28_5bCI_5bBII_29I : parseMethodDescriptor "([CI[BII)I" = some ⟨[(.array .char), .int, (.array .byte), .int, .int], some .int⟩ := by decide +kernel
theorem pd__28_5bBI_29B : parseMethodDescriptor "([BI)B" = some ⟨[(.array .byte), .int], some .byte⟩ := by decide +kernel
theorem pd__28_5bCIILjava_2flang_2fVoid_3b_29V : parseMethodDescriptor "([CIILjava/lang/Void;)V" = some ⟨[(.array .char), .int, .int, (.object "java/lang/Void")], none⟩ := by decide +kernel
theorem pd__28_29I : parseMethodDescriptor "()I" = some ⟨[], some .int⟩ := by decide +kernel
theorem pd__28_29Ljava_2flang_2fString_3b : parseMethodDescriptor "()Ljava/lang/String;" = some ⟨[], some (.object "java/lang/String")⟩ := by decide +kernel
theorem pd__28_29_5bB : parseMethodDescriptor "()[B" = some ⟨[], some (.array .byte)⟩ := by decide +kernel
theorem pd__28C_29Ljava_2flang_2fAbstractStringBuilder_3b : parseMethodDescriptor "(C)Ljava/lang/AbstractStringBuilder;" = some ⟨[.char], some (.object "java/lang/AbstractStringBuilder")⟩ := by decide +kernel
theorem pd__28C_29Ljava_2flang_2fStringBuilder_3b : parseMethodDescriptor "(C)Ljava/lang/StringBuilder;" = some ⟨[.char], some (.object "java/lang/StringBuilder")⟩ := by decide +kernel
theorem pd__28C_29Z : parseMethodDescriptor "(C)Z" = some ⟨[.char], some .boolean⟩ := by decide +kernel
theorem pd__28I_29V : parseMethodDescriptor "(I)V" = some ⟨[.int], none⟩ := by decide +kernel
theorem pd__28I_29_5bC : parseMethodDescriptor "(I)[C" = some ⟨[.int], some (.array .char)⟩ := by decide +kernel
theorem pd__28II_29I : parseMethodDescriptor "(II)I" = some ⟨[.int, .int], some .int⟩ := by decide +kernel
theorem pd__28III_29I : parseMethodDescriptor "(III)I" = some ⟨[.int, .int, .int], some .int⟩ := by decide +kernel
theorem pd__28ILjava_2flang_2fString_3b_29V : parseMethodDescriptor "(ILjava/lang/String;)V" = some ⟨[.int, (.object "java/lang/String")], none⟩ := by decide +kernel
theorem pd__28Ljava_2flang_2fAbstractStringBuilder_3bLjava_2flang_2fVoid_3b_29V : parseMethodDescriptor "(Ljava/lang/AbstractStringBuilder;Ljava/lang/Void;)V" = some ⟨[(.object "java/lang/AbstractStringBuilder"), (.object "java/lang/Void")], none⟩ := by decide +kernel
theorem pd__28Ljava_2flang_2fString_3b_29Ljava_2flang_2fAbstractStringBuilder_3b : parseMethodDescriptor "(Ljava/lang/String;)Ljava/lang/AbstractStringBuilder;" = some ⟨[(.object "java/lang/String")], some (.object "java/lang/AbstractStringBuilder")⟩ := by decide +kernel
theorem pd__28Ljava_2flang_2fString_3b_29Ljava_2flang_2fString_3b : parseMethodDescriptor "(Ljava/lang/String;)Ljava/lang/String;" = some ⟨[(.object "java/lang/String")], some (.object "java/lang/String")⟩ := by decide +kernel
theorem pd__28Ljava_2flang_2fString_3b_29Ljava_2flang_2fStringBuilder_3b : parseMethodDescriptor "(Ljava/lang/String;)Ljava/lang/StringBuilder;" = some ⟨[(.object "java/lang/String")], some (.object "java/lang/StringBuilder")⟩ := by decide +kernel
theorem pd__28Ljava_2flang_2fString_3b_29V : parseMethodDescriptor "(Ljava/lang/String;)V" = some ⟨[(.object "java/lang/String")], none⟩ := by decide +kernel
theorem pd__28Ljava_2flang_2fString_3b_5bCII_29Z : parseMethodDescriptor "(Ljava/lang/String;[CII)Z" = some ⟨[(.object "java/lang/String"), (.array .char), .int, .int], some .boolean⟩ := by decide +kernel
theorem pd__28Ljava_2flang_2fStringBuilder_3b_29V : parseMethodDescriptor "(Ljava/lang/StringBuilder;)V" = some ⟨[(.object "java/lang/StringBuilder")], none⟩ := by decide +kernel
theorem pd__28_5bBI_29_5bB : parseMethodDescriptor "([BI)[B" = some ⟨[(.array .byte), .int], some (.array .byte)⟩ := by decide +kernel
theorem pd__28_5bBIB_29V : parseMethodDescriptor "([BIB)V" = some ⟨[(.array .byte), .int, .byte], none⟩ := by decide +kernel
theorem pd__28_5bBII_29_5bB : parseMethodDescriptor "([BII)[B" = some ⟨[(.array .byte), .int, .int], some (.array .byte)⟩ := by decide +kernel
theorem pd__28_5bC_29V : parseMethodDescriptor "([C)V" = some ⟨[(.array .char)], none⟩ := by decide +kernel
theorem pd__28C_29C : parseMethodDescriptor "(C)C" = some ⟨[.char], some .char⟩ := by decide +kernel
theorem pd__28I_29C : parseMethodDescriptor "(I)C" = some ⟨[.int], some .char⟩ := by decide +kernel
theorem pl0 : plainFor (⟨"jdk/internal/util/Preconditions", "checkIndex", "(IILjava/util/function/BiFunction;)I"⟩ : MethodName) = true := plainFor_of_name (by first | (simp [plainName, overriddenIn]; done) | decide +kernel)
theorem pl1 : plainFor (⟨"java/lang/String", "checkIndex", "(II)V"⟩ : MethodName) = true := plainFor_of_name (by first | (simp [plainName, overriddenIn]; done) | decide +kernel)
theorem pl2 : plainFor (⟨"java/lang/StringLatin1", "charAt", "([BI)C"⟩ : MethodName) = true := plainFor_of_name (by first | (simp [plainName, overriddenIn]; done) | decide +kernel)
theorem pl3 : plainFor (⟨"java/lang/StringUTF16", "length", "([B)I"⟩ : MethodName) = true := plainFor_of_name (by first | (simp [plainName, overriddenIn]; done) | decide +kernel)
theorem pl4 : plainFor (⟨"java/lang/StringUTF16", "checkIndex", "(I[B)V"⟩ : MethodName) = true := plainFor_of_name (by first | (simp [plainName, overriddenIn]; done) | decide +kernel)
theorem pl5 : plainFor (⟨"java/lang/StringUTF16", "getChar", "([BI)C"⟩ : MethodName) = true := plainFor_of_name (by first | (simp [plainName, overriddenIn]; done) | decide +kernel)
theorem pl6 : plainFor (⟨"java/lang/StringUTF16", "charAt", "([BI)C"⟩ : MethodName) = true := plainFor_of_name (by first | (simp [plainName, overriddenIn]; done) | decide +kernel)
theorem pl7 : plainFor (⟨"java/lang/String", "isLatin1", "()Z"⟩ : MethodName) = true := plainFor_of_name (by first | (simp [plainName, overriddenIn]; done) | decide +kernel)
theorem pl8 : plainFor (⟨"java/lang/String", "coder", "()B"⟩ : MethodName) = true := plainFor_of_name (by first | (simp [plainName, overriddenIn]; done) | decide +kernel)
theorem pl9 : plainFor (⟨"java/lang/String", "length", "()I"⟩ : MethodName) = true := plainFor_of_name (by first | (simp [plainName, overriddenIn]; done) | decide +kernel)
theorem pl10 : plainFor (⟨"java/lang/String", "charAt", "(I)C"⟩ : MethodName) = true := plainFor_of_name (by first | (simp [plainName, overriddenIn]; done) | decide +kernel)
theorem pl11 : plainFor (⟨"java/lang/StringUTF16", "compress", "([CI[BII)I"⟩ : MethodName) = true := plainFor_of_name (by first | (simp [plainName, overriddenIn]; done) | decide +kernel)
theorem pl12 : plainFor (⟨"java/lang/StringUTF16", "putChar", "([BII)V"⟩ : MethodName) = true := plainFor_of_name (by first | (simp [plainName, overriddenIn]; done) | decide +kernel)
theorem pl13 : plainFor (⟨"java/lang/StringUTF16", "newBytesLength", "(I)I"⟩ : MethodName) = true := plainFor_of_name (by first | (simp [plainName, overriddenIn]; done) | decide +kernel)
theorem pl14 : plainFor (⟨"java/lang/StringUTF16", "newBytesFor", "(I)[B"⟩ : MethodName) = true := plainFor_of_name (by first | (simp [plainName, overriddenIn]; done) | decide +kernel)
theorem pl15 : plainFor (⟨"java/lang/StringUTF16", "toBytes", "([CII)[B"⟩ : MethodName) = true := plainFor_of_name (by first | (simp [plainName, overriddenIn]; done) | decide +kernel)
theorem pl16 : plainFor (⟨"java/lang/StringUTF16", "compress", "([CII)[B"⟩ : MethodName) = true := plainFor_of_name (by first | (simp [plainName, overriddenIn]; done) | decide +kernel)
theorem pl17 : plainFor (⟨"java/lang/StringUTF16", "coderFromArrayLen", "([BI)B"⟩ : MethodName) = true := plainFor_of_name (by first | (simp [plainName, overriddenIn]; done) | decide +kernel)
theorem pl18 : plainFor (⟨"java/lang/String", "<init>", "([CIILjava/lang/Void;)V"⟩ : MethodName) = true := plainFor_of_name (by first | (simp [plainName, overriddenIn]; done) | decide +kernel)
theorem pl19 : plainFor (⟨"java/lang/String", "<init>", "([C)V"⟩ : MethodName) = true := plainFor_of_name (by first | (simp [plainName, overriddenIn]; done) | decide +kernel)
theorem pl20 : plainFor (⟨"com/example/paretolio/paretolio/RecordReaderQuotePinLaw", "shown", "(C)C"⟩ : MethodName) = true := plainFor_of_name (by first | (simp [plainName, overriddenIn]; done) | decide +kernel)
theorem pl21 : plainFor (⟨"com/example/paretolio/paretolio/RecordReaderQuotePinLaw", "at", "(Ljava/lang/String;[CII)Z"⟩ : MethodName) = true := plainFor_of_name (by first | (simp [plainName, overriddenIn]; done) | decide +kernel)
theorem pl22 : plainFor (⟨"java/lang/AbstractStringBuilder", "ensureCapacityInternal", "(I)V"⟩ : MethodName) = true := plainFor_of_name (by first | (simp [plainName, overriddenIn]; done) | decide +kernel)
theorem pl23 : plainFor (⟨"java/lang/AbstractStringBuilder", "inflateIfNeededFor", "(Ljava/lang/String;)V"⟩ : MethodName) = true := plainFor_of_name (by first | (simp [plainName, overriddenIn]; done) | decide +kernel)
theorem pl24 : plainFor (⟨"java/lang/String", "getBytes", "([BIB)V"⟩ : MethodName) = true := plainFor_of_name (by first | (simp [plainName, overriddenIn]; done) | decide +kernel)
theorem pl25 : plainFor (⟨"java/lang/AbstractStringBuilder", "putStringAt", "(ILjava/lang/String;)V"⟩ : MethodName) = true := plainFor_of_name (by first | (simp [plainName, overriddenIn]; done) | decide +kernel)
theorem pl26 : plainFor (⟨"java/lang/AbstractStringBuilder", "append", "(Ljava/lang/String;)Ljava/lang/AbstractStringBuilder;"⟩ : MethodName) = true := plainFor_of_name (by first | (simp [plainName, overriddenIn]; done) | decide +kernel)
theorem pl27 : plainFor (⟨"java/lang/StringBuilder", "append", "(Ljava/lang/String;)Ljava/lang/StringBuilder;"⟩ : MethodName) = true := plainFor_of_name (by first | (simp [plainName, overriddenIn]; done) | decide +kernel)
theorem pl28 : plainFor (⟨"java/lang/StringBuilder", "append", "(Ljava/lang/String;)Ljava/lang/AbstractStringBuilder;"⟩ : MethodName) = true := plainFor_of_name (by first | (simp [plainName, overriddenIn]; done) | decide +kernel)
theorem pl29 : plainFor (⟨"java/lang/AbstractStringBuilder", "<init>", "(Ljava/lang/String;)V"⟩ : MethodName) = true := plainFor_of_name (by first | (simp [plainName, overriddenIn]; done) | decide +kernel)
theorem pl30 : plainFor (⟨"java/lang/StringBuilder", "<init>", "(Ljava/lang/String;)V"⟩ : MethodName) = true := plainFor_of_name (by first | (simp [plainName, overriddenIn]; done) | decide +kernel)
theorem pl32 : plainFor (⟨"java/lang/AbstractStringBuilder", "isLatin1", "()Z"⟩ : MethodName) = true := plainFor_of_name (by first | (simp [plainName, overriddenIn]; done) | decide +kernel)
theorem pl33 : plainFor (⟨"java/lang/StringLatin1", "canEncode", "(C)Z"⟩ : MethodName) = true := plainFor_of_name (by first | (simp [plainName, overriddenIn]; done) | decide +kernel)
theorem pl34 : plainFor (⟨"java/lang/AbstractStringBuilder", "append", "(C)Ljava/lang/AbstractStringBuilder;"⟩ : MethodName) = true := plainFor_of_name (by first | (simp [plainName, overriddenIn]; done) | decide +kernel)
theorem pl35 : plainFor (⟨"java/lang/StringBuilder", "append", "(C)Ljava/lang/StringBuilder;"⟩ : MethodName) = true := plainFor_of_name (by first | (simp [plainName, overriddenIn]; done) | decide +kernel)
theorem pl36 : plainFor (⟨"java/lang/AbstractStringBuilder", "getValue", "()[B"⟩ : MethodName) = true := plainFor_of_name (by first | (simp [plainName, overriddenIn]; done) | decide +kernel)
theorem pl37 : plainFor (⟨"java/lang/AbstractStringBuilder", "length", "()I"⟩ : MethodName) = true := plainFor_of_name (by first | (simp [plainName, overriddenIn]; done) | decide +kernel)
theorem pl38 : plainFor (⟨"java/lang/StringBuilder", "length", "()I"⟩ : MethodName) = true := plainFor_of_name (by first | (simp [plainName, overriddenIn]; done) | decide +kernel)
theorem pl39 : plainFor (⟨"java/util/Arrays", "checkLength", "(II)V"⟩ : MethodName) = true := plainFor_of_name (by first | (simp [plainName, overriddenIn]; done) | decide +kernel)
theorem pl40 : plainFor (⟨"java/util/Arrays", "copyOfRangeByte", "([BII)[B"⟩ : MethodName) = true := plainFor_of_name (by first | (simp [plainName, overriddenIn]; done) | decide +kernel)
theorem pl41 : plainFor (⟨"java/util/Arrays", "copyOfRange", "([BII)[B"⟩ : MethodName) = true := plainFor_of_name (by first | (simp [plainName, overriddenIn]; done) | decide +kernel)
theorem pl42 : plainFor (⟨"java/lang/String", "<init>", "(Ljava/lang/AbstractStringBuilder;Ljava/lang/Void;)V"⟩ : MethodName) = true := plainFor_of_name (by first | (simp [plainName, overriddenIn]; done) | decide +kernel)
theorem pl43 : plainFor (⟨"java/lang/String", "<init>", "(Ljava/lang/StringBuilder;)V"⟩ : MethodName) = true := plainFor_of_name (by first | (simp [plainName, overriddenIn]; done) | decide +kernel)
theorem pl44 : plainFor (⟨"java/lang/StringBuilder", "toString", "()Ljava/lang/String;"⟩ : MethodName) = true := plainFor_of_name (by first | (simp [plainName, overriddenIn]; done) | decide +kernel)
theorem pl46 : plainFor (⟨"jdk/internal/util/ArraysSupport", "newLength", "(III)I"⟩ : MethodName) = true := plainFor_of_name (by first | (simp [plainName, overriddenIn]; done) | decide +kernel)
theorem pl47 : plainFor (⟨"java/lang/AbstractStringBuilder", "newCapacity", "(I)I"⟩ : MethodName) = true := plainFor_of_name (by first | (simp [plainName, overriddenIn]; done) | decide +kernel)
theorem pl48 : plainFor (⟨"java/util/Arrays", "copyOf", "([BI)[B"⟩ : MethodName) = true := plainFor_of_name (by first | (simp [plainName, overriddenIn]; done) | decide +kernel)
theorem pl49 : plainFor (⟨"com/example/paretolio/paretolio/RecordReaderQuotePinLaw", "alloc", "(I)[C"⟩ : MethodName) = true := plainFor_of_name (by first | (simp [plainName, overriddenIn]; done) | decide +kernel)
theorem pl50 : plainFor (⟨"com/example/paretolio/paretolio/RecordReader", "quote", "(Ljava/lang/String;)Ljava/lang/String;"⟩ : MethodName) = true := plainFor_of_name (by first | (simp [plainName, overriddenIn]; done) | decide +kernel)
theorem kS0 {Z : State} {a0 : Array Value} (hw : ∀ d ∈ tables_1, d.before a0 Z = true) : own_kS a0 Z ({ cls := "jdk/internal/util/Preconditions", name := "checkIndex", desc := "(IILjava/util/function/BiFunction;)I" } : Jvm.MethodName) jdk_41_method_11_code 3 (Option.some Jvm.ClassFile.FieldType.int) 3 := ⟨(oW hw 185 rfl), (oW hw 183 rfl), (oW hw 186 rfl), ⟨⟨by decide, by decide⟩, own_ln pd__28IILjava_2futil_2ffunction_2fBiFunction_3b_29I rfl⟩⟩
theorem kS1 {Z : State} {a0 : Array Value} (hw : ∀ d ∈ tables_1, d.before a0 Z = true) : own_kS a0 Z ({ cls := "java/lang/String", name := "checkIndex", desc := "(II)V" } : Jvm.MethodName) jdk_42_method_155_code 2 (Option.none : Option Jvm.ClassFile.FieldType) 2 := ⟨(oW hw 180 rfl), (oW hw 8 rfl), (oW hw 181 rfl), ⟨⟨by decide, by decide⟩, own_ln pd__28II_29V rfl⟩⟩
theorem kS2 {Z : State} {a0 : Array Value} (hw : ∀ d ∈ tables_1, d.before a0 Z = true) : own_kS a0 Z ({ cls := "java/lang/StringUTF16", name := "length", desc := "([B)I" } : Jvm.MethodName) jdk_52_method_6_code 1 (Option.some Jvm.ClassFile.FieldType.int) 1 := ⟨(oW hw 230 rfl), (oW hw 192 rfl), (oW hw 231 rfl), ⟨⟨by decide, by decide⟩, own_ln pd__28_5bB_29I rfl⟩⟩
theorem kS3 {Z : State} {a0 : Array Value} (hw : ∀ d ∈ tables_1, d.before a0 Z = true) : own_kS a0 Z ({ cls := "java/lang/StringUTF16", name := "checkIndex", desc := "(I[B)V" } : Jvm.MethodName) jdk_52_method_91_code 2 (Option.none : Option Jvm.ClassFile.FieldType) 2 := ⟨(oW hw 227 rfl), (oW hw 192 rfl), (oW hw 228 rfl), ⟨⟨by decide, by decide⟩, own_ln pd__28I_5bB_29V rfl⟩⟩
theorem kS4 {Z : State} {a0 : Array Value} (hw : ∀ d ∈ tables_1, d.before a0 Z = true) : own_kS a0 Z ({ cls := "java/lang/StringUTF16", name := "getChar", desc := "([BI)C" } : Jvm.MethodName) jdk_52_method_5_code 2 (Option.some Jvm.ClassFile.FieldType.char) 2 := ⟨(oW hw 221 rfl), (oW hw 192 rfl), (oW hw 222 rfl), ⟨⟨by decide, by decide⟩, own_ln pd__28_5bBI_29C rfl⟩⟩
theorem kV5 {Z : State} {a0 : Array Value} (hw : ∀ d ∈ tables_1, d.before a0 Z = true) : own_kV a0 Z "java/lang/String" ({ cls := "java/lang/String", name := "coder", desc := "()B" } : Jvm.MethodName) ({ cls := "java/lang/String", name := "coder", desc := "()B" } : Jvm.MethodName) jdk_42_method_152_code 1 (Option.some Jvm.ClassFile.FieldType.byte) 0 := ⟨(oW hw 51 rfl), (oW hw 53 rfl), (oW hw 52 rfl), (oW hw 54 rfl), (oW hw 8 rfl), (fun _ q => notFace_of_selects (args := #[]) (mvT q (oW hw 53 rfl))), ⟨⟨by decide, by decide⟩, own_ln pd__28_29B rfl⟩⟩
theorem kV6 {Z : State} {a0 : Array Value} (hw : ∀ d ∈ tables_1, d.before a0 Z = true) : own_kV a0 Z "java/lang/String" ({ cls := "java/lang/String", name := "isLatin1", desc := "()Z" } : Jvm.MethodName) ({ cls := "java/lang/String", name := "isLatin1", desc := "()Z" } : Jvm.MethodName) jdk_42_method_154_code 1 (Option.some Jvm.ClassFile.FieldType.boolean) 0 := ⟨(oW hw 172 rfl), (oW hw 174 rfl), (oW hw 173 rfl), (oW hw 175 rfl), (oW hw 8 rfl), (fun _ q => notFace_of_selects (args := #[]) (mvT q (oW hw 174 rfl))), ⟨⟨by decide, by decide⟩, own_ln pd__28_29Z rfl⟩⟩
theorem kS7 {Z : State} {a0 : Array Value} (hw : ∀ d ∈ tables_1, d.before a0 Z = true) : own_kS a0 Z ({ cls := "java/lang/StringLatin1", name := "charAt", desc := "([BI)C" } : Jvm.MethodName) jdk_43_method_2_code 2 (Option.some Jvm.ClassFile.FieldType.char) 2 := ⟨(oW hw 177 rfl), (oW hw 124 rfl), (oW hw 178 rfl), ⟨⟨by decide, by decide⟩, own_ln pd__28_5bBI_29C rfl⟩⟩
theorem kS8 {Z : State} {a0 : Array Value} (hw : ∀ d ∈ tables_1, d.before a0 Z = true) : own_kS a0 Z ({ cls := "java/lang/StringUTF16", name := "charAt", desc := "([BI)C" } : Jvm.MethodName) jdk_52_method_83_code 2 (Option.some Jvm.ClassFile.FieldType.char) 2 := ⟨(oW hw 224 rfl), (oW hw 192 rfl), (oW hw 225 rfl), ⟨⟨by decide, by decide⟩, own_ln pd__28_5bBI_29C rfl⟩⟩
theorem kS9 {Z : State} {a0 : Array Value} (hw : ∀ d ∈ tables_1, d.before a0 Z = true) : own_kS a0 Z ({ cls := "java/lang/StringUTF16", name := "newBytesLength", desc := "(I)I" } : Jvm.MethodName) jdk_52_method_3_code 1 (Option.some Jvm.ClassFile.FieldType.int) 1 := ⟨(oW hw 211 rfl), (oW hw 192 rfl), (oW hw 212 rfl), ⟨⟨by decide, by decide⟩, own_ln pd__28I_29I rfl⟩⟩
theorem kS10 {Z : State} {a0 : Array Value} (hw : ∀ d ∈ tables_1, d.before a0 Z = true) : own_kS a0 Z ({ cls := "java/lang/StringUTF16", name := "newBytesFor", desc := "(I)[B" } : Jvm.MethodName) jdk_52_method_2_code 1 (Option.some (Jvm.ClassFile.FieldType.array Jvm.ClassFile.FieldType.byte)) 1 := ⟨(oW hw 208 rfl), (oW hw 192 rfl), (oW hw 209 rfl), ⟨⟨by decide, by decide⟩, own_ln pd__28I_29_5bB rfl⟩⟩
theorem kS11 {Z : State} {a0 : Array Value} (hw : ∀ d ∈ tables_1, d.before a0 Z = true) : own_kS a0 Z ({ cls := "java/lang/StringUTF16", name := "putChar", desc := "([BII)V" } : Jvm.MethodName) jdk_52_method_4_code 3 (Option.none : Option Jvm.ClassFile.FieldType) 3 := ⟨(oW hw 215 rfl), (oW hw 192 rfl), (oW hw 216 rfl), ⟨⟨by decide, by decide⟩, own_ln pd__28_5bBII_29V rfl⟩⟩
theorem kS12 {Z : State} {a0 : Array Value} (hw : ∀ d ∈ tables_1, d.before a0 Z = true) : own_kS a0 Z ({ cls := "java/lang/StringUTF16", name := "compress", desc := "([CI[BII)I" } : Jvm.MethodName) jdk_52_method_21_code 7 (Option.some Jvm.ClassFile.FieldType.int) 5 := ⟨(oW hw 195 rfl), (oW hw 192 rfl), (oW hw 196 rfl), ⟨⟨by decide, by decide⟩, own_ln pd__28_5bCI_5bBII_29I rfl⟩⟩
theorem kS13 {Z : State} {a0 : Array Value} (hw : ∀ d ∈ tables_1, d.before a0 Z = true) : own_kS a0 Z ({ cls := "java/lang/StringUTF16", name := "toBytes", desc := "([CII)[B" } : Jvm.MethodName) jdk_52_method_14_code 5 (Option.some (Jvm.ClassFile.FieldType.array Jvm.ClassFile.FieldType.byte)) 3 := ⟨(oW hw 205 rfl), (oW hw 192 rfl), (oW hw 206 rfl), ⟨⟨by decide, by decide⟩, own_ln pd__28_5bCII_29_5bB rfl⟩⟩
theorem kS14 {Z : State} {a0 : Array Value} (hw : ∀ d ∈ tables_1, d.before a0 Z = true) : own_kS a0 Z ({ cls := "java/lang/StringUTF16", name := "compress", desc := "([CII)[B" } : Jvm.MethodName) jdk_52_method_16_code 6 (Option.some (Jvm.ClassFile.FieldType.array Jvm.ClassFile.FieldType.byte)) 3 := ⟨(oW hw 191 rfl), (oW hw 192 rfl), (oW hw 193 rfl), ⟨⟨by decide, by decide⟩, own_ln pd__28_5bCII_29_5bB rfl⟩⟩
theorem kS15 {Z : State} {a0 : Array Value} (hw : ∀ d ∈ tables_1, d.before a0 Z = true) : own_kS a0 Z ({ cls := "java/lang/StringUTF16", name := "coderFromArrayLen", desc := "([BI)B" } : Jvm.MethodName) jdk_52_method_15_code 2 (Option.some Jvm.ClassFile.FieldType.byte) 2 := ⟨(oW hw 198 rfl), (oW hw 192 rfl), (oW hw 199 rfl), ⟨⟨by decide, by decide⟩, own_ln pd__28_5bBI_29B rfl⟩⟩
theorem kI16 {Z : State} {a0 : Array Value} (hw : ∀ d ∈ tables_1, d.before a0 Z = true) : own_kI a0 Z ({ cls := "java/lang/String", name := "<init>", desc := "([CIILjava/lang/Void;)V" } : Jvm.MethodName) jdk_42_method_149_code 6 4 := ⟨(oW hw 13 rfl), (oW hw 15 rfl), (oW hw 8 rfl), rfl, ⟨⟨by decide, by decide⟩, own_ln pd__28_5bCIILjava_2flang_2fVoid_3b_29V rfl⟩⟩
theorem kV17 {Z : State} {a0 : Array Value} (hw : ∀ d ∈ tables_1, d.before a0 Z = true) : own_kV a0 Z "java/lang/String" ({ cls := "java/lang/String", name := "length", desc := "()I" } : Jvm.MethodName) ({ cls := "java/lang/String", name := "length", desc := "()I" } : Jvm.MethodName) jdk_42_method_54_code 1 (Option.some Jvm.ClassFile.FieldType.int) 0 := ⟨(oW hw 46 rfl), (oW hw 48 rfl), (oW hw 47 rfl), (oW hw 49 rfl), (oW hw 8 rfl), own_nf (y' := (⟨"java/lang/String", "length", "()I"⟩ : MethodName)) (oW hw 48 rfl) rfl, ⟨⟨by decide, by decide⟩, own_ln pd__28_29I rfl⟩⟩
theorem kV18 {Z : State} {a0 : Array Value} (hw : ∀ d ∈ tables_1, d.before a0 Z = true) : own_kV a0 Z "java/lang/StringBuilder" ({ cls := "java/lang/AbstractStringBuilder", name := "ensureCapacityInternal", desc := "(I)V" } : Jvm.MethodName) ({ cls := "java/lang/AbstractStringBuilder", name := "ensureCapacityInternal", desc := "(I)V" } : Jvm.MethodName) jdk_68_method_9_code 3 (Option.none : Option Jvm.ClassFile.FieldType) 1 := ⟨(own_declares (oW hw 79 rfl) (oW hw 82 rfl)), (oW hw 81 rfl), (oW hw 79 rfl), (oW hw 82 rfl), (oW hw 42 rfl), own_nf (y' := (⟨"java/lang/AbstractStringBuilder", "ensureCapacityInternal", "(I)V"⟩ : MethodName)) (oW hw 81 rfl) rfl, ⟨⟨by decide, by decide⟩, own_ln pd__28I_29V rfl⟩⟩
theorem kV19 {Z : State} {a0 : Array Value} (hw : ∀ d ∈ tables_1, d.before a0 Z = true) : own_kV a0 Z "java/lang/StringBuilder" ({ cls := "java/lang/AbstractStringBuilder", name := "inflateIfNeededFor", desc := "(Ljava/lang/String;)V" } : Jvm.MethodName) ({ cls := "java/lang/AbstractStringBuilder", name := "inflateIfNeededFor", desc := "(Ljava/lang/String;)V" } : Jvm.MethodName) jdk_68_method_71_code 2 (Option.none : Option Jvm.ClassFile.FieldType) 1 := ⟨(own_declares (oW hw 89 rfl) (oW hw 92 rfl)), (oW hw 91 rfl), (oW hw 89 rfl), (oW hw 92 rfl), (oW hw 42 rfl), own_nf (y' := (⟨"java/lang/AbstractStringBuilder", "ensureCapacityInternal", "(I)V"⟩ : MethodName)) (oW hw 81 rfl) rfl, ⟨⟨by decide, by decide⟩, own_ln pd__28Ljava_2flang_2fString_3b_29V rfl⟩⟩
theorem kV20 {Z : State} {a0 : Array Value} (hw : ∀ d ∈ tables_1, d.before a0 Z = true) : own_kV a0 Z "java/lang/String" ({ cls := "java/lang/String", name := "getBytes", desc := "([BIB)V" } : Jvm.MethodName) ({ cls := "java/lang/String", name := "getBytes", desc := "([BIB)V" } : Jvm.MethodName) jdk_42_method_147_code 4 (Option.none : Option Jvm.ClassFile.FieldType) 3 := ⟨(oW hw 95 rfl), (oW hw 97 rfl), (oW hw 96 rfl), (oW hw 98 rfl), (oW hw 8 rfl), own_nf (y' := (⟨"java/lang/String", "length", "()I"⟩ : MethodName)) (oW hw 48 rfl) rfl, ⟨⟨by decide, by decide⟩, own_ln pd__28_5bBIB_29V rfl⟩⟩
theorem kV21 {Z : State} {a0 : Array Value} (hw : ∀ d ∈ tables_1, d.before a0 Z = true) : own_kV a0 Z "java/lang/StringBuilder" ({ cls := "java/lang/AbstractStringBuilder", name := "putStringAt", desc := "(ILjava/lang/String;)V" } : Jvm.MethodName) ({ cls := "java/lang/AbstractStringBuilder", name := "putStringAt", desc := "(ILjava/lang/String;)V" } : Jvm.MethodName) jdk_68_method_73_code 3 (Option.none : Option Jvm.ClassFile.FieldType) 2 := ⟨(own_declares (oW hw 84 rfl) (oW hw 87 rfl)), (oW hw 86 rfl), (oW hw 84 rfl), (oW hw 87 rfl), (oW hw 42 rfl), own_nf (y' := (⟨"java/lang/AbstractStringBuilder", "ensureCapacityInternal", "(I)V"⟩ : MethodName)) (oW hw 81 rfl) rfl, ⟨⟨by decide, by decide⟩, own_ln pd__28ILjava_2flang_2fString_3b_29V rfl⟩⟩
theorem kV22 {Z : State} {a0 : Array Value} (hw : ∀ d ∈ tables_1, d.before a0 Z = true) : own_kV a0 Z "java/lang/StringBuilder" ({ cls := "java/lang/StringBuilder", name := "append", desc := "(Ljava/lang/String;)Ljava/lang/StringBuilder;" } : Jvm.MethodName) ({ cls := "java/lang/StringBuilder", name := "append", desc := "(Ljava/lang/String;)Ljava/lang/StringBuilder;" } : Jvm.MethodName) jdk_67_method_7_code 2 (Option.some (Jvm.ClassFile.FieldType.object "java/lang/StringBuilder")) 1 := ⟨(oW hw 69 rfl), (oW hw 71 rfl), (oW hw 70 rfl), (oW hw 72 rfl), (oW hw 33 rfl), own_nf (y' := (⟨"java/lang/StringBuilder", "append", "(Ljava/lang/String;)Ljava/lang/StringBuilder;"⟩ : MethodName)) (oW hw 71 rfl) rfl, ⟨⟨by decide, by decide⟩, own_ln pd__28Ljava_2flang_2fString_3b_29Ljava_2flang_2fStringBuilder_3b rfl⟩⟩
theorem kV23 {Z : State} {a0 : Array Value} (hw : ∀ d ∈ tables_1, d.before a0 Z = true) : own_kV a0 Z "java/lang/StringBuilder" ({ cls := "java/lang/AbstractStringBuilder", name := "append", desc := "(Ljava/lang/String;)Ljava/lang/AbstractStringBuilder;" } : Jvm.MethodName) ({ cls := "java/lang/StringBuilder", name := "append", desc := "(Ljava/lang/String;)Ljava/lang/AbstractStringBuilder;" } : Jvm.MethodName) jdk_67_method_80_code 2 (Option.some (Jvm.ClassFile.FieldType.object "java/lang/AbstractStringBuilder")) 1 := ⟨(oW hw 63 rfl), (oW hw 65 rfl), (oW hw 66 rfl), (oW hw 67 rfl), (oW hw 33 rfl), own_nf (y' := (⟨"java/lang/AbstractStringBuilder", "ensureCapacityInternal", "(I)V"⟩ : MethodName)) (oW hw 81 rfl) rfl, ⟨⟨by decide, by decide⟩, own_ln pd__28Ljava_2flang_2fString_3b_29Ljava_2flang_2fAbstractStringBuilder_3b rfl⟩⟩
theorem kI24 {Z : State} {a0 : Array Value} (hw : ∀ d ∈ tables_1, d.before a0 Z = true) : own_kI a0 Z ({ cls := "java/lang/AbstractStringBuilder", name := "<init>", desc := "(Ljava/lang/String;)V" } : Jvm.MethodName) jdk_68_method_3_code 5 1 := ⟨(oW hw 39 rfl), (oW hw 43 rfl), (oW hw 42 rfl), rfl, ⟨⟨by decide, by decide⟩, own_ln pd__28Ljava_2flang_2fString_3b_29V rfl⟩⟩
theorem kI25 {Z : State} {a0 : Array Value} (hw : ∀ d ∈ tables_1, d.before a0 Z = true) : own_kI a0 Z ({ cls := "java/lang/StringBuilder", name := "<init>", desc := "(Ljava/lang/String;)V" } : Jvm.MethodName) jdk_67_method_3_code 2 1 := ⟨(oW hw 36 rfl), (oW hw 37 rfl), (oW hw 33 rfl), rfl, ⟨⟨by decide, by decide⟩, own_ln pd__28Ljava_2flang_2fString_3b_29V rfl⟩⟩
theorem kS26 {Z : State} {a0 : Array Value} (hw : ∀ d ∈ tables_1, d.before a0 Z = true) : own_kS a0 Z ({ cls := "java/lang/Math", name := "min", desc := "(II)I" } : Jvm.MethodName) jdk_29_method_69_code 2 (Option.some Jvm.ClassFile.FieldType.int) 2 := ⟨(oW hw 105 rfl), (oW hw 106 rfl), (oW hw 107 rfl), ⟨⟨by decide, by decide⟩, own_ln pd__28II_29I rfl⟩⟩
theorem kV27 {Z : State} {a0 : Array Value} (hw : ∀ d ∈ tables_1, d.before a0 Z = true) : own_kV a0 Z "java/lang/StringBuilder" ({ cls := "java/lang/AbstractStringBuilder", name := "isLatin1", desc := "()Z" } : Jvm.MethodName) ({ cls := "java/lang/AbstractStringBuilder", name := "isLatin1", desc := "()Z" } : Jvm.MethodName) jdk_68_method_68_code 1 (Option.some Jvm.ClassFile.FieldType.boolean) 0 := ⟨(oW hw 118 rfl), (oW hw 120 rfl), (oW hw 119 rfl), (oW hw 121 rfl), (oW hw 42 rfl), own_nf (y' := (⟨"java/lang/AbstractStringBuilder", "ensureCapacityInternal", "(I)V"⟩ : MethodName)) (oW hw 81 rfl) rfl, ⟨⟨by decide, by decide⟩, own_ln pd__28_29Z rfl⟩⟩
theorem kS28 {Z : State} {a0 : Array Value} (hw : ∀ d ∈ tables_1, d.before a0 Z = true) : own_kS a0 Z ({ cls := "java/lang/StringLatin1", name := "canEncode", desc := "(C)Z" } : Jvm.MethodName) jdk_43_method_3_code 1 (Option.some Jvm.ClassFile.FieldType.boolean) 1 := ⟨(oW hw 123 rfl), (oW hw 124 rfl), (oW hw 125 rfl), ⟨⟨by decide, by decide⟩, own_ln pd__28C_29Z rfl⟩⟩
theorem kV29 {Z : State} {a0 : Array Value} (hw : ∀ d ∈ tables_1, d.before a0 Z = true) : own_kV a0 Z "java/lang/StringBuilder" ({ cls := "java/lang/StringBuilder", name := "append", desc := "(C)Ljava/lang/StringBuilder;" } : Jvm.MethodName) ({ cls := "java/lang/StringBuilder", name := "append", desc := "(C)Ljava/lang/StringBuilder;" } : Jvm.MethodName) jdk_67_method_14_code 2 (Option.some (Jvm.ClassFile.FieldType.object "java/lang/StringBuilder")) 1 := ⟨(oW hw 109 rfl), (oW hw 111 rfl), (oW hw 110 rfl), (oW hw 112 rfl), (oW hw 33 rfl), own_nf (y' := (⟨"java/lang/StringBuilder", "append", "(Ljava/lang/String;)Ljava/lang/StringBuilder;"⟩ : MethodName)) (oW hw 71 rfl) rfl, ⟨⟨by decide, by decide⟩, own_ln pd__28C_29Ljava_2flang_2fStringBuilder_3b rfl⟩⟩
theorem kV30 {Z : State} {a0 : Array Value} (hw : ∀ d ∈ tables_1, d.before a0 Z = true) : own_kV a0 Z "java/lang/StringBuilder" ({ cls := "java/lang/AbstractStringBuilder", name := "getValue", desc := "()[B" } : Jvm.MethodName) ({ cls := "java/lang/AbstractStringBuilder", name := "getValue", desc := "()[B" } : Jvm.MethodName) jdk_68_method_64_code 1 (Option.some (Jvm.ClassFile.FieldType.array Jvm.ClassFile.FieldType.byte)) 0 := ⟨(oW hw 139 rfl), (oW hw 141 rfl), (oW hw 140 rfl), (oW hw 142 rfl), (oW hw 42 rfl), own_nf (y' := (⟨"java/lang/AbstractStringBuilder", "ensureCapacityInternal", "(I)V"⟩ : MethodName)) (oW hw 81 rfl) rfl, ⟨⟨by decide, by decide⟩, own_ln pd__28_29_5bB rfl⟩⟩
theorem kV31 {Z : State} {a0 : Array Value} (hw : ∀ d ∈ tables_1, d.before a0 Z = true) : own_kV a0 Z "java/lang/StringBuilder" ({ cls := "java/lang/AbstractStringBuilder", name := "length", desc := "()I" } : Jvm.MethodName) ({ cls := "java/lang/StringBuilder", name := "length", desc := "()I" } : Jvm.MethodName) jdk_67_method_93_code 1 (Option.some Jvm.ClassFile.FieldType.int) 0 := ⟨(oW hw 144 rfl), (oW hw 146 rfl), (oW hw 147 rfl), (oW hw 148 rfl), (oW hw 33 rfl), own_nf (y' := (⟨"java/lang/AbstractStringBuilder", "ensureCapacityInternal", "(I)V"⟩ : MethodName)) (oW hw 81 rfl) rfl, ⟨⟨by decide, by decide⟩, own_ln pd__28_29I rfl⟩⟩
theorem kS32 {Z : State} {a0 : Array Value} (hw : ∀ d ∈ tables_1, d.before a0 Z = true) : own_kS a0 Z ({ cls := "java/util/Arrays", name := "checkLength", desc := "(II)V" } : Jvm.MethodName) jdk_65_method_131_code 2 (Option.none : Option Jvm.ClassFile.FieldType) 2 := ⟨(oW hw 160 rfl), (oW hw 154 rfl), (oW hw 161 rfl), ⟨⟨by decide, by decide⟩, own_ln pd__28II_29V rfl⟩⟩
theorem kS33 {Z : State} {a0 : Array Value} (hw : ∀ d ∈ tables_1, d.before a0 Z = true) : own_kS a0 Z ({ cls := "java/util/Arrays", name := "copyOfRangeByte", desc := "([BII)[B" } : Jvm.MethodName) jdk_65_method_133_code 5 (Option.some (Jvm.ClassFile.FieldType.array Jvm.ClassFile.FieldType.byte)) 3 := ⟨(oW hw 157 rfl), (oW hw 154 rfl), (oW hw 158 rfl), ⟨⟨by decide, by decide⟩, own_ln pd__28_5bBII_29_5bB rfl⟩⟩
theorem kS34 {Z : State} {a0 : Array Value} (hw : ∀ d ∈ tables_1, d.before a0 Z = true) : own_kS a0 Z ({ cls := "java/util/Arrays", name := "copyOfRange", desc := "([BII)[B" } : Jvm.MethodName) jdk_65_method_132_code 3 (Option.some (Jvm.ClassFile.FieldType.array Jvm.ClassFile.FieldType.byte)) 3 := ⟨(oW hw 153 rfl), (oW hw 154 rfl), (oW hw 155 rfl), ⟨⟨by decide, by decide⟩, own_ln pd__28_5bBII_29_5bB rfl⟩⟩
theorem kI35 {Z : State} {a0 : Array Value} (hw : ∀ d ∈ tables_1, d.before a0 Z = true) : own_kI a0 Z ({ cls := "java/lang/String", name := "<init>", desc := "(Ljava/lang/AbstractStringBuilder;Ljava/lang/Void;)V" } : Jvm.MethodName) jdk_42_method_150_code 5 2 := ⟨(oW hw 136 rfl), (oW hw 137 rfl), (oW hw 8 rfl), rfl, ⟨⟨by decide, by decide⟩, own_ln pd__28Ljava_2flang_2fAbstractStringBuilder_3bLjava_2flang_2fVoid_3b_29V rfl⟩⟩
theorem kI36 {Z : State} {a0 : Array Value} (hw : ∀ d ∈ tables_1, d.before a0 Z = true) : own_kI a0 Z ({ cls := "java/lang/String", name := "<init>", desc := "(Ljava/lang/StringBuilder;)V" } : Jvm.MethodName) jdk_42_method_53_code 2 1 := ⟨(oW hw 133 rfl), (oW hw 134 rfl), (oW hw 8 rfl), rfl, ⟨⟨by decide, by decide⟩, own_ln pd__28Ljava_2flang_2fStringBuilder_3b_29V rfl⟩⟩
theorem kV37 {Z : State} {a0 : Array Value} (hw : ∀ d ∈ tables_1, d.before a0 Z = true) : own_kV a0 Z "java/lang/StringBuilder" ({ cls := "java/lang/StringBuilder", name := "toString", desc := "()Ljava/lang/String;" } : Jvm.MethodName) ({ cls := "java/lang/StringBuilder", name := "toString", desc := "()Ljava/lang/String;" } : Jvm.MethodName) jdk_67_method_42_code 1 (Option.some (Jvm.ClassFile.FieldType.object "java/lang/String")) 0 := ⟨(oW hw 127 rfl), (oW hw 129 rfl), (oW hw 128 rfl), (oW hw 130 rfl), (oW hw 33 rfl), own_nf (y' := (⟨"java/lang/StringBuilder", "append", "(Ljava/lang/String;)Ljava/lang/StringBuilder;"⟩ : MethodName)) (oW hw 71 rfl) rfl, ⟨⟨by decide, by decide⟩, own_ln pd__28_29Ljava_2flang_2fString_3b rfl⟩⟩
theorem kV38 {Z : State} {a0 : Array Value} (hw : ∀ d ∈ tables_1, d.before a0 Z = true) : own_kV a0 Z "java/lang/String" ({ cls := "java/lang/String", name := "charAt", desc := "(I)C" } : Jvm.MethodName) ({ cls := "java/lang/String", name := "charAt", desc := "(I)C" } : Jvm.MethodName) jdk_42_method_56_code 2 (Option.some Jvm.ClassFile.FieldType.char) 1 := ⟨(oW hw 167 rfl), (oW hw 169 rfl), (oW hw 168 rfl), (oW hw 170 rfl), (oW hw 8 rfl), (fun _ q => notFace_of_selects (args := #[]) (mvT q (oW hw 169 rfl))), ⟨⟨by decide, by decide⟩, own_ln pd__28I_29C rfl⟩⟩
theorem kS39 {Z : State} {a0 : Array Value} (hw : ∀ d ∈ tables_1, d.before a0 Z = true) : own_kS a0 Z ({ cls := "java/lang/Math", name := "max", desc := "(II)I" } : Jvm.MethodName) jdk_29_method_65_code 2 (Option.some Jvm.ClassFile.FieldType.int) 2 := ⟨(oW hw 243 rfl), (oW hw 106 rfl), (oW hw 244 rfl), ⟨⟨by decide, by decide⟩, own_ln pd__28II_29I rfl⟩⟩
theorem kS40 {Z : State} {a0 : Array Value} (hw : ∀ d ∈ tables_1, d.before a0 Z = true) : own_kS a0 Z ({ cls := "jdk/internal/util/ArraysSupport", name := "newLength", desc := "(III)I" } : Jvm.MethodName) jdk_48_method_27_code 4 (Option.some Jvm.ClassFile.FieldType.int) 3 := ⟨(oW hw 239 rfl), (oW hw 240 rfl), (oW hw 241 rfl), ⟨⟨by decide, by decide⟩, own_ln pd__28III_29I rfl⟩⟩
theorem kV41 {Z : State} {a0 : Array Value} (hw : ∀ d ∈ tables_1, d.before a0 Z = true) : own_kV a0 Z "java/lang/StringBuilder" ({ cls := "java/lang/AbstractStringBuilder", name := "newCapacity", desc := "(I)I" } : Jvm.MethodName) ({ cls := "java/lang/AbstractStringBuilder", name := "newCapacity", desc := "(I)I" } : Jvm.MethodName) jdk_68_method_10_code 6 (Option.some Jvm.ClassFile.FieldType.int) 1 := ⟨(own_declares (oW hw 234 rfl) (oW hw 237 rfl)), (oW hw 236 rfl), (oW hw 234 rfl), (oW hw 237 rfl), (oW hw 42 rfl), own_nf (y' := (⟨"java/lang/AbstractStringBuilder", "ensureCapacityInternal", "(I)V"⟩ : MethodName)) (oW hw 81 rfl) rfl, ⟨⟨by decide, by decide⟩, own_ln pd__28I_29I rfl⟩⟩
theorem kS42 {Z : State} {a0 : Array Value} (hw : ∀ d ∈ tables_1, d.before a0 Z = true) : own_kS a0 Z ({ cls := "java/util/Arrays", name := "copyOf", desc := "([BI)[B" } : Jvm.MethodName) jdk_65_method_121_code 3 (Option.some (Jvm.ClassFile.FieldType.array Jvm.ClassFile.FieldType.byte)) 2 := ⟨(oW hw 248 rfl), (oW hw 154 rfl), (oW hw 249 rfl), ⟨⟨by decide, by decide⟩, own_ln pd__28_5bBI_29_5bB rfl⟩⟩
theorem kS43 {Z : State} {a0 : Array Value} (hw : ∀ d ∈ tables_1, d.before a0 Z = true) : own_kS a0 Z ({ cls := "com/example/paretolio/paretolio/RecordReaderQuotePinLaw", name := "shown", desc := "(C)C" } : Jvm.MethodName) method_4_code 1 (Option.some Jvm.ClassFile.FieldType.char) 1 := ⟨(oW hw 202 rfl), (oW hw 2 rfl), (oW hw 203 rfl), ⟨⟨by decide, by decide⟩, own_ln pd__28C_29C rfl⟩⟩
theorem kS44 {Z : State} {a0 : Array Value} (hw : ∀ d ∈ tables_1, d.before a0 Z = true) : own_kS a0 Z ({ cls := "com/example/paretolio/paretolio/RecordReaderQuotePinLaw", name := "alloc", desc := "(I)[C" } : Jvm.MethodName) method_5_code 1 (Option.some (Jvm.ClassFile.FieldType.array Jvm.ClassFile.FieldType.char)) 1 := ⟨(oW hw 1 rfl), (oW hw 2 rfl), (oW hw 3 rfl), ⟨⟨by decide, by decide⟩, own_ln pd__28I_29_5bC rfl⟩⟩
theorem kS45 {Z : State} {a0 : Array Value} (hw : ∀ d ∈ tables_1, d.before a0 Z = true) : own_kS a0 Z ({ cls := "com/example/paretolio/paretolio/RecordReaderQuotePinLaw", name := "at", desc := "(Ljava/lang/String;[CII)Z" } : Jvm.MethodName) method_3_code 4 (Option.some Jvm.ClassFile.FieldType.boolean) 4 := ⟨(oW hw 188 rfl), (oW hw 2 rfl), (oW hw 189 rfl), ⟨⟨by decide, by decide⟩, own_ln pd__28Ljava_2flang_2fString_3b_5bCII_29Z rfl⟩⟩
theorem kI46 {Z : State} {a0 : Array Value} (hw : ∀ d ∈ tables_1, d.before a0 Z = true) : own_kI a0 Z ({ cls := "java/lang/String", name := "<init>", desc := "([C)V" } : Jvm.MethodName) jdk_42_method_3_code 2 1 := ⟨(oW hw 10 rfl), (oW hw 11 rfl), (oW hw 8 rfl), rfl, ⟨⟨by decide, by decide⟩, own_ln pd__28_5bC_29V rfl⟩⟩

theorem dpcN_0 : decode jdk_41_method_11_code 0 = .ok (.iload_n 0, 1) := by decide +kernel
theorem dpcN_1 : decode jdk_41_method_11_code 1 = .ok (.ifCond .lt 8, 3) := by decide +kernel
theorem dpcN_4 : decode jdk_41_method_11_code 4 = .ok (.iload_n 0, 1) := by decide +kernel
theorem dpcN_5 : decode jdk_41_method_11_code 5 = .ok (.iload_n 1, 1) := by decide +kernel
theorem dpcN_6 : decode jdk_41_method_11_code 6 = .ok (.if_icmp .lt 10, 3) := by decide +kernel
theorem dpcN_16 : decode jdk_41_method_11_code 16 = .ok (.iload_n 0, 1) := by decide +kernel
theorem dpcN_17 : decode jdk_41_method_11_code 17 = .ok (.ireturn, 1) := by decide +kernel
theorem own_pciN (l : Launch) (Z : State) (a0 : Array Value) (hw : ∀ d ∈ tables_1, d.before a0 Z = true) (j L : Int32)  (h0 : Heap) (n0 : Nat) (Z0 : n0 ≤ h0.size) (h1 : ¬ j < (0 : Int32)) (h2 : j < L) :
    own_M l Z (⟨"jdk/internal/util/Preconditions", "checkIndex", "(IILjava/util/function/BiFunction;)I"⟩ : MethodName) jdk_41_method_11_code 3 (some .int) [] (⟨0, 0, 0, 0⟩ : Room) #[(.int j), (.int L), .null] h0 n0 (fun v h => v = some (.int j) ∧ h0 = h) := by
  refine own_M.of pl0 ?_
  intro p e s m below meth c S0 hx hby hml hown hnm hret hlk hZ A00
  have H : own_H p c _ := ⟨hx, hby⟩
  have A0 := A00.cast (f' := mkF m 0 #[.val (.int j), .val (.int L), .val .null] []) (by first | (simp [entryFrame, mkF, argsToLocals, Value.category, maxLocals]; done) | rfl)
  have A1 := A0.iN H dpcN_0 rfl rfl |>.fn H dpcN_1 rfl ((if0 _ _).trans (flt h1).1) |>.iN H dpcN_4 rfl rfl |>.iN H dpcN_5 rfl rfl |>.cy H dpcN_6 rfl ((tlt h2).1) 16 (by decide) (by decide) |>.iN H dpcN_16 rfl rfl
  exact A1.ret hx hlk hret (hb hby dpcN_17) rfl (Or.inl ⟨rfl, by simp, _, rfl⟩) (by decide) (by decide) ⟨rfl, rfl⟩
theorem dscN_0 : decode jdk_42_method_155_code 0 = .ok (.iload_n 0, 1) := by decide +kernel
theorem dscN_1 : decode jdk_42_method_155_code 1 = .ok (.iload_n 1, 1) := by decide +kernel
theorem dscN_2 : decode jdk_42_method_155_code 2 = .ok (.getstatic 1053, 3) := by decide +kernel
theorem dscN_5 : decode jdk_42_method_155_code 5 = .ok (.invokestatic 1059, 3) := by decide +kernel
theorem dscN_8 : decode jdk_42_method_155_code 8 = .ok (.pop, 1) := by decide +kernel
theorem dscN_9 : decode jdk_42_method_155_code 9 = .ok (.return_, 1) := by decide +kernel
theorem own_sciN (l : Launch) (Z : State) (a0 : Array Value) (hw : ∀ d ∈ tables_1, d.before a0 Z = true) (j L : Int32)  (h0 : Heap) (n0 : Nat) (Z0 : n0 ≤ h0.size) (h1 : ¬ j < (0 : Int32)) (h2 : j < L) (S_fm : Sta Z h0 "jdk/internal/util/Preconditions" "SIOOBE_FORMATTER" "Ljava/util/function/BiFunction;" .null) :
    own_M l Z (⟨"java/lang/String", "checkIndex", "(II)V"⟩ : MethodName) jdk_42_method_155_code 2 none [] (⟨1, 0, 0, 14⟩ : Room) #[(.int j), (.int L)] h0 n0 (fun v h => v = none ∧ h0 = h) := by
  refine own_M.of pl1 ?_
  intro p e s m below meth c S0 hx hby hml hown hnm hret hlk hZ A00
  have H : own_H p c _ := ⟨hx, hby⟩
  have A0 := A00.cast (f' := mkF m 0 #[.val (.int j), .val (.int L)] []) (by first | (simp [entryFrame, mkF, argsToLocals, Value.category, maxLocals]; done) | rfl)
  have A1 := A0.iN H dscN_0 rfl rfl |>.iN H dscN_1 rfl rfl
  have A2 := A1.getS hx hZ hown (hb hby dscN_2) (oW hw 182 rfl) Via.refl S_fm
  obtain ⟨vA3, hA3, ⟨rfl, rfl⟩, A3⟩ := A2.cS (own_pciN l Z a0 hw j L  h0 n0 Z0 h1 h2) H hZ hown dscN_5 (oW hw 184 rfl) (kS0 hw) hml rfl rfl [] rfl rfl
  have A4 := A3.cl |>.po H dscN_8 rfl rfl
  exact A4.retV hx hlk hret (hb hby dscN_9) (by decide) (by decide) ⟨rfl, rfl⟩
theorem dpcR_0 : decode jdk_41_method_11_code 0 = .ok (.iload_n 0, 1) := by decide +kernel
theorem dpcR_1 : decode jdk_41_method_11_code 1 = .ok (.ifCond .lt 8, 3) := by decide +kernel
theorem dpcR_4 : decode jdk_41_method_11_code 4 = .ok (.iload_n 0, 1) := by decide +kernel
theorem dpcR_5 : decode jdk_41_method_11_code 5 = .ok (.iload_n 1, 1) := by decide +kernel
theorem dpcR_6 : decode jdk_41_method_11_code 6 = .ok (.if_icmp .lt 10, 3) := by decide +kernel
theorem dpcR_16 : decode jdk_41_method_11_code 16 = .ok (.iload_n 0, 1) := by decide +kernel
theorem dpcR_17 : decode jdk_41_method_11_code 17 = .ok (.ireturn, 1) := by decide +kernel
theorem own_pciR (l : Launch) (Z : State) (a0 : Array Value) (hw : ∀ d ∈ tables_1, d.before a0 Z = true) (j L : Int32) (f : Addr) (h0 : Heap) (n0 : Nat) (Z0 : n0 ≤ h0.size) (h1 : ¬ j < (0 : Int32)) (h2 : j < L) :
    own_M l Z (⟨"jdk/internal/util/Preconditions", "checkIndex", "(IILjava/util/function/BiFunction;)I"⟩ : MethodName) jdk_41_method_11_code 3 (some .int) [] (⟨0, 0, 0, 0⟩ : Room) #[(.int j), (.int L), (.ref f)] h0 n0 (fun v h => v = some (.int j) ∧ h0 = h) := by
  refine own_M.of pl0 ?_
  intro p e s m below meth c S0 hx hby hml hown hnm hret hlk hZ A00
  have H : own_H p c _ := ⟨hx, hby⟩
  have A0 := A00.cast (f' := mkF m 0 #[.val (.int j), .val (.int L), .val (.ref f)] []) (by first | (simp [entryFrame, mkF, argsToLocals, Value.category, maxLocals]; done) | rfl)
  have A1 := A0.iN H dpcR_0 rfl rfl |>.fn H dpcR_1 rfl ((if0 _ _).trans (flt h1).1) |>.iN H dpcR_4 rfl rfl |>.iN H dpcR_5 rfl rfl |>.cy H dpcR_6 rfl ((tlt h2).1) 16 (by decide) (by decide) |>.iN H dpcR_16 rfl rfl
  exact A1.ret hx hlk hret (hb hby dpcR_17) rfl (Or.inl ⟨rfl, by simp, _, rfl⟩) (by decide) (by decide) ⟨rfl, rfl⟩

theorem dscR_0 : decode jdk_42_method_155_code 0 = .ok (.iload_n 0, 1) := by decide +kernel
theorem dscR_1 : decode jdk_42_method_155_code 1 = .ok (.iload_n 1, 1) := by decide +kernel
theorem dscR_2 : decode jdk_42_method_155_code 2 = .ok (.getstatic 1053, 3) := by decide +kernel
theorem dscR_5 : decode jdk_42_method_155_code 5 = .ok (.invokestatic 1059, 3) := by decide +kernel
theorem dscR_8 : decode jdk_42_method_155_code 8 = .ok (.pop, 1) := by decide +kernel
theorem dscR_9 : decode jdk_42_method_155_code 9 = .ok (.return_, 1) := by decide +kernel
theorem own_sciR (l : Launch) (Z : State) (a0 : Array Value) (hw : ∀ d ∈ tables_1, d.before a0 Z = true) (j L : Int32) (f : Addr) (h0 : Heap) (n0 : Nat) (Z0 : n0 ≤ h0.size) (h1 : ¬ j < (0 : Int32)) (h2 : j < L) (S_fm : Sta Z h0 "jdk/internal/util/Preconditions" "SIOOBE_FORMATTER" "Ljava/util/function/BiFunction;" (.ref f)) :
    own_M l Z (⟨"java/lang/String", "checkIndex", "(II)V"⟩ : MethodName) jdk_42_method_155_code 2 none [] (⟨1, 0, 0, 14⟩ : Room) #[(.int j), (.int L)] h0 n0 (fun v h => v = none ∧ h0 = h) := by
  refine own_M.of pl1 ?_
  intro p e s m below meth c S0 hx hby hml hown hnm hret hlk hZ A00
  have H : own_H p c _ := ⟨hx, hby⟩
  have A0 := A00.cast (f' := mkF m 0 #[.val (.int j), .val (.int L)] []) (by first | (simp [entryFrame, mkF, argsToLocals, Value.category, maxLocals]; done) | rfl)
  have A1 := A0.iN H dscR_0 rfl rfl |>.iN H dscR_1 rfl rfl
  have A2 := A1.getS hx hZ hown (hb hby dscR_2) (oW hw 182 rfl) Via.refl S_fm
  obtain ⟨vA3, hA3, ⟨rfl, rfl⟩, A3⟩ := A2.cS (own_pciR l Z a0 hw j L f h0 n0 Z0 h1 h2) H hZ hown dscR_5 (oW hw 184 rfl) (kS0 hw) hml rfl rfl [] rfl rfl
  have A4 := A3.cl |>.po H dscR_8 rfl rfl
  exact A4.retV hx hlk hret (hb hby dscR_9) (by decide) (by decide) ⟨rfl, rfl⟩
theorem own_sci (l : Launch) (Z : State) (a0 : Array Value) (hw : ∀ d ∈ tables_1, d.before a0 Z = true) (j L : Int32) (fm : Value) (h0 : Heap) (n0 : Nat) (Z0 : n0 ≤ h0.size) (h1 : ¬ j < (0 : Int32)) (h2 : j < L) (hfm : fm.isRef = true) (S_fm : Sta Z h0 "jdk/internal/util/Preconditions" "SIOOBE_FORMATTER" "Ljava/util/function/BiFunction;" fm) :
    own_M l Z (⟨"java/lang/String", "checkIndex", "(II)V"⟩ : MethodName) jdk_42_method_155_code 2 none [] (⟨1, 0, 0, 14⟩ : Room) #[(.int j), (.int L)] h0 n0 (fun v h => v = none ∧ h0 = h) := by
  cases fm with
  | null => exact own_sciN l Z a0 hw j L h0 n0 Z0 h1 h2 S_fm
  | ref f => exact own_sciR l Z a0 hw j L f h0 n0 Z0 h1 h2 S_fm
  | _ => cases hfm
theorem dl1_0 : decode jdk_43_method_2_code 0 = .ok (.iload_n 1, 1) := by decide +kernel
theorem dl1_1 : decode jdk_43_method_2_code 1 = .ok (.aload_n 0, 1) := by decide +kernel
theorem dl1_2 : decode jdk_43_method_2_code 2 = .ok (.arraylength, 1) := by decide +kernel
theorem dl1_3 : decode jdk_43_method_2_code 3 = .ok (.invokestatic 9, 3) := by decide +kernel
theorem dl1_6 : decode jdk_43_method_2_code 6 = .ok (.aload_n 0, 1) := by decide +kernel
theorem dl1_7 : decode jdk_43_method_2_code 7 = .ok (.iload_n 1, 1) := by decide +kernel
theorem dl1_8 : decode jdk_43_method_2_code 8 = .ok (.baload, 1) := by decide +kernel
theorem dl1_9 : decode jdk_43_method_2_code 9 = .ok (.sipush 255, 3) := by decide +kernel
theorem dl1_12 : decode jdk_43_method_2_code 12 = .ok (.iand, 1) := by decide +kernel
theorem dl1_13 : decode jdk_43_method_2_code 13 = .ok (.i2c, 1) := by decide +kernel
theorem dl1_14 : decode jdk_43_method_2_code 14 = .ok (.ireturn, 1) := by decide +kernel
theorem own_l1c (l : Launch) (Z : State) (a0 : Array Value) (hw : ∀ d ∈ tables_1, d.before a0 Z = true) (b : Addr) (j L w cv : Int32) (vs : List Value) (fm : Value) (h0 : Heap) (n0 : Nat) (Z0 : n0 ≤ h0.size) (V_b : own_Ar Z h0 b .byte vs) (hL : vs.length.toInt32 = L) (h1 : ¬ j < (0 : Int32)) (h2 : j < L) (hv : vs[j.toNatClampNeg]? = some (.int w)) (hc : (w &&& (255 : Int32)).toUInt32.toUInt16.toUInt32.toInt32 = cv) (hnc : narrow .char (.int cv) = .int cv) (hfm : fm.isRef = true) (S_fm : Sta Z h0 "jdk/internal/util/Preconditions" "SIOOBE_FORMATTER" "Ljava/util/function/BiFunction;" fm) :
    own_M l Z (⟨"java/lang/StringLatin1", "charAt", "([BI)C"⟩ : MethodName) jdk_43_method_2_code 2 (some .char) [] (⟨2, 0, 0, 27⟩ : Room) #[(.ref b), (.int j)] h0 n0 (fun v h => v = some (.int cv) ∧ h0 = h) := by
  refine own_M.of pl2 ?_
  intro p e s m below meth c S0 hx hby hml hown hnm hret hlk hZ A00
  have H : own_H p c _ := ⟨hx, hby⟩
  have A0 := A00.cast (f' := mkF m 0 #[.val (.ref b), .val (.int j)] []) (by first | (simp [entryFrame, mkF, argsToLocals, Value.category, maxLocals]; done) | rfl)
  have A2 := A0.iN H dl1_0 rfl rfl |>.aN H dl1_1 rfl rfl rfl
  have A1 : own_R p l e _ _ m _ below meth c S0 n0 h0 0 0 (mkF m 3 #[.val (.ref b), .val (.int j)] [(.int vs.length.toInt32), (.int j)]) := A2.len hx hZ (hb hby dl1_2) V_b
  rw [hL] at A1
  obtain ⟨vA3, hA3, ⟨rfl, rfl⟩, A3⟩ := A1.cS (own_sci l Z a0 hw j L fm h0 n0 Z0 h1 h2 hfm S_fm) H hZ hown dl1_3 (oW hw 179 rfl) (kS1 hw) hml rfl rfl [] rfl rfl
  have A4 := A3.c0 |>.aN H dl1_6 rfl rfl rfl |>.iN H dl1_7 rfl rfl
  have A5 := A4.ldB hx hZ (hb hby dl1_8) V_b h1 hv
  have A6 := A5.sp H dl1_9 rfl 255 rfl |>.nd H dl1_12 rfl _ rfl |>.ch H dl1_13 rfl _ rfl
  rw [hc] at A6
  exact A6.ret hx hlk hret (hb hby dl1_14) hnc (Or.inl ⟨rfl, by simp, _, rfl⟩) (by decide) (by decide) ⟨rfl, rfl⟩
theorem dul_0 : decode jdk_52_method_6_code 0 = .ok (.aload_n 0, 1) := by decide +kernel
theorem dul_1 : decode jdk_52_method_6_code 1 = .ok (.arraylength, 1) := by decide +kernel
theorem dul_2 : decode jdk_52_method_6_code 2 = .ok (.iconst 1, 1) := by decide +kernel
theorem dul_3 : decode jdk_52_method_6_code 3 = .ok (.ishr, 1) := by decide +kernel
theorem dul_4 : decode jdk_52_method_6_code 4 = .ok (.ireturn, 1) := by decide +kernel
theorem own_ulen (l : Launch) (Z : State) (a0 : Array Value) (hw : ∀ d ∈ tables_1, d.before a0 Z = true) (b : Addr) (N : Int32) (vs : List Value) (h0 : Heap) (n0 : Nat) (Z0 : n0 ≤ h0.size) (V_b : own_Ar Z h0 b .byte vs) (hN : vs.length.toInt32 >>> ((1 : Int32) &&& 31) = N) :
    own_M l Z (⟨"java/lang/StringUTF16", "length", "([B)I"⟩ : MethodName) jdk_52_method_6_code 1 (some .int) [] (⟨0, 0, 0, 0⟩ : Room) #[(.ref b)] h0 n0 (fun v h => v = some (.int N) ∧ h0 = h) := by
  refine own_M.of pl3 ?_
  intro p e s m below meth c S0 hx hby hml hown hnm hret hlk hZ A00
  have H : own_H p c _ := ⟨hx, hby⟩
  have A0 := A00.cast (f' := mkF m 0 #[.val (.ref b)] []) (by first | (simp [entryFrame, mkF, argsToLocals, Value.category, maxLocals]; done) | rfl)
  have A2 := A0.aN H dul_0 rfl rfl rfl
  have A1 : own_R p l e _ _ m _ below meth c S0 n0 h0 0 0 (mkF m 2 #[.val (.ref b)] [(.int vs.length.toInt32)]) := A2.len hx hZ (hb hby dul_1) V_b
  have A3 := A1.ic H dul_2 rfl 1 rfl |>.sr H dul_3 rfl _ rfl
  rw [hN] at A3
  exact A3.ret hx hlk hret (hb hby dul_4) rfl (Or.inl ⟨rfl, by simp, _, rfl⟩) (by decide) (by decide) ⟨rfl, rfl⟩
theorem duk_0 : decode jdk_52_method_91_code 0 = .ok (.iload_n 0, 1) := by decide +kernel
theorem duk_1 : decode jdk_52_method_91_code 1 = .ok (.aload_n 1, 1) := by decide +kernel
theorem duk_2 : decode jdk_52_method_91_code 2 = .ok (.invokestatic 48, 3) := by decide +kernel
theorem duk_5 : decode jdk_52_method_91_code 5 = .ok (.invokestatic 414, 3) := by decide +kernel
theorem duk_8 : decode jdk_52_method_91_code 8 = .ok (.return_, 1) := by decide +kernel
theorem own_uci (l : Launch) (Z : State) (a0 : Array Value) (hw : ∀ d ∈ tables_1, d.before a0 Z = true) (b : Addr) (j N : Int32) (vs : List Value) (fm : Value) (h0 : Heap) (n0 : Nat) (Z0 : n0 ≤ h0.size) (V_b : own_Ar Z h0 b .byte vs) (hN : vs.length.toInt32 >>> ((1 : Int32) &&& 31) = N) (h1 : ¬ j < (0 : Int32)) (h2 : j < N) (hfm : fm.isRef = true) (S_fm : Sta Z h0 "jdk/internal/util/Preconditions" "SIOOBE_FORMATTER" "Ljava/util/function/BiFunction;" fm) :
    own_M l Z (⟨"java/lang/StringUTF16", "checkIndex", "(I[B)V"⟩ : MethodName) jdk_52_method_91_code 2 none [] (⟨2, 0, 0, 27⟩ : Room) #[(.int j), (.ref b)] h0 n0 (fun v h => v = none ∧ h0 = h) := by
  refine own_M.of pl4 ?_
  intro p e s m below meth c S0 hx hby hml hown hnm hret hlk hZ A00
  have H : own_H p c _ := ⟨hx, hby⟩
  have A0 := A00.cast (f' := mkF m 0 #[.val (.int j), .val (.ref b)] []) (by first | (simp [entryFrame, mkF, argsToLocals, Value.category, maxLocals]; done) | rfl)
  have A2 := A0.iN H duk_0 rfl rfl |>.aN H duk_1 rfl rfl rfl
  obtain ⟨vA1, hA1, ⟨rfl, rfl⟩, A1⟩ := A2.cS (own_ulen l Z a0 hw b N vs h0 n0 Z0 V_b hN) H hZ hown duk_2 (oW hw 229 rfl) (kS2 hw) hml rfl rfl [(.int j)] rfl rfl
  have A4 := A1.cl
  obtain ⟨vA3, hA3, ⟨rfl, rfl⟩, A3⟩ := A4.cS (own_sci l Z a0 hw j N fm h0 n0 Z0 h1 h2 hfm S_fm) H hZ hown duk_5 (oW hw 232 rfl) (kS1 hw) hml rfl rfl [] rfl rfl
  have A5 := A3.c0
  exact A5.retV hx hlk hret (hb hby duk_8) (by decide) (by decide) ⟨rfl, rfl⟩
theorem dug_0 : decode jdk_52_method_5_code 0 = .ok (.getstatic 44, 3) := by decide +kernel
theorem dug_3 : decode jdk_52_method_5_code 3 = .ok (.ifCond .ne 25, 3) := by decide +kernel
theorem dug_28 : decode jdk_52_method_5_code 28 = .ok (.iload_n 1, 1) := by decide +kernel
theorem dug_29 : decode jdk_52_method_5_code 29 = .ok (.iconst 1, 1) := by decide +kernel
theorem dug_30 : decode jdk_52_method_5_code 30 = .ok (.ishl, 1) := by decide +kernel
theorem dug_31 : decode jdk_52_method_5_code 31 = .ok (.istore_n 1, 1) := by decide +kernel
theorem dug_32 : decode jdk_52_method_5_code 32 = .ok (.aload_n 0, 1) := by decide +kernel
theorem dug_33 : decode jdk_52_method_5_code 33 = .ok (.iload_n 1, 1) := by decide +kernel
theorem dug_34 : decode jdk_52_method_5_code 34 = .ok (.iinc 1 1, 3) := by decide +kernel
theorem dug_37 : decode jdk_52_method_5_code 37 = .ok (.baload, 1) := by decide +kernel
theorem dug_38 : decode jdk_52_method_5_code 38 = .ok (.sipush 255, 3) := by decide +kernel
theorem dug_41 : decode jdk_52_method_5_code 41 = .ok (.iand, 1) := by decide +kernel
theorem dug_42 : decode jdk_52_method_5_code 42 = .ok (.getstatic 59, 3) := by decide +kernel
theorem dug_45 : decode jdk_52_method_5_code 45 = .ok (.ishl, 1) := by decide +kernel
theorem dug_46 : decode jdk_52_method_5_code 46 = .ok (.aload_n 0, 1) := by decide +kernel
theorem dug_47 : decode jdk_52_method_5_code 47 = .ok (.iload_n 1, 1) := by decide +kernel
theorem dug_48 : decode jdk_52_method_5_code 48 = .ok (.baload, 1) := by decide +kernel
theorem dug_49 : decode jdk_52_method_5_code 49 = .ok (.sipush 255, 3) := by decide +kernel
theorem dug_52 : decode jdk_52_method_5_code 52 = .ok (.iand, 1) := by decide +kernel
theorem dug_53 : decode jdk_52_method_5_code 53 = .ok (.getstatic 63, 3) := by decide +kernel
theorem dug_56 : decode jdk_52_method_5_code 56 = .ok (.ishl, 1) := by decide +kernel
theorem dug_57 : decode jdk_52_method_5_code 57 = .ok (.ior, 1) := by decide +kernel
theorem dug_58 : decode jdk_52_method_5_code 58 = .ok (.i2c, 1) := by decide +kernel
theorem dug_59 : decode jdk_52_method_5_code 59 = .ok (.ireturn, 1) := by decide +kernel
theorem own_ugc (l : Launch) (Z : State) (a0 : Array Value) (hw : ∀ d ∈ tables_1, d.before a0 Z = true) (b : Addr) (j w0 w1 cv : Int32) (vs : List Value) (h0 : Heap) (n0 : Nat) (Z0 : n0 ≤ h0.size) (V_b : own_Ar Z h0 b .byte vs) (h20 : ¬ (j <<< ((1 : Int32) &&& 31)) < (0 : Int32)) (hv0 : vs[(j <<< ((1 : Int32) &&& 31)).toNatClampNeg]? = some (.int w0)) (h21 : ¬ (j <<< ((1 : Int32) &&& 31)) + (1 : Int32) < (0 : Int32)) (hv1 : vs[((j <<< ((1 : Int32) &&& 31)) + (1 : Int32)).toNatClampNeg]? = some (.int w1)) (hc : ((w0 &&& (255 : Int32)) <<< ((0 : Int32) &&& 31) ||| (w1 &&& (255 : Int32)) <<< ((8 : Int32) &&& 31)).toUInt32.toUInt16.toUInt32.toInt32 = cv) (hnc : narrow .char (.int cv) = .int cv) (S_ad : Sta Z h0 "java/lang/StringUTF16" "$assertionsDisabled" "Z" (.int 1)) (S_hi : Sta Z h0 "java/lang/StringUTF16" "HI_BYTE_SHIFT" "I" (.int 0)) (S_lo : Sta Z h0 "java/lang/StringUTF16" "LO_BYTE_SHIFT" "I" (.int 8)) :
    own_M l Z (⟨"java/lang/StringUTF16", "getChar", "([BI)C"⟩ : MethodName) jdk_52_method_5_code 2 (some .char) [] (⟨0, 0, 0, 0⟩ : Room) #[(.ref b), (.int j)] h0 n0 (fun v h => v = some (.int cv) ∧ h0 = h) := by
  refine own_M.of pl5 ?_
  intro p e s m below meth c S0 hx hby hml hown hnm hret hlk hZ A00
  have H : own_H p c _ := ⟨hx, hby⟩
  have A0 := A00.cast (f' := mkF m 0 #[.val (.ref b), .val (.int j)] []) (by first | (simp [entryFrame, mkF, argsToLocals, Value.category, maxLocals]; done) | rfl)
  have A1 := A0.getS hx hZ hown (hb hby dug_0) (oW hw 217 rfl) Via.refl S_ad
  have A2 := A1.fy H dug_3 rfl rfl 28 (by decide) (by decide) |>.iN H dug_28 rfl rfl |>.ic H dug_29 rfl 1 rfl |>.lS H dug_30 rfl _ rfl |>.iM H dug_31 rfl #[.val (.ref b), .val (.int (j <<< ((1 : Int32) &&& 31)))] rfl |>.aN H dug_32 rfl rfl rfl |>.iN H dug_33 rfl rfl |>.ii H dug_34 rfl rfl #[.val (.ref b), .val (.int ((j <<< ((1 : Int32) &&& 31)) + (1 : Int32)))] rfl
  have A3 := A2.ldB hx hZ (hb hby dug_37) V_b h20 hv0
  have A4 := A3.sp H dug_38 rfl 255 rfl |>.nd H dug_41 rfl _ rfl
  have A5 := A4.getS hx hZ hown (hb hby dug_42) (oW hw 218 rfl) Via.refl S_hi
  have A6 := A5.lS H dug_45 rfl _ rfl |>.aN H dug_46 rfl rfl rfl |>.iN H dug_47 rfl rfl
  have A7 := A6.ldB hx hZ (hb hby dug_48) V_b h21 hv1
  have A8 := A7.sp H dug_49 rfl 255 rfl |>.nd H dug_52 rfl _ rfl
  have A9 := A8.getS hx hZ hown (hb hby dug_53) (oW hw 219 rfl) Via.refl S_lo
  have A10 := A9.lS H dug_56 rfl _ rfl |>.ro H dug_57 rfl _ rfl |>.ch H dug_58 rfl _ rfl
  rw [hc] at A10
  exact A10.ret hx hlk hret (hb hby dug_59) hnc (Or.inl ⟨rfl, by simp, _, rfl⟩) (by decide) (by decide) ⟨rfl, rfl⟩
theorem duc_0 : decode jdk_52_method_83_code 0 = .ok (.iload_n 1, 1) := by decide +kernel
theorem duc_1 : decode jdk_52_method_83_code 1 = .ok (.aload_n 0, 1) := by decide +kernel
theorem duc_2 : decode jdk_52_method_83_code 2 = .ok (.invokestatic 67, 3) := by decide +kernel
theorem duc_5 : decode jdk_52_method_83_code 5 = .ok (.aload_n 0, 1) := by decide +kernel
theorem duc_6 : decode jdk_52_method_83_code 6 = .ok (.iload_n 1, 1) := by decide +kernel
theorem duc_7 : decode jdk_52_method_83_code 7 = .ok (.invokestatic 71, 3) := by decide +kernel
theorem duc_10 : decode jdk_52_method_83_code 10 = .ok (.ireturn, 1) := by decide +kernel
theorem own_ucc (l : Launch) (Z : State) (a0 : Array Value) (hw : ∀ d ∈ tables_1, d.before a0 Z = true) (b : Addr) (j N w0 w1 cv : Int32) (vs : List Value) (fm : Value) (h0 : Heap) (n0 : Nat) (Z0 : n0 ≤ h0.size) (V_b : own_Ar Z h0 b .byte vs) (hN : vs.length.toInt32 >>> ((1 : Int32) &&& 31) = N) (h1 : ¬ j < (0 : Int32)) (h2 : j < N) (h20 : ¬ (j <<< ((1 : Int32) &&& 31)) < (0 : Int32)) (hv0 : vs[(j <<< ((1 : Int32) &&& 31)).toNatClampNeg]? = some (.int w0)) (h21 : ¬ (j <<< ((1 : Int32) &&& 31)) + (1 : Int32) < (0 : Int32)) (hv1 : vs[((j <<< ((1 : Int32) &&& 31)) + (1 : Int32)).toNatClampNeg]? = some (.int w1)) (hc : ((w0 &&& (255 : Int32)) <<< ((0 : Int32) &&& 31) ||| (w1 &&& (255 : Int32)) <<< ((8 : Int32) &&& 31)).toUInt32.toUInt16.toUInt32.toInt32 = cv) (hnc : narrow .char (.int cv) = .int cv) (hfm : fm.isRef = true) (S_fm : Sta Z h0 "jdk/internal/util/Preconditions" "SIOOBE_FORMATTER" "Ljava/util/function/BiFunction;" fm) (S_ad : Sta Z h0 "java/lang/StringUTF16" "$assertionsDisabled" "Z" (.int 1)) (S_hi : Sta Z h0 "java/lang/StringUTF16" "HI_BYTE_SHIFT" "I" (.int 0)) (S_lo : Sta Z h0 "java/lang/StringUTF16" "LO_BYTE_SHIFT" "I" (.int 8)) :
    own_M l Z (⟨"java/lang/StringUTF16", "charAt", "([BI)C"⟩ : MethodName) jdk_52_method_83_code 2 (some .char) [] (⟨3, 0, 0, 40⟩ : Room) #[(.ref b), (.int j)] h0 n0 (fun v h => v = some (.int cv) ∧ h0 = h) := by
  refine own_M.of pl6 ?_
  intro p e s m below meth c S0 hx hby hml hown hnm hret hlk hZ A00
  have H : own_H p c _ := ⟨hx, hby⟩
  have A0 := A00.cast (f' := mkF m 0 #[.val (.ref b), .val (.int j)] []) (by first | (simp [entryFrame, mkF, argsToLocals, Value.category, maxLocals]; done) | rfl)
  have A2 := A0.iN H duc_0 rfl rfl |>.aN H duc_1 rfl rfl rfl
  obtain ⟨vA1, hA1, ⟨rfl, rfl⟩, A1⟩ := A2.cS (own_uci l Z a0 hw b j N vs fm h0 n0 Z0 V_b hN h1 h2 hfm S_fm) H hZ hown duc_2 (oW hw 226 rfl) (kS3 hw) hml rfl rfl [] rfl rfl
  have A4 := A1.c0 |>.aN H duc_5 rfl rfl rfl |>.iN H duc_6 rfl rfl
  obtain ⟨vA3, hA3, ⟨rfl, rfl⟩, A3⟩ := A4.cS (own_ugc l Z a0 hw b j w0 w1 cv vs h0 n0 Z0 V_b h20 hv0 h21 hv1 hc hnc S_ad S_hi S_lo) H hZ hown duc_7 (oW hw 220 rfl) (kS4 hw) hml rfl rfl [] rfl rfl
  have A5 := A3.cl
  exact A5.ret hx hlk hret (hb hby duc_10) hnc (Or.inl ⟨rfl, by simp, _, rfl⟩) (by decide) (by decide) ⟨rfl, rfl⟩
theorem dil_0 : decode jdk_42_method_154_code 0 = .ok (.getstatic 38, 3) := by decide +kernel
theorem dil_3 : decode jdk_42_method_154_code 3 = .ok (.ifCond .eq 14, 3) := by decide +kernel
theorem dil_6 : decode jdk_42_method_154_code 6 = .ok (.aload_n 0, 1) := by decide +kernel
theorem dil_7 : decode jdk_42_method_154_code 7 = .ok (.getfield 15, 3) := by decide +kernel
theorem dil_10 : decode jdk_42_method_154_code 10 = .ok (.ifCond .ne 7, 3) := by decide +kernel
theorem dil_13 : decode jdk_42_method_154_code 13 = .ok (.iconst 1, 1) := by decide +kernel
theorem dil_14 : decode jdk_42_method_154_code 14 = .ok (.goto 4, 3) := by decide +kernel
theorem dil_18 : decode jdk_42_method_154_code 18 = .ok (.ireturn, 1) := by decide +kernel
theorem own_isl0 (l : Launch) (Z : State) (a0 : Array Value) (hw : ∀ d ∈ tables_1, d.before a0 Z = true) (a : Addr) (cs : Int32) (h0 : Heap) (n0 : Nat) (Z0 : n0 ≤ h0.size) (S_cs : Sta Z h0 "java/lang/String" "COMPACT_STRINGS" "Z" (.int cs)) (hcs : ¬ (cs = (0 : Int32))) (F_a_coder : Fld Z h0 a "java/lang/String" "coder" "B" (.int 0)) :
    own_M l Z (⟨"java/lang/String", "isLatin1", "()Z"⟩ : MethodName) jdk_42_method_154_code 1 (some .boolean) [] (⟨0, 0, 0, 0⟩ : Room) #[(.ref a)] h0 n0 (fun v h => v = some (.int 1) ∧ h0 = h) := by
  refine own_M.of pl7 ?_
  intro p e s m below meth c S0 hx hby hml hown hnm hret hlk hZ A00
  have H : own_H p c _ := ⟨hx, hby⟩
  have A0 := A00.cast (f' := mkF m 0 #[.val (.ref a)] []) (by first | (simp [entryFrame, mkF, argsToLocals, Value.category, maxLocals]; done) | rfl)
  have A1 := A0.getS hx hZ hown (hb hby dil_0) (oW hw 55 rfl) Via.refl S_cs
  have A2 := A1.fn H dil_3 rfl ((if0 _ _).trans (feq hcs).1) |>.aN H dil_6 rfl rfl rfl
  have A3 := A2.getF hx hZ hown (hb hby dil_7) (oW hw 26 rfl) Via.refl F_a_coder
  have A4 := A3.fn H dil_10 rfl rfl |>.ic H dil_13 rfl 1 rfl |>.gt H dil_14 rfl 18 (by decide) (by decide)
  exact A4.ret hx hlk hret (hb hby dil_18) rfl (Or.inl ⟨rfl, by simp, _, rfl⟩) (by decide) (by decide) ⟨rfl, rfl⟩
theorem dil_17 : decode jdk_42_method_154_code 17 = .ok (.iconst 0, 1) := by decide +kernel
theorem own_isl1 (l : Launch) (Z : State) (a0 : Array Value) (hw : ∀ d ∈ tables_1, d.before a0 Z = true) (a : Addr) (cs : Int32) (h0 : Heap) (n0 : Nat) (Z0 : n0 ≤ h0.size) (S_cs : Sta Z h0 "java/lang/String" "COMPACT_STRINGS" "Z" (.int cs)) (hcs : ¬ (cs = (0 : Int32))) (F_a_coder : Fld Z h0 a "java/lang/String" "coder" "B" (.int 1)) :
    own_M l Z (⟨"java/lang/String", "isLatin1", "()Z"⟩ : MethodName) jdk_42_method_154_code 1 (some .boolean) [] (⟨0, 0, 0, 0⟩ : Room) #[(.ref a)] h0 n0 (fun v h => v = some (.int 0) ∧ h0 = h) := by
  refine own_M.of pl7 ?_
  intro p e s m below meth c S0 hx hby hml hown hnm hret hlk hZ A00
  have H : own_H p c _ := ⟨hx, hby⟩
  have A0 := A00.cast (f' := mkF m 0 #[.val (.ref a)] []) (by first | (simp [entryFrame, mkF, argsToLocals, Value.category, maxLocals]; done) | rfl)
  have A1 := A0.getS hx hZ hown (hb hby dil_0) (oW hw 55 rfl) Via.refl S_cs
  have A2 := A1.fn H dil_3 rfl ((if0 _ _).trans (feq hcs).1) |>.aN H dil_6 rfl rfl rfl
  have A3 := A2.getF hx hZ hown (hb hby dil_7) (oW hw 26 rfl) Via.refl F_a_coder
  have A4 := A3.fy H dil_10 rfl rfl 17 (by decide) (by decide) |>.ic H dil_17 rfl 0 rfl
  exact A4.ret hx hlk hret (hb hby dil_18) rfl (Or.inl ⟨rfl, by simp, _, rfl⟩) (by decide) (by decide) ⟨rfl, rfl⟩
theorem dco_0 : decode jdk_42_method_152_code 0 = .ok (.getstatic 38, 3) := by decide +kernel
theorem dco_3 : decode jdk_42_method_152_code 3 = .ok (.ifCond .eq 10, 3) := by decide +kernel
theorem dco_6 : decode jdk_42_method_152_code 6 = .ok (.aload_n 0, 1) := by decide +kernel
theorem dco_7 : decode jdk_42_method_152_code 7 = .ok (.getfield 15, 3) := by decide +kernel
theorem dco_10 : decode jdk_42_method_152_code 10 = .ok (.goto 4, 3) := by decide +kernel
theorem dco_14 : decode jdk_42_method_152_code 14 = .ok (.ireturn, 1) := by decide +kernel
theorem own_coder (l : Launch) (Z : State) (a0 : Array Value) (hw : ∀ d ∈ tables_1, d.before a0 Z = true) (a : Addr) (cs k : Int32) (h0 : Heap) (n0 : Nat) (Z0 : n0 ≤ h0.size) (S_cs : Sta Z h0 "java/lang/String" "COMPACT_STRINGS" "Z" (.int cs)) (hcs : ¬ (cs = (0 : Int32))) (F_a_coder : Fld Z h0 a "java/lang/String" "coder" "B" (.int k)) (hnk : narrow .byte (.int k) = .int k) :
    own_M l Z (⟨"java/lang/String", "coder", "()B"⟩ : MethodName) jdk_42_method_152_code 1 (some .byte) [] (⟨0, 0, 0, 0⟩ : Room) #[(.ref a)] h0 n0 (fun v h => v = some (.int k) ∧ h0 = h) := by
  refine own_M.of pl8 ?_
  intro p e s m below meth c S0 hx hby hml hown hnm hret hlk hZ A00
  have H : own_H p c _ := ⟨hx, hby⟩
  have A0 := A00.cast (f' := mkF m 0 #[.val (.ref a)] []) (by first | (simp [entryFrame, mkF, argsToLocals, Value.category, maxLocals]; done) | rfl)
  have A1 := A0.getS hx hZ hown (hb hby dco_0) (oW hw 55 rfl) Via.refl S_cs
  have A2 := A1.fn H dco_3 rfl ((if0 _ _).trans (feq hcs).1) |>.aN H dco_6 rfl rfl rfl
  have A3 := A2.getF hx hZ hown (hb hby dco_7) (oW hw 26 rfl) Via.refl F_a_coder
  have A4 := A3.gt H dco_10 rfl 14 (by decide) (by decide)
  exact A4.ret hx hlk hret (hb hby dco_14) hnk (Or.inl ⟨rfl, by simp, _, rfl⟩) (by decide) (by decide) ⟨rfl, rfl⟩
theorem dle_0 : decode jdk_42_method_54_code 0 = .ok (.aload_n 0, 1) := by decide +kernel
theorem dle_1 : decode jdk_42_method_54_code 1 = .ok (.getfield 9, 3) := by decide +kernel
theorem dle_4 : decode jdk_42_method_54_code 4 = .ok (.arraylength, 1) := by decide +kernel
theorem dle_5 : decode jdk_42_method_54_code 5 = .ok (.aload_n 0, 1) := by decide +kernel
theorem dle_6 : decode jdk_42_method_54_code 6 = .ok (.invokevirtual 335, 3) := by decide +kernel
theorem dle_9 : decode jdk_42_method_54_code 9 = .ok (.ishr, 1) := by decide +kernel
theorem dle_10 : decode jdk_42_method_54_code 10 = .ok (.ireturn, 1) := by decide +kernel
theorem own_slen (l : Launch) (Z : State) (a0 : Array Value) (hw : ∀ d ∈ tables_1, d.before a0 Z = true) (a b : Addr) (cs k N : Int32) (vs : List Value) (h0 : Heap) (n0 : Nat) (Z0 : n0 ≤ h0.size) (S_cs : Sta Z h0 "java/lang/String" "COMPACT_STRINGS" "Z" (.int cs)) (hcs : ¬ (cs = (0 : Int32))) (E_a : Exa Z h0 a "java/lang/String") (F_a_coder : Fld Z h0 a "java/lang/String" "coder" "B" (.int k)) (F_a_value : Fld Z h0 a "java/lang/String" "value" "[B" (.ref b)) (V_b : own_Ar Z h0 b .byte vs) (hnk : narrow .byte (.int k) = .int k) (hN : vs.length.toInt32 >>> (k &&& 31) = N) :
    own_M l Z (⟨"java/lang/String", "length", "()I"⟩ : MethodName) jdk_42_method_54_code 1 (some .int) [] (⟨1, 0, 0, 13⟩ : Room) #[(.ref a)] h0 n0 (fun v h => v = some (.int N) ∧ h0 = h) := by
  refine own_M.of pl9 ?_
  intro p e s m below meth c S0 hx hby hml hown hnm hret hlk hZ A00
  have H : own_H p c _ := ⟨hx, hby⟩
  have A0 := A00.cast (f' := mkF m 0 #[.val (.ref a)] []) (by first | (simp [entryFrame, mkF, argsToLocals, Value.category, maxLocals]; done) | rfl)
  have A1 := A0.aN H dle_0 rfl rfl rfl
  have A2 := A1.getF hx hZ hown (hb hby dle_1) (oW hw 25 rfl) Via.refl F_a_value
  have A3 : own_R p l e _ _ m _ below meth c S0 n0 h0 0 0 (mkF m 5 #[.val (.ref a)] [(.int vs.length.toInt32)]) := A2.len hx hZ (hb hby dle_4) V_b
  have A5 := A3.aN H dle_5 rfl rfl rfl
  obtain ⟨vA4, hA4, ⟨rfl, rfl⟩, A4⟩ := A5.cV (own_coder l Z a0 hw a cs k h0 n0 Z0 S_cs hcs F_a_coder hnk) E_a H hZ hown dle_6 (oW hw 50 rfl) (kV5 hw) hml rfl rfl [(.int vs.length.toInt32)] rfl rfl
  have A6 := A4.cl |>.sr H dle_9 rfl _ rfl
  rw [hN] at A6
  exact A6.ret hx hlk hret (hb hby dle_10) rfl (Or.inl ⟨rfl, by simp, _, rfl⟩) (by decide) (by decide) ⟨rfl, rfl⟩
theorem dca0_0 : decode jdk_42_method_56_code 0 = .ok (.aload_n 0, 1) := by decide +kernel
theorem dca0_1 : decode jdk_42_method_56_code 1 = .ok (.invokevirtual 492, 3) := by decide +kernel
theorem dca0_4 : decode jdk_42_method_56_code 4 = .ok (.ifCond .eq 12, 3) := by decide +kernel
theorem dca0_7 : decode jdk_42_method_56_code 7 = .ok (.aload_n 0, 1) := by decide +kernel
theorem dca0_8 : decode jdk_42_method_56_code 8 = .ok (.getfield 9, 3) := by decide +kernel
theorem dca0_11 : decode jdk_42_method_56_code 11 = .ok (.iload_n 1, 1) := by decide +kernel
theorem dca0_12 : decode jdk_42_method_56_code 12 = .ok (.invokestatic 495, 3) := by decide +kernel
theorem dca0_15 : decode jdk_42_method_56_code 15 = .ok (.ireturn, 1) := by decide +kernel
theorem own_ca0 (l : Launch) (Z : State) (a0 : Array Value) (hw : ∀ d ∈ tables_1, d.before a0 Z = true) (a b : Addr) (cs j cv : Int32) (L w : Int32) (vs : List Value) (fm : Value) (h0 : Heap) (n0 : Nat) (Z0 : n0 ≤ h0.size) (S_cs : Sta Z h0 "java/lang/String" "COMPACT_STRINGS" "Z" (.int cs)) (hcs : ¬ (cs = (0 : Int32))) (E_a : Exa Z h0 a "java/lang/String") (F_a_coder : Fld Z h0 a "java/lang/String" "coder" "B" (.int 0)) (F_a_value : Fld Z h0 a "java/lang/String" "value" "[B" (.ref b)) (V_b : own_Ar Z h0 b .byte vs) (hL : vs.length.toInt32 = L) (h1 : ¬ j < (0 : Int32)) (h2 : j < L) (hv : vs[j.toNatClampNeg]? = some (.int w)) (hc : (w &&& (255 : Int32)).toUInt32.toUInt16.toUInt32.toInt32 = cv) (hnc : narrow .char (.int cv) = .int cv) (hfm : fm.isRef = true) (S_fm : Sta Z h0 "jdk/internal/util/Preconditions" "SIOOBE_FORMATTER" "Ljava/util/function/BiFunction;" fm) :
    own_M l Z (⟨"java/lang/String", "charAt", "(I)C"⟩ : MethodName) jdk_42_method_56_code 2 (some .char) [] (⟨4, 0, 0, 53⟩ : Room) #[(.ref a), (.int j)] h0 n0 (fun v h => v = some (.int cv) ∧ h0 = h) := by
  refine own_M.of pl10 ?_
  intro p e s m below meth c S0 hx hby hml hown hnm hret hlk hZ A00
  have H : own_H p c _ := ⟨hx, hby⟩
  have A0 := A00.cast (f' := mkF m 0 #[.val (.ref a), .val (.int j)] []) (by first | (simp [entryFrame, mkF, argsToLocals, Value.category, maxLocals]; done) | rfl)
  have A2 := A0.aN H dca0_0 rfl rfl rfl
  obtain ⟨vA1, hA1, ⟨rfl, rfl⟩, A1⟩ := A2.cV (own_isl0 l Z a0 hw a cs h0 n0 Z0 S_cs hcs F_a_coder) E_a H hZ hown dca0_1 (oW hw 171 rfl) (kV6 hw) hml rfl rfl [] rfl rfl
  have A3 := A1.cl |>.fn H dca0_4 rfl rfl |>.aN H dca0_7 rfl rfl rfl
  have A4 := A3.getF hx hZ hown (hb hby dca0_8) (oW hw 25 rfl) Via.refl F_a_value
  have A6 := A4.iN H dca0_11 rfl rfl
  obtain ⟨vA5, hA5, ⟨rfl, rfl⟩, A5⟩ := A6.cS (own_l1c l Z a0 hw b j L w cv vs fm h0 n0 Z0 V_b hL h1 h2 hv hc hnc hfm S_fm) H hZ hown dca0_12 (oW hw 176 rfl) (kS7 hw) hml rfl rfl [] rfl rfl
  have A7 := A5.cl
  exact A7.ret hx hlk hret (hb hby dca0_15) hnc (Or.inl ⟨rfl, by simp, _, rfl⟩) (by decide) (by decide) ⟨rfl, rfl⟩

theorem dca1_0 : decode jdk_42_method_56_code 0 = .ok (.aload_n 0, 1) := by decide +kernel
theorem dca1_1 : decode jdk_42_method_56_code 1 = .ok (.invokevirtual 492, 3) := by decide +kernel
theorem dca1_4 : decode jdk_42_method_56_code 4 = .ok (.ifCond .eq 12, 3) := by decide +kernel
theorem dca1_16 : decode jdk_42_method_56_code 16 = .ok (.aload_n 0, 1) := by decide +kernel
theorem dca1_17 : decode jdk_42_method_56_code 17 = .ok (.getfield 9, 3) := by decide +kernel
theorem dca1_20 : decode jdk_42_method_56_code 20 = .ok (.iload_n 1, 1) := by decide +kernel
theorem dca1_21 : decode jdk_42_method_56_code 21 = .ok (.invokestatic 498, 3) := by decide +kernel
theorem dca1_24 : decode jdk_42_method_56_code 24 = .ok (.ireturn, 1) := by decide +kernel
theorem own_ca1 (l : Launch) (Z : State) (a0 : Array Value) (hw : ∀ d ∈ tables_1, d.before a0 Z = true) (a b : Addr) (cs j cv : Int32) (N w0 w1 : Int32) (vs : List Value) (fm : Value) (h0 : Heap) (n0 : Nat) (Z0 : n0 ≤ h0.size) (S_cs : Sta Z h0 "java/lang/String" "COMPACT_STRINGS" "Z" (.int cs)) (hcs : ¬ (cs = (0 : Int32))) (E_a : Exa Z h0 a "java/lang/String") (F_a_coder : Fld Z h0 a "java/lang/String" "coder" "B" (.int 1)) (F_a_value : Fld Z h0 a "java/lang/String" "value" "[B" (.ref b)) (V_b : own_Ar Z h0 b .byte vs) (hN : vs.length.toInt32 >>> ((1 : Int32) &&& 31) = N) (h1 : ¬ j < (0 : Int32)) (h2 : j < N) (h20 : ¬ (j <<< ((1 : Int32) &&& 31)) < (0 : Int32)) (hv0 : vs[(j <<< ((1 : Int32) &&& 31)).toNatClampNeg]? = some (.int w0)) (h21 : ¬ (j <<< ((1 : Int32) &&& 31)) + (1 : Int32) < (0 : Int32)) (hv1 : vs[((j <<< ((1 : Int32) &&& 31)) + (1 : Int32)).toNatClampNeg]? = some (.int w1)) (hc : ((w0 &&& (255 : Int32)) <<< ((0 : Int32) &&& 31) ||| (w1 &&& (255 : Int32)) <<< ((8 : Int32) &&& 31)).toUInt32.toUInt16.toUInt32.toInt32 = cv) (hnc : narrow .char (.int cv) = .int cv) (hfm : fm.isRef = true) (S_fm : Sta Z h0 "jdk/internal/util/Preconditions" "SIOOBE_FORMATTER" "Ljava/util/function/BiFunction;" fm) (S_ad : Sta Z h0 "java/lang/StringUTF16" "$assertionsDisabled" "Z" (.int 1)) (S_hi : Sta Z h0 "java/lang/StringUTF16" "HI_BYTE_SHIFT" "I" (.int 0)) (S_lo : Sta Z h0 "java/lang/StringUTF16" "LO_BYTE_SHIFT" "I" (.int 8)) :
    own_M l Z (⟨"java/lang/String", "charAt", "(I)C"⟩ : MethodName) jdk_42_method_56_code 2 (some .char) [] (⟨4, 0, 0, 53⟩ : Room) #[(.ref a), (.int j)] h0 n0 (fun v h => v = some (.int cv) ∧ h0 = h) := by
  refine own_M.of pl10 ?_
  intro p e s m below meth c S0 hx hby hml hown hnm hret hlk hZ A00
  have H : own_H p c _ := ⟨hx, hby⟩
  have A0 := A00.cast (f' := mkF m 0 #[.val (.ref a), .val (.int j)] []) (by first | (simp [entryFrame, mkF, argsToLocals, Value.category, maxLocals]; done) | rfl)
  have A2 := A0.aN H dca1_0 rfl rfl rfl
  obtain ⟨vA1, hA1, ⟨rfl, rfl⟩, A1⟩ := A2.cV (own_isl1 l Z a0 hw a cs h0 n0 Z0 S_cs hcs F_a_coder) E_a H hZ hown dca1_1 (oW hw 171 rfl) (kV6 hw) hml rfl rfl [] rfl rfl
  have A3 := A1.cl |>.fy H dca1_4 rfl rfl 16 (by decide) (by decide) |>.aN H dca1_16 rfl rfl rfl
  have A4 := A3.getF hx hZ hown (hb hby dca1_17) (oW hw 25 rfl) Via.refl F_a_value
  have A6 := A4.iN H dca1_20 rfl rfl
  obtain ⟨vA5, hA5, ⟨rfl, rfl⟩, A5⟩ := A6.cS (own_ucc l Z a0 hw b j N w0 w1 cv vs fm h0 n0 Z0 V_b hN h1 h2 h20 hv0 h21 hv1 hc hnc hfm S_fm S_ad S_hi S_lo) H hZ hown dca1_21 (oW hw 223 rfl) (kS8 hw) hml rfl rfl [] rfl rfl
  have A7 := A5.cl
  exact A7.ret hx hlk hret (hb hby dca1_24) hnc (Or.inl ⟨rfl, by simp, _, rfl⟩) (by decide) (by decide) ⟨rfl, rfl⟩
theorem own_nk {k : Int32} {ch : List Int32} (hk : own_ok k ch) : narrow .byte (.int k) = .int k := by
  rcases hk with ⟨rfl, -⟩ | ⟨rfl, -⟩ <;> rfl
theorem own_len (l : Launch) (Z : State) (a0 : Array Value) (hw : ∀ d ∈ tables_1, d.before a0 Z = true) (a b : Addr) (cs k N : Int32) (ch : List Int32) (h0 : Heap) (n0 : Nat) (Z0 : n0 ≤ h0.size) (S_cs : Sta Z h0 "java/lang/String" "COMPACT_STRINGS" "Z" (.int cs)) (hcs : ¬ (cs = (0 : Int32))) (E_a : Exa Z h0 a "java/lang/String") (F_a_coder : Fld Z h0 a "java/lang/String" "coder" "B" (.int k)) (F_a_value : Fld Z h0 a "java/lang/String" "value" "[B" (.ref b)) (V_b : own_Ar Z h0 b .byte (own_by k ch)) (hk : own_ok k ch) (hn : ch.length < 64) (hN : ch.length.toInt32 = N) :
    own_M l Z (⟨"java/lang/String", "length", "()I"⟩ : MethodName) jdk_42_method_54_code 1 (some .int) [] (⟨1, 0, 0, 13⟩ : Room) #[(.ref a)] h0 n0 (fun v h => v = some (.int N) ∧ h0 = h) :=
  own_slen l Z a0 hw a b cs k N _ h0 n0 Z0 S_cs hcs E_a F_a_coder F_a_value V_b (own_nk hk) ((own_lenk hk hn).trans hN)
theorem own_ch (l : Launch) (Z : State) (a0 : Array Value) (hw : ∀ d ∈ tables_1, d.before a0 Z = true) (a b : Addr) (cs k j c : Int32) (ch : List Int32) (fm : Value) (h0 : Heap) (n0 : Nat) (Z0 : n0 ≤ h0.size) (S_cs : Sta Z h0 "java/lang/String" "COMPACT_STRINGS" "Z" (.int cs)) (hcs : ¬ (cs = (0 : Int32))) (E_a : Exa Z h0 a "java/lang/String") (F_a_coder : Fld Z h0 a "java/lang/String" "coder" "B" (.int k)) (F_a_value : Fld Z h0 a "java/lang/String" "value" "[B" (.ref b)) (V_b : own_Ar Z h0 b .byte (own_by k ch)) (hk : own_ok k ch) (hn : ch.length < 64) (hfm : fm.isRef = true) (S_fm : Sta Z h0 "jdk/internal/util/Preconditions" "SIOOBE_FORMATTER" "Ljava/util/function/BiFunction;" fm) (S_ad : Sta Z h0 "java/lang/StringUTF16" "$assertionsDisabled" "Z" (.int 1)) (S_hi : Sta Z h0 "java/lang/StringUTF16" "HI_BYTE_SHIFT" "I" (.int 0)) (S_lo : Sta Z h0 "java/lang/StringUTF16" "LO_BYTE_SHIFT" "I" (.int 8)) (h1 : ¬ j < (0 : Int32)) (hj : ch[j.toNatClampNeg]? = some c) :
    own_M l Z (⟨"java/lang/String", "charAt", "(I)C"⟩ : MethodName) jdk_42_method_56_code 2 (some .char) [] (⟨4, 0, 0, 53⟩ : Room) #[(.ref a), (.int j)] h0 n0 (fun v h => v = some (.int c) ∧ h0 = h) := by
  have hl : j.toNatClampNeg < ch.length := (List.getElem?_eq_some_iff.mp hj).1
  have hm : c ∈ ch := List.mem_of_getElem? hj
  rcases hk with ⟨rfl, hk⟩ | ⟨rfl, hk⟩
  · obtain ⟨c0, c1⟩ := hk c hm
    have c2 : ¬ (65535 : Int32) < c := by
      rw [Int32.lt_iff_toInt_lt] at c1 ⊢
      have e1 : (255 : Int32).toInt = 255 := by decide
      have e2 : (65535 : Int32).toInt = 65535 := by decide
      omega
    rw [own_by, if_pos rfl] at V_b
    exact own_ca0 l Z a0 hw a b cs j c _ c.toInt8.toInt32 _ fm h0 n0 Z0 S_cs hcs E_a F_a_coder F_a_value V_b rfl h1 (by rw [List.length_map]; exact own_jlt h1 hl hn) (by rw [List.getElem?_map, hj]; rfl) (own_cA c0 c1) (own_nc c0 c2) hfm S_fm
  · obtain ⟨c0, c1⟩ := hk c hm
    rw [own_by, if_neg (by decide)] at V_b
    have q := own_j2 h1 (by omega)
    have r := own_u16_at ch _ c hj
    exact own_ca1 l Z a0 hw a b cs j c ch.length.toInt32 _ _ _ fm h0 n0 Z0 S_cs hcs E_a F_a_coder F_a_value V_b (by rw [own_u16_len]; exact own_sh1 _ hn) h1 (own_jlt h1 hl hn) q.1 (by rw [q.2.1]; exact r.1) q.2.2.1 (by rw [q.2.2.2]; exact r.2) (own_cB c0 c1) (own_nc c0 c1) hfm S_fm S_ad S_hi S_lo
theorem dcp_0 : decode jdk_52_method_21_code 0 = .ok (.iconst 0, 1) := by decide +kernel
theorem dcp_1 : decode jdk_52_method_21_code 1 = .ok (.istore 5, 2) := by decide +kernel
theorem dcp_3 : decode jdk_52_method_21_code 3 = .ok (.iload 5, 2) := by decide +kernel
theorem dcp_5 : decode jdk_52_method_21_code 5 = .ok (.iload 4, 2) := by decide +kernel
theorem dcp_7 : decode jdk_52_method_21_code 7 = .ok (.if_icmp .ge 37, 3) := by decide +kernel
theorem dcp_10 : decode jdk_52_method_21_code 10 = .ok (.aload_n 0, 1) := by decide +kernel
theorem dcp_11 : decode jdk_52_method_21_code 11 = .ok (.iload_n 1, 1) := by decide +kernel
theorem dcp_12 : decode jdk_52_method_21_code 12 = .ok (.caload, 1) := by decide +kernel
theorem dcp_13 : decode jdk_52_method_21_code 13 = .ok (.istore 6, 2) := by decide +kernel
theorem dcp_15 : decode jdk_52_method_21_code 15 = .ok (.iload 6, 2) := by decide +kernel
theorem dcp_17 : decode jdk_52_method_21_code 17 = .ok (.sipush 255, 3) := by decide +kernel
theorem dcp_20 : decode jdk_52_method_21_code 20 = .ok (.if_icmp .le 6, 3) := by decide +kernel
theorem dcp_23 : decode jdk_52_method_21_code 23 = .ok (.iload 5, 2) := by decide +kernel
theorem dcp_25 : decode jdk_52_method_21_code 25 = .ok (.ireturn, 1) := by decide +kernel
theorem dcp_26 : decode jdk_52_method_21_code 26 = .ok (.aload_n 2, 1) := by decide +kernel
theorem dcp_27 : decode jdk_52_method_21_code 27 = .ok (.iload_n 3, 1) := by decide +kernel
theorem dcp_28 : decode jdk_52_method_21_code 28 = .ok (.iload 6, 2) := by decide +kernel
theorem dcp_30 : decode jdk_52_method_21_code 30 = .ok (.i2b, 1) := by decide +kernel
theorem dcp_31 : decode jdk_52_method_21_code 31 = .ok (.bastore, 1) := by decide +kernel
theorem dcp_32 : decode jdk_52_method_21_code 32 = .ok (.iinc 1 1, 3) := by decide +kernel
theorem dcp_35 : decode jdk_52_method_21_code 35 = .ok (.iinc 3 1, 3) := by decide +kernel
theorem dcp_38 : decode jdk_52_method_21_code 38 = .ok (.iinc 5 1, 3) := by decide +kernel
theorem dcp_41 : decode jdk_52_method_21_code 41 = .ok (.goto (-38), 3) := by decide +kernel
theorem dcp_44 : decode jdk_52_method_21_code 44 = .ok (.iload 4, 2) := by decide +kernel
theorem dcp_46 : decode jdk_52_method_21_code 46 = .ok (.ireturn, 1) := by decide +kernel
theorem own_cmp (l : Launch) (Z : State) (a0 : Array Value) (hw : ∀ d ∈ tables_1, d.before a0 Z = true) (a d : Addr) (n : Int32) (ch : List Int32) (h0 : Heap) (n0 : Nat) (Z0 : n0 ≤ h0.size) (V_a : own_Ar Z h0 a .char (ch.map Value.int)) (V_d : own_Ar Z h0 d .byte (List.replicate ch.length (Value.int (0 : Int32)))) (ne_a_d : a ≠ d) (g_d : n0 ≤ d) (hn : n = ch.length.toInt32) (hlen : ch.length < 64) (h1n : 0 < ch.length) :
    own_M l Z (⟨"java/lang/StringUTF16", "compress", "([CI[BII)I"⟩ : MethodName) jdk_52_method_21_code 7 (some .int) [] (⟨0, 0, 0, 0⟩ : Room) #[(.ref a), (.int 0), (.ref d), (.int 0), (.int n)] h0 n0 (fun v h => ∃ r : Nat, v = some (.int r.toInt32) ∧ Keep h0 h [d] ∧ ((r = ch.length ∧ (∀ c ∈ ch, ¬ (255 : Int32) < c) ∧ own_Ar Z h d .byte (ch.map own_lo)) ∨ ∃ c, ch[r]? = some c ∧ (255 : Int32) < c)) := by
  refine own_M.of pl11 ?_
  intro p e s m below meth c S0 hx hby hml hown hnm hret hlk hZ A00
  have H : own_H p c _ := ⟨hx, hby⟩
  have A0 := A00.cast (f' := mkF m 0 #[.val (.ref a), .val (.int 0), .val (.ref d), .val (.int 0), .val (.int n), .unset, .unset] []) (by first | (simp [entryFrame, mkF, argsToLocals, Value.category, maxLocals]; done) | rfl)
  have loop : ∀ (k i : Nat) (c6 : Int32) (h1 : Heap), i + k = ch.length → (∀ c ∈ ch.take i, ¬ (255 : Int32) < c) → own_Ar Z h1 d .byte ((ch.take i).map own_lo ++ List.replicate (ch.length - i) (Value.int (0 : Int32))) → own_Ar Z h1 a .char (ch.map Value.int) → Keep h0 h1 [d] → n0 ≤ h1.size → own_R p l e (⟨0, 0, 0, 0⟩ : Room) s m #[(.ref a), (.int 0), (.ref d), (.int 0), (.int n)] below meth c S0 n0 h1 0 0 (mkF m 3 #[.val (.ref a), .val (.int i.toInt32), .val (.ref d), .val (.int i.toInt32), .val (.int n), .val (.int i.toInt32), .val (.int c6)] []) → own_E p e (⟨0, 0, 0, 0⟩ : Room) s below S0 n0 (fun v h => ∃ r : Nat, v = some (.int r.toInt32) ∧ Keep h0 h [d] ∧ ((r = ch.length ∧ (∀ c ∈ ch, ¬ (255 : Int32) < c) ∧ own_Ar Z h d .byte (ch.map own_lo)) ∨ ∃ c, ch[r]? = some c ∧ (255 : Int32) < c)) := by
    intro k
    induction k with
    | zero =>
      intro i c6 h1 hi hal V_d V_a KK Z0 B
      have hi' : i = ch.length := hi
      have hge : ¬ i.toInt32 < n := by rw [hn, hi']; exact fun q => Int32.lt_irrefl q
      have A1 := B.iL H dcp_3 rfl rfl |>.iL H dcp_5 rfl rfl |>.cy H dcp_7 rfl ((flt hge).2.1) 44 (by decide) (by decide) |>.iL H dcp_44 rfl rfl
      exact A1.ret hx hlk hret (hb hby dcp_46) rfl (Or.inl ⟨rfl, by simp, _, rfl⟩) (by decide) (by decide) ⟨ch.length, by rw [hn], KK, Or.inl ⟨rfl, by rw [hi', List.take_length] at hal; exact hal, by rw [hi', List.take_length, Nat.sub_self, List.replicate_zero, List.append_nil] at V_d; exact V_d⟩⟩
    | succ k ih =>
      intro i c6 h1 hi hal V_d V_a KK Z0 B
      have hi' : i < ch.length := by omega
      have q3 := own_i32a i (by omega)
      have hlt : i.toInt32 < n := by rw [hn]; exact own_i32lt hi' hlen
      obtain ⟨cc, hcc⟩ : ∃ cc, ch[i]? = some cc := ⟨_, List.getElem?_eq_getElem hi'⟩
      have A2 := B.iL H dcp_3 rfl rfl |>.iL H dcp_5 rfl rfl |>.cn H dcp_7 rfl ((tlt hlt).2.1) |>.aN H dcp_10 rfl rfl rfl |>.iN H dcp_11 rfl rfl
      have A3 := A2.ldC hx hZ (hb hby dcp_12) V_a q3.1 (by rw [q3.2.1, List.getElem?_map, hcc]; rfl)
      have A4 := A3.iS H dcp_13 rfl #[.val (.ref a), .val (.int i.toInt32), .val (.ref d), .val (.int i.toInt32), .val (.int n), .val (.int i.toInt32), .val (.int cc)] rfl |>.iL H dcp_15 rfl rfl |>.sp H dcp_17 rfl 255 rfl
      by_cases q5 : (255 : Int32) < cc
      · skip
        have A6 := A4.cn H dcp_20 rfl ((tlt q5).2.2.2) |>.iL H dcp_23 rfl rfl
        exact A6.ret hx hlk hret (hb hby dcp_25) rfl (Or.inl ⟨rfl, by simp, _, rfl⟩) (by decide) (by decide) ⟨i, rfl, KK, Or.inr ⟨cc, hcc, by assumption⟩⟩
      · skip
        have A10 := A4.cy H dcp_20 rfl ((flt q5).2.2.2) 26 (by decide) (by decide) |>.aN H dcp_26 rfl rfl rfl |>.iN H dcp_27 rfl rfl |>.iL H dcp_28 rfl rfl |>.ib H dcp_30 rfl _ rfl
        obtain ⟨h7, W8, A9⟩ := A10.stB hx hZ (hb hby dcp_31) V_d q3.1 (by rw [q3.2.1]; simp; omega) g_d
        have V_d := V_d.same W8
        rw [own_nb, q3.2.1] at V_d
        have V_d : own_Ar Z h7 d .byte ((ch.take (i + 1)).map own_lo ++ List.replicate (ch.length - (i + 1)) (Value.int (0 : Int32))) := (own_setk hcc) ▸ V_d
        have V_a := V_a.other W8 ne_a_d
        have Z0 : n0 ≤ h7.size := by rw [W8.size]; exact Z0
        have KK : Keep h0 h7 [d] := KK.wr W8 (Or.inl (by simp))
        have A11 := A9.ii H dcp_32 rfl rfl #[.val (.ref a), .val (.int (i.toInt32 + (1 : Int32))), .val (.ref d), .val (.int i.toInt32), .val (.int n), .val (.int i.toInt32), .val (.int cc)] rfl |>.ii H dcp_35 rfl rfl #[.val (.ref a), .val (.int (i.toInt32 + (1 : Int32))), .val (.ref d), .val (.int (i.toInt32 + (1 : Int32))), .val (.int n), .val (.int i.toInt32), .val (.int cc)] rfl |>.ii H dcp_38 rfl rfl #[.val (.ref a), .val (.int (i.toInt32 + (1 : Int32))), .val (.ref d), .val (.int (i.toInt32 + (1 : Int32))), .val (.int n), .val (.int (i.toInt32 + (1 : Int32))), .val (.int cc)] rfl |>.gt H dcp_41 rfl 3 (by decide) (by decide)
        rw [q3.2.2] at A11
        refine ih (i + 1) cc _ (by omega) ?_ V_d V_a KK Z0 A11
        rw [List.take_add_one, hcc]
        intro z hz
        rcases List.mem_append.mp hz with hz | hz
        · exact hal z hz
        · obtain rfl : z = cc := by simpa using hz
          assumption
  have KK : Keep h0 h0 [d] := Keep.refl _ _
  have hlt : (0 : Int32) < n := by rw [hn]; exact own_i32lt (i := 0) h1n hlen
  obtain ⟨cc, hcc⟩ : ∃ cc, ch[0]? = some cc := ⟨_, List.getElem?_eq_getElem h1n⟩
  have A12 := A0.ic H dcp_0 rfl 0 rfl |>.iS H dcp_1 rfl #[.val (.ref a), .val (.int 0), .val (.ref d), .val (.int 0), .val (.int n), .val (.int 0), .unset] rfl
  have A13 := A12.iL H dcp_3 rfl rfl |>.iL H dcp_5 rfl rfl |>.cn H dcp_7 rfl ((tlt hlt).2.1) |>.aN H dcp_10 rfl rfl rfl |>.iN H dcp_11 rfl rfl
  have A14 := A13.ldC hx hZ (hb hby dcp_12) V_a (by decide) (by show (ch.map Value.int)[0]? = _; rw [List.getElem?_map, hcc]; rfl)
  have A15 := A14.iS H dcp_13 rfl #[.val (.ref a), .val (.int 0), .val (.ref d), .val (.int 0), .val (.int n), .val (.int 0), .val (.int cc)] rfl |>.iL H dcp_15 rfl rfl |>.sp H dcp_17 rfl 255 rfl
  by_cases q16 : (255 : Int32) < cc
  · skip
    have A17 := A15.cn H dcp_20 rfl ((tlt q16).2.2.2) |>.iL H dcp_23 rfl rfl
    exact A17.ret hx hlk hret (hb hby dcp_25) rfl (Or.inl ⟨rfl, by simp, _, rfl⟩) (by decide) (by decide) ⟨0, rfl, KK, Or.inr ⟨cc, hcc, by assumption⟩⟩
  · skip
    have A21 := A15.cy H dcp_20 rfl ((flt q16).2.2.2) 26 (by decide) (by decide) |>.aN H dcp_26 rfl rfl rfl |>.iN H dcp_27 rfl rfl |>.iL H dcp_28 rfl rfl |>.ib H dcp_30 rfl _ rfl
    obtain ⟨h18, W19, A20⟩ := A21.stB hx hZ (hb hby dcp_31) V_d (by decide) (by rw [List.length_replicate]; exact h1n) g_d
    have V_d := V_d.same W19
    rw [own_nb] at V_d
    have V_d : own_Ar Z h18 d .byte ((ch.take (0 + 1)).map own_lo ++ List.replicate (ch.length - (0 + 1)) (Value.int (0 : Int32))) := (own_setk hcc) ▸ V_d
    have V_a := V_a.other W19 ne_a_d
    have Z0 : n0 ≤ h18.size := by rw [W19.size]; exact Z0
    have KK : Keep h0 h18 [d] := KK.wr W19 (Or.inl (by simp))
    have A22 := A20.ii H dcp_32 rfl rfl #[.val (.ref a), .val (.int 1), .val (.ref d), .val (.int 0), .val (.int n), .val (.int 0), .val (.int cc)] rfl |>.ii H dcp_35 rfl rfl #[.val (.ref a), .val (.int 1), .val (.ref d), .val (.int 1), .val (.int n), .val (.int 0), .val (.int cc)] rfl |>.ii H dcp_38 rfl rfl #[.val (.ref a), .val (.int 1), .val (.ref d), .val (.int 1), .val (.int n), .val (.int 1), .val (.int cc)] rfl |>.gt H dcp_41 rfl 3 (by decide) (by decide)
    refine loop (ch.length - 1) 1 cc _ (by omega) ?_ V_d V_a KK Z0 A22
    rw [List.take_add_one, hcc]
    intro z hz
    obtain rfl : z = cc := by simpa using hz
    assumption
theorem dpu_0 : decode jdk_52_method_4_code 0 = .ok (.getstatic 44, 3) := by decide +kernel
theorem dpu_3 : decode jdk_52_method_4_code 3 = .ok (.ifCond .ne 25, 3) := by decide +kernel
theorem dpu_28 : decode jdk_52_method_4_code 28 = .ok (.iload_n 1, 1) := by decide +kernel
theorem dpu_29 : decode jdk_52_method_4_code 29 = .ok (.iconst 1, 1) := by decide +kernel
theorem dpu_30 : decode jdk_52_method_4_code 30 = .ok (.ishl, 1) := by decide +kernel
theorem dpu_31 : decode jdk_52_method_4_code 31 = .ok (.istore_n 1, 1) := by decide +kernel
theorem dpu_32 : decode jdk_52_method_4_code 32 = .ok (.aload_n 0, 1) := by decide +kernel
theorem dpu_33 : decode jdk_52_method_4_code 33 = .ok (.iload_n 1, 1) := by decide +kernel
theorem dpu_34 : decode jdk_52_method_4_code 34 = .ok (.iinc 1 1, 3) := by decide +kernel
theorem dpu_37 : decode jdk_52_method_4_code 37 = .ok (.iload_n 2, 1) := by decide +kernel
theorem dpu_38 : decode jdk_52_method_4_code 38 = .ok (.getstatic 59, 3) := by decide +kernel
theorem dpu_41 : decode jdk_52_method_4_code 41 = .ok (.ishr, 1) := by decide +kernel
theorem dpu_42 : decode jdk_52_method_4_code 42 = .ok (.i2b, 1) := by decide +kernel
theorem dpu_43 : decode jdk_52_method_4_code 43 = .ok (.bastore, 1) := by decide +kernel
theorem dpu_44 : decode jdk_52_method_4_code 44 = .ok (.aload_n 0, 1) := by decide +kernel
theorem dpu_45 : decode jdk_52_method_4_code 45 = .ok (.iload_n 1, 1) := by decide +kernel
theorem dpu_46 : decode jdk_52_method_4_code 46 = .ok (.iload_n 2, 1) := by decide +kernel
theorem dpu_47 : decode jdk_52_method_4_code 47 = .ok (.getstatic 63, 3) := by decide +kernel
theorem dpu_50 : decode jdk_52_method_4_code 50 = .ok (.ishr, 1) := by decide +kernel
theorem dpu_51 : decode jdk_52_method_4_code 51 = .ok (.i2b, 1) := by decide +kernel
theorem dpu_52 : decode jdk_52_method_4_code 52 = .ok (.bastore, 1) := by decide +kernel
theorem dpu_53 : decode jdk_52_method_4_code 53 = .ok (.return_, 1) := by decide +kernel
theorem own_put (l : Launch) (Z : State) (a0 : Array Value) (hw : ∀ d ∈ tables_1, d.before a0 Z = true) (b : Addr) (j cv : Int32) (vs : List Value) (h0 : Heap) (n0 : Nat) (Z0 : n0 ≤ h0.size) (V_b : own_Ar Z h0 b .byte vs) (g_b : n0 ≤ b) (h20 : ¬ (j <<< ((1 : Int32) &&& 31)) < (0 : Int32)) (hi0 : (j <<< ((1 : Int32) &&& 31)).toNatClampNeg < vs.length) (h21 : ¬ (j <<< ((1 : Int32) &&& 31)) + (1 : Int32) < (0 : Int32)) (hi1 : ((j <<< ((1 : Int32) &&& 31)) + (1 : Int32)).toNatClampNeg < vs.length) (S_ad : Sta Z h0 "java/lang/StringUTF16" "$assertionsDisabled" "Z" (.int 1)) (S_hi : Sta Z h0 "java/lang/StringUTF16" "HI_BYTE_SHIFT" "I" (.int 0)) (S_lo : Sta Z h0 "java/lang/StringUTF16" "LO_BYTE_SHIFT" "I" (.int 8)) :
    own_M l Z (⟨"java/lang/StringUTF16", "putChar", "([BII)V"⟩ : MethodName) jdk_52_method_4_code 3 none [] (⟨0, 0, 0, 0⟩ : Room) #[(.ref b), (.int j), (.int cv)] h0 n0 (fun v h => v = none ∧ Keep h0 h [b] ∧ own_Ar Z h b .byte ((vs.set (j <<< ((1 : Int32) &&& 31)).toNatClampNeg (.int (cv >>> ((0 : Int32) &&& 31)).toInt8.toInt32)).set ((j <<< ((1 : Int32) &&& 31)) + (1 : Int32)).toNatClampNeg (.int (cv >>> ((8 : Int32) &&& 31)).toInt8.toInt32))) := by
  refine own_M.of pl12 ?_
  intro p e s m below meth c S0 hx hby hml hown hnm hret hlk hZ A00
  have H : own_H p c _ := ⟨hx, hby⟩
  have A0 := A00.cast (f' := mkF m 0 #[.val (.ref b), .val (.int j), .val (.int cv)] []) (by first | (simp [entryFrame, mkF, argsToLocals, Value.category, maxLocals]; done) | rfl)
  have KK : Keep h0 h0 [b] := Keep.refl _ _
  have A1 := A0.getS hx hZ hown (hb hby dpu_0) (oW hw 217 rfl) Via.refl S_ad
  have A2 := A1.fy H dpu_3 rfl rfl 28 (by decide) (by decide) |>.iN H dpu_28 rfl rfl |>.ic H dpu_29 rfl 1 rfl |>.lS H dpu_30 rfl _ rfl |>.iM H dpu_31 rfl #[.val (.ref b), .val (.int (j <<< ((1 : Int32) &&& 31))), .val (.int cv)] rfl |>.aN H dpu_32 rfl rfl rfl |>.iN H dpu_33 rfl rfl |>.ii H dpu_34 rfl rfl #[.val (.ref b), .val (.int ((j <<< ((1 : Int32) &&& 31)) + (1 : Int32))), .val (.int cv)] rfl |>.iN H dpu_37 rfl rfl
  have A3 := A2.getS hx hZ hown (hb hby dpu_38) (oW hw 218 rfl) Via.refl S_hi
  have A7 := A3.sr H dpu_41 rfl _ rfl |>.ib H dpu_42 rfl _ rfl
  obtain ⟨h4, W5, A6⟩ := A7.stB hx hZ (hb hby dpu_43) V_b h20 hi0 g_b
  have V_b := V_b.same W5
  rw [own_nb] at V_b
  have V_b : own_Ar Z h4 b .byte (vs.set (j <<< ((1 : Int32) &&& 31)).toNatClampNeg (.int (cv >>> ((0 : Int32) &&& 31)).toInt8.toInt32)) := V_b
  have S_lo := S_lo.wr W5
  have KK : Keep h0 h4 [b] := KK.wr W5 (Or.inl (by simp))
  have A8 := A6.aN H dpu_44 rfl rfl rfl |>.iN H dpu_45 rfl rfl |>.iN H dpu_46 rfl rfl
  have A9 := A8.getS hx hZ hown (hb hby dpu_47) (oW hw 219 rfl) Via.refl S_lo
  have A13 := A9.sr H dpu_50 rfl _ rfl |>.ib H dpu_51 rfl _ rfl
  obtain ⟨h10, W11, A12⟩ := A13.stB hx hZ (hb hby dpu_52) V_b h21 (by rw [List.length_set]; exact hi1) g_b
  have V_b := V_b.same W11
  rw [own_nb] at V_b
  have V_b : own_Ar Z h10 b .byte ((vs.set (j <<< ((1 : Int32) &&& 31)).toNatClampNeg (.int (cv >>> ((0 : Int32) &&& 31)).toInt8.toInt32)).set ((j <<< ((1 : Int32) &&& 31)) + (1 : Int32)).toNatClampNeg (.int (cv >>> ((8 : Int32) &&& 31)).toInt8.toInt32)) := V_b
  have KK : Keep h0 h10 [b] := KK.wr W11 (Or.inl (by simp))
  exact A12.retV hx hlk hret (hb hby dpu_53) (by decide) (by decide) ⟨rfl, KK, V_b⟩
theorem dnl_0 : decode jdk_52_method_3_code 0 = .ok (.iload_n 0, 1) := by decide +kernel
theorem dnl_1 : decode jdk_52_method_3_code 1 = .ok (.ifCond .ge 11, 3) := by decide +kernel
theorem dnl_12 : decode jdk_52_method_3_code 12 = .ok (.iload_n 0, 1) := by decide +kernel
theorem dnl_13 : decode jdk_52_method_3_code 13 = .ok (.ldc 20, 2) := by decide +kernel
theorem dnl_15 : decode jdk_52_method_3_code 15 = .ok (.if_icmp .lt 40, 3) := by decide +kernel
theorem dnl_55 : decode jdk_52_method_3_code 55 = .ok (.iload_n 0, 1) := by decide +kernel
theorem dnl_56 : decode jdk_52_method_3_code 56 = .ok (.iconst 1, 1) := by decide +kernel
theorem dnl_57 : decode jdk_52_method_3_code 57 = .ok (.ishl, 1) := by decide +kernel
theorem dnl_58 : decode jdk_52_method_3_code 58 = .ok (.ireturn, 1) := by decide +kernel
theorem own_nbl (l : Launch) (Z : State) (a0 : Array Value) (hw : ∀ d ∈ tables_1, d.before a0 Z = true) (n N : Int32) (h0 : Heap) (n0 : Nat) (Z0 : n0 ≤ h0.size) (h1 : ¬ n < (0 : Int32)) (h2 : n < (1073741823 : Int32)) (hN : n <<< ((1 : Int32) &&& 31) = N) :
    own_M l Z (⟨"java/lang/StringUTF16", "newBytesLength", "(I)I"⟩ : MethodName) jdk_52_method_3_code 1 (some .int) [] (⟨0, 0, 0, 0⟩ : Room) #[(.int n)] h0 n0 (fun v h => v = some (.int N) ∧ h0 = h) := by
  refine own_M.of pl13 ?_
  intro p e s m below meth c S0 hx hby hml hown hnm hret hlk hZ A00
  have H : own_H p c _ := ⟨hx, hby⟩
  have A0 := A00.cast (f' := mkF m 0 #[.val (.int n)] []) (by first | (simp [entryFrame, mkF, argsToLocals, Value.category, maxLocals]; done) | rfl)
  have A1 := A0.iN H dnl_0 rfl rfl |>.fy H dnl_1 rfl ((if0 _ _).trans (flt h1).2.1) 12 (by decide) (by decide) |>.iN H dnl_12 rfl rfl
  have A2 := A1.ldcI hx hZ hown (hb hby dnl_13) (oW hw 213 rfl)
  have A3 := A2.cy H dnl_15 rfl ((tlt h2).1) 55 (by decide) (by decide) |>.iN H dnl_55 rfl rfl |>.ic H dnl_56 rfl 1 rfl |>.lS H dnl_57 rfl _ rfl
  rw [hN] at A3
  exact A3.ret hx hlk hret (hb hby dnl_58) rfl (Or.inl ⟨rfl, by simp, _, rfl⟩) (by decide) (by decide) ⟨rfl, rfl⟩
theorem dnf_0 : decode jdk_52_method_2_code 0 = .ok (.iload_n 0, 1) := by decide +kernel
theorem dnf_1 : decode jdk_52_method_2_code 1 = .ok (.invokestatic 11, 3) := by decide +kernel
theorem dnf_4 : decode jdk_52_method_2_code 4 = .ok (.newarray .byte, 2) := by decide +kernel
theorem dnf_6 : decode jdk_52_method_2_code 6 = .ok (.areturn, 1) := by decide +kernel
theorem own_nbf (l : Launch) (Z : State) (a0 : Array Value) (hw : ∀ d ∈ tables_1, d.before a0 Z = true) (n N : Int32) (k : Nat) (h0 : Heap) (n0 : Nat) (Z0 : n0 ≤ h0.size) (h1 : ¬ n < (0 : Int32)) (h2 : n < (1073741823 : Int32)) (hN : n <<< ((1 : Int32) &&& 31) = N) (hN0 : ¬ N < 0) (hcxd : N.toNatClampNeg = 2 * k) (hk : k ≤ 32) :
    own_M l Z (⟨"java/lang/StringUTF16", "newBytesFor", "(I)[B"⟩ : MethodName) jdk_52_method_2_code 1 (some (.array .byte)) [] (⟨1, 1, 64, 12⟩ : Room) #[(.int n)] h0 n0 (fun v h => ∃ x : Addr, v = some (.ref x) ∧ Keep h0 h [] ∧ h0.size ≤ x ∧ own_Ar Z h x .byte (List.replicate (2 * k) (Value.int (0 : Int32)))) := by
  refine own_M.of pl14 ?_
  intro p e s m below meth c S0 hx hby hml hown hnm hret hlk hZ A00
  have H : own_H p c _ := ⟨hx, hby⟩
  have A0 := A00.cast (f' := mkF m 0 #[.val (.int n)] []) (by first | (simp [entryFrame, mkF, argsToLocals, Value.category, maxLocals]; done) | rfl)
  have KK : Keep h0 h0 [] := Keep.refl _ _
  have A2 := A0.iN H dnf_0 rfl rfl
  obtain ⟨vA1, hA1, ⟨rfl, rfl⟩, A1⟩ := A2.cS (own_nbl l Z a0 hw n N h0 n0 Z0 h1 h2 hN) H hZ hown dnf_1 (oW hw 210 rfl) (kS9 hw) hml rfl rfl [] rfl rfl
  have A6 := A1.cl
  obtain ⟨h3, E4, V_xd, A5⟩ := A6.newP hx hZ (hb hby dnf_4) (oW hw 20 rfl) hN0 (cap := 64) (by omega) (by decide) (by decide) (by decide)
  obtain ⟨xd, gxd⟩ : ∃ z, z = h0.size := ⟨_, rfl⟩
  rw [← gxd] at V_xd A5
  have sz_xd : h0.size ≤ xd := by rw [gxd]; exact KK.1
  have KK : Keep h0 h3 [] := KK.ext E4
  have V_xd : own_Ar Z h3 xd .byte (List.replicate (2 * k) (Value.int (0 : Int32))) := by rw [hcxd] at V_xd; exact V_xd
  exact A5.ret hx hlk hret (hb hby dnf_6) rfl (Or.inr (Or.inr (Or.inr (Or.inr ⟨rfl, rfl, rfl⟩)))) (by decide) (by decide) ⟨xd, rfl, KK, sz_xd, V_xd⟩
theorem dtb_0 : decode jdk_52_method_14_code 0 = .ok (.iload_n 2, 1) := by decide +kernel
theorem dtb_1 : decode jdk_52_method_14_code 1 = .ok (.invokestatic 107, 3) := by decide +kernel
theorem dtb_4 : decode jdk_52_method_14_code 4 = .ok (.astore_n 3, 1) := by decide +kernel
theorem dtb_5 : decode jdk_52_method_14_code 5 = .ok (.iconst 0, 1) := by decide +kernel
theorem dtb_6 : decode jdk_52_method_14_code 6 = .ok (.istore 4, 2) := by decide +kernel
theorem dtb_8 : decode jdk_52_method_14_code 8 = .ok (.iload 4, 2) := by decide +kernel
theorem dtb_10 : decode jdk_52_method_14_code 10 = .ok (.iload_n 2, 1) := by decide +kernel
theorem dtb_11 : decode jdk_52_method_14_code 11 = .ok (.if_icmp .ge 21, 3) := by decide +kernel
theorem dtb_14 : decode jdk_52_method_14_code 14 = .ok (.aload_n 3, 1) := by decide +kernel
theorem dtb_15 : decode jdk_52_method_14_code 15 = .ok (.iload 4, 2) := by decide +kernel
theorem dtb_17 : decode jdk_52_method_14_code 17 = .ok (.aload_n 0, 1) := by decide +kernel
theorem dtb_18 : decode jdk_52_method_14_code 18 = .ok (.iload_n 1, 1) := by decide +kernel
theorem dtb_19 : decode jdk_52_method_14_code 19 = .ok (.caload, 1) := by decide +kernel
theorem dtb_20 : decode jdk_52_method_14_code 20 = .ok (.invokestatic 111, 3) := by decide +kernel
theorem dtb_23 : decode jdk_52_method_14_code 23 = .ok (.iinc 1 1, 3) := by decide +kernel
theorem dtb_26 : decode jdk_52_method_14_code 26 = .ok (.iinc 4 1, 3) := by decide +kernel
theorem dtb_29 : decode jdk_52_method_14_code 29 = .ok (.goto (-21), 3) := by decide +kernel
theorem dtb_32 : decode jdk_52_method_14_code 32 = .ok (.aload_n 3, 1) := by decide +kernel
theorem dtb_33 : decode jdk_52_method_14_code 33 = .ok (.areturn, 1) := by decide +kernel
theorem own_tob (l : Launch) (Z : State) (a0 : Array Value) (hw : ∀ d ∈ tables_1, d.before a0 Z = true) (a : Addr) (n : Int32) (ch : List Int32) (h0 : Heap) (n0 : Nat) (Z0 : n0 ≤ h0.size) (V_a : own_Ar Z h0 a .char (ch.map Value.int)) (hn : n = ch.length.toInt32) (hlen : ch.length < 64) (hle : ch.length ≤ 32) (S_ad : Sta Z h0 "java/lang/StringUTF16" "$assertionsDisabled" "Z" (.int 1)) (S_hi : Sta Z h0 "java/lang/StringUTF16" "HI_BYTE_SHIFT" "I" (.int 0)) (S_lo : Sta Z h0 "java/lang/StringUTF16" "LO_BYTE_SHIFT" "I" (.int 8)) :
    own_M l Z (⟨"java/lang/StringUTF16", "toBytes", "([CII)[B"⟩ : MethodName) jdk_52_method_14_code 5 (some (.array .byte)) [] (⟨2, 1, 64, 24⟩ : Room) #[(.ref a), (.int 0), (.int n)] h0 n0 (fun v h => ∃ x : Addr, v = some (.ref x) ∧ Keep h0 h [] ∧ h0.size ≤ x ∧ own_Ar Z h x .byte (own_u16 ch)) := by
  refine own_M.of pl15 ?_
  intro p e s m below meth c S0 hx hby hml hown hnm hret hlk hZ A00
  have H : own_H p c _ := ⟨hx, hby⟩
  have A0 := A00.cast (f' := mkF m 0 #[.val (.ref a), .val (.int 0), .val (.int n), .unset, .unset] []) (by first | (simp [entryFrame, mkF, argsToLocals, Value.category, maxLocals]; done) | rfl)
  have KK : Keep h0 h0 [] := Keep.refl _ _
  have nn := own_i32a ch.length hlen
  have n2 := own_j2a ch.length hlen
  have hbig : n < (1073741823 : Int32) := by
    have e9 : (1073741823 : Int32).toInt = 1073741823 := by decide
    rw [hn, Int32.lt_iff_toInt_lt, len_toInt (by omega), e9]
    omega
  have A2 := A0.iN H dtb_0 rfl rfl
  obtain ⟨vA1, hA1, ⟨d, rfl, K1, zd, V_d⟩, A1⟩ := A2.cS (own_nbf l Z a0 hw n _ ch.length h0 n0 Z0 (hn ▸ nn.1) hbig rfl (by rw [hn]; exact n2.1) (by rw [hn]; exact n2.2.1) (by omega)) H hZ hown dtb_1 (oW hw 207 rfl) (kS10 hw) hml rfl rfl [] rfl rfl
  have ne_a_d : a ≠ d := Nat.ne_of_lt (Nat.lt_of_lt_of_le V_a.lt zd)
  have g_d : n0 ≤ d := Nat.le_trans Z0 zd
  have V_a := V_a.keep K1 nin0
  have Z0 := Nat.le_trans Z0 K1.1
  have KK : Keep h0 hA1 [] := K1
  have S_ad := own_staK S_ad K1 all0
  have S_hi := own_staK S_hi K1 all0
  have S_lo := own_staK S_lo K1 all0
  have A3 := A1.cl |>.aM H dtb_4 rfl rfl #[.val (.ref a), .val (.int 0), .val (.int n), .val (.ref d), .unset] rfl |>.ic H dtb_5 rfl 0 rfl |>.iS H dtb_6 rfl #[.val (.ref a), .val (.int 0), .val (.int n), .val (.ref d), .val (.int 0)] rfl
  have loop : ∀ (k i : Nat) (h1 : Heap), i + k = ch.length → own_Ar Z h1 d .byte (own_u16 (ch.take i) ++ List.replicate (2 * (ch.length - i)) (Value.int (0 : Int32))) → own_Ar Z h1 a .char (ch.map Value.int) → Sta Z h1 "java/lang/StringUTF16" "$assertionsDisabled" "Z" (.int 1) → Sta Z h1 "java/lang/StringUTF16" "HI_BYTE_SHIFT" "I" (.int 0) → Sta Z h1 "java/lang/StringUTF16" "LO_BYTE_SHIFT" "I" (.int 8) → Keep h0 h1 [] → n0 ≤ h1.size → own_R p l e (⟨2, 1, 64, 24⟩ : Room) s m #[(.ref a), (.int 0), (.int n)] below meth c S0 n0 h1 1 64 (mkF m 8 #[.val (.ref a), .val (.int i.toInt32), .val (.int n), .val (.ref d), .val (.int i.toInt32)] []) → own_E p e (⟨2, 1, 64, 24⟩ : Room) s below S0 n0 (fun v h => ∃ x : Addr, v = some (.ref x) ∧ Keep h0 h [] ∧ h0.size ≤ x ∧ own_Ar Z h x .byte (own_u16 ch)) := by
    intro k
    induction k with
    | zero =>
      intro i h1 hi V_d V_a S_ad S_hi S_lo KK Z0 B
      have hi' : i = ch.length := hi
      have hge : ¬ i.toInt32 < n := by rw [hn, hi']; exact fun q => Int32.lt_irrefl q
      have A4 := B.iL H dtb_8 rfl rfl |>.iN H dtb_10 rfl rfl |>.cy H dtb_11 rfl ((flt hge).2.1) 32 (by decide) (by decide) |>.aN H dtb_32 rfl rfl rfl
      exact A4.ret hx hlk hret (hb hby dtb_33) rfl (Or.inr (Or.inr (Or.inr (Or.inr ⟨rfl, rfl, rfl⟩)))) (by decide) (by decide) ⟨d, rfl, KK, zd, by rw [hi', List.take_length, Nat.sub_self, Nat.mul_zero, List.replicate_zero, List.append_nil] at V_d; exact V_d⟩
    | succ k ih =>
      intro i h1 hi V_d V_a S_ad S_hi S_lo KK Z0 B
      have hi' : i < ch.length := by omega
      have q3 := own_i32a i (by omega)
      have qj := own_j2 q3.1 (by rw [q3.2.1]; omega)
      rw [q3.2.1] at qj
      have hlt : i.toInt32 < n := by rw [hn]; exact own_i32lt hi' hlen
      obtain ⟨cc, hcc⟩ : ∃ cc, ch[i]? = some cc := ⟨_, List.getElem?_eq_getElem hi'⟩
      have hll : ((own_u16 (ch.take i) ++ List.replicate (2 * (ch.length - i)) (Value.int (0 : Int32)))).length = 2 * ch.length := by rw [List.length_append, own_u16_len, List.length_replicate, List.length_take]; omega
      have A5 := B.iL H dtb_8 rfl rfl |>.iN H dtb_10 rfl rfl |>.cn H dtb_11 rfl ((tlt hlt).2.1) |>.aN H dtb_14 rfl rfl rfl |>.iL H dtb_15 rfl rfl |>.aN H dtb_17 rfl rfl rfl |>.iN H dtb_18 rfl rfl
      have A6 := A5.ldC hx hZ (hb hby dtb_19) V_a q3.1 (by rw [q3.2.1, List.getElem?_map, hcc]; rfl)
      obtain ⟨vA7, hA7, ⟨rfl, K2, P_d⟩, A7⟩ := A6.cS (own_put l Z a0 hw d i.toInt32 cc _ h1 n0 Z0 V_d g_d qj.1 (by rw [qj.2.1, hll]; omega) qj.2.2.1 (by rw [qj.2.2.2, hll]; omega) S_ad S_hi S_lo) H hZ hown dtb_20 (oW hw 214 rfl) (kS11 hw) hml rfl rfl [] rfl rfl
      have S_ad := own_staK S_ad K2 (allS (P := fun x => ∀ cell : Cell, h1[x]? = some cell → cell.vm.isStatics = false) V_d.nostat all0)
      have S_hi := own_staK S_hi K2 (allS (P := fun x => ∀ cell : Cell, h1[x]? = some cell → cell.vm.isStatics = false) V_d.nostat all0)
      have S_lo := own_staK S_lo K2 (allS (P := fun x => ∀ cell : Cell, h1[x]? = some cell → cell.vm.isStatics = false) V_d.nostat all0)
      have V_a := V_a.keep K2 (ninS ne_a_d nin0)
      have Z0 := Nat.le_trans Z0 K2.1
      have KK : Keep h0 hA7 [] := KK.trans K2 (allS (P := fun x => x ∈ ([] : List Addr) ∨ h0.size ≤ x) (Or.inr zd) all0)
      rw [qj.2.1, qj.2.2.2, own_setu hcc] at P_d
      have A8 := A7.c0 |>.ii H dtb_23 rfl rfl #[.val (.ref a), .val (.int (i.toInt32 + (1 : Int32))), .val (.int n), .val (.ref d), .val (.int i.toInt32)] rfl |>.ii H dtb_26 rfl rfl #[.val (.ref a), .val (.int (i.toInt32 + (1 : Int32))), .val (.int n), .val (.ref d), .val (.int (i.toInt32 + (1 : Int32)))] rfl |>.gt H dtb_29 rfl 8 (by decide) (by decide)
      rw [q3.2.2] at A8
      exact ih (i + 1) _ (by omega) P_d V_a S_ad S_hi S_lo KK Z0 A8
  exact loop ch.length 0 _ (by omega) (by simpa [own_u16] using V_d) V_a S_ad S_hi S_lo KK Z0 A3
theorem dcb_0 : decode jdk_52_method_16_code 0 = .ok (.iload_n 2, 1) := by decide +kernel
theorem dcb_1 : decode jdk_52_method_16_code 1 = .ok (.newarray .byte, 2) := by decide +kernel
theorem dcb_3 : decode jdk_52_method_16_code 3 = .ok (.astore_n 3, 1) := by decide +kernel
theorem dcb_4 : decode jdk_52_method_16_code 4 = .ok (.aload_n 0, 1) := by decide +kernel
theorem dcb_5 : decode jdk_52_method_16_code 5 = .ok (.iload_n 1, 1) := by decide +kernel
theorem dcb_6 : decode jdk_52_method_16_code 6 = .ok (.aload_n 3, 1) := by decide +kernel
theorem dcb_7 : decode jdk_52_method_16_code 7 = .ok (.iconst 0, 1) := by decide +kernel
theorem dcb_8 : decode jdk_52_method_16_code 8 = .ok (.iload_n 2, 1) := by decide +kernel
theorem dcb_9 : decode jdk_52_method_16_code 9 = .ok (.invokestatic 115, 3) := by decide +kernel
theorem dcb_12 : decode jdk_52_method_16_code 12 = .ok (.istore 4, 2) := by decide +kernel
theorem dcb_14 : decode jdk_52_method_16_code 14 = .ok (.iload 4, 2) := by decide +kernel
theorem dcb_16 : decode jdk_52_method_16_code 16 = .ok (.iload_n 2, 1) := by decide +kernel
theorem dcb_17 : decode jdk_52_method_16_code 17 = .ok (.if_icmp .eq 40, 3) := by decide +kernel
theorem dcb_20 : decode jdk_52_method_16_code 20 = .ok (.aload_n 0, 1) := by decide +kernel
theorem dcb_21 : decode jdk_52_method_16_code 21 = .ok (.iload_n 1, 1) := by decide +kernel
theorem dcb_22 : decode jdk_52_method_16_code 22 = .ok (.iload_n 2, 1) := by decide +kernel
theorem dcb_23 : decode jdk_52_method_16_code 23 = .ok (.invokestatic 119, 3) := by decide +kernel
theorem dcb_26 : decode jdk_52_method_16_code 26 = .ok (.astore 5, 2) := by decide +kernel
theorem dcb_28 : decode jdk_52_method_16_code 28 = .ok (.aload 5, 2) := by decide +kernel
theorem dcb_30 : decode jdk_52_method_16_code 30 = .ok (.iload 4, 2) := by decide +kernel
theorem dcb_32 : decode jdk_52_method_16_code 32 = .ok (.invokestatic 71, 3) := by decide +kernel
theorem dcb_35 : decode jdk_52_method_16_code 35 = .ok (.sipush 255, 3) := by decide +kernel
theorem dcb_38 : decode jdk_52_method_16_code 38 = .ok (.if_icmp .gt 16, 3) := by decide +kernel
theorem dcb_54 : decode jdk_52_method_16_code 54 = .ok (.aload 5, 2) := by decide +kernel
theorem dcb_56 : decode jdk_52_method_16_code 56 = .ok (.areturn, 1) := by decide +kernel
theorem dcb_57 : decode jdk_52_method_16_code 57 = .ok (.aload_n 3, 1) := by decide +kernel
theorem dcb_58 : decode jdk_52_method_16_code 58 = .ok (.areturn, 1) := by decide +kernel
theorem own_cmb (l : Launch) (Z : State) (a0 : Array Value) (hw : ∀ d ∈ tables_1, d.before a0 Z = true) (a : Addr) (n : Int32) (ch : List Int32) (h0 : Heap) (n0 : Nat) (Z0 : n0 ≤ h0.size) (V_a : own_Ar Z h0 a .char (ch.map Value.int)) (hn : n = ch.length.toInt32) (hlen : ch.length < 64) (hle : ch.length ≤ 32) (h1n : 0 < ch.length) (hch : ∀ c ∈ ch, ¬ c < (0 : Int32) ∧ ¬ (65535 : Int32) < c) (S_ad : Sta Z h0 "java/lang/StringUTF16" "$assertionsDisabled" "Z" (.int 1)) (S_hi : Sta Z h0 "java/lang/StringUTF16" "HI_BYTE_SHIFT" "I" (.int 0)) (S_lo : Sta Z h0 "java/lang/StringUTF16" "LO_BYTE_SHIFT" "I" (.int 8)) :
    own_M l Z (⟨"java/lang/StringUTF16", "compress", "([CII)[B"⟩ : MethodName) jdk_52_method_16_code 6 (some (.array .byte)) [] (⟨3, 2, 96, 40⟩ : Room) #[(.ref a), (.int 0), (.int n)] h0 n0 (fun v h => ∃ (x : Addr) (k : Int32), v = some (.ref x) ∧ Keep h0 h [] ∧ h0.size ≤ x ∧ own_Ar Z h x .byte (own_by k ch) ∧ own_ok k ch) := by
  refine own_M.of pl16 ?_
  intro p e s m below meth c S0 hx hby hml hown hnm hret hlk hZ A00
  have H : own_H p c _ := ⟨hx, hby⟩
  have A0 := A00.cast (f' := mkF m 0 #[.val (.ref a), .val (.int 0), .val (.int n), .unset, .unset, .unset] []) (by first | (simp [entryFrame, mkF, argsToLocals, Value.category, maxLocals]; done) | rfl)
  have KK : Keep h0 h0 [] := Keep.refl _ _
  have nn := own_i32a ch.length hlen
  have hcxd : n.toNatClampNeg = ch.length := by rw [hn]; exact nn.2.1
  have A4 := A0.iN H dcb_0 rfl rfl
  obtain ⟨h1, E2, V_xd, A3⟩ := A4.newP hx hZ (hb hby dcb_1) (oW hw 20 rfl) (hn ▸ nn.1) (cap := 32) (by rw [hcxd]; omega) (by decide) (by decide) (by decide)
  obtain ⟨xd, gxd⟩ : ∃ z, z = h0.size := ⟨_, rfl⟩
  rw [← gxd] at V_xd A3
  have ne_a_xd : a ≠ xd := by rw [gxd]; exact Nat.ne_of_lt V_a.lt
  have g_xd : n0 ≤ xd := by rw [gxd]; exact Z0
  have sz_xd : h0.size ≤ xd := by rw [gxd]; exact KK.1
  have V_a := V_a.ext E2
  have S_ad := S_ad.ext E2
  have S_hi := S_hi.ext E2
  have S_lo := S_lo.ext E2
  have Z0 := Nat.le_trans Z0 E2.1
  have KK : Keep h0 h1 [] := KK.ext E2
  have V_xd : own_Ar Z h1 xd .byte (List.replicate ch.length (Value.int (0 : Int32))) := by rw [hcxd] at V_xd; exact V_xd
  have A6 := A3.aM H dcb_3 rfl rfl #[.val (.ref a), .val (.int 0), .val (.int n), .val (.ref xd), .unset, .unset] rfl |>.aN H dcb_4 rfl rfl rfl |>.iN H dcb_5 rfl rfl |>.aN H dcb_6 rfl rfl rfl |>.ic H dcb_7 rfl 0 rfl |>.iN H dcb_8 rfl rfl
  obtain ⟨vA5, hA5, ⟨r, rfl, K5, hor⟩, A5⟩ := A6.cS (own_cmp l Z a0 hw a xd n ch h1 n0 Z0 V_a V_xd ne_a_xd g_xd hn hlen h1n) H hZ hown dcb_9 (oW hw 194 rfl) (kS12 hw) hml rfl rfl [] rfl rfl
  have S_ad := own_staK S_ad K5 (allS (P := fun x => ∀ cell : Cell, h1[x]? = some cell → cell.vm.isStatics = false) V_xd.nostat all0)
  have S_hi := own_staK S_hi K5 (allS (P := fun x => ∀ cell : Cell, h1[x]? = some cell → cell.vm.isStatics = false) V_xd.nostat all0)
  have S_lo := own_staK S_lo K5 (allS (P := fun x => ∀ cell : Cell, h1[x]? = some cell → cell.vm.isStatics = false) V_xd.nostat all0)
  have V_a := V_a.keep K5 (ninS ne_a_xd nin0)
  have Z0 := Nat.le_trans Z0 K5.1
  have KK : Keep h0 hA5 [] := KK.trans K5 (allS (P := fun x => x ∈ ([] : List Addr) ∨ h0.size ≤ x) (Or.inr sz_xd) all0)
  have A7 := A5.cl
  rcases hor with ⟨hr, hall, P_d⟩ | ⟨cc, hcc, hgt⟩
  · have hrn : r.toInt32 = n := by rw [hr, hn]
    have A8 := A7.iS H dcb_12 rfl #[.val (.ref a), .val (.int 0), .val (.int n), .val (.ref xd), .val (.int r.toInt32), .unset] rfl |>.iL H dcb_14 rfl rfl |>.iN H dcb_16 rfl rfl |>.cy H dcb_17 rfl ((teq hrn).1) 57 (by decide) (by decide) |>.aN H dcb_57 rfl rfl rfl
    exact A8.ret hx hlk hret (hb hby dcb_58) rfl (Or.inr (Or.inr (Or.inr (Or.inr ⟨rfl, rfl, rfl⟩)))) (by decide) (by decide) ⟨xd, 0, rfl, KK, sz_xd, by rw [own_by, if_pos rfl]; exact P_d, Or.inl ⟨rfl, fun z hz => ⟨(hch z hz).1, hall z hz⟩⟩⟩
  · have hrl : r < ch.length := (List.getElem?_eq_some_iff.mp hcc).1
    have q3 := own_i32a r (by omega)
    have qj := own_j2 q3.1 (by rw [q3.2.1]; omega)
    rw [q3.2.1] at qj
    have hrn : ¬ (r.toInt32 = n) := by
      intro q
      have := own_i32lt hrl hlen
      rw [q, hn] at this
      exact Int32.lt_irrefl this
    have hcb := hch cc (List.mem_of_getElem? hcc)
    have A10 := A7.iS H dcb_12 rfl #[.val (.ref a), .val (.int 0), .val (.int n), .val (.ref xd), .val (.int r.toInt32), .unset] rfl |>.iL H dcb_14 rfl rfl |>.iN H dcb_16 rfl rfl |>.cn H dcb_17 rfl ((feq hrn).1) |>.aN H dcb_20 rfl rfl rfl |>.iN H dcb_21 rfl rfl |>.iN H dcb_22 rfl rfl
    obtain ⟨vA9, hA9, ⟨xu, rfl, K6, zu, V_u⟩, A9⟩ := A10.cS (own_tob l Z a0 hw a n ch hA5 n0 Z0 V_a hn hlen hle S_ad S_hi S_lo) H hZ hown dcb_23 (oW hw 204 rfl) (kS13 hw) hml rfl rfl [] rfl rfl
    have S_ad := own_staK S_ad K6 all0
    have S_hi := own_staK S_hi K6 all0
    have S_lo := own_staK S_lo K6 all0
    have Z0 := Nat.le_trans Z0 K6.1
    have zu : h0.size ≤ xu := Nat.le_trans KK.1 zu
    have KK : Keep h0 hA9 [] := KK.trans K6 all0
    have A12 := A9.cl |>.aS H dcb_26 rfl rfl #[.val (.ref a), .val (.int 0), .val (.int n), .val (.ref xd), .val (.int r.toInt32), .val (.ref xu)] rfl |>.aL H dcb_28 rfl rfl rfl |>.iL H dcb_30 rfl rfl
    obtain ⟨vA11, hA11, ⟨rfl, rfl⟩, A11⟩ := A12.cS (own_ugc l Z a0 hw xu r.toInt32 _ _ cc _ hA9 n0 Z0 V_u qj.1 (by rw [qj.2.1]; exact (own_u16_at ch r cc hcc).1) qj.2.2.1 (by rw [qj.2.2.2]; exact (own_u16_at ch r cc hcc).2) (own_cB hcb.1 hcb.2) (own_nc hcb.1 hcb.2) S_ad S_hi S_lo) H hZ hown dcb_32 (oW hw 220 rfl) (kS4 hw) hml rfl rfl [] rfl rfl
    have A13 := A11.cl |>.sp H dcb_35 rfl 255 rfl |>.cy H dcb_38 rfl ((tlt hgt).2.2.1) 54 (by decide) (by decide) |>.aL H dcb_54 rfl rfl rfl
    exact A13.ret hx hlk hret (hb hby dcb_56) rfl (Or.inr (Or.inr (Or.inr (Or.inr ⟨rfl, rfl, rfl⟩)))) (by decide) (by decide) ⟨xu, 1, rfl, KK, zu, by rw [own_by, if_neg (by decide)]; exact V_u, Or.inr ⟨rfl, hch⟩⟩
theorem dcf_0 : decode jdk_52_method_15_code 0 = .ok (.iload_n 1, 1) := by decide +kernel
theorem dcf_1 : decode jdk_52_method_15_code 1 = .ok (.aload_n 0, 1) := by decide +kernel
theorem dcf_2 : decode jdk_52_method_15_code 2 = .ok (.arraylength, 1) := by decide +kernel
theorem dcf_3 : decode jdk_52_method_15_code 3 = .ok (.isub, 1) := by decide +kernel
theorem dcf_4 : decode jdk_52_method_15_code 4 = .ok (.bipush 31, 2) := by decide +kernel
theorem dcf_6 : decode jdk_52_method_15_code 6 = .ok (.iushr, 1) := by decide +kernel
theorem dcf_7 : decode jdk_52_method_15_code 7 = .ok (.i2b, 1) := by decide +kernel
theorem dcf_8 : decode jdk_52_method_15_code 8 = .ok (.ireturn, 1) := by decide +kernel
theorem own_cfa (l : Launch) (Z : State) (a0 : Array Value) (hw : ∀ d ∈ tables_1, d.before a0 Z = true) (b : Addr) (n k : Int32) (vs : List Value) (h0 : Heap) (n0 : Nat) (Z0 : n0 ≤ h0.size) (V_b : own_Ar Z h0 b .byte vs) (hN : ((n - vs.length.toInt32).toUInt32 >>> ((31 : Int32) &&& 31).toUInt32).toInt32.toInt8.toInt32 = k) (hnk : narrow .byte (.int k) = .int k) :
    own_M l Z (⟨"java/lang/StringUTF16", "coderFromArrayLen", "([BI)B"⟩ : MethodName) jdk_52_method_15_code 2 (some .byte) [] (⟨0, 0, 0, 0⟩ : Room) #[(.ref b), (.int n)] h0 n0 (fun v h => v = some (.int k) ∧ h0 = h) := by
  refine own_M.of pl17 ?_
  intro p e s m below meth c S0 hx hby hml hown hnm hret hlk hZ A00
  have H : own_H p c _ := ⟨hx, hby⟩
  have A0 := A00.cast (f' := mkF m 0 #[.val (.ref b), .val (.int n)] []) (by first | (simp [entryFrame, mkF, argsToLocals, Value.category, maxLocals]; done) | rfl)
  have A2 := A0.iN H dcf_0 rfl rfl |>.aN H dcf_1 rfl rfl rfl
  have A1 : own_R p l e _ _ m _ below meth c S0 n0 h0 0 0 (mkF m 3 #[.val (.ref b), .val (.int n)] [(.int vs.length.toInt32), (.int n)]) := A2.len hx hZ (hb hby dcf_2) V_b
  have A3 := A1.sb H dcf_3 rfl _ rfl |>.bp H dcf_4 rfl 31 rfl |>.us H dcf_6 rfl _ rfl |>.ib H dcf_7 rfl _ rfl
  rw [hN] at A3
  exact A3.ret hx hlk hret (hb hby dcf_8) hnk (Or.inl ⟨rfl, by simp, _, rfl⟩) (by decide) (by decide) ⟨rfl, rfl⟩
theorem di4_0 : decode jdk_42_method_149_code 0 = .ok (.aload_n 0, 1) := by decide +kernel
theorem di4_1 : decode jdk_42_method_149_code 1 = .ok (.invokespecial 1, 3) := by decide +kernel
theorem di4_4 : decode jdk_42_method_149_code 4 = .ok (.iload_n 3, 1) := by decide +kernel
theorem di4_5 : decode jdk_42_method_149_code 5 = .ok (.ifCond .ne 22, 3) := by decide +kernel
theorem di4_27 : decode jdk_42_method_149_code 27 = .ok (.getstatic 38, 3) := by decide +kernel
theorem di4_30 : decode jdk_42_method_149_code 30 = .ok (.ifCond .eq 28, 3) := by decide +kernel
theorem di4_33 : decode jdk_42_method_149_code 33 = .ok (.aload_n 1, 1) := by decide +kernel
theorem di4_34 : decode jdk_42_method_149_code 34 = .ok (.iload_n 2, 1) := by decide +kernel
theorem di4_35 : decode jdk_42_method_149_code 35 = .ok (.iload_n 3, 1) := by decide +kernel
theorem di4_36 : decode jdk_42_method_149_code 36 = .ok (.invokestatic 177, 3) := by decide +kernel
theorem di4_39 : decode jdk_42_method_149_code 39 = .ok (.astore 5, 2) := by decide +kernel
theorem di4_41 : decode jdk_42_method_149_code 41 = .ok (.aload_n 0, 1) := by decide +kernel
theorem di4_42 : decode jdk_42_method_149_code 42 = .ok (.aload 5, 2) := by decide +kernel
theorem di4_44 : decode jdk_42_method_149_code 44 = .ok (.iload_n 3, 1) := by decide +kernel
theorem di4_45 : decode jdk_42_method_149_code 45 = .ok (.invokestatic 47, 3) := by decide +kernel
theorem di4_48 : decode jdk_42_method_149_code 48 = .ok (.putfield 15, 3) := by decide +kernel
theorem di4_51 : decode jdk_42_method_149_code 51 = .ok (.aload_n 0, 1) := by decide +kernel
theorem di4_52 : decode jdk_42_method_149_code 52 = .ok (.aload 5, 2) := by decide +kernel
theorem di4_54 : decode jdk_42_method_149_code 54 = .ok (.putfield 9, 3) := by decide +kernel
theorem di4_57 : decode jdk_42_method_149_code 57 = .ok (.return_, 1) := by decide +kernel
theorem own_in4 (l : Launch) (Z : State) (a0 : Array Value) (hw : ∀ d ∈ tables_1, d.before a0 Z = true) (t a : Addr) (n cs : Int32) (ch : List Int32) (h0 : Heap) (n0 : Nat) (Z0 : n0 ≤ h0.size) (E_t : Exa Z h0 t "java/lang/String") (F_t_coder : Fld Z h0 t "java/lang/String" "coder" "B" (.int 0)) (F_t_value : Fld Z h0 t "java/lang/String" "value" "[B" .null) (g_t : n0 ≤ t) (V_a : own_Ar Z h0 a .char (ch.map Value.int)) (hn : n = ch.length.toInt32) (hlen : ch.length < 64) (hle : ch.length ≤ 32) (h1n : 0 < ch.length) (hch : ∀ c ∈ ch, ¬ c < (0 : Int32) ∧ ¬ (65535 : Int32) < c) (S_cs : Sta Z h0 "java/lang/String" "COMPACT_STRINGS" "Z" (.int cs)) (hcs : ¬ (cs = (0 : Int32))) (S_ad : Sta Z h0 "java/lang/StringUTF16" "$assertionsDisabled" "Z" (.int 1)) (S_hi : Sta Z h0 "java/lang/StringUTF16" "HI_BYTE_SHIFT" "I" (.int 0)) (S_lo : Sta Z h0 "java/lang/StringUTF16" "LO_BYTE_SHIFT" "I" (.int 8)) :
    own_M l Z (⟨"java/lang/String", "<init>", "([CIILjava/lang/Void;)V"⟩ : MethodName) jdk_42_method_149_code 6 none [] (⟨4, 2, 96, 57⟩ : Room) #[(.ref t), (.ref a), (.int 0), (.int n), .null] h0 n0 (fun v h => ∃ (x : Addr) (k : Int32), v = none ∧ Keep h0 h [t] ∧ h0.size ≤ x ∧ Fld Z h t "java/lang/String" "coder" "B" (.int k) ∧ Fld Z h t "java/lang/String" "value" "[B" (.ref x) ∧ own_Ar Z h x .byte (own_by k ch) ∧ own_ok k ch) := by
  refine own_M.of pl18 ?_
  intro p e s m below meth c S0 hx hby hml hown hnm hret hlk hZ A00
  have H : own_H p c _ := ⟨hx, hby⟩
  have A0 := A00.cast (f' := mkF m 0 #[.val (.ref t), .val (.ref a), .val (.int 0), .val (.int n), .val .null, .unset] []) (by first | (simp [entryFrame, mkF, argsToLocals, Value.category, maxLocals]; done) | rfl)
  have KK : Keep h0 h0 [t] := Keep.refl _ _
  have hn0 : ¬ (n = (0 : Int32)) := by
    intro q
    have q2 := own_i32lt h1n hlen
    rw [← hn, q] at q2
    exact absurd q2 (by decide)
  have A1 := A0.aN H di4_0 rfl rfl rfl
  have A2 := A1.initO hx hZ hown (hb hby di4_1) (oW hw 16 rfl) (oW hw 17 rfl) (oW hw 18 rfl) (by rw [hml]; rfl) (W := 0) (Nat.le_of_eq rfl) (by decide) (by decide)
  have A3 := A2.iN H di4_4 rfl rfl |>.fy H di4_5 rfl ((if0 _ _).trans (feq hn0).2) 27 (by decide) (by decide)
  have A4 := A3.getS hx hZ hown (hb hby di4_27) (oW hw 55 rfl) Via.refl S_cs
  have A6 := A4.fn H di4_30 rfl ((if0 _ _).trans (feq hcs).1) |>.aN H di4_33 rfl rfl rfl |>.iN H di4_34 rfl rfl |>.iN H di4_35 rfl rfl
  obtain ⟨vA5, hA5, ⟨x, k, rfl, K7, zx, V_x, hok⟩, A5⟩ := A6.cS (own_cmb l Z a0 hw a n ch h0 n0 Z0 V_a hn hlen hle h1n hch S_ad S_hi S_lo) H hZ hown di4_36 (oW hw 190 rfl) (kS14 hw) hml rfl rfl [] rfl rfl
  have ne_x_t : x ≠ t := Ne.symm (Nat.ne_of_lt (Nat.lt_of_lt_of_le E_t.lt zx))
  have E_t := E_t.keep K7
  have F_t_coder := F_t_coder.keep K7 nin0
  have F_t_value := F_t_value.keep K7 nin0
  have Z0 := Nat.le_trans Z0 K7.1
  have KK : Keep h0 hA5 [t] := KK.trans K7 all0
  have A8 := A5.cl |>.aS H di4_39 rfl rfl #[.val (.ref t), .val (.ref a), .val (.int 0), .val (.int n), .val .null, .val (.ref x)] rfl |>.aN H di4_41 rfl rfl rfl |>.aL H di4_42 rfl rfl rfl |>.iN H di4_44 rfl rfl
  obtain ⟨vA7, hA7, ⟨rfl, rfl⟩, A7⟩ := A8.cS (own_cfa l Z a0 hw x n k _ hA5 n0 Z0 V_x (by rw [hn]; exact own_cod hok hlen h1n) (own_nk hok)) H hZ hown di4_45 (oW hw 197 rfl) (kS15 hw) hml rfl rfl [(.ref t)] rfl rfl
  have A12 := A7.cl
  obtain ⟨h9, W10, A11⟩ := A12.putF hx hZ hown (hb hby di4_48) (oW hw 26 rfl) F_t_coder E_t (Or.inr ⟨(oW hw 22 rfl), rfl, hnm⟩) (oW hw 7 rfl) (ty := .byte) (by decide) (own_nk hok) (own_fk hok) g_t
  have E_t := E_t.wr W10
  have F_t_coder : Fld Z h9 t "java/lang/String" "coder" "B" (.int k) := F_t_coder.same W10
  have F_t_value := F_t_value.other W10 (Or.inr (slot_ne (Or.inr (oW hw 21 rfl)) (Or.inr (oW hw 22 rfl)) (by decide) (t := (.array .byte)) (t' := .byte) (by decide) (by decide)))
  have V_x := V_x.other W10 ne_x_t
  have KK : Keep h0 h9 [t] := KK.wr W10 (Or.inl (by simp))
  have A16 := A11.aN H di4_51 rfl rfl rfl |>.aL H di4_52 rfl rfl rfl
  obtain ⟨h13, W14, A15⟩ := A16.putF hx hZ hown (hb hby di4_54) (oW hw 25 rfl) F_t_value E_t (Or.inr ⟨(oW hw 21 rfl), rfl, hnm⟩) (oW hw 7 rfl) (ty := (.array .byte)) (by decide) rfl rfl g_t
  have F_t_coder := F_t_coder.other W14 (Or.inr (slot_ne (Or.inr (oW hw 22 rfl)) (Or.inr (oW hw 21 rfl)) (by decide) (t := .byte) (t' := (.array .byte)) (by decide) (by decide)))
  have F_t_value : Fld Z h13 t "java/lang/String" "value" "[B" (.ref x) := F_t_value.same W14
  have V_x := V_x.other W14 ne_x_t
  have KK : Keep h0 h13 [t] := KK.wr W14 (Or.inl (by simp))
  exact A15.retV hx hlk hret (hb hby di4_57) (by decide) (by decide) ⟨x, k, rfl, KK, zx, F_t_coder, F_t_value, V_x, hok⟩
theorem di1_0 : decode jdk_42_method_3_code 0 = .ok (.aload_n 0, 1) := by decide +kernel
theorem di1_1 : decode jdk_42_method_3_code 1 = .ok (.aload_n 1, 1) := by decide +kernel
theorem di1_2 : decode jdk_42_method_3_code 2 = .ok (.iconst 0, 1) := by decide +kernel
theorem di1_3 : decode jdk_42_method_3_code 3 = .ok (.aload_n 1, 1) := by decide +kernel
theorem di1_4 : decode jdk_42_method_3_code 4 = .ok (.arraylength, 1) := by decide +kernel
theorem di1_5 : decode jdk_42_method_3_code 5 = .ok (.aconst_null, 1) := by decide +kernel
theorem di1_6 : decode jdk_42_method_3_code 6 = .ok (.invokespecial 27, 3) := by decide +kernel
theorem di1_9 : decode jdk_42_method_3_code 9 = .ok (.return_, 1) := by decide +kernel
theorem own_in1 (l : Launch) (Z : State) (a0 : Array Value) (hw : ∀ d ∈ tables_1, d.before a0 Z = true) (t a : Addr) (n cs : Int32) (ch : List Int32) (h0 : Heap) (n0 : Nat) (Z0 : n0 ≤ h0.size) (E_t : Exa Z h0 t "java/lang/String") (F_t_coder : Fld Z h0 t "java/lang/String" "coder" "B" (.int 0)) (F_t_value : Fld Z h0 t "java/lang/String" "value" "[B" .null) (g_t : n0 ≤ t) (V_a : own_Ar Z h0 a .char (ch.map Value.int)) (hn : n = ch.length.toInt32) (hlen : ch.length < 64) (hle : ch.length ≤ 32) (h1n : 0 < ch.length) (hch : ∀ c ∈ ch, ¬ c < (0 : Int32) ∧ ¬ (65535 : Int32) < c) (S_cs : Sta Z h0 "java/lang/String" "COMPACT_STRINGS" "Z" (.int cs)) (hcs : ¬ (cs = (0 : Int32))) (S_ad : Sta Z h0 "java/lang/StringUTF16" "$assertionsDisabled" "Z" (.int 1)) (S_hi : Sta Z h0 "java/lang/StringUTF16" "HI_BYTE_SHIFT" "I" (.int 0)) (S_lo : Sta Z h0 "java/lang/StringUTF16" "LO_BYTE_SHIFT" "I" (.int 8)) :
    own_M l Z (⟨"java/lang/String", "<init>", "([C)V"⟩ : MethodName) jdk_42_method_3_code 2 none [] (⟨5, 2, 96, 74⟩ : Room) #[(.ref t), (.ref a)] h0 n0 (fun v h => ∃ (x : Addr) (k : Int32), v = none ∧ Keep h0 h [t] ∧ h0.size ≤ x ∧ Fld Z h t "java/lang/String" "coder" "B" (.int k) ∧ Fld Z h t "java/lang/String" "value" "[B" (.ref x) ∧ own_Ar Z h x .byte (own_by k ch) ∧ own_ok k ch) := by
  refine own_M.of pl19 ?_
  intro p e s m below meth c S0 hx hby hml hown hnm hret hlk hZ A00
  have H : own_H p c _ := ⟨hx, hby⟩
  have A0 := A00.cast (f' := mkF m 0 #[.val (.ref t), .val (.ref a)] []) (by first | (simp [entryFrame, mkF, argsToLocals, Value.category, maxLocals]; done) | rfl)
  have A2 := A0.aN H di1_0 rfl rfl rfl |>.aN H di1_1 rfl rfl rfl |>.ic H di1_2 rfl 0 rfl |>.aN H di1_3 rfl rfl rfl
  have A1 : own_R p l e _ _ m _ below meth c S0 n0 h0 0 0 (mkF m 5 #[.val (.ref t), .val (.ref a)] [(.int (ch.map Value.int).length.toInt32), (.int 0), (.ref a), (.ref t)]) := A2.len hx hZ (hb hby di1_4) V_a
  rw [List.length_map, ← hn] at A1
  have A4 := A1.nu H di1_5 rfl
  obtain ⟨vA3, hA3, ⟨x, k, rfl, Q9⟩, A3⟩ := A4.cI (own_in4 l Z a0 hw t a n cs ch h0 n0 Z0 E_t F_t_coder F_t_value g_t V_a hn hlen hle h1n hch S_cs hcs S_ad S_hi S_lo) H hZ hown di1_6 (oW hw 12 rfl) (kI16 hw) hml rfl rfl [] rfl rfl
  have A5 := A3.c0
  exact A5.retV hx hlk hret (hb hby di1_9) (by decide) (by decide) ⟨x, k, rfl, Q9⟩
def own_EL : List (String × Nat) := [("com/example/paretolio/paretolio/RecordReader", 108), ("com/example/paretolio/paretolio/RecordReader", 131), ("java/lang/String", 7)]
def own_sh (e : Int32) : Int32 := if e < (32 : Int32) then (63 : Int32) else (if (126 : Int32) < e then (63 : Int32) else e)
theorem own_sh255 (e : Int32) : ¬ (255 : Int32) < own_sh e := by
  unfold own_sh
  split
  · decide
  · split
    · decide
    · rename_i h
      rw [Int32.lt_iff_toInt_lt] at h ⊢
      have e1 : (126 : Int32).toInt = 126 := by decide
      have e2 : (255 : Int32).toInt = 255 := by decide
      omega
theorem dm9_0 : decode jdk_42_method_152_code 0 = .ok (.getstatic 38, 3) := by decide +kernel
theorem dm9_3 : decode jdk_42_method_152_code 3 = .ok (.ifCond .eq 10, 3) := by decide +kernel
theorem dm9_6 : decode jdk_42_method_152_code 6 = .ok (.aload_n 0, 1) := by decide +kernel
theorem dm9_7 : decode jdk_42_method_152_code 7 = .ok (.getfield 15, 3) := by decide +kernel
theorem dm9_10 : decode jdk_42_method_152_code 10 = .ok (.goto 4, 3) := by decide +kernel
theorem dm9_14 : decode jdk_42_method_152_code 14 = .ok (.ireturn, 1) := by decide +kernel
theorem dm8_0 : decode jdk_42_method_54_code 0 = .ok (.aload_n 0, 1) := by decide +kernel
theorem dm8_1 : decode jdk_42_method_54_code 1 = .ok (.getfield 9, 3) := by decide +kernel
theorem dm8_4 : decode jdk_42_method_54_code 4 = .ok (.arraylength, 1) := by decide +kernel
theorem dm8_5 : decode jdk_42_method_54_code 5 = .ok (.aload_n 0, 1) := by decide +kernel
theorem dm8_6 : decode jdk_42_method_54_code 6 = .ok (.invokevirtual 335, 3) := by decide +kernel
theorem dm8_9 : decode jdk_42_method_54_code 9 = .ok (.ishr, 1) := by decide +kernel
theorem dm8_10 : decode jdk_42_method_54_code 10 = .ok (.ireturn, 1) := by decide +kernel
theorem dm13_0 : decode jdk_68_method_9_code 0 = .ok (.aload_n 0, 1) := by decide +kernel
theorem dm13_1 : decode jdk_68_method_9_code 1 = .ok (.getfield 15, 3) := by decide +kernel
theorem dm13_4 : decode jdk_68_method_9_code 4 = .ok (.arraylength, 1) := by decide +kernel
theorem dm13_5 : decode jdk_68_method_9_code 5 = .ok (.aload_n 0, 1) := by decide +kernel
theorem dm13_6 : decode jdk_68_method_9_code 6 = .ok (.getfield 22, 3) := by decide +kernel
theorem dm13_9 : decode jdk_68_method_9_code 9 = .ok (.ishr, 1) := by decide +kernel
theorem dm13_10 : decode jdk_68_method_9_code 10 = .ok (.istore_n 2, 1) := by decide +kernel
theorem dm13_11 : decode jdk_68_method_9_code 11 = .ok (.iload_n 1, 1) := by decide +kernel
theorem dm13_12 : decode jdk_68_method_9_code 12 = .ok (.iload_n 2, 1) := by decide +kernel
theorem dm13_13 : decode jdk_68_method_9_code 13 = .ok (.isub, 1) := by decide +kernel
theorem dm13_14 : decode jdk_68_method_9_code 14 = .ok (.ifCond .le 24, 3) := by decide +kernel
theorem dm13_17 : decode jdk_68_method_9_code 17 = .ok (.aload_n 0, 1) := by decide +kernel
theorem dm13_18 : decode jdk_68_method_9_code 18 = .ok (.aload_n 0, 1) := by decide +kernel
theorem dm13_19 : decode jdk_68_method_9_code 19 = .ok (.getfield 15, 3) := by decide +kernel
theorem dm13_22 : decode jdk_68_method_9_code 22 = .ok (.aload_n 0, 1) := by decide +kernel
theorem dm13_23 : decode jdk_68_method_9_code 23 = .ok (.iload_n 1, 1) := by decide +kernel
theorem dm13_24 : decode jdk_68_method_9_code 24 = .ok (.invokevirtual 104, 3) := by decide +kernel
theorem dm13_27 : decode jdk_68_method_9_code 27 = .ok (.aload_n 0, 1) := by decide +kernel
theorem dm13_28 : decode jdk_68_method_9_code 28 = .ok (.getfield 22, 3) := by decide +kernel
theorem dm13_31 : decode jdk_68_method_9_code 31 = .ok (.ishl, 1) := by decide +kernel
theorem dm13_32 : decode jdk_68_method_9_code 32 = .ok (.invokestatic 108, 3) := by decide +kernel
theorem dm13_35 : decode jdk_68_method_9_code 35 = .ok (.putfield 15, 3) := by decide +kernel
theorem dm13_38 : decode jdk_68_method_9_code 38 = .ok (.return_, 1) := by decide +kernel
theorem dm15_0 : decode jdk_68_method_71_code 0 = .ok (.getstatic 18, 3) := by decide +kernel
theorem dm15_3 : decode jdk_68_method_71_code 3 = .ok (.ifCond .eq 18, 3) := by decide +kernel
theorem dm15_6 : decode jdk_68_method_71_code 6 = .ok (.aload_n 0, 1) := by decide +kernel
theorem dm15_7 : decode jdk_68_method_71_code 7 = .ok (.getfield 22, 3) := by decide +kernel
theorem dm15_10 : decode jdk_68_method_71_code 10 = .ok (.aload_n 1, 1) := by decide +kernel
theorem dm15_11 : decode jdk_68_method_71_code 11 = .ok (.invokevirtual 40, 3) := by decide +kernel
theorem dm15_14 : decode jdk_68_method_71_code 14 = .ok (.if_icmp .eq 7, 3) := by decide +kernel
theorem dm15_21 : decode jdk_68_method_71_code 21 = .ok (.return_, 1) := by decide +kernel
theorem dm16_0 : decode jdk_42_method_147_code 0 = .ok (.aload_n 0, 1) := by decide +kernel
theorem dm16_1 : decode jdk_42_method_147_code 1 = .ok (.invokevirtual 335, 3) := by decide +kernel
theorem dm16_4 : decode jdk_42_method_147_code 4 = .ok (.iload_n 3, 1) := by decide +kernel
theorem dm16_5 : decode jdk_42_method_147_code 5 = .ok (.if_icmp .ne 23, 3) := by decide +kernel
theorem dm16_8 : decode jdk_42_method_147_code 8 = .ok (.aload_n 0, 1) := by decide +kernel
theorem dm16_9 : decode jdk_42_method_147_code 9 = .ok (.getfield 9, 3) := by decide +kernel
theorem dm16_12 : decode jdk_42_method_147_code 12 = .ok (.iconst 0, 1) := by decide +kernel
theorem dm16_13 : decode jdk_42_method_147_code 13 = .ok (.aload_n 1, 1) := by decide +kernel
theorem dm16_14 : decode jdk_42_method_147_code 14 = .ok (.iload_n 2, 1) := by decide +kernel
theorem dm16_15 : decode jdk_42_method_147_code 15 = .ok (.iload_n 3, 1) := by decide +kernel
theorem dm16_16 : decode jdk_42_method_147_code 16 = .ok (.ishl, 1) := by decide +kernel
theorem dm16_17 : decode jdk_42_method_147_code 17 = .ok (.aload_n 0, 1) := by decide +kernel
theorem dm16_18 : decode jdk_42_method_147_code 18 = .ok (.getfield 9, 3) := by decide +kernel
theorem dm16_21 : decode jdk_42_method_147_code 21 = .ok (.arraylength, 1) := by decide +kernel
theorem dm16_22 : decode jdk_42_method_147_code 22 = .ok (.invokestatic 212, 3) := by decide +kernel
theorem dm16_25 : decode jdk_42_method_147_code 25 = .ok (.goto 18, 3) := by decide +kernel
theorem dm16_43 : decode jdk_42_method_147_code 43 = .ok (.return_, 1) := by decide +kernel
theorem dm14_0 : decode jdk_68_method_73_code 0 = .ok (.aload_n 0, 1) := by decide +kernel
theorem dm14_1 : decode jdk_68_method_73_code 1 = .ok (.aload_n 2, 1) := by decide +kernel
theorem dm14_2 : decode jdk_68_method_73_code 2 = .ok (.invokevirtual 397, 3) := by decide +kernel
theorem dm14_5 : decode jdk_68_method_73_code 5 = .ok (.aload_n 2, 1) := by decide +kernel
theorem dm14_6 : decode jdk_68_method_73_code 6 = .ok (.aload_n 0, 1) := by decide +kernel
theorem dm14_7 : decode jdk_68_method_73_code 7 = .ok (.getfield 15, 3) := by decide +kernel
theorem dm14_10 : decode jdk_68_method_73_code 10 = .ok (.iload_n 1, 1) := by decide +kernel
theorem dm14_11 : decode jdk_68_method_73_code 11 = .ok (.aload_n 0, 1) := by decide +kernel
theorem dm14_12 : decode jdk_68_method_73_code 12 = .ok (.getfield 22, 3) := by decide +kernel
theorem dm14_15 : decode jdk_68_method_73_code 15 = .ok (.invokevirtual 399, 3) := by decide +kernel
theorem dm14_18 : decode jdk_68_method_73_code 18 = .ok (.return_, 1) := by decide +kernel
theorem dm12_0 : decode jdk_68_method_22_code 0 = .ok (.aload_n 1, 1) := by decide +kernel
theorem dm12_1 : decode jdk_68_method_22_code 1 = .ok (.ifnonnull 8, 3) := by decide +kernel
theorem dm12_9 : decode jdk_68_method_22_code 9 = .ok (.aload_n 1, 1) := by decide +kernel
theorem dm12_10 : decode jdk_68_method_22_code 10 = .ok (.invokevirtual 32, 3) := by decide +kernel
theorem dm12_13 : decode jdk_68_method_22_code 13 = .ok (.istore_n 2, 1) := by decide +kernel
theorem dm12_14 : decode jdk_68_method_22_code 14 = .ok (.aload_n 0, 1) := by decide +kernel
theorem dm12_15 : decode jdk_68_method_22_code 15 = .ok (.aload_n 0, 1) := by decide +kernel
theorem dm12_16 : decode jdk_68_method_22_code 16 = .ok (.getfield 79, 3) := by decide +kernel
theorem dm12_19 : decode jdk_68_method_22_code 19 = .ok (.iload_n 2, 1) := by decide +kernel
theorem dm12_20 : decode jdk_68_method_22_code 20 = .ok (.iadd, 1) := by decide +kernel
theorem dm12_21 : decode jdk_68_method_22_code 21 = .ok (.invokevirtual 100, 3) := by decide +kernel
theorem dm12_24 : decode jdk_68_method_22_code 24 = .ok (.aload_n 0, 1) := by decide +kernel
theorem dm12_25 : decode jdk_68_method_22_code 25 = .ok (.aload_n 0, 1) := by decide +kernel
theorem dm12_26 : decode jdk_68_method_22_code 26 = .ok (.getfield 79, 3) := by decide +kernel
theorem dm12_29 : decode jdk_68_method_22_code 29 = .ok (.aload_n 1, 1) := by decide +kernel
theorem dm12_30 : decode jdk_68_method_22_code 30 = .ok (.invokevirtual 208, 3) := by decide +kernel
theorem dm12_33 : decode jdk_68_method_22_code 33 = .ok (.aload_n 0, 1) := by decide +kernel
theorem dm12_34 : decode jdk_68_method_22_code 34 = .ok (.dup, 1) := by decide +kernel
theorem dm12_35 : decode jdk_68_method_22_code 35 = .ok (.getfield 79, 3) := by decide +kernel
theorem dm12_38 : decode jdk_68_method_22_code 38 = .ok (.iload_n 2, 1) := by decide +kernel
theorem dm12_39 : decode jdk_68_method_22_code 39 = .ok (.iadd, 1) := by decide +kernel
theorem dm12_40 : decode jdk_68_method_22_code 40 = .ok (.putfield 79, 3) := by decide +kernel
theorem dm12_43 : decode jdk_68_method_22_code 43 = .ok (.aload_n 0, 1) := by decide +kernel
theorem dm12_44 : decode jdk_68_method_22_code 44 = .ok (.areturn, 1) := by decide +kernel
theorem dm11_0 : decode jdk_67_method_7_code 0 = .ok (.aload_n 0, 1) := by decide +kernel
theorem dm11_1 : decode jdk_67_method_7_code 1 = .ok (.aload_n 1, 1) := by decide +kernel
theorem dm11_2 : decode jdk_67_method_7_code 2 = .ok (.invokespecial 29, 3) := by decide +kernel
theorem dm11_5 : decode jdk_67_method_7_code 5 = .ok (.pop, 1) := by decide +kernel
theorem dm11_6 : decode jdk_67_method_7_code 6 = .ok (.aload_n 0, 1) := by decide +kernel
theorem dm11_7 : decode jdk_67_method_7_code 7 = .ok (.areturn, 1) := by decide +kernel
theorem dm10_0 : decode jdk_67_method_80_code 0 = .ok (.aload_n 0, 1) := by decide +kernel
theorem dm10_1 : decode jdk_67_method_80_code 1 = .ok (.aload_n 1, 1) := by decide +kernel
theorem dm10_2 : decode jdk_67_method_80_code 2 = .ok (.invokevirtual 23, 3) := by decide +kernel
theorem dm10_5 : decode jdk_67_method_80_code 5 = .ok (.areturn, 1) := by decide +kernel
theorem dm7_0 : decode jdk_68_method_3_code 0 = .ok (.aload_n 0, 1) := by decide +kernel
theorem dm7_1 : decode jdk_68_method_3_code 1 = .ok (.invokespecial 3, 3) := by decide +kernel
theorem dm7_4 : decode jdk_68_method_3_code 4 = .ok (.aload_n 1, 1) := by decide +kernel
theorem dm7_5 : decode jdk_68_method_3_code 5 = .ok (.invokevirtual 32, 3) := by decide +kernel
theorem dm7_8 : decode jdk_68_method_3_code 8 = .ok (.istore_n 2, 1) := by decide +kernel
theorem dm7_9 : decode jdk_68_method_3_code 9 = .ok (.iload_n 2, 1) := by decide +kernel
theorem dm7_10 : decode jdk_68_method_3_code 10 = .ok (.ldc 38, 2) := by decide +kernel
theorem dm7_12 : decode jdk_68_method_3_code 12 = .ok (.if_icmp .ge 10, 3) := by decide +kernel
theorem dm7_15 : decode jdk_68_method_3_code 15 = .ok (.iload_n 2, 1) := by decide +kernel
theorem dm7_16 : decode jdk_68_method_3_code 16 = .ok (.bipush 16, 2) := by decide +kernel
theorem dm7_18 : decode jdk_68_method_3_code 18 = .ok (.iadd, 1) := by decide +kernel
theorem dm7_19 : decode jdk_68_method_3_code 19 = .ok (.goto 5, 3) := by decide +kernel
theorem dm7_24 : decode jdk_68_method_3_code 24 = .ok (.istore_n 3, 1) := by decide +kernel
theorem dm7_25 : decode jdk_68_method_3_code 25 = .ok (.aload_n 1, 1) := by decide +kernel
theorem dm7_26 : decode jdk_68_method_3_code 26 = .ok (.invokevirtual 40, 3) := by decide +kernel
theorem dm7_29 : decode jdk_68_method_3_code 29 = .ok (.istore 4, 2) := by decide +kernel
theorem dm7_31 : decode jdk_68_method_3_code 31 = .ok (.aload_n 0, 1) := by decide +kernel
theorem dm7_32 : decode jdk_68_method_3_code 32 = .ok (.iload 4, 2) := by decide +kernel
theorem dm7_34 : decode jdk_68_method_3_code 34 = .ok (.putfield 22, 3) := by decide +kernel
theorem dm7_37 : decode jdk_68_method_3_code 37 = .ok (.aload_n 0, 1) := by decide +kernel
theorem dm7_38 : decode jdk_68_method_3_code 38 = .ok (.iload 4, 2) := by decide +kernel
theorem dm7_40 : decode jdk_68_method_3_code 40 = .ok (.ifCond .ne 9, 3) := by decide +kernel
theorem dm7_43 : decode jdk_68_method_3_code 43 = .ok (.iload_n 3, 1) := by decide +kernel
theorem dm7_44 : decode jdk_68_method_3_code 44 = .ok (.newarray .byte, 2) := by decide +kernel
theorem dm7_46 : decode jdk_68_method_3_code 46 = .ok (.goto 7, 3) := by decide +kernel
theorem dm7_53 : decode jdk_68_method_3_code 53 = .ok (.putfield 15, 3) := by decide +kernel
theorem dm7_56 : decode jdk_68_method_3_code 56 = .ok (.aload_n 0, 1) := by decide +kernel
theorem dm7_57 : decode jdk_68_method_3_code 57 = .ok (.aload_n 1, 1) := by decide +kernel
theorem dm7_58 : decode jdk_68_method_3_code 58 = .ok (.invokevirtual 43, 3) := by decide +kernel
theorem dm7_61 : decode jdk_68_method_3_code 61 = .ok (.pop, 1) := by decide +kernel
theorem dm7_62 : decode jdk_68_method_3_code 62 = .ok (.return_, 1) := by decide +kernel
theorem dm6_0 : decode jdk_67_method_3_code 0 = .ok (.aload_n 0, 1) := by decide +kernel
theorem dm6_1 : decode jdk_67_method_3_code 1 = .ok (.aload_n 1, 1) := by decide +kernel
theorem dm6_2 : decode jdk_67_method_3_code 2 = .ok (.invokespecial 7, 3) := by decide +kernel
theorem dm6_5 : decode jdk_67_method_3_code 5 = .ok (.return_, 1) := by decide +kernel
theorem dm17_0 : decode jdk_29_method_69_code 0 = .ok (.iload_n 0, 1) := by decide +kernel
theorem dm17_1 : decode jdk_29_method_69_code 1 = .ok (.iload_n 1, 1) := by decide +kernel
theorem dm17_2 : decode jdk_29_method_69_code 2 = .ok (.if_icmp .gt 7, 3) := by decide +kernel
theorem dm17_5 : decode jdk_29_method_69_code 5 = .ok (.iload_n 0, 1) := by decide +kernel
theorem dm17_6 : decode jdk_29_method_69_code 6 = .ok (.goto 4, 3) := by decide +kernel
theorem dm17_9 : decode jdk_29_method_69_code 9 = .ok (.iload_n 1, 1) := by decide +kernel
theorem dm17_10 : decode jdk_29_method_69_code 10 = .ok (.ireturn, 1) := by decide +kernel
theorem dm20_0 : decode jdk_68_method_68_code 0 = .ok (.getstatic 18, 3) := by decide +kernel
theorem dm20_3 : decode jdk_68_method_68_code 3 = .ok (.ifCond .eq 14, 3) := by decide +kernel
theorem dm20_6 : decode jdk_68_method_68_code 6 = .ok (.aload_n 0, 1) := by decide +kernel
theorem dm20_7 : decode jdk_68_method_68_code 7 = .ok (.getfield 22, 3) := by decide +kernel
theorem dm20_10 : decode jdk_68_method_68_code 10 = .ok (.ifCond .ne 7, 3) := by decide +kernel
theorem dm20_13 : decode jdk_68_method_68_code 13 = .ok (.iconst 1, 1) := by decide +kernel
theorem dm20_14 : decode jdk_68_method_68_code 14 = .ok (.goto 4, 3) := by decide +kernel
theorem dm20_18 : decode jdk_68_method_68_code 18 = .ok (.ireturn, 1) := by decide +kernel
theorem dm21_0 : decode jdk_43_method_3_code 0 = .ok (.iload_n 0, 1) := by decide +kernel
theorem dm21_1 : decode jdk_43_method_3_code 1 = .ok (.sipush 255, 3) := by decide +kernel
theorem dm21_4 : decode jdk_43_method_3_code 4 = .ok (.if_icmp .gt 7, 3) := by decide +kernel
theorem dm21_7 : decode jdk_43_method_3_code 7 = .ok (.iconst 1, 1) := by decide +kernel
theorem dm21_8 : decode jdk_43_method_3_code 8 = .ok (.goto 4, 3) := by decide +kernel
theorem dm21_12 : decode jdk_43_method_3_code 12 = .ok (.ireturn, 1) := by decide +kernel
theorem dm19_0 : decode jdk_68_method_31_code 0 = .ok (.aload_n 0, 1) := by decide +kernel
theorem dm19_1 : decode jdk_68_method_31_code 1 = .ok (.aload_n 0, 1) := by decide +kernel
theorem dm19_2 : decode jdk_68_method_31_code 2 = .ok (.getfield 79, 3) := by decide +kernel
theorem dm19_5 : decode jdk_68_method_31_code 5 = .ok (.iconst 1, 1) := by decide +kernel
theorem dm19_6 : decode jdk_68_method_31_code 6 = .ok (.iadd, 1) := by decide +kernel
theorem dm19_7 : decode jdk_68_method_31_code 7 = .ok (.invokevirtual 100, 3) := by decide +kernel
theorem dm19_10 : decode jdk_68_method_31_code 10 = .ok (.aload_n 0, 1) := by decide +kernel
theorem dm19_11 : decode jdk_68_method_31_code 11 = .ok (.invokevirtual 83, 3) := by decide +kernel
theorem dm19_14 : decode jdk_68_method_31_code 14 = .ok (.ifCond .eq 31, 3) := by decide +kernel
theorem dm19_17 : decode jdk_68_method_31_code 17 = .ok (.iload_n 1, 1) := by decide +kernel
theorem dm19_18 : decode jdk_68_method_31_code 18 = .ok (.invokestatic 191, 3) := by decide +kernel
theorem dm19_21 : decode jdk_68_method_31_code 21 = .ok (.ifCond .eq 24, 3) := by decide +kernel
theorem dm19_24 : decode jdk_68_method_31_code 24 = .ok (.aload_n 0, 1) := by decide +kernel
theorem dm19_25 : decode jdk_68_method_31_code 25 = .ok (.getfield 15, 3) := by decide +kernel
theorem dm19_28 : decode jdk_68_method_31_code 28 = .ok (.aload_n 0, 1) := by decide +kernel
theorem dm19_29 : decode jdk_68_method_31_code 29 = .ok (.dup, 1) := by decide +kernel
theorem dm19_30 : decode jdk_68_method_31_code 30 = .ok (.getfield 79, 3) := by decide +kernel
theorem dm19_33 : decode jdk_68_method_31_code 33 = .ok (.dup_x1, 1) := by decide +kernel
theorem dm19_34 : decode jdk_68_method_31_code 34 = .ok (.iconst 1, 1) := by decide +kernel
theorem dm19_35 : decode jdk_68_method_31_code 35 = .ok (.iadd, 1) := by decide +kernel
theorem dm19_36 : decode jdk_68_method_31_code 36 = .ok (.putfield 79, 3) := by decide +kernel
theorem dm19_39 : decode jdk_68_method_31_code 39 = .ok (.iload_n 1, 1) := by decide +kernel
theorem dm19_40 : decode jdk_68_method_31_code 40 = .ok (.i2b, 1) := by decide +kernel
theorem dm19_41 : decode jdk_68_method_31_code 41 = .ok (.bastore, 1) := by decide +kernel
theorem dm19_42 : decode jdk_68_method_31_code 42 = .ok (.goto 33, 3) := by decide +kernel
theorem dm19_75 : decode jdk_68_method_31_code 75 = .ok (.aload_n 0, 1) := by decide +kernel
theorem dm19_76 : decode jdk_68_method_31_code 76 = .ok (.areturn, 1) := by decide +kernel
theorem dm18_0 : decode jdk_67_method_14_code 0 = .ok (.aload_n 0, 1) := by decide +kernel
theorem dm18_1 : decode jdk_67_method_14_code 1 = .ok (.iload_n 1, 1) := by decide +kernel
theorem dm18_2 : decode jdk_67_method_14_code 2 = .ok (.invokespecial 50, 3) := by decide +kernel
theorem dm18_5 : decode jdk_67_method_14_code 5 = .ok (.pop, 1) := by decide +kernel
theorem dm18_6 : decode jdk_67_method_14_code 6 = .ok (.aload_n 0, 1) := by decide +kernel
theorem dm18_7 : decode jdk_67_method_14_code 7 = .ok (.areturn, 1) := by decide +kernel
theorem dm25_0 : decode jdk_68_method_64_code 0 = .ok (.aload_n 0, 1) := by decide +kernel
theorem dm25_1 : decode jdk_68_method_64_code 1 = .ok (.getfield 15, 3) := by decide +kernel
theorem dm25_4 : decode jdk_68_method_64_code 4 = .ok (.areturn, 1) := by decide +kernel
theorem dm27_0 : decode jdk_68_method_6_code 0 = .ok (.aload_n 0, 1) := by decide +kernel
theorem dm27_1 : decode jdk_68_method_6_code 1 = .ok (.getfield 79, 3) := by decide +kernel
theorem dm27_4 : decode jdk_68_method_6_code 4 = .ok (.ireturn, 1) := by decide +kernel
theorem dm26_0 : decode jdk_67_method_93_code 0 = .ok (.aload_n 0, 1) := by decide +kernel
theorem dm26_1 : decode jdk_67_method_93_code 1 = .ok (.invokespecial 343, 3) := by decide +kernel
theorem dm26_4 : decode jdk_67_method_93_code 4 = .ok (.ireturn, 1) := by decide +kernel
theorem dm30_0 : decode jdk_65_method_131_code 0 = .ok (.iload_n 1, 1) := by decide +kernel
theorem dm30_1 : decode jdk_65_method_131_code 1 = .ok (.iload_n 0, 1) := by decide +kernel
theorem dm30_2 : decode jdk_65_method_131_code 2 = .ok (.if_icmp .ge 35, 3) := by decide +kernel
theorem dm30_37 : decode jdk_65_method_131_code 37 = .ok (.return_, 1) := by decide +kernel
theorem dm29_0 : decode jdk_65_method_133_code 0 = .ok (.iload_n 1, 1) := by decide +kernel
theorem dm29_1 : decode jdk_65_method_133_code 1 = .ok (.iload_n 2, 1) := by decide +kernel
theorem dm29_2 : decode jdk_65_method_133_code 2 = .ok (.invokestatic 343, 3) := by decide +kernel
theorem dm29_5 : decode jdk_65_method_133_code 5 = .ok (.iload_n 2, 1) := by decide +kernel
theorem dm29_6 : decode jdk_65_method_133_code 6 = .ok (.iload_n 1, 1) := by decide +kernel
theorem dm29_7 : decode jdk_65_method_133_code 7 = .ok (.isub, 1) := by decide +kernel
theorem dm29_8 : decode jdk_65_method_133_code 8 = .ok (.istore_n 3, 1) := by decide +kernel
theorem dm29_9 : decode jdk_65_method_133_code 9 = .ok (.iload_n 3, 1) := by decide +kernel
theorem dm29_10 : decode jdk_65_method_133_code 10 = .ok (.newarray .byte, 2) := by decide +kernel
theorem dm29_12 : decode jdk_65_method_133_code 12 = .ok (.astore 4, 2) := by decide +kernel
theorem dm29_14 : decode jdk_65_method_133_code 14 = .ok (.aload_n 0, 1) := by decide +kernel
theorem dm29_15 : decode jdk_65_method_133_code 15 = .ok (.iload_n 1, 1) := by decide +kernel
theorem dm29_16 : decode jdk_65_method_133_code 16 = .ok (.aload 4, 2) := by decide +kernel
theorem dm29_18 : decode jdk_65_method_133_code 18 = .ok (.iconst 0, 1) := by decide +kernel
theorem dm29_19 : decode jdk_65_method_133_code 19 = .ok (.aload_n 0, 1) := by decide +kernel
theorem dm29_20 : decode jdk_65_method_133_code 20 = .ok (.arraylength, 1) := by decide +kernel
theorem dm29_21 : decode jdk_65_method_133_code 21 = .ok (.iload_n 1, 1) := by decide +kernel
theorem dm29_22 : decode jdk_65_method_133_code 22 = .ok (.isub, 1) := by decide +kernel
theorem dm29_23 : decode jdk_65_method_133_code 23 = .ok (.iload_n 3, 1) := by decide +kernel
theorem dm29_24 : decode jdk_65_method_133_code 24 = .ok (.invokestatic 304, 3) := by decide +kernel
theorem dm29_27 : decode jdk_65_method_133_code 27 = .ok (.invokestatic 150, 3) := by decide +kernel
theorem dm29_30 : decode jdk_65_method_133_code 30 = .ok (.aload 4, 2) := by decide +kernel
theorem dm29_32 : decode jdk_65_method_133_code 32 = .ok (.areturn, 1) := by decide +kernel
theorem dm28_0 : decode jdk_65_method_132_code 0 = .ok (.iload_n 1, 1) := by decide +kernel
theorem dm28_1 : decode jdk_65_method_132_code 1 = .ok (.ifCond .ne 9, 3) := by decide +kernel
theorem dm28_4 : decode jdk_65_method_132_code 4 = .ok (.iload_n 2, 1) := by decide +kernel
theorem dm28_5 : decode jdk_65_method_132_code 5 = .ok (.aload_n 0, 1) := by decide +kernel
theorem dm28_6 : decode jdk_65_method_132_code 6 = .ok (.arraylength, 1) := by decide +kernel
theorem dm28_7 : decode jdk_65_method_132_code 7 = .ok (.if_icmp .eq 10, 3) := by decide +kernel
theorem dm28_10 : decode jdk_65_method_132_code 10 = .ok (.aload_n 0, 1) := by decide +kernel
theorem dm28_11 : decode jdk_65_method_132_code 11 = .ok (.iload_n 1, 1) := by decide +kernel
theorem dm28_12 : decode jdk_65_method_132_code 12 = .ok (.iload_n 2, 1) := by decide +kernel
theorem dm28_13 : decode jdk_65_method_132_code 13 = .ok (.invokestatic 339, 3) := by decide +kernel
theorem dm28_16 : decode jdk_65_method_132_code 16 = .ok (.areturn, 1) := by decide +kernel
theorem dm24_0 : decode jdk_42_method_150_code 0 = .ok (.aload_n 0, 1) := by decide +kernel
theorem dm24_1 : decode jdk_42_method_150_code 1 = .ok (.invokespecial 1, 3) := by decide +kernel
theorem dm24_4 : decode jdk_42_method_150_code 4 = .ok (.aload_n 1, 1) := by decide +kernel
theorem dm24_5 : decode jdk_42_method_150_code 5 = .ok (.invokevirtual 552, 3) := by decide +kernel
theorem dm24_8 : decode jdk_42_method_150_code 8 = .ok (.astore_n 3, 1) := by decide +kernel
theorem dm24_9 : decode jdk_42_method_150_code 9 = .ok (.aload_n 1, 1) := by decide +kernel
theorem dm24_10 : decode jdk_42_method_150_code 10 = .ok (.invokevirtual 549, 3) := by decide +kernel
theorem dm24_13 : decode jdk_42_method_150_code 13 = .ok (.istore 4, 2) := by decide +kernel
theorem dm24_15 : decode jdk_42_method_150_code 15 = .ok (.aload_n 1, 1) := by decide +kernel
theorem dm24_16 : decode jdk_42_method_150_code 16 = .ok (.invokevirtual 1047, 3) := by decide +kernel
theorem dm24_19 : decode jdk_42_method_150_code 19 = .ok (.ifCond .eq 22, 3) := by decide +kernel
theorem dm24_22 : decode jdk_42_method_150_code 22 = .ok (.aload_n 0, 1) := by decide +kernel
theorem dm24_23 : decode jdk_42_method_150_code 23 = .ok (.iconst 0, 1) := by decide +kernel
theorem dm24_24 : decode jdk_42_method_150_code 24 = .ok (.putfield 15, 3) := by decide +kernel
theorem dm24_27 : decode jdk_42_method_150_code 27 = .ok (.aload_n 0, 1) := by decide +kernel
theorem dm24_28 : decode jdk_42_method_150_code 28 = .ok (.aload_n 3, 1) := by decide +kernel
theorem dm24_29 : decode jdk_42_method_150_code 29 = .ok (.iconst 0, 1) := by decide +kernel
theorem dm24_30 : decode jdk_42_method_150_code 30 = .ok (.iload 4, 2) := by decide +kernel
theorem dm24_32 : decode jdk_42_method_150_code 32 = .ok (.invokestatic 54, 3) := by decide +kernel
theorem dm24_35 : decode jdk_42_method_150_code 35 = .ok (.putfield 9, 3) := by decide +kernel
theorem dm24_38 : decode jdk_42_method_150_code 38 = .ok (.goto 59, 3) := by decide +kernel
theorem dm24_97 : decode jdk_42_method_150_code 97 = .ok (.return_, 1) := by decide +kernel
theorem dm23_0 : decode jdk_42_method_53_code 0 = .ok (.aload_n 0, 1) := by decide +kernel
theorem dm23_1 : decode jdk_42_method_53_code 1 = .ok (.aload_n 1, 1) := by decide +kernel
theorem dm23_2 : decode jdk_42_method_53_code 2 = .ok (.aconst_null, 1) := by decide +kernel
theorem dm23_3 : decode jdk_42_method_53_code 3 = .ok (.invokespecial 489, 3) := by decide +kernel
theorem dm23_6 : decode jdk_42_method_53_code 6 = .ok (.return_, 1) := by decide +kernel
theorem dm22_0 : decode jdk_67_method_42_code 0 = .ok (.new 18, 3) := by decide +kernel
theorem dm22_3 : decode jdk_67_method_42_code 3 = .ok (.dup, 1) := by decide +kernel
theorem dm22_4 : decode jdk_67_method_42_code 4 = .ok (.aload_n 0, 1) := by decide +kernel
theorem dm22_5 : decode jdk_67_method_42_code 5 = .ok (.invokespecial 137, 3) := by decide +kernel
theorem dm22_8 : decode jdk_67_method_42_code 8 = .ok (.areturn, 1) := by decide +kernel
theorem dm5_0 : decode prog_11_method_10_code 0 = .ok (.new 106, 3) := by decide +kernel
theorem dm5_3 : decode prog_11_method_10_code 3 = .ok (.dup, 1) := by decide +kernel
theorem dm5_4 : decode prog_11_method_10_code 4 = .ok (.ldc 108, 2) := by decide +kernel
theorem dm5_6 : decode prog_11_method_10_code 6 = .ok (.invokespecial 110, 3) := by decide +kernel
theorem dm5_9 : decode prog_11_method_10_code 9 = .ok (.astore_n 1, 1) := by decide +kernel
theorem dm5_10 : decode prog_11_method_10_code 10 = .ok (.iconst 0, 1) := by decide +kernel
theorem dm5_11 : decode prog_11_method_10_code 11 = .ok (.istore_n 2, 1) := by decide +kernel
theorem dm5_12 : decode prog_11_method_10_code 12 = .ok (.iload_n 2, 1) := by decide +kernel
theorem dm5_13 : decode prog_11_method_10_code 13 = .ok (.aload_n 0, 1) := by decide +kernel
theorem dm5_14 : decode prog_11_method_10_code 14 = .ok (.invokevirtual 113, 3) := by decide +kernel
theorem dm5_17 : decode prog_11_method_10_code 17 = .ok (.bipush 24, 2) := by decide +kernel
theorem dm5_19 : decode prog_11_method_10_code 19 = .ok (.invokestatic 117, 3) := by decide +kernel
theorem dm5_22 : decode prog_11_method_10_code 22 = .ok (.if_icmp .ge 38, 3) := by decide +kernel
theorem dm5_25 : decode prog_11_method_10_code 25 = .ok (.aload_n 0, 1) := by decide +kernel
theorem dm5_26 : decode prog_11_method_10_code 26 = .ok (.iload_n 2, 1) := by decide +kernel
theorem dm5_27 : decode prog_11_method_10_code 27 = .ok (.invokevirtual 123, 3) := by decide +kernel
theorem dm5_30 : decode prog_11_method_10_code 30 = .ok (.istore_n 3, 1) := by decide +kernel
theorem dm5_31 : decode prog_11_method_10_code 31 = .ok (.aload_n 1, 1) := by decide +kernel
theorem dm5_32 : decode prog_11_method_10_code 32 = .ok (.iload_n 3, 1) := by decide +kernel
theorem dm5_33 : decode prog_11_method_10_code 33 = .ok (.bipush 32, 2) := by decide +kernel
theorem dm5_35 : decode prog_11_method_10_code 35 = .ok (.if_icmp .lt 13, 3) := by decide +kernel
theorem dm5_38 : decode prog_11_method_10_code 38 = .ok (.iload_n 3, 1) := by decide +kernel
theorem dm5_39 : decode prog_11_method_10_code 39 = .ok (.bipush 126, 2) := by decide +kernel
theorem dm5_41 : decode prog_11_method_10_code 41 = .ok (.if_icmp .gt 7, 3) := by decide +kernel
theorem dm5_44 : decode prog_11_method_10_code 44 = .ok (.iload_n 3, 1) := by decide +kernel
theorem dm5_45 : decode prog_11_method_10_code 45 = .ok (.goto 5, 3) := by decide +kernel
theorem dm5_48 : decode prog_11_method_10_code 48 = .ok (.bipush 63, 2) := by decide +kernel
theorem dm5_50 : decode prog_11_method_10_code 50 = .ok (.invokevirtual 127, 3) := by decide +kernel
theorem dm5_53 : decode prog_11_method_10_code 53 = .ok (.pop, 1) := by decide +kernel
theorem dm5_54 : decode prog_11_method_10_code 54 = .ok (.iinc 2 1, 3) := by decide +kernel
theorem dm5_57 : decode prog_11_method_10_code 57 = .ok (.goto (-45), 3) := by decide +kernel
theorem dm5_60 : decode prog_11_method_10_code 60 = .ok (.aload_n 0, 1) := by decide +kernel
theorem dm5_61 : decode prog_11_method_10_code 61 = .ok (.invokevirtual 113, 3) := by decide +kernel
theorem dm5_64 : decode prog_11_method_10_code 64 = .ok (.bipush 24, 2) := by decide +kernel
theorem dm5_66 : decode prog_11_method_10_code 66 = .ok (.if_icmp .le 10, 3) := by decide +kernel
theorem dm5_69 : decode prog_11_method_10_code 69 = .ok (.aload_n 1, 1) := by decide +kernel
theorem dm5_70 : decode prog_11_method_10_code 70 = .ok (.ldc 131, 2) := by decide +kernel
theorem dm5_72 : decode prog_11_method_10_code 72 = .ok (.invokevirtual 133, 3) := by decide +kernel
theorem dm5_75 : decode prog_11_method_10_code 75 = .ok (.pop, 1) := by decide +kernel
theorem dm5_76 : decode prog_11_method_10_code 76 = .ok (.aload_n 1, 1) := by decide +kernel
theorem dm5_77 : decode prog_11_method_10_code 77 = .ok (.bipush 39, 2) := by decide +kernel
theorem dm5_79 : decode prog_11_method_10_code 79 = .ok (.invokevirtual 127, 3) := by decide +kernel
theorem dm5_82 : decode prog_11_method_10_code 82 = .ok (.invokevirtual 136, 3) := by decide +kernel
theorem dm5_85 : decode prog_11_method_10_code 85 = .ok (.areturn, 1) := by decide +kernel
theorem dm51_0 : decode jdk_29_method_65_code 0 = .ok (.iload_n 0, 1) := by decide +kernel
theorem dm51_1 : decode jdk_29_method_65_code 1 = .ok (.iload_n 1, 1) := by decide +kernel
theorem dm51_2 : decode jdk_29_method_65_code 2 = .ok (.if_icmp .lt 7, 3) := by decide +kernel
theorem dm51_9 : decode jdk_29_method_65_code 9 = .ok (.iload_n 1, 1) := by decide +kernel
theorem dm51_10 : decode jdk_29_method_65_code 10 = .ok (.ireturn, 1) := by decide +kernel
theorem dm50_0 : decode jdk_48_method_27_code 0 = .ok (.iload_n 0, 1) := by decide +kernel
theorem dm50_1 : decode jdk_48_method_27_code 1 = .ok (.iload_n 1, 1) := by decide +kernel
theorem dm50_2 : decode jdk_48_method_27_code 2 = .ok (.iload_n 2, 1) := by decide +kernel
theorem dm50_3 : decode jdk_48_method_27_code 3 = .ok (.invokestatic 194, 3) := by decide +kernel
theorem dm50_6 : decode jdk_48_method_27_code 6 = .ok (.iadd, 1) := by decide +kernel
theorem dm50_7 : decode jdk_48_method_27_code 7 = .ok (.istore_n 3, 1) := by decide +kernel
theorem dm50_8 : decode jdk_48_method_27_code 8 = .ok (.iconst 0, 1) := by decide +kernel
theorem dm50_9 : decode jdk_48_method_27_code 9 = .ok (.iload_n 3, 1) := by decide +kernel
theorem dm50_10 : decode jdk_48_method_27_code 10 = .ok (.if_icmp .ge 11, 3) := by decide +kernel
theorem dm50_13 : decode jdk_48_method_27_code 13 = .ok (.iload_n 3, 1) := by decide +kernel
theorem dm50_14 : decode jdk_48_method_27_code 14 = .ok (.ldc 200, 2) := by decide +kernel
theorem dm50_16 : decode jdk_48_method_27_code 16 = .ok (.if_icmp .gt 5, 3) := by decide +kernel
theorem dm50_19 : decode jdk_48_method_27_code 19 = .ok (.iload_n 3, 1) := by decide +kernel
theorem dm50_20 : decode jdk_48_method_27_code 20 = .ok (.ireturn, 1) := by decide +kernel
theorem dm49_0 : decode jdk_68_method_10_code 0 = .ok (.aload_n 0, 1) := by decide +kernel
theorem dm49_1 : decode jdk_68_method_10_code 1 = .ok (.getfield 15, 3) := by decide +kernel
theorem dm49_4 : decode jdk_68_method_10_code 4 = .ok (.arraylength, 1) := by decide +kernel
theorem dm49_5 : decode jdk_68_method_10_code 5 = .ok (.istore_n 2, 1) := by decide +kernel
theorem dm49_6 : decode jdk_68_method_10_code 6 = .ok (.iload_n 1, 1) := by decide +kernel
theorem dm49_7 : decode jdk_68_method_10_code 7 = .ok (.aload_n 0, 1) := by decide +kernel
theorem dm49_8 : decode jdk_68_method_10_code 8 = .ok (.getfield 22, 3) := by decide +kernel
theorem dm49_11 : decode jdk_68_method_10_code 11 = .ok (.ishl, 1) := by decide +kernel
theorem dm49_12 : decode jdk_68_method_10_code 12 = .ok (.istore_n 3, 1) := by decide +kernel
theorem dm49_13 : decode jdk_68_method_10_code 13 = .ok (.iload_n 3, 1) := by decide +kernel
theorem dm49_14 : decode jdk_68_method_10_code 14 = .ok (.iload_n 2, 1) := by decide +kernel
theorem dm49_15 : decode jdk_68_method_10_code 15 = .ok (.isub, 1) := by decide +kernel
theorem dm49_16 : decode jdk_68_method_10_code 16 = .ok (.istore 4, 2) := by decide +kernel
theorem dm49_18 : decode jdk_68_method_10_code 18 = .ok (.iload_n 2, 1) := by decide +kernel
theorem dm49_19 : decode jdk_68_method_10_code 19 = .ok (.iload 4, 2) := by decide +kernel
theorem dm49_21 : decode jdk_68_method_10_code 21 = .ok (.iload_n 2, 1) := by decide +kernel
theorem dm49_22 : decode jdk_68_method_10_code 22 = .ok (.iconst 2, 1) := by decide +kernel
theorem dm49_23 : decode jdk_68_method_10_code 23 = .ok (.aload_n 0, 1) := by decide +kernel
theorem dm49_24 : decode jdk_68_method_10_code 24 = .ok (.getfield 22, 3) := by decide +kernel
theorem dm49_27 : decode jdk_68_method_10_code 27 = .ok (.ishl, 1) := by decide +kernel
theorem dm49_28 : decode jdk_68_method_10_code 28 = .ok (.iadd, 1) := by decide +kernel
theorem dm49_29 : decode jdk_68_method_10_code 29 = .ok (.invokestatic 114, 3) := by decide +kernel
theorem dm49_32 : decode jdk_68_method_10_code 32 = .ok (.istore 5, 2) := by decide +kernel
theorem dm49_34 : decode jdk_68_method_10_code 34 = .ok (.iload 5, 2) := by decide +kernel
theorem dm49_36 : decode jdk_68_method_10_code 36 = .ok (.ldc 39, 2) := by decide +kernel
theorem dm49_38 : decode jdk_68_method_10_code 38 = .ok (.if_icmp .ne 13, 3) := by decide +kernel
theorem dm49_51 : decode jdk_68_method_10_code 51 = .ok (.iload 5, 2) := by decide +kernel
theorem dm49_53 : decode jdk_68_method_10_code 53 = .ok (.aload_n 0, 1) := by decide +kernel
theorem dm49_54 : decode jdk_68_method_10_code 54 = .ok (.getfield 22, 3) := by decide +kernel
theorem dm49_57 : decode jdk_68_method_10_code 57 = .ok (.ishr, 1) := by decide +kernel
theorem dm49_58 : decode jdk_68_method_10_code 58 = .ok (.ireturn, 1) := by decide +kernel
theorem dm52_0 : decode jdk_65_method_121_code 0 = .ok (.iload_n 1, 1) := by decide +kernel
theorem dm52_1 : decode jdk_65_method_121_code 1 = .ok (.aload_n 0, 1) := by decide +kernel
theorem dm52_2 : decode jdk_65_method_121_code 2 = .ok (.arraylength, 1) := by decide +kernel
theorem dm52_3 : decode jdk_65_method_121_code 3 = .ok (.if_icmp .ne 11, 3) := by decide +kernel
theorem dm52_14 : decode jdk_65_method_121_code 14 = .ok (.iload_n 1, 1) := by decide +kernel
theorem dm52_15 : decode jdk_65_method_121_code 15 = .ok (.newarray .byte, 2) := by decide +kernel
theorem dm52_17 : decode jdk_65_method_121_code 17 = .ok (.astore_n 2, 1) := by decide +kernel
theorem dm52_18 : decode jdk_65_method_121_code 18 = .ok (.aload_n 0, 1) := by decide +kernel
theorem dm52_19 : decode jdk_65_method_121_code 19 = .ok (.iconst 0, 1) := by decide +kernel
theorem dm52_20 : decode jdk_65_method_121_code 20 = .ok (.aload_n 2, 1) := by decide +kernel
theorem dm52_21 : decode jdk_65_method_121_code 21 = .ok (.iconst 0, 1) := by decide +kernel
theorem dm52_22 : decode jdk_65_method_121_code 22 = .ok (.aload_n 0, 1) := by decide +kernel
theorem dm52_23 : decode jdk_65_method_121_code 23 = .ok (.arraylength, 1) := by decide +kernel
theorem dm52_24 : decode jdk_65_method_121_code 24 = .ok (.iload_n 1, 1) := by decide +kernel
theorem dm52_25 : decode jdk_65_method_121_code 25 = .ok (.invokestatic 304, 3) := by decide +kernel
theorem dm52_28 : decode jdk_65_method_121_code 28 = .ok (.invokestatic 150, 3) := by decide +kernel
theorem dm52_31 : decode jdk_65_method_121_code 31 = .ok (.aload_n 2, 1) := by decide +kernel
theorem dm52_32 : decode jdk_65_method_121_code 32 = .ok (.areturn, 1) := by decide +kernel
theorem dm1_0 : decode method_5_code 0 = .ok (.iload_n 0, 1) := by decide +kernel
theorem dm1_1 : decode method_5_code 1 = .ok (.ifCond .ne 7, 3) := by decide +kernel
theorem dm1_4 : decode method_5_code 4 = .ok (.iconst 0, 1) := by decide +kernel
theorem dm1_5 : decode method_5_code 5 = .ok (.newarray .char, 2) := by decide +kernel
theorem dm1_7 : decode method_5_code 7 = .ok (.areturn, 1) := by decide +kernel
theorem dm1_8 : decode method_5_code 8 = .ok (.iload_n 0, 1) := by decide +kernel
theorem dm1_9 : decode method_5_code 9 = .ok (.iconst 1, 1) := by decide +kernel
theorem dm1_10 : decode method_5_code 10 = .ok (.if_icmp .ne 7, 3) := by decide +kernel
theorem dm1_13 : decode method_5_code 13 = .ok (.iconst 1, 1) := by decide +kernel
theorem dm1_14 : decode method_5_code 14 = .ok (.newarray .char, 2) := by decide +kernel
theorem dm1_16 : decode method_5_code 16 = .ok (.areturn, 1) := by decide +kernel
theorem dm1_17 : decode method_5_code 17 = .ok (.iload_n 0, 1) := by decide +kernel
theorem dm1_18 : decode method_5_code 18 = .ok (.iconst 2, 1) := by decide +kernel
theorem dm1_19 : decode method_5_code 19 = .ok (.if_icmp .ne 7, 3) := by decide +kernel
theorem dm1_22 : decode method_5_code 22 = .ok (.iconst 2, 1) := by decide +kernel
theorem dm1_23 : decode method_5_code 23 = .ok (.newarray .char, 2) := by decide +kernel
theorem dm1_25 : decode method_5_code 25 = .ok (.areturn, 1) := by decide +kernel
theorem dm1_26 : decode method_5_code 26 = .ok (.iload_n 0, 1) := by decide +kernel
theorem dm1_27 : decode method_5_code 27 = .ok (.iconst 3, 1) := by decide +kernel
theorem dm1_28 : decode method_5_code 28 = .ok (.if_icmp .ne 7, 3) := by decide +kernel
theorem dm1_31 : decode method_5_code 31 = .ok (.iconst 3, 1) := by decide +kernel
theorem dm1_32 : decode method_5_code 32 = .ok (.newarray .char, 2) := by decide +kernel
theorem dm1_34 : decode method_5_code 34 = .ok (.areturn, 1) := by decide +kernel
theorem dm1_35 : decode method_5_code 35 = .ok (.iload_n 0, 1) := by decide +kernel
theorem dm1_36 : decode method_5_code 36 = .ok (.iconst 4, 1) := by decide +kernel
theorem dm1_37 : decode method_5_code 37 = .ok (.if_icmp .ne 8, 3) := by decide +kernel
theorem dm1_40 : decode method_5_code 40 = .ok (.bipush 23, 2) := by decide +kernel
theorem dm1_42 : decode method_5_code 42 = .ok (.newarray .char, 2) := by decide +kernel
theorem dm1_44 : decode method_5_code 44 = .ok (.areturn, 1) := by decide +kernel
theorem dm1_45 : decode method_5_code 45 = .ok (.iload_n 0, 1) := by decide +kernel
theorem dm1_46 : decode method_5_code 46 = .ok (.iconst 5, 1) := by decide +kernel
theorem dm1_47 : decode method_5_code 47 = .ok (.if_icmp .ne 8, 3) := by decide +kernel
theorem dm1_50 : decode method_5_code 50 = .ok (.bipush 24, 2) := by decide +kernel
theorem dm1_52 : decode method_5_code 52 = .ok (.newarray .char, 2) := by decide +kernel
theorem dm1_54 : decode method_5_code 54 = .ok (.areturn, 1) := by decide +kernel
theorem dm1_55 : decode method_5_code 55 = .ok (.iload_n 0, 1) := by decide +kernel
theorem dm1_56 : decode method_5_code 56 = .ok (.bipush 6, 2) := by decide +kernel
theorem dm1_58 : decode method_5_code 58 = .ok (.if_icmp .ne 8, 3) := by decide +kernel
theorem dm1_61 : decode method_5_code 61 = .ok (.bipush 25, 2) := by decide +kernel
theorem dm1_63 : decode method_5_code 63 = .ok (.newarray .char, 2) := by decide +kernel
theorem dm1_65 : decode method_5_code 65 = .ok (.areturn, 1) := by decide +kernel
theorem dm1_66 : decode method_5_code 66 = .ok (.bipush 26, 2) := by decide +kernel
theorem dm1_68 : decode method_5_code 68 = .ok (.newarray .char, 2) := by decide +kernel
theorem dm1_70 : decode method_5_code 70 = .ok (.areturn, 1) := by decide +kernel
theorem dm3_0 : decode jdk_42_method_149_code 0 = .ok (.aload_n 0, 1) := by decide +kernel
theorem dm3_1 : decode jdk_42_method_149_code 1 = .ok (.invokespecial 1, 3) := by decide +kernel
theorem dm3_4 : decode jdk_42_method_149_code 4 = .ok (.iload_n 3, 1) := by decide +kernel
theorem dm3_5 : decode jdk_42_method_149_code 5 = .ok (.ifCond .ne 22, 3) := by decide +kernel
theorem dm3_8 : decode jdk_42_method_149_code 8 = .ok (.aload_n 0, 1) := by decide +kernel
theorem dm3_9 : decode jdk_42_method_149_code 9 = .ok (.ldc 7, 2) := by decide +kernel
theorem dm3_11 : decode jdk_42_method_149_code 11 = .ok (.getfield 9, 3) := by decide +kernel
theorem dm3_14 : decode jdk_42_method_149_code 14 = .ok (.putfield 9, 3) := by decide +kernel
theorem dm3_17 : decode jdk_42_method_149_code 17 = .ok (.aload_n 0, 1) := by decide +kernel
theorem dm3_18 : decode jdk_42_method_149_code 18 = .ok (.ldc 7, 2) := by decide +kernel
theorem dm3_20 : decode jdk_42_method_149_code 20 = .ok (.getfield 15, 3) := by decide +kernel
theorem dm3_23 : decode jdk_42_method_149_code 23 = .ok (.putfield 15, 3) := by decide +kernel
theorem dm3_26 : decode jdk_42_method_149_code 26 = .ok (.return_, 1) := by decide +kernel
theorem dm2_0 : decode jdk_42_method_3_code 0 = .ok (.aload_n 0, 1) := by decide +kernel
theorem dm2_1 : decode jdk_42_method_3_code 1 = .ok (.aload_n 1, 1) := by decide +kernel
theorem dm2_2 : decode jdk_42_method_3_code 2 = .ok (.iconst 0, 1) := by decide +kernel
theorem dm2_3 : decode jdk_42_method_3_code 3 = .ok (.aload_n 1, 1) := by decide +kernel
theorem dm2_4 : decode jdk_42_method_3_code 4 = .ok (.arraylength, 1) := by decide +kernel
theorem dm2_5 : decode jdk_42_method_3_code 5 = .ok (.aconst_null, 1) := by decide +kernel
theorem dm2_6 : decode jdk_42_method_3_code 6 = .ok (.invokespecial 27, 3) := by decide +kernel
theorem dm2_9 : decode jdk_42_method_3_code 9 = .ok (.return_, 1) := by decide +kernel
theorem dm0_0 : decode code 0 = .ok (.iload_n 0, 1) := at_0
theorem dm0_1 : decode code 1 = .ok (.bipush 7, 2) := at_1
theorem dm0_3 : decode code 3 = .ok (.iand, 1) := at_3
theorem dm0_4 : decode code 4 = .ok (.istore 5, 2) := at_4
theorem dm0_6 : decode code 6 = .ok (.iload 5, 2) := at_6
theorem dm0_8 : decode code 8 = .ok (.iconst 4, 1) := at_8
theorem dm0_9 : decode code 9 = .ok (.if_icmp .ge 8, 3) := at_9
theorem dm0_12 : decode code 12 = .ok (.iload 5, 2) := at_12
theorem dm0_14 : decode code 14 = .ok (.goto 8, 3) := at_14
theorem dm0_17 : decode code 17 = .ok (.bipush 19, 2) := at_17
theorem dm0_19 : decode code 19 = .ok (.iload 5, 2) := at_19
theorem dm0_21 : decode code 21 = .ok (.iadd, 1) := at_21
theorem dm0_22 : decode code 22 = .ok (.istore 6, 2) := at_22
theorem dm0_24 : decode code 24 = .ok (.iload 5, 2) := at_24
theorem dm0_26 : decode code 26 = .ok (.invokestatic 7, 3) := at_26
theorem dm0_29 : decode code 29 = .ok (.astore 7, 2) := at_29
theorem dm0_31 : decode code 31 = .ok (.iload_n 1, 1) := at_31
theorem dm0_32 : decode code 32 = .ok (.ldc 13, 2) := at_32
theorem dm0_34 : decode code 34 = .ok (.iand, 1) := at_34
theorem dm0_35 : decode code 35 = .ok (.i2c, 1) := at_35
theorem dm0_36 : decode code 36 = .ok (.istore 8, 2) := at_36
theorem dm0_38 : decode code 38 = .ok (.iload_n 2, 1) := at_38
theorem dm0_39 : decode code 39 = .ok (.ldc 13, 2) := at_39
theorem dm0_41 : decode code 41 = .ok (.iand, 1) := at_41
theorem dm0_42 : decode code 42 = .ok (.i2c, 1) := at_42
theorem dm0_43 : decode code 43 = .ok (.istore 9, 2) := at_43
theorem dm0_45 : decode code 45 = .ok (.iload_n 3, 1) := at_45
theorem dm0_46 : decode code 46 = .ok (.ldc 13, 2) := at_46
theorem dm0_48 : decode code 48 = .ok (.iand, 1) := at_48
theorem dm0_49 : decode code 49 = .ok (.i2c, 1) := at_49
theorem dm0_50 : decode code 50 = .ok (.istore 10, 2) := at_50
theorem dm0_52 : decode code 52 = .ok (.iload 4, 2) := at_52
theorem dm0_54 : decode code 54 = .ok (.ldc 13, 2) := at_54
theorem dm0_56 : decode code 56 = .ok (.iand, 1) := at_56
theorem dm0_57 : decode code 57 = .ok (.i2c, 1) := at_57
theorem dm0_58 : decode code 58 = .ok (.istore 11, 2) := at_58
theorem dm0_60 : decode code 60 = .ok (.iload 6, 2) := at_60
theorem dm0_62 : decode code 62 = .ok (.iconst 1, 1) := at_62
theorem dm0_63 : decode code 63 = .ok (.if_icmp .lt 9, 3) := at_63
theorem dm0_66 : decode code 66 = .ok (.aload 7, 2) := at_66
theorem dm0_68 : decode code 68 = .ok (.iconst 0, 1) := at_68
theorem dm0_69 : decode code 69 = .ok (.iload 8, 2) := at_69
theorem dm0_71 : decode code 71 = .ok (.castore, 1) := at_71
theorem dm0_72 : decode code 72 = .ok (.iload 6, 2) := at_72
theorem dm0_74 : decode code 74 = .ok (.iconst 2, 1) := at_74
theorem dm0_75 : decode code 75 = .ok (.if_icmp .lt 9, 3) := at_75
theorem dm0_78 : decode code 78 = .ok (.aload 7, 2) := at_78
theorem dm0_80 : decode code 80 = .ok (.iconst 1, 1) := at_80
theorem dm0_81 : decode code 81 = .ok (.iload 9, 2) := at_81
theorem dm0_83 : decode code 83 = .ok (.castore, 1) := at_83
theorem dm0_84 : decode code 84 = .ok (.iload 6, 2) := at_84
theorem dm0_86 : decode code 86 = .ok (.iconst 3, 1) := at_86
theorem dm0_87 : decode code 87 = .ok (.if_icmp .lt 12, 3) := at_87
theorem dm0_90 : decode code 90 = .ok (.aload 7, 2) := at_90
theorem dm0_92 : decode code 92 = .ok (.iload 6, 2) := at_92
theorem dm0_94 : decode code 94 = .ok (.iconst 1, 1) := at_94
theorem dm0_95 : decode code 95 = .ok (.isub, 1) := at_95
theorem dm0_96 : decode code 96 = .ok (.iload 10, 2) := at_96
theorem dm0_98 : decode code 98 = .ok (.castore, 1) := at_98
theorem dm0_99 : decode code 99 = .ok (.iload 6, 2) := at_99
theorem dm0_101 : decode code 101 = .ok (.bipush 25, 2) := at_101
theorem dm0_103 : decode code 103 = .ok (.if_icmp .lt 10, 3) := at_103
theorem dm0_106 : decode code 106 = .ok (.aload 7, 2) := at_106
theorem dm0_108 : decode code 108 = .ok (.bipush 23, 2) := at_108
theorem dm0_110 : decode code 110 = .ok (.iload 11, 2) := at_110
theorem dm0_112 : decode code 112 = .ok (.castore, 1) := at_112
theorem dm0_113 : decode code 113 = .ok (.new 14, 3) := at_113
theorem dm0_116 : decode code 116 = .ok (.dup, 1) := at_116
theorem dm0_117 : decode code 117 = .ok (.aload 7, 2) := at_117
theorem dm0_119 : decode code 119 = .ok (.invokespecial 16, 3) := at_119
theorem dm0_122 : decode code 122 = .ok (.invokestatic 19, 3) := at_122
theorem dm0_125 : decode code 125 = .ok (.astore 12, 2) := at_125
theorem dm0_127 : decode code 127 = .ok (.iload 6, 2) := at_127
theorem dm0_129 : decode code 129 = .ok (.bipush 24, 2) := at_129
theorem dm0_131 : decode code 131 = .ok (.invokestatic 25, 3) := at_131
theorem dm0_134 : decode code 134 = .ok (.istore 13, 2) := at_134
theorem dm0_136 : decode code 136 = .ok (.iload 13, 2) := at_136
theorem dm0_138 : decode code 138 = .ok (.iconst 2, 1) := at_138
theorem dm0_139 : decode code 139 = .ok (.iadd, 1) := at_139
theorem dm0_140 : decode code 140 = .ok (.iload 6, 2) := at_140
theorem dm0_142 : decode code 142 = .ok (.bipush 24, 2) := at_142
theorem dm0_144 : decode code 144 = .ok (.if_icmp .le 7, 3) := at_144
theorem dm0_147 : decode code 147 = .ok (.iconst 3, 1) := at_147
theorem dm0_148 : decode code 148 = .ok (.goto 4, 3) := at_148
theorem dm0_151 : decode code 151 = .ok (.iconst 0, 1) := at_151
theorem dm0_152 : decode code 152 = .ok (.iadd, 1) := at_152
theorem dm0_153 : decode code 153 = .ok (.istore 14, 2) := at_153
theorem dm0_155 : decode code 155 = .ok (.aload 12, 2) := at_155
theorem dm0_157 : decode code 157 = .ok (.invokevirtual 31, 3) := at_157
theorem dm0_160 : decode code 160 = .ok (.iload 14, 2) := at_160
theorem dm0_162 : decode code 162 = .ok (.if_icmp .eq 5, 3) := at_162
theorem dm0_167 : decode code 167 = .ok (.aload 12, 2) := at_167
theorem dm0_169 : decode code 169 = .ok (.iconst 0, 1) := at_169
theorem dm0_170 : decode code 170 = .ok (.invokevirtual 35, 3) := at_170
theorem dm0_173 : decode code 173 = .ok (.bipush 39, 2) := at_173
theorem dm0_175 : decode code 175 = .ok (.if_icmp .ne 17, 3) := at_175
theorem dm0_178 : decode code 178 = .ok (.aload 12, 2) := at_178
theorem dm0_180 : decode code 180 = .ok (.iload 14, 2) := at_180
theorem dm0_182 : decode code 182 = .ok (.iconst 1, 1) := at_182
theorem dm0_183 : decode code 183 = .ok (.isub, 1) := at_183
theorem dm0_184 : decode code 184 = .ok (.invokevirtual 35, 3) := at_184
theorem dm0_187 : decode code 187 = .ok (.bipush 39, 2) := at_187
theorem dm0_189 : decode code 189 = .ok (.if_icmp .eq 5, 3) := at_189
theorem dm0_194 : decode code 194 = .ok (.iload 6, 2) := at_194
theorem dm0_196 : decode code 196 = .ok (.bipush 24, 2) := at_196
theorem dm0_198 : decode code 198 = .ok (.if_icmp .le 47, 3) := at_198
theorem dm0_201 : decode code 201 = .ok (.aload 12, 2) := at_201
theorem dm0_203 : decode code 203 = .ok (.iload 13, 2) := at_203
theorem dm0_205 : decode code 205 = .ok (.iconst 1, 1) := at_205
theorem dm0_206 : decode code 206 = .ok (.iadd, 1) := at_206
theorem dm0_207 : decode code 207 = .ok (.invokevirtual 35, 3) := at_207
theorem dm0_210 : decode code 210 = .ok (.bipush 46, 2) := at_210
theorem dm0_212 : decode code 212 = .ok (.if_icmp .ne 31, 3) := at_212
theorem dm0_215 : decode code 215 = .ok (.aload 12, 2) := at_215
theorem dm0_217 : decode code 217 = .ok (.iload 13, 2) := at_217
theorem dm0_219 : decode code 219 = .ok (.iconst 2, 1) := at_219
theorem dm0_220 : decode code 220 = .ok (.iadd, 1) := at_220
theorem dm0_221 : decode code 221 = .ok (.invokevirtual 35, 3) := at_221
theorem dm0_224 : decode code 224 = .ok (.bipush 46, 2) := at_224
theorem dm0_226 : decode code 226 = .ok (.if_icmp .ne 17, 3) := at_226
theorem dm0_229 : decode code 229 = .ok (.aload 12, 2) := at_229
theorem dm0_231 : decode code 231 = .ok (.iload 13, 2) := at_231
theorem dm0_233 : decode code 233 = .ok (.iconst 3, 1) := at_233
theorem dm0_234 : decode code 234 = .ok (.iadd, 1) := at_234
theorem dm0_235 : decode code 235 = .ok (.invokevirtual 35, 3) := at_235
theorem dm0_238 : decode code 238 = .ok (.bipush 46, 2) := at_238
theorem dm0_240 : decode code 240 = .ok (.if_icmp .eq 5, 3) := at_240
theorem dm0_245 : decode code 245 = .ok (.aload 12, 2) := at_245
theorem dm0_247 : decode code 247 = .ok (.aload 7, 2) := at_247
theorem dm0_249 : decode code 249 = .ok (.iconst 0, 1) := at_249
theorem dm0_250 : decode code 250 = .ok (.iload 13, 2) := at_250
theorem dm0_252 : decode code 252 = .ok (.invokestatic 39, 3) := at_252
theorem dm0_255 : decode code 255 = .ok (.ifCond .eq 75, 3) := at_255
theorem dm0_258 : decode code 258 = .ok (.aload 12, 2) := at_258
theorem dm0_260 : decode code 260 = .ok (.aload 7, 2) := at_260
theorem dm0_262 : decode code 262 = .ok (.iconst 1, 1) := at_262
theorem dm0_263 : decode code 263 = .ok (.iload 13, 2) := at_263
theorem dm0_265 : decode code 265 = .ok (.invokestatic 39, 3) := at_265
theorem dm0_268 : decode code 268 = .ok (.ifCond .eq 62, 3) := at_268
theorem dm0_271 : decode code 271 = .ok (.aload 12, 2) := at_271
theorem dm0_273 : decode code 273 = .ok (.aload 7, 2) := at_273
theorem dm0_275 : decode code 275 = .ok (.iconst 2, 1) := at_275
theorem dm0_276 : decode code 276 = .ok (.iload 13, 2) := at_276
theorem dm0_278 : decode code 278 = .ok (.invokestatic 39, 3) := at_278
theorem dm0_281 : decode code 281 = .ok (.ifCond .eq 49, 3) := at_281
theorem dm0_284 : decode code 284 = .ok (.aload 12, 2) := at_284
theorem dm0_286 : decode code 286 = .ok (.aload 7, 2) := at_286
theorem dm0_288 : decode code 288 = .ok (.bipush 12, 2) := at_288
theorem dm0_290 : decode code 290 = .ok (.iload 13, 2) := at_290
theorem dm0_292 : decode code 292 = .ok (.invokestatic 39, 3) := at_292
theorem dm0_295 : decode code 295 = .ok (.ifCond .eq 35, 3) := at_295
theorem dm0_298 : decode code 298 = .ok (.aload 12, 2) := at_298
theorem dm0_300 : decode code 300 = .ok (.aload 7, 2) := at_300
theorem dm0_302 : decode code 302 = .ok (.bipush 22, 2) := at_302
theorem dm0_304 : decode code 304 = .ok (.iload 13, 2) := at_304
theorem dm0_306 : decode code 306 = .ok (.invokestatic 39, 3) := at_306
theorem dm0_309 : decode code 309 = .ok (.ifCond .eq 21, 3) := at_309
theorem dm0_312 : decode code 312 = .ok (.aload 12, 2) := at_312
theorem dm0_314 : decode code 314 = .ok (.aload 7, 2) := at_314
theorem dm0_316 : decode code 316 = .ok (.bipush 23, 2) := at_316
theorem dm0_318 : decode code 318 = .ok (.iload 13, 2) := at_318
theorem dm0_320 : decode code 320 = .ok (.invokestatic 39, 3) := at_320
theorem dm0_323 : decode code 323 = .ok (.ifCond .eq 7, 3) := at_323
theorem dm0_326 : decode code 326 = .ok (.iconst 1, 1) := at_326
theorem dm0_327 : decode code 327 = .ok (.goto 4, 3) := at_327
theorem dm0_331 : decode code 331 = .ok (.ireturn, 1) := at_331
def own_fill (ch : List Int32) : List Int32 → Nat → Nat → List Int32
  | us, _, 0 => us
  | us, i, j + 1 => own_fill ch (us.set (i + 1) (own_sh (ch.getD i 0))) (i + 1) j
theorem own_shn (e : Int32) : ¬ own_sh e < (0 : Int32) := by
  unfold own_sh
  split
  · decide
  · rename_i h
    split
    · decide
    · rw [Int32.lt_iff_toInt_lt] at h ⊢
      have e1 : (32 : Int32).toInt = 32 := by decide
      have e2 : (0 : Int32).toInt = 0 := by decide
      omega
theorem own_and7 (x : Int32) : (x &&& (7 : Int32)) = (0 : Int32) ∨ (x &&& (7 : Int32)) = (1 : Int32) ∨ (x &&& (7 : Int32)) = (2 : Int32) ∨ (x &&& (7 : Int32)) = (3 : Int32) ∨ (x &&& (7 : Int32)) = (4 : Int32) ∨ (x &&& (7 : Int32)) = (5 : Int32) ∨ (x &&& (7 : Int32)) = (6 : Int32) ∨ (x &&& (7 : Int32)) = (7 : Int32) := by
  have h : (x &&& (7 : Int32)).toBitVec.toNat < 8 := by
    show (x.toBitVec &&& 7#32).toNat < 8
    rw [BitVec.toNat_and]
    exact Nat.lt_of_le_of_lt Nat.and_le_right (by decide)
  generalize (x &&& (7 : Int32)) = y at h ⊢
  have q : ∀ z : Int32, y.toBitVec.toNat = z.toBitVec.toNat → y = z := fun z hz => Int32.toBitVec_inj.mp (BitVec.eq_of_toNat_eq hz)
  have h8 : y.toBitVec.toNat = 0 ∨ y.toBitVec.toNat = 1 ∨ y.toBitVec.toNat = 2 ∨ y.toBitVec.toNat = 3 ∨ y.toBitVec.toNat = 4 ∨ y.toBitVec.toNat = 5 ∨ y.toBitVec.toNat = 6 ∨ y.toBitVec.toNat = 7 := by omega
  rcases h8 with a | a | a | a | a | a | a | a
  · exact Or.inl (q 0 a)
  · exact Or.inr (Or.inl (q 1 a))
  · exact Or.inr (Or.inr (Or.inl (q 2 a)))
  · exact Or.inr (Or.inr (Or.inr (Or.inl (q 3 a))))
  · exact Or.inr (Or.inr (Or.inr (Or.inr (Or.inl (q 4 a)))))
  · exact Or.inr (Or.inr (Or.inr (Or.inr (Or.inr (Or.inl (q 5 a))))))
  · exact Or.inr (Or.inr (Or.inr (Or.inr (Or.inr (Or.inr (Or.inl (q 6 a)))))))
  · exact Or.inr (Or.inr (Or.inr (Or.inr (Or.inr (Or.inr (Or.inr (q 7 a)))))))
abbrev own_b16 (z : Int32) : Prop := ¬ z < (0 : Int32) ∧ ¬ (65535 : Int32) < z
abbrev own_b8 (z : Int32) : Prop := ¬ z < (0 : Int32) ∧ ¬ (255 : Int32) < z
theorem own_z16 : own_b16 0 := ⟨by decide, by decide⟩
theorem own_s8 {e : Int32} : own_b8 (own_sh e) := ⟨own_shn e, own_sh255 e⟩
theorem own_aN {P : Int32 → Prop} : ∀ z ∈ ([] : List Int32), P z := fun _ h => nomatch h
theorem own_aS {P : Int32 → Prop} {c : Int32} {r : List Int32} (h : P c) (t : ∀ z ∈ r, P z) : ∀ z ∈ c :: r, P z := by
  intro z hz
  rcases List.mem_cons.mp hz with rfl | hz
  · exact h
  · exact t z hz
theorem dsh_0 : decode method_4_code 0 = .ok (.iload_n 0, 1) := by decide +kernel
theorem dsh_1 : decode method_4_code 1 = .ok (.bipush 32, 2) := by decide +kernel
theorem dsh_3 : decode method_4_code 3 = .ok (.if_icmp .ge 6, 3) := by decide +kernel
theorem dsh_6 : decode method_4_code 6 = .ok (.bipush 63, 2) := by decide +kernel
theorem dsh_8 : decode method_4_code 8 = .ok (.ireturn, 1) := by decide +kernel
theorem dsh_9 : decode method_4_code 9 = .ok (.iload_n 0, 1) := by decide +kernel
theorem dsh_10 : decode method_4_code 10 = .ok (.bipush 126, 2) := by decide +kernel
theorem dsh_12 : decode method_4_code 12 = .ok (.if_icmp .le 6, 3) := by decide +kernel
theorem dsh_15 : decode method_4_code 15 = .ok (.bipush 63, 2) := by decide +kernel
theorem dsh_17 : decode method_4_code 17 = .ok (.ireturn, 1) := by decide +kernel
theorem dsh_18 : decode method_4_code 18 = .ok (.iload_n 0, 1) := by decide +kernel
theorem dsh_19 : decode method_4_code 19 = .ok (.ireturn, 1) := by decide +kernel
theorem own_shown (l : Launch) (Z : State) (a0 : Array Value) (hw : ∀ d ∈ tables_1, d.before a0 Z = true) (c1 : Int32) (h0 : Heap) (n0 : Nat) (Z0 : n0 ≤ h0.size) (h0c : ¬ c1 < (0 : Int32)) (h1c : ¬ (65535 : Int32) < c1) :
    own_M l Z (⟨"com/example/paretolio/paretolio/RecordReaderQuotePinLaw", "shown", "(C)C"⟩ : MethodName) method_4_code 1 (some .char) [] (⟨0, 0, 0, 0⟩ : Room) #[(.int c1)] h0 n0 (fun v h => v = some (.int (own_sh c1)) ∧ h0 = h) := by
  refine own_M.of pl20 ?_
  intro p e s m below meth c S0 hx hby hml hown hnm hret hlk hZ A00
  have H : own_H p c _ := ⟨hx, hby⟩
  have A0 := A00.cast (f' := mkF m 0 #[.val (.int c1)] []) (by first | (simp [entryFrame, mkF, argsToLocals, Value.category, maxLocals]; done) | rfl)
  have A1 := A0.iN H dsh_0 rfl rfl |>.bp H dsh_1 rfl 32 rfl
  by_cases q2 : c1 < (32 : Int32)
  · skip
    have A3 := A1.cn H dsh_3 rfl ((tlt q2).2.1) |>.bp H dsh_6 rfl 63 rfl
    exact A3.ret hx hlk hret (hb hby dsh_8) rfl (Or.inl ⟨rfl, by simp, _, rfl⟩) (by decide) (by decide) ⟨by simp [own_sh, q2], rfl⟩
  · skip
    have A4 := A1.cy H dsh_3 rfl ((flt q2).2.1) 9 (by decide) (by decide) |>.iN H dsh_9 rfl rfl |>.bp H dsh_10 rfl 126 rfl
    by_cases q5 : (126 : Int32) < c1
    · skip
      have A6 := A4.cn H dsh_12 rfl ((tlt q5).2.2.2) |>.bp H dsh_15 rfl 63 rfl
      exact A6.ret hx hlk hret (hb hby dsh_17) rfl (Or.inl ⟨rfl, by simp, _, rfl⟩) (by decide) (by decide) ⟨by simp [own_sh, q2, q5], rfl⟩
    · skip
      have A7 := A4.cy H dsh_12 rfl ((flt q5).2.2.2) 18 (by decide) (by decide) |>.iN H dsh_18 rfl rfl
      exact A7.ret hx hlk hret (hb hby dsh_19) (own_nc h0c h1c) (Or.inl ⟨rfl, by simp, _, rfl⟩) (by decide) (by decide) ⟨by simp [own_sh, q2, q5], rfl⟩
theorem datn_0 : decode method_3_code 0 = .ok (.iload_n 2, 1) := by decide +kernel
theorem datn_1 : decode method_3_code 1 = .ok (.iload_n 3, 1) := by decide +kernel
theorem datn_2 : decode method_3_code 2 = .ok (.if_icmp .lt 5, 3) := by decide +kernel
theorem datn_5 : decode method_3_code 5 = .ok (.iconst 1, 1) := by decide +kernel
theorem datn_6 : decode method_3_code 6 = .ok (.ireturn, 1) := by decide +kernel
theorem own_atN (l : Launch) (Z : State) (a0 : Array Value) (hw : ∀ d ∈ tables_1, d.before a0 Z = true) (r1 a1 : Addr) (j M : Int32) (h0 : Heap) (n0 : Nat) (Z0 : n0 ≤ h0.size) (hjm : ¬ j < M) :
    own_M l Z (⟨"com/example/paretolio/paretolio/RecordReaderQuotePinLaw", "at", "(Ljava/lang/String;[CII)Z"⟩ : MethodName) method_3_code 4 (some .boolean) [] (⟨0, 0, 0, 0⟩ : Room) #[(.ref r1), (.ref a1), (.int j), (.int M)] h0 n0 (fun v h => v = some (.int 1) ∧ h0 = h) := by
  refine own_M.of pl21 ?_
  intro p e s m below meth c S0 hx hby hml hown hnm hret hlk hZ A00
  have H : own_H p c _ := ⟨hx, hby⟩
  have A0 := A00.cast (f' := mkF m 0 #[.val (.ref r1), .val (.ref a1), .val (.int j), .val (.int M)] []) (by first | (simp [entryFrame, mkF, argsToLocals, Value.category, maxLocals]; done) | rfl)
  have A1 := A0.iN H datn_0 rfl rfl |>.iN H datn_1 rfl rfl |>.cn H datn_2 rfl ((flt hjm).1) |>.ic H datn_5 rfl 1 rfl
  exact A1.ret hx hlk hret (hb hby datn_6) rfl (Or.inl ⟨rfl, by simp, _, rfl⟩) (by decide) (by decide) ⟨rfl, rfl⟩
theorem daty_0 : decode method_3_code 0 = .ok (.iload_n 2, 1) := by decide +kernel
theorem daty_1 : decode method_3_code 1 = .ok (.iload_n 3, 1) := by decide +kernel
theorem daty_2 : decode method_3_code 2 = .ok (.if_icmp .lt 5, 3) := by decide +kernel
theorem daty_7 : decode method_3_code 7 = .ok (.aload_n 0, 1) := by decide +kernel
theorem daty_8 : decode method_3_code 8 = .ok (.iconst 1, 1) := by decide +kernel
theorem daty_9 : decode method_3_code 9 = .ok (.iload_n 2, 1) := by decide +kernel
theorem daty_10 : decode method_3_code 10 = .ok (.iadd, 1) := by decide +kernel
theorem daty_11 : decode method_3_code 11 = .ok (.invokevirtual 35, 3) := by decide +kernel
theorem daty_14 : decode method_3_code 14 = .ok (.aload_n 1, 1) := by decide +kernel
theorem daty_15 : decode method_3_code 15 = .ok (.iload_n 2, 1) := by decide +kernel
theorem daty_16 : decode method_3_code 16 = .ok (.caload, 1) := by decide +kernel
theorem daty_17 : decode method_3_code 17 = .ok (.invokestatic 43, 3) := by decide +kernel
theorem daty_20 : decode method_3_code 20 = .ok (.if_icmp .ne 7, 3) := by decide +kernel
theorem daty_23 : decode method_3_code 23 = .ok (.iconst 1, 1) := by decide +kernel
theorem daty_24 : decode method_3_code 24 = .ok (.goto 4, 3) := by decide +kernel
theorem daty_28 : decode method_3_code 28 = .ok (.ireturn, 1) := by decide +kernel
theorem own_atY (l : Launch) (Z : State) (a0 : Array Value) (hw : ∀ d ∈ tables_1, d.before a0 Z = true) (r1 rb a1 : Addr) (cs j M c1 : Int32) (rs : List Int32) (as : List Value) (fm : Value) (h0 : Heap) (n0 : Nat) (Z0 : n0 ≤ h0.size) (hjm : j < M) (S_cs : Sta Z h0 "java/lang/String" "COMPACT_STRINGS" "Z" (.int cs)) (hcs : ¬ (cs = (0 : Int32))) (E_r1 : Exa Z h0 r1 "java/lang/String") (F_r1_coder : Fld Z h0 r1 "java/lang/String" "coder" "B" (.int 0)) (F_r1_value : Fld Z h0 r1 "java/lang/String" "value" "[B" (.ref rb)) (V_rb : own_Ar Z h0 rb .byte (own_by (0 : Int32) rs)) (hok : own_ok (0 : Int32) rs) (hlen : rs.length < 64) (hfm : fm.isRef = true) (S_fm : Sta Z h0 "jdk/internal/util/Preconditions" "SIOOBE_FORMATTER" "Ljava/util/function/BiFunction;" fm) (S_ad : Sta Z h0 "java/lang/StringUTF16" "$assertionsDisabled" "Z" (.int 1)) (S_hi : Sta Z h0 "java/lang/StringUTF16" "HI_BYTE_SHIFT" "I" (.int 0)) (S_lo : Sta Z h0 "java/lang/StringUTF16" "LO_BYTE_SHIFT" "I" (.int 8)) (V_a1 : own_Ar Z h0 a1 .char as) (h0j : ¬ j < (0 : Int32)) (h1j : ¬ (1 : Int32) + j < (0 : Int32)) (hrj : rs[((1 : Int32) + j).toNatClampNeg]? = some (own_sh c1)) (haj : as[j.toNatClampNeg]? = some (.int c1)) (h0c : ¬ c1 < (0 : Int32)) (h1c : ¬ (65535 : Int32) < c1) :
    own_M l Z (⟨"com/example/paretolio/paretolio/RecordReaderQuotePinLaw", "at", "(Ljava/lang/String;[CII)Z"⟩ : MethodName) method_3_code 4 (some .boolean) [] (⟨5, 0, 0, 70⟩ : Room) #[(.ref r1), (.ref a1), (.int j), (.int M)] h0 n0 (fun v h => v = some (.int 1) ∧ h0 = h) := by
  refine own_M.of pl21 ?_
  intro p e s m below meth c S0 hx hby hml hown hnm hret hlk hZ A00
  have H : own_H p c _ := ⟨hx, hby⟩
  have A0 := A00.cast (f' := mkF m 0 #[.val (.ref r1), .val (.ref a1), .val (.int j), .val (.int M)] []) (by first | (simp [entryFrame, mkF, argsToLocals, Value.category, maxLocals]; done) | rfl)
  have A2 := A0.iN H daty_0 rfl rfl |>.iN H daty_1 rfl rfl |>.cy H daty_2 rfl ((tlt hjm).1) 7 (by decide) (by decide) |>.aN H daty_7 rfl rfl rfl |>.ic H daty_8 rfl 1 rfl |>.iN H daty_9 rfl rfl |>.ad H daty_10 rfl _ rfl
  obtain ⟨vA1, hA1, ⟨rfl, rfl⟩, A1⟩ := A2.cV (own_ch l Z a0 hw r1 rb cs (0 : Int32) ((1 : Int32) + j) (own_sh c1) rs fm h0 n0 Z0 S_cs hcs E_r1 F_r1_coder F_r1_value V_rb hok hlen hfm S_fm S_ad S_hi S_lo h1j hrj) E_r1 H hZ hown daty_11 (oW hw 166 rfl) (kV38 hw) hml rfl rfl [] rfl rfl
  have A3 := A1.cl |>.aN H daty_14 rfl rfl rfl |>.iN H daty_15 rfl rfl
  have A4 := A3.ldC hx hZ (hb hby daty_16) V_a1 h0j haj
  obtain ⟨vA5, hA5, ⟨rfl, rfl⟩, A5⟩ := A4.cS (own_shown l Z a0 hw c1 h0 n0 Z0 h0c h1c) H hZ hown daty_17 (oW hw 201 rfl) (kS43 hw) hml rfl rfl [(.int (own_sh c1))] rfl rfl
  have q6 : ((own_sh c1) = (own_sh c1)) := rfl
  have A7 := A5.cl |>.cn H daty_20 rfl ((teq q6).2) |>.ic H daty_23 rfl 1 rfl |>.gt H daty_24 rfl 28 (by decide) (by decide)
  exact A7.ret hx hlk hret (hb hby daty_28) rfl (Or.inl ⟨rfl, by simp, _, rfl⟩) (by decide) (by decide) ⟨rfl, rfl⟩
theorem own_c5 (l : Launch) (Z : State) (a0 : Array Value) (hw : ∀ d ∈ tables_1, d.before a0 Z = true) (o0 : Addr) (cs : Int32) (h0 : Heap) (n0 : Nat) (Z0 : n0 ≤ h0.size) (F_o0_coder : Fld Z h0 o0 "java/lang/String" "coder" "B" (.int 0)) (S_cs : Sta Z h0 "java/lang/String" "COMPACT_STRINGS" "Z" (.int cs)) (hcs : ¬ (cs = (0 : Int32))) :
    own_M l Z (⟨"java/lang/String", "coder", "()B"⟩ : MethodName) jdk_42_method_152_code 1 (some .byte) [] (⟨0, 0, 0, 0⟩ : Room) #[(.ref o0)] h0 n0 (fun v h => v = some (.int 0) ∧ h0 = h) := by
  refine own_M.of pl8 ?_
  intro p e s m below meth c S0 hx hby hml hown hnm hret hlk hZ A00
  have H : own_H p c _ := ⟨hx, hby⟩
  have A0 := A00.cast (f' := mkF m 0 #[.val (.ref o0)] []) (by first | (simp [entryFrame, mkF, argsToLocals, Value.category, maxLocals]; done) | rfl)
  have A1 := A0.getS hx hZ hown (hb hby dm9_0) (oW hw 55 rfl) Via.refl S_cs
  have A2 := A1.fn H dm9_3 rfl ((if0 _ _).trans (feq hcs).1) |>.aN H dm9_6 rfl rfl rfl
  have A3 := A2.getF hx hZ hown (hb hby dm9_7) (oW hw 26 rfl) Via.refl F_o0_coder
  have A4 := A3.gt H dm9_10 rfl 14 (by decide) (by decide)
  exact A4.ret hx hlk hret (hb hby dm9_14) rfl (Or.inl ⟨rfl, by simp, _, rfl⟩) (by decide) (by decide) ⟨rfl, rfl⟩
theorem own_c6 (l : Launch) (Z : State) (a0 : Array Value) (hw : ∀ d ∈ tables_1, d.before a0 Z = true) (o0 o1 : Addr) (us_o1 : List Int32) (cs : Int32) (h0 : Heap) (n0 : Nat) (Z0 : n0 ≤ h0.size) (E_o0 : Exa Z h0 o0 "java/lang/String") (F_o0_coder : Fld Z h0 o0 "java/lang/String" "coder" "B" (.int 0)) (F_o0_value : Fld Z h0 o0 "java/lang/String" "value" "[B" (.ref o1)) (V_o1 : own_Ar Z h0 o1 .byte (List.map own_lo us_o1)) (S_cs : Sta Z h0 "java/lang/String" "COMPACT_STRINGS" "Z" (.int cs)) (hl_o1 : us_o1.length = 1) (hcs : ¬ (cs = (0 : Int32))) :
    own_M l Z (⟨"java/lang/String", "length", "()I"⟩ : MethodName) jdk_42_method_54_code 1 (some .int) [] (⟨1, 0, 0, 13⟩ : Room) #[(.ref o0)] h0 n0 (fun v h => v = some (.int 1) ∧ h0 = h) := by
  refine own_M.of pl9 ?_
  intro p e s m below meth c S0 hx hby hml hown hnm hret hlk hZ A00
  have H : own_H p c _ := ⟨hx, hby⟩
  have A0 := A00.cast (f' := mkF m 0 #[.val (.ref o0)] []) (by first | (simp [entryFrame, mkF, argsToLocals, Value.category, maxLocals]; done) | rfl)
  have A1 := A0.aN H dm8_0 rfl rfl rfl
  have A2 := A1.getF hx hZ hown (hb hby dm8_1) (oW hw 25 rfl) Via.refl F_o0_value
  have A3 : own_R p l e _ _ m _ below meth c S0 n0 h0 0 0 (mkF m 5 #[.val (.ref o0)] [(.int (List.map own_lo us_o1).length.toInt32)]) := A2.len hx hZ (hb hby dm8_4) V_o1
  rw [List.length_map, hl_o1] at A3
  have A4 : own_R p l e _ _ m _ below meth c S0 n0 h0 0 0 (mkF m 5 #[.val (.ref o0)] [(.int 1)]) := A3
  have A6 := A4.aN H dm8_5 rfl rfl rfl
  obtain ⟨vA5, hA5, ⟨rfl, rfl⟩, A5⟩ := A6.cV (own_c5 l Z a0 hw o0 cs h0 n0 Z0 F_o0_coder S_cs hcs) E_o0 H hZ hown dm8_6 (oW hw 50 rfl) (kV5 hw) hml rfl rfl [(.int 1)] rfl rfl
  have A7 := A5.cl |>.sr H dm8_9 rfl 1 rfl
  exact A7.ret hx hlk hret (hb hby dm8_10) rfl (Or.inl ⟨rfl, by simp, _, rfl⟩) (by decide) (by decide) ⟨rfl, rfl⟩
theorem own_c11 (l : Launch) (Z : State) (a0 : Array Value) (hw : ∀ d ∈ tables_1, d.before a0 Z = true) (o0 o1 : Addr) (us_o1 : List Int32) (h0 : Heap) (n0 : Nat) (Z0 : n0 ≤ h0.size) (F_o0_coder : Fld Z h0 o0 "java/lang/AbstractStringBuilder" "coder" "B" (.int 0)) (F_o0_value : Fld Z h0 o0 "java/lang/AbstractStringBuilder" "value" "[B" (.ref o1)) (V_o1 : own_Ar Z h0 o1 .byte (List.map own_lo us_o1)) (hl_o1 : us_o1.length = 17) :
    own_M l Z (⟨"java/lang/AbstractStringBuilder", "ensureCapacityInternal", "(I)V"⟩ : MethodName) jdk_68_method_9_code 3 none [] (⟨0, 0, 0, 0⟩ : Room) #[(.ref o0), (.int 1)] h0 n0 (fun v h => v = none ∧ h0 = h) := by
  refine own_M.of pl22 ?_
  intro p e s m below meth c S0 hx hby hml hown hnm hret hlk hZ A00
  have H : own_H p c _ := ⟨hx, hby⟩
  have A0 := A00.cast (f' := mkF m 0 #[.val (.ref o0), .val (.int 1), .unset] []) (by first | (simp [entryFrame, mkF, argsToLocals, Value.category, maxLocals]; done) | rfl)
  have A1 := A0.aN H dm13_0 rfl rfl rfl
  have A2 := A1.getF hx hZ hown (hb hby dm13_1) (oW hw 60 rfl) Via.refl F_o0_value
  have A3 : own_R p l e _ _ m _ below meth c S0 n0 h0 0 0 (mkF m 5 #[.val (.ref o0), .val (.int 1), .unset] [(.int (List.map own_lo us_o1).length.toInt32)]) := A2.len hx hZ (hb hby dm13_4) V_o1
  rw [List.length_map, hl_o1] at A3
  have A4 : own_R p l e _ _ m _ below meth c S0 n0 h0 0 0 (mkF m 5 #[.val (.ref o0), .val (.int 1), .unset] [(.int 17)]) := A3
  have A5 := A4.aN H dm13_5 rfl rfl rfl
  have A6 := A5.getF hx hZ hown (hb hby dm13_6) (oW hw 58 rfl) Via.refl F_o0_coder
  have A7 := A6.sr H dm13_9 rfl 17 rfl |>.iM H dm13_10 rfl #[.val (.ref o0), .val (.int 1), .val (.int 17)] rfl |>.iN H dm13_11 rfl rfl |>.iN H dm13_12 rfl rfl |>.sb H dm13_13 rfl (-16) rfl |>.fy H dm13_14 rfl rfl 38 (by decide) (by decide)
  exact A7.retV hx hlk hret (hb hby dm13_38) (by decide) (by decide) ⟨rfl, rfl⟩
theorem own_c14 (l : Launch) (Z : State) (a0 : Array Value) (hw : ∀ d ∈ tables_1, d.before a0 Z = true) (o0 o1 : Addr) (cs : Int32) (h0 : Heap) (n0 : Nat) (Z0 : n0 ≤ h0.size) (F_o0_coder : Fld Z h0 o0 "java/lang/AbstractStringBuilder" "coder" "B" (.int 0)) (E_o1 : Exa Z h0 o1 "java/lang/String") (F_o1_coder : Fld Z h0 o1 "java/lang/String" "coder" "B" (.int 0)) (S_cs : Sta Z h0 "java/lang/String" "COMPACT_STRINGS" "Z" (.int cs)) (hcs : ¬ (cs = (0 : Int32))) :
    own_M l Z (⟨"java/lang/AbstractStringBuilder", "inflateIfNeededFor", "(Ljava/lang/String;)V"⟩ : MethodName) jdk_68_method_71_code 2 none [] (⟨1, 0, 0, 13⟩ : Room) #[(.ref o0), (.ref o1)] h0 n0 (fun v h => v = none ∧ h0 = h) := by
  refine own_M.of pl23 ?_
  intro p e s m below meth c S0 hx hby hml hown hnm hret hlk hZ A00
  have H : own_H p c _ := ⟨hx, hby⟩
  have A0 := A00.cast (f' := mkF m 0 #[.val (.ref o0), .val (.ref o1)] []) (by first | (simp [entryFrame, mkF, argsToLocals, Value.category, maxLocals]; done) | rfl)
  have A1 := A0.getS hx hZ hown (hb hby dm15_0) (oW hw 93 rfl) Via.refl S_cs
  have A2 := A1.fn H dm15_3 rfl ((if0 _ _).trans (feq hcs).1) |>.aN H dm15_6 rfl rfl rfl
  have A3 := A2.getF hx hZ hown (hb hby dm15_7) (oW hw 58 rfl) Via.refl F_o0_coder
  have A5 := A3.aN H dm15_10 rfl rfl rfl
  obtain ⟨vA4, hA4, ⟨rfl, rfl⟩, A4⟩ := A5.cV (own_c5 l Z a0 hw o1 cs h0 n0 Z0 F_o1_coder S_cs hcs) E_o1 H hZ hown dm15_11 (oW hw 57 rfl) (kV5 hw) hml rfl rfl [(.int 0)] rfl rfl
  have q6 : ((0 : Int32) = (0 : Int32)) := rfl
  have A7 := A4.cl |>.cy H dm15_14 rfl ((teq q6).1) 21 (by decide) (by decide)
  exact A7.retV hx hlk hret (hb hby dm15_21) (by decide) (by decide) ⟨rfl, rfl⟩
theorem own_c16 (l : Launch) (Z : State) (a0 : Array Value) (hw : ∀ d ∈ tables_1, d.before a0 Z = true) (o0 o1 o2 : Addr) (us_o1 : List Int32) (us_o2 : List Int32) (cs : Int32) (h0 : Heap) (n0 : Nat) (Z0 : n0 ≤ h0.size) (E_o0 : Exa Z h0 o0 "java/lang/String") (F_o0_coder : Fld Z h0 o0 "java/lang/String" "coder" "B" (.int 0)) (F_o0_value : Fld Z h0 o0 "java/lang/String" "value" "[B" (.ref o2)) (V_o1 : own_Ar Z h0 o1 .byte (List.map own_lo us_o1)) (V_o2 : own_Ar Z h0 o2 .byte (List.map own_lo us_o2)) (S_cs : Sta Z h0 "java/lang/String" "COMPACT_STRINGS" "Z" (.int cs)) (hl_o1 : us_o1.length = 17) (hl_o2 : us_o2.length = 1) (hcs : ¬ (cs = (0 : Int32))) (ne_o0_o1 : o0 ≠ o1) (ne_o2_o1 : o2 ≠ o1) (g_o1 : n0 ≤ o1) :
    own_M l Z (⟨"java/lang/String", "getBytes", "([BIB)V"⟩ : MethodName) jdk_42_method_147_code 4 none [] (⟨1, 0, 0, 18⟩ : Room) #[(.ref o0), (.ref o1), (.int 0), (.int 0)] h0 n0 (fun v h => v = none ∧ Keep h0 h [o1] ∧ own_Ar Z h o1 .byte (List.map own_lo (List.take 0 us_o1 ++ List.take 1 (List.drop 0 us_o2) ++ List.drop (0 + 1) us_o1)) ∧ ((List.take 0 us_o1 ++ List.take 1 (List.drop 0 us_o2) ++ List.drop (0 + 1) us_o1) : List Int32).length = 17) := by
  refine own_M.of pl24 ?_
  intro p e s m below meth c S0 hx hby hml hown hnm hret hlk hZ A00
  have H : own_H p c _ := ⟨hx, hby⟩
  have A0 := A00.cast (f' := mkF m 0 #[.val (.ref o0), .val (.ref o1), .val (.int 0), .val (.int 0)] []) (by first | (simp [entryFrame, mkF, argsToLocals, Value.category, maxLocals]; done) | rfl)
  have KK : Keep h0 h0 ([o1] : List Addr) := Keep.refl _ _
  have A2 := A0.aN H dm16_0 rfl rfl rfl
  obtain ⟨vA1, hA1, ⟨rfl, rfl⟩, A1⟩ := A2.cV (own_c5 l Z a0 hw o0 cs h0 n0 Z0 F_o0_coder S_cs hcs) E_o0 H hZ hown dm16_1 (oW hw 50 rfl) (kV5 hw) hml rfl rfl [] rfl rfl
  have q3 : ((0 : Int32) = (0 : Int32)) := rfl
  have A4 := A1.cl |>.iN H dm16_4 rfl rfl |>.cn H dm16_5 rfl ((teq q3).2) |>.aN H dm16_8 rfl rfl rfl
  have A5 := A4.getF hx hZ hown (hb hby dm16_9) (oW hw 25 rfl) Via.refl F_o0_value
  have A6 := A5.ic H dm16_12 rfl 0 rfl |>.aN H dm16_13 rfl rfl rfl |>.iN H dm16_14 rfl rfl |>.iN H dm16_15 rfl rfl |>.lS H dm16_16 rfl 0 rfl |>.aN H dm16_17 rfl rfl rfl
  have A7 := A6.getF hx hZ hown (hb hby dm16_18) (oW hw 25 rfl) Via.refl F_o0_value
  have A8 : own_R p l e _ _ m _ below meth c S0 n0 h0 0 0 (mkF m 22 #[.val (.ref o0), .val (.ref o1), .val (.int 0), .val (.int 0)] [(.int (List.map own_lo us_o2).length.toInt32), (.int 0), (.ref o1), (.int 0), (.ref o2)]) := A7.len hx hZ (hb hby dm16_21) V_o2
  rw [List.length_map, hl_o2] at A8
  have A9 : own_R p l e _ _ m _ below meth c S0 n0 h0 0 0 (mkF m 22 #[.val (.ref o0), .val (.ref o1), .val (.int 0), .val (.int 0)] [(.int 1), (.int 0), (.ref o1), (.int 0), (.ref o2)]) := A8
  obtain ⟨hA10, KA10, P_V_o1, A10⟩ := A9.cpL (S := 0) (D := 0) (N := 1) hx hZ hown (hb hby dm16_22) (oW hw 99 rfl) (oW hw 102 rfl) (oW hw 100 rfl) (oW hw 101 rfl) V_o2 V_o1 (z1 := (1 : Int32)) (z2 := (17 : Int32)) (by rw [hl_o2]; rfl) (by rw [hl_o1]; rfl) (by decide) (by decide) (by decide) (by decide) (by decide) rfl rfl rfl (by rw [hl_o2]; decide) (by rw [hl_o1]; decide) g_o1 (by rw [hml]; rfl) (W := 0) (Nat.le_of_eq rfl) (by decide) (by decide)
  have hl_o1 : ((List.take 0 us_o1 ++ List.take 1 (List.drop 0 us_o2) ++ List.drop (0 + 1) us_o1) : List Int32).length = 17 := by simp [hl_o2, hl_o1]
  have KK : Keep h0 hA10 [o1] := KK.trans KA10 (allS (P := fun x => x ∈ ([o1] : List Addr) ∨ h0.size ≤ x) (Or.inl (by simp)) all0)
  have V_o1 : own_Ar Z hA10 o1 .byte (List.map own_lo (List.take 0 us_o1 ++ List.take 1 (List.drop 0 us_o2) ++ List.drop (0 + 1) us_o1)) := P_V_o1
  have A11 := A10.gt H dm16_25 rfl 43 (by decide) (by decide)
  exact A11.retV hx hlk hret (hb hby dm16_43) (by decide) (by decide) ⟨rfl, KK, V_o1, hl_o1⟩
theorem own_c17 (l : Launch) (Z : State) (a0 : Array Value) (hw : ∀ d ∈ tables_1, d.before a0 Z = true) (o0 o1 o2 o3 : Addr) (us_o2 : List Int32) (us_o3 : List Int32) (cs : Int32) (h0 : Heap) (n0 : Nat) (Z0 : n0 ≤ h0.size) (E_o0 : Exa Z h0 o0 "java/lang/StringBuilder") (F_o0_coder : Fld Z h0 o0 "java/lang/AbstractStringBuilder" "coder" "B" (.int 0)) (F_o0_value : Fld Z h0 o0 "java/lang/AbstractStringBuilder" "value" "[B" (.ref o2)) (E_o1 : Exa Z h0 o1 "java/lang/String") (F_o1_coder : Fld Z h0 o1 "java/lang/String" "coder" "B" (.int 0)) (F_o1_value : Fld Z h0 o1 "java/lang/String" "value" "[B" (.ref o3)) (V_o2 : own_Ar Z h0 o2 .byte (List.map own_lo us_o2)) (V_o3 : own_Ar Z h0 o3 .byte (List.map own_lo us_o3)) (S_cs : Sta Z h0 "java/lang/String" "COMPACT_STRINGS" "Z" (.int cs)) (hl_o2 : us_o2.length = 17) (hl_o3 : us_o3.length = 1) (hcs : ¬ (cs = (0 : Int32))) (ne_o0_o2 : o0 ≠ o2) (ne_o1_o2 : o1 ≠ o2) (ne_o3_o2 : o3 ≠ o2) (g_o2 : n0 ≤ o2) :
    own_M l Z (⟨"java/lang/AbstractStringBuilder", "putStringAt", "(ILjava/lang/String;)V"⟩ : MethodName) jdk_68_method_73_code 3 none [] (⟨2, 0, 0, 33⟩ : Room) #[(.ref o0), (.int 0), (.ref o1)] h0 n0 (fun v h => v = none ∧ Keep h0 h [o2] ∧ own_Ar Z h o2 .byte (List.map own_lo (List.take 0 us_o2 ++ List.take 1 (List.drop 0 us_o3) ++ List.drop (0 + 1) us_o2)) ∧ ((List.take 0 us_o2 ++ List.take 1 (List.drop 0 us_o3) ++ List.drop (0 + 1) us_o2) : List Int32).length = 17) := by
  refine own_M.of pl25 ?_
  intro p e s m below meth c S0 hx hby hml hown hnm hret hlk hZ A00
  have H : own_H p c _ := ⟨hx, hby⟩
  have A0 := A00.cast (f' := mkF m 0 #[.val (.ref o0), .val (.int 0), .val (.ref o1)] []) (by first | (simp [entryFrame, mkF, argsToLocals, Value.category, maxLocals]; done) | rfl)
  have KK : Keep h0 h0 ([o2] : List Addr) := Keep.refl _ _
  have A2 := A0.aN H dm14_0 rfl rfl rfl |>.aN H dm14_1 rfl rfl rfl
  obtain ⟨vA1, hA1, ⟨rfl, rfl⟩, A1⟩ := A2.cV (own_c14 l Z a0 hw o0 o1 cs h0 n0 Z0 F_o0_coder E_o1 F_o1_coder S_cs hcs) E_o0 H hZ hown dm14_2 (oW hw 88 rfl) (kV19 hw) hml rfl rfl [] rfl rfl
  have A3 := A1.c0 |>.aN H dm14_5 rfl rfl rfl |>.aN H dm14_6 rfl rfl rfl
  have A4 := A3.getF hx hZ hown (hb hby dm14_7) (oW hw 60 rfl) Via.refl F_o0_value
  have A5 := A4.iN H dm14_10 rfl rfl |>.aN H dm14_11 rfl rfl rfl
  have A6 := A5.getF hx hZ hown (hb hby dm14_12) (oW hw 58 rfl) Via.refl F_o0_coder
  obtain ⟨vA7, hA7, ⟨rfl, KA7, P_V_o2, hl_o2⟩, A7⟩ := A6.cV (own_c16 l Z a0 hw o1 o2 o3 _ _ cs h0 n0 Z0 E_o1 F_o1_coder F_o1_value V_o2 V_o3 S_cs hl_o2 hl_o3 hcs ne_o1_o2 ne_o3_o2 g_o2) E_o1 H hZ hown dm14_15 (oW hw 94 rfl) (kV20 hw) hml rfl rfl [] rfl rfl
  have KK : Keep h0 hA7 [o2] := KK.trans KA7 (allS (P := fun x => x ∈ ([o2] : List Addr) ∨ h0.size ≤ x) (Or.inl (by simp)) all0)
  have V_o2 : own_Ar Z hA7 o2 .byte (List.map own_lo (List.take 0 us_o2 ++ List.take 1 (List.drop 0 us_o3) ++ List.drop (0 + 1) us_o2)) := P_V_o2
  have A8 := A7.c0
  exact A8.retV hx hlk hret (hb hby dm14_18) (by decide) (by decide) ⟨rfl, KK, V_o2, hl_o2⟩
theorem own_c18 (l : Launch) (Z : State) (a0 : Array Value) (hw : ∀ d ∈ tables_1, d.before a0 Z = true) (o0 o1 o2 o3 : Addr) (us_o2 : List Int32) (us_o3 : List Int32) (cs : Int32) (h0 : Heap) (n0 : Nat) (Z0 : n0 ≤ h0.size) (E_o0 : Exa Z h0 o0 "java/lang/StringBuilder") (F_o0_coder : Fld Z h0 o0 "java/lang/AbstractStringBuilder" "coder" "B" (.int 0)) (F_o0_value : Fld Z h0 o0 "java/lang/AbstractStringBuilder" "value" "[B" (.ref o2)) (F_o0_count : Fld Z h0 o0 "java/lang/AbstractStringBuilder" "count" "I" (.int 0)) (E_o1 : Exa Z h0 o1 "java/lang/String") (F_o1_coder : Fld Z h0 o1 "java/lang/String" "coder" "B" (.int 0)) (F_o1_value : Fld Z h0 o1 "java/lang/String" "value" "[B" (.ref o3)) (V_o2 : own_Ar Z h0 o2 .byte (List.map own_lo us_o2)) (V_o3 : own_Ar Z h0 o3 .byte (List.map own_lo us_o3)) (S_cs : Sta Z h0 "java/lang/String" "COMPACT_STRINGS" "Z" (.int cs)) (hl_o2 : us_o2.length = 17) (hl_o3 : us_o3.length = 1) (hcs : ¬ (cs = (0 : Int32))) (ne_o0_o2 : o0 ≠ o2) (ne_o1_o0 : o1 ≠ o0) (ne_o1_o2 : o1 ≠ o2) (ne_o2_o0 : o2 ≠ o0) (ne_o3_o0 : o3 ≠ o0) (ne_o3_o2 : o3 ≠ o2) (g_o0 : n0 ≤ o0) (g_o2 : n0 ≤ o2) :
    own_M l Z (⟨"java/lang/AbstractStringBuilder", "append", "(Ljava/lang/String;)Ljava/lang/AbstractStringBuilder;"⟩ : MethodName) jdk_68_method_22_code 3 (some (.object "java/lang/AbstractStringBuilder")) [] (⟨3, 0, 0, 47⟩ : Room) #[(.ref o0), (.ref o1)] h0 n0 (fun v h => v = some (.ref o0) ∧ Keep h0 h [o0, o2] ∧ Fld Z h o0 "java/lang/AbstractStringBuilder" "coder" "B" (.int 0) ∧ Fld Z h o0 "java/lang/AbstractStringBuilder" "value" "[B" (.ref o2) ∧ Fld Z h o0 "java/lang/AbstractStringBuilder" "count" "I" (.int 1) ∧ own_Ar Z h o2 .byte (List.map own_lo (List.take 0 us_o2 ++ List.take 1 (List.drop 0 us_o3) ++ List.drop (0 + 1) us_o2)) ∧ ((List.take 0 us_o2 ++ List.take 1 (List.drop 0 us_o3) ++ List.drop (0 + 1) us_o2) : List Int32).length = 17) := by
  refine own_M.of pl26 ?_
  intro p e s m below meth c S0 hx hby hml hown hnm hret hlk hZ A00
  have H : own_H p c _ := ⟨hx, hby⟩
  have A0 := A00.cast (f' := mkF m 0 #[.val (.ref o0), .val (.ref o1), .unset] []) (by first | (simp [entryFrame, mkF, argsToLocals, Value.category, maxLocals]; done) | rfl)
  have KK : Keep h0 h0 ([o0, o2] : List Addr) := Keep.refl _ _
  have A2 := A0.aN H dm12_0 rfl rfl rfl |>.ny H dm12_1 rfl 9 (by decide) (by decide) |>.aN H dm12_9 rfl rfl rfl
  obtain ⟨vA1, hA1, ⟨rfl, rfl⟩, A1⟩ := A2.cV (own_c6 l Z a0 hw o1 o3 _ cs h0 n0 Z0 E_o1 F_o1_coder F_o1_value V_o3 S_cs hl_o3 hcs) E_o1 H hZ hown dm12_10 (oW hw 45 rfl) (kV17 hw) hml rfl rfl [] rfl rfl
  have A3 := A1.cl |>.iM H dm12_13 rfl #[.val (.ref o0), .val (.ref o1), .val (.int 1)] rfl |>.aN H dm12_14 rfl rfl rfl |>.aN H dm12_15 rfl rfl rfl
  have A4 := A3.getF hx hZ hown (hb hby dm12_16) (oW hw 76 rfl) Via.refl F_o0_count
  have A6 := A4.iN H dm12_19 rfl rfl |>.ad H dm12_20 rfl 1 rfl
  obtain ⟨vA5, hA5, ⟨rfl, rfl⟩, A5⟩ := A6.cV (own_c11 l Z a0 hw o0 o2 _ h0 n0 Z0 F_o0_coder F_o0_value V_o2 hl_o2) E_o0 H hZ hown dm12_21 (oW hw 78 rfl) (kV18 hw) hml rfl rfl [] rfl rfl
  have A7 := A5.c0 |>.aN H dm12_24 rfl rfl rfl |>.aN H dm12_25 rfl rfl rfl
  have A8 := A7.getF hx hZ hown (hb hby dm12_26) (oW hw 76 rfl) Via.refl F_o0_count
  have A10 := A8.aN H dm12_29 rfl rfl rfl
  obtain ⟨vA9, hA9, ⟨rfl, KA9, P_V_o2, hl_o2⟩, A9⟩ := A10.cV (own_c17 l Z a0 hw o0 o1 o2 o3 _ _ cs h0 n0 Z0 E_o0 F_o0_coder F_o0_value E_o1 F_o1_coder F_o1_value V_o2 V_o3 S_cs hl_o2 hl_o3 hcs ne_o0_o2 ne_o1_o2 ne_o3_o2 g_o2) E_o0 H hZ hown dm12_30 (oW hw 83 rfl) (kV21 hw) hml rfl rfl [] rfl rfl
  have E_o0 := E_o0.keep KA9
  have F_o0_coder := F_o0_coder.keep KA9 (ninS ne_o0_o2 nin0)
  have F_o0_value := F_o0_value.keep KA9 (ninS ne_o0_o2 nin0)
  have F_o0_count := F_o0_count.keep KA9 (ninS ne_o0_o2 nin0)
  have KK : Keep h0 hA9 [o0, o2] := KK.trans KA9 (allS (P := fun x => x ∈ ([o0, o2] : List Addr) ∨ h0.size ≤ x) (Or.inl (by simp)) all0)
  have V_o2 : own_Ar Z hA9 o2 .byte (List.map own_lo (List.take 0 us_o2 ++ List.take 1 (List.drop 0 us_o3) ++ List.drop (0 + 1) us_o2)) := P_V_o2
  have A11 := A9.c0 |>.aN H dm12_33 rfl rfl rfl |>.du H dm12_34 rfl rfl
  have A12 := A11.getF hx hZ hown (hb hby dm12_35) (oW hw 76 rfl) Via.refl F_o0_count
  have A16 := A12.iN H dm12_38 rfl rfl |>.ad H dm12_39 rfl 1 rfl
  obtain ⟨h13, W14, A15⟩ := A16.putF hx hZ hown (hb hby dm12_40) (oW hw 76 rfl) F_o0_count E_o0 (Or.inl (oW hw 77 rfl)) (oW hw 32 rfl) (ty := .int) (by decide) rfl rfl g_o0
  have F_o0_coder := F_o0_coder.other W14 (Or.inr (slot_ne (Or.inl (oW hw 59 rfl)) (Or.inl (oW hw 77 rfl)) (by decide) (t := .byte) (t' := .int) (by decide) (by decide)))
  have F_o0_value := F_o0_value.other W14 (Or.inr (slot_ne (Or.inl (oW hw 61 rfl)) (Or.inl (oW hw 77 rfl)) (by decide) (t := (.array .byte)) (t' := .int) (by decide) (by decide)))
  have F_o0_count : Fld Z h13 o0 "java/lang/AbstractStringBuilder" "count" "I" (.int 1) := F_o0_count.same W14
  have V_o2 := V_o2.other W14 ne_o2_o0
  have KK : Keep h0 h13 [o0, o2] := KK.wr W14 (Or.inl (by simp))
  have A17 := A15.aN H dm12_43 rfl rfl rfl
  exact A17.ret hx hlk hret (hb hby dm12_44) rfl (Or.inr (Or.inr (Or.inr (Or.inr ⟨rfl, rfl, rfl⟩)))) (by decide) (by decide) ⟨rfl, KK, F_o0_coder, F_o0_value, F_o0_count, V_o2, hl_o2⟩
theorem own_c19 (l : Launch) (Z : State) (a0 : Array Value) (hw : ∀ d ∈ tables_1, d.before a0 Z = true) (o0 o1 o2 o3 : Addr) (us_o2 : List Int32) (us_o3 : List Int32) (cs : Int32) (h0 : Heap) (n0 : Nat) (Z0 : n0 ≤ h0.size) (E_o0 : Exa Z h0 o0 "java/lang/StringBuilder") (F_o0_coder : Fld Z h0 o0 "java/lang/AbstractStringBuilder" "coder" "B" (.int 0)) (F_o0_value : Fld Z h0 o0 "java/lang/AbstractStringBuilder" "value" "[B" (.ref o2)) (F_o0_count : Fld Z h0 o0 "java/lang/AbstractStringBuilder" "count" "I" (.int 0)) (E_o1 : Exa Z h0 o1 "java/lang/String") (F_o1_coder : Fld Z h0 o1 "java/lang/String" "coder" "B" (.int 0)) (F_o1_value : Fld Z h0 o1 "java/lang/String" "value" "[B" (.ref o3)) (V_o2 : own_Ar Z h0 o2 .byte (List.map own_lo us_o2)) (V_o3 : own_Ar Z h0 o3 .byte (List.map own_lo us_o3)) (S_cs : Sta Z h0 "java/lang/String" "COMPACT_STRINGS" "Z" (.int cs)) (hl_o2 : us_o2.length = 17) (hl_o3 : us_o3.length = 1) (hcs : ¬ (cs = (0 : Int32))) (ne_o0_o2 : o0 ≠ o2) (ne_o1_o0 : o1 ≠ o0) (ne_o1_o2 : o1 ≠ o2) (ne_o2_o0 : o2 ≠ o0) (ne_o3_o0 : o3 ≠ o0) (ne_o3_o2 : o3 ≠ o2) (g_o0 : n0 ≤ o0) (g_o2 : n0 ≤ o2) :
    own_M l Z (⟨"java/lang/StringBuilder", "append", "(Ljava/lang/String;)Ljava/lang/StringBuilder;"⟩ : MethodName) jdk_67_method_7_code 2 (some (.object "java/lang/StringBuilder")) [] (⟨4, 0, 0, 61⟩ : Room) #[(.ref o0), (.ref o1)] h0 n0 (fun v h => v = some (.ref o0) ∧ Keep h0 h [o0, o2] ∧ Fld Z h o0 "java/lang/AbstractStringBuilder" "coder" "B" (.int 0) ∧ Fld Z h o0 "java/lang/AbstractStringBuilder" "value" "[B" (.ref o2) ∧ Fld Z h o0 "java/lang/AbstractStringBuilder" "count" "I" (.int 1) ∧ own_Ar Z h o2 .byte (List.map own_lo (List.take 0 us_o2 ++ List.take 1 (List.drop 0 us_o3) ++ List.drop (0 + 1) us_o2)) ∧ ((List.take 0 us_o2 ++ List.take 1 (List.drop 0 us_o3) ++ List.drop (0 + 1) us_o2) : List Int32).length = 17) := by
  refine own_M.of pl27 ?_
  intro p e s m below meth c S0 hx hby hml hown hnm hret hlk hZ A00
  have H : own_H p c _ := ⟨hx, hby⟩
  have A0 := A00.cast (f' := mkF m 0 #[.val (.ref o0), .val (.ref o1)] []) (by first | (simp [entryFrame, mkF, argsToLocals, Value.category, maxLocals]; done) | rfl)
  have KK : Keep h0 h0 ([o0, o2] : List Addr) := Keep.refl _ _
  have A2 := A0.aN H dm11_0 rfl rfl rfl |>.aN H dm11_1 rfl rfl rfl
  obtain ⟨vA1, hA1, ⟨rfl, KA1, P_F_o0_coder, P_F_o0_value, P_F_o0_count, P_V_o2, hl_o2⟩, A1⟩ := A2.callU (b := o0) (own_c18 l Z a0 hw o0 o1 o2 o3 _ _ cs h0 n0 Z0 E_o0 F_o0_coder F_o0_value F_o0_count E_o1 F_o1_coder F_o1_value V_o2 V_o3 S_cs hl_o2 hl_o3 hcs ne_o0_o2 ne_o1_o0 ne_o1_o2 ne_o2_o0 ne_o3_o0 ne_o3_o2 g_o0 g_o2) E_o0 hx hZ hown (hb hby dm11_2) (by decide) (oW hw 73 rfl) (own_same (y' := (⟨"java/lang/AbstractStringBuilder", "ensureCapacityInternal", "(I)V"⟩ : MethodName)) (oW hw 81 rfl) rfl (oW hw 64 rfl) ⟨by decide, by decide⟩) (oW hw 64 rfl) (oW hw 74 rfl) (oW hw 75 rfl) (oW hw 42 rfl) (lenOf pd__28Ljava_2flang_2fString_3b_29Ljava_2flang_2fAbstractStringBuilder_3b rfl) (argsL := [(.ref o1)]) (rest := []) rfl rfl (by rw [hml]; rfl) (W := 0) (Nat.le_of_eq rfl) (by decide) (by decide) (by decide) (by decide)
  have KK : Keep h0 hA1 [o0, o2] := KK.trans KA1 (allS (P := fun x => x ∈ ([o0, o2] : List Addr) ∨ h0.size ≤ x) (Or.inl (by simp)) (allS (P := fun x => x ∈ ([o0, o2] : List Addr) ∨ h0.size ≤ x) (Or.inl (by simp)) all0))
  have F_o0_coder : Fld Z hA1 o0 "java/lang/AbstractStringBuilder" "coder" "B" (.int 0) := P_F_o0_coder
  have F_o0_value : Fld Z hA1 o0 "java/lang/AbstractStringBuilder" "value" "[B" (.ref o2) := P_F_o0_value
  have F_o0_count : Fld Z hA1 o0 "java/lang/AbstractStringBuilder" "count" "I" (.int 1) := P_F_o0_count
  have V_o2 : own_Ar Z hA1 o2 .byte (List.map own_lo (List.take 0 us_o2 ++ List.take 1 (List.drop 0 us_o3) ++ List.drop (0 + 1) us_o2)) := P_V_o2
  have A3 := A1.cl |>.po H dm11_5 rfl rfl |>.aN H dm11_6 rfl rfl rfl
  exact A3.ret hx hlk hret (hb hby dm11_7) rfl (Or.inr (Or.inr (Or.inr (Or.inr ⟨rfl, rfl, rfl⟩)))) (by decide) (by decide) ⟨rfl, KK, F_o0_coder, F_o0_value, F_o0_count, V_o2, hl_o2⟩
theorem own_c20 (l : Launch) (Z : State) (a0 : Array Value) (hw : ∀ d ∈ tables_1, d.before a0 Z = true) (o0 o1 o2 o3 : Addr) (us_o2 : List Int32) (us_o3 : List Int32) (cs : Int32) (h0 : Heap) (n0 : Nat) (Z0 : n0 ≤ h0.size) (E_o0 : Exa Z h0 o0 "java/lang/StringBuilder") (F_o0_coder : Fld Z h0 o0 "java/lang/AbstractStringBuilder" "coder" "B" (.int 0)) (F_o0_value : Fld Z h0 o0 "java/lang/AbstractStringBuilder" "value" "[B" (.ref o2)) (F_o0_count : Fld Z h0 o0 "java/lang/AbstractStringBuilder" "count" "I" (.int 0)) (E_o1 : Exa Z h0 o1 "java/lang/String") (F_o1_coder : Fld Z h0 o1 "java/lang/String" "coder" "B" (.int 0)) (F_o1_value : Fld Z h0 o1 "java/lang/String" "value" "[B" (.ref o3)) (V_o2 : own_Ar Z h0 o2 .byte (List.map own_lo us_o2)) (V_o3 : own_Ar Z h0 o3 .byte (List.map own_lo us_o3)) (S_cs : Sta Z h0 "java/lang/String" "COMPACT_STRINGS" "Z" (.int cs)) (hl_o2 : us_o2.length = 17) (hl_o3 : us_o3.length = 1) (hcs : ¬ (cs = (0 : Int32))) (ne_o0_o2 : o0 ≠ o2) (ne_o1_o0 : o1 ≠ o0) (ne_o1_o2 : o1 ≠ o2) (ne_o2_o0 : o2 ≠ o0) (ne_o3_o0 : o3 ≠ o0) (ne_o3_o2 : o3 ≠ o2) (g_o0 : n0 ≤ o0) (g_o2 : n0 ≤ o2) :
    own_M l Z (⟨"java/lang/StringBuilder", "append", "(Ljava/lang/String;)Ljava/lang/AbstractStringBuilder;"⟩ : MethodName) jdk_67_method_80_code 2 (some (.object "java/lang/AbstractStringBuilder")) [] (⟨5, 0, 0, 74⟩ : Room) #[(.ref o0), (.ref o1)] h0 n0 (fun v h => v = some (.ref o0) ∧ Keep h0 h [o0, o2] ∧ Fld Z h o0 "java/lang/AbstractStringBuilder" "coder" "B" (.int 0) ∧ Fld Z h o0 "java/lang/AbstractStringBuilder" "value" "[B" (.ref o2) ∧ Fld Z h o0 "java/lang/AbstractStringBuilder" "count" "I" (.int 1) ∧ own_Ar Z h o2 .byte (List.map own_lo (List.take 0 us_o2 ++ List.take 1 (List.drop 0 us_o3) ++ List.drop (0 + 1) us_o2)) ∧ ((List.take 0 us_o2 ++ List.take 1 (List.drop 0 us_o3) ++ List.drop (0 + 1) us_o2) : List Int32).length = 17) := by
  refine own_M.of pl28 ?_
  intro p e s m below meth c S0 hx hby hml hown hnm hret hlk hZ A00
  have H : own_H p c _ := ⟨hx, hby⟩
  have A0 := A00.cast (f' := mkF m 0 #[.val (.ref o0), .val (.ref o1)] []) (by first | (simp [entryFrame, mkF, argsToLocals, Value.category, maxLocals]; done) | rfl)
  have KK : Keep h0 h0 ([o0, o2] : List Addr) := Keep.refl _ _
  have A2 := A0.aN H dm10_0 rfl rfl rfl |>.aN H dm10_1 rfl rfl rfl
  obtain ⟨vA1, hA1, ⟨rfl, KA1, P_F_o0_coder, P_F_o0_value, P_F_o0_count, P_V_o2, hl_o2⟩, A1⟩ := A2.cV (own_c19 l Z a0 hw o0 o1 o2 o3 _ _ cs h0 n0 Z0 E_o0 F_o0_coder F_o0_value F_o0_count E_o1 F_o1_coder F_o1_value V_o2 V_o3 S_cs hl_o2 hl_o3 hcs ne_o0_o2 ne_o1_o0 ne_o1_o2 ne_o2_o0 ne_o3_o0 ne_o3_o2 g_o0 g_o2) E_o0 H hZ hown dm10_2 (oW hw 68 rfl) (kV22 hw) hml rfl rfl [] rfl rfl
  have KK : Keep h0 hA1 [o0, o2] := KK.trans KA1 (allS (P := fun x => x ∈ ([o0, o2] : List Addr) ∨ h0.size ≤ x) (Or.inl (by simp)) (allS (P := fun x => x ∈ ([o0, o2] : List Addr) ∨ h0.size ≤ x) (Or.inl (by simp)) all0))
  have F_o0_coder : Fld Z hA1 o0 "java/lang/AbstractStringBuilder" "coder" "B" (.int 0) := P_F_o0_coder
  have F_o0_value : Fld Z hA1 o0 "java/lang/AbstractStringBuilder" "value" "[B" (.ref o2) := P_F_o0_value
  have F_o0_count : Fld Z hA1 o0 "java/lang/AbstractStringBuilder" "count" "I" (.int 1) := P_F_o0_count
  have V_o2 : own_Ar Z hA1 o2 .byte (List.map own_lo (List.take 0 us_o2 ++ List.take 1 (List.drop 0 us_o3) ++ List.drop (0 + 1) us_o2)) := P_V_o2
  have A3 := A1.cl
  exact A3.ret hx hlk hret (hb hby dm10_5) rfl (Or.inr (Or.inr (Or.inr (Or.inr ⟨rfl, rfl, rfl⟩)))) (by decide) (by decide) ⟨rfl, KK, F_o0_coder, F_o0_value, F_o0_count, V_o2, hl_o2⟩
theorem own_c21 (l : Launch) (Z : State) (a0 : Array Value) (hw : ∀ d ∈ tables_1, d.before a0 Z = true) (o0 o1 o2 : Addr) (us_o2 : List Int32) (cs : Int32) (h0 : Heap) (n0 : Nat) (Z0 : n0 ≤ h0.size) (E_o0 : Exa Z h0 o0 "java/lang/StringBuilder") (F_o0_coder : Fld Z h0 o0 "java/lang/AbstractStringBuilder" "coder" "B" (.int 0)) (F_o0_value : Fld Z h0 o0 "java/lang/AbstractStringBuilder" "value" "[B" .null) (F_o0_count : Fld Z h0 o0 "java/lang/AbstractStringBuilder" "count" "I" (.int 0)) (E_o1 : Exa Z h0 o1 "java/lang/String") (F_o1_coder : Fld Z h0 o1 "java/lang/String" "coder" "B" (.int 0)) (F_o1_value : Fld Z h0 o1 "java/lang/String" "value" "[B" (.ref o2)) (V_o2 : own_Ar Z h0 o2 .byte (List.map own_lo us_o2)) (S_cs : Sta Z h0 "java/lang/String" "COMPACT_STRINGS" "Z" (.int cs)) (hl_o2 : us_o2.length = 1) (hcs : ¬ (cs = (0 : Int32))) (ne_o1_o0 : o1 ≠ o0) (ne_o2_o0 : o2 ≠ o0) (g_o0 : n0 ≤ o0) :
    own_M l Z (⟨"java/lang/AbstractStringBuilder", "<init>", "(Ljava/lang/String;)V"⟩ : MethodName) jdk_68_method_3_code 5 none [] (⟨6, 1, 17, 87⟩ : Room) #[(.ref o0), (.ref o1)] h0 n0 (fun v h => ∃ x1 : Addr, v = none ∧ Keep h0 h [o0] ∧ h0.size ≤ x1 ∧ Fld Z h o0 "java/lang/AbstractStringBuilder" "coder" "B" (.int 0) ∧ Fld Z h o0 "java/lang/AbstractStringBuilder" "value" "[B" (.ref x1) ∧ Fld Z h o0 "java/lang/AbstractStringBuilder" "count" "I" (.int 1) ∧ own_Ar Z h x1 .byte (List.map own_lo (List.take 0 ([0, 0, 0, 0, 0, 0, 0, 0, 0, 0, 0, 0, 0, 0, 0, 0, 0] : List Int32) ++ List.take 1 (List.drop 0 us_o2) ++ List.drop (0 + 1) ([0, 0, 0, 0, 0, 0, 0, 0, 0, 0, 0, 0, 0, 0, 0, 0, 0] : List Int32))) ∧ ((List.take 0 ([0, 0, 0, 0, 0, 0, 0, 0, 0, 0, 0, 0, 0, 0, 0, 0, 0] : List Int32) ++ List.take 1 (List.drop 0 us_o2) ++ List.drop (0 + 1) ([0, 0, 0, 0, 0, 0, 0, 0, 0, 0, 0, 0, 0, 0, 0, 0, 0] : List Int32)) : List Int32).length = 17) := by
  refine own_M.of pl29 ?_
  intro p e s m below meth c S0 hx hby hml hown hnm hret hlk hZ A00
  have H : own_H p c _ := ⟨hx, hby⟩
  have A0 := A00.cast (f' := mkF m 0 #[.val (.ref o0), .val (.ref o1), .unset, .unset, .unset] []) (by first | (simp [entryFrame, mkF, argsToLocals, Value.category, maxLocals]; done) | rfl)
  have KK : Keep h0 h0 ([o0] : List Addr) := Keep.refl _ _
  have A1 := A0.aN H dm7_0 rfl rfl rfl
  have A2 := A1.initO hx hZ hown (hb hby dm7_1) (oW hw 44 rfl) (oW hw 17 rfl) (oW hw 18 rfl) (by rw [hml]; rfl) (W := 0) (Nat.le_of_eq rfl) (by decide) (by decide)
  have A4 := A2.aN H dm7_4 rfl rfl rfl
  obtain ⟨vA3, hA3, ⟨rfl, rfl⟩, A3⟩ := A4.cV (own_c6 l Z a0 hw o1 o2 _ cs h0 n0 Z0 E_o1 F_o1_coder F_o1_value V_o2 S_cs hl_o2 hcs) E_o1 H hZ hown dm7_5 (oW hw 45 rfl) (kV17 hw) hml rfl rfl [] rfl rfl
  have A5 := A3.cl |>.iM H dm7_8 rfl #[.val (.ref o0), .val (.ref o1), .val (.int 1), .unset, .unset] rfl |>.iN H dm7_9 rfl rfl
  have A6 := A5.ldcI hx hZ hown (hb hby dm7_10) (oW hw 56 rfl)
  have A8 := A6.cn H dm7_12 rfl rfl |>.iN H dm7_15 rfl rfl |>.bp H dm7_16 rfl 16 rfl |>.ad H dm7_18 rfl 17 rfl |>.gt H dm7_19 rfl 24 (by decide) (by decide) |>.iM H dm7_24 rfl #[.val (.ref o0), .val (.ref o1), .val (.int 1), .val (.int 17), .unset] rfl |>.aN H dm7_25 rfl rfl rfl
  obtain ⟨vA7, hA7, ⟨rfl, rfl⟩, A7⟩ := A8.cV (own_c5 l Z a0 hw o1 cs h0 n0 Z0 F_o1_coder S_cs hcs) E_o1 H hZ hown dm7_26 (oW hw 57 rfl) (kV5 hw) hml rfl rfl [] rfl rfl
  have A12 := A7.cl |>.iS H dm7_29 rfl #[.val (.ref o0), .val (.ref o1), .val (.int 1), .val (.int 17), .val (.int 0)] rfl |>.aN H dm7_31 rfl rfl rfl |>.iL H dm7_32 rfl rfl
  obtain ⟨h9, W10, A11⟩ := A12.putF hx hZ hown (hb hby dm7_34) (oW hw 58 rfl) F_o0_coder E_o0 (Or.inl (oW hw 59 rfl)) (oW hw 32 rfl) (ty := .byte) (by decide) rfl rfl g_o0
  have E_o0 := E_o0.wr W10
  have F_o0_coder : Fld Z h9 o0 "java/lang/AbstractStringBuilder" "coder" "B" (.int 0) := F_o0_coder.same W10
  have F_o0_value := F_o0_value.other W10 (Or.inr (slot_ne (Or.inl (oW hw 61 rfl)) (Or.inl (oW hw 59 rfl)) (by decide) (t := (.array .byte)) (t' := .byte) (by decide) (by decide)))
  have F_o0_count := F_o0_count.other W10 (Or.inr (slot_ne (Or.inl (oW hw 77 rfl)) (Or.inl (oW hw 59 rfl)) (by decide) (t := .int) (t' := .byte) (by decide) (by decide)))
  have E_o1 := E_o1.wr W10
  have F_o1_coder := F_o1_coder.other W10 (Or.inl ne_o1_o0)
  have F_o1_value := F_o1_value.other W10 (Or.inl ne_o1_o0)
  have V_o2 := V_o2.other W10 ne_o2_o0
  have S_cs := S_cs.wr W10
  have Z0 : n0 ≤ h9.size := by rw [W10.size]; exact Z0
  have KK : Keep h0 h9 [o0] := KK.wr W10 (Or.inl (by simp))
  have q13 : ((0 : Int32) = (0 : Int32)) := rfl
  have A17 := A11.aN H dm7_37 rfl rfl rfl |>.iL H dm7_38 rfl rfl |>.fn H dm7_40 rfl ((if0 _ _).trans (teq q13).2) |>.iN H dm7_43 rfl rfl
  obtain ⟨h14, E15, V_x1, A16⟩ := A17.newP hx hZ (hb hby dm7_44) (oW hw 20 rfl) (by decide) (cap := 17) (by decide) (by decide) (by decide) (by decide)
  obtain ⟨x1, gx1⟩ : ∃ z, z = h9.size := ⟨_, rfl⟩
  rw [← gx1] at V_x1 A16
  have ne_o0_x1 : o0 ≠ x1 := by rw [gx1]; exact Nat.ne_of_lt E_o0.lt
  have ne_x1_o0 := Ne.symm ne_o0_x1
  have ne_o1_x1 : o1 ≠ x1 := by rw [gx1]; exact Nat.ne_of_lt E_o1.lt
  have ne_o2_x1 : o2 ≠ x1 := by rw [gx1]; exact Nat.ne_of_lt V_o2.lt
  have g_x1 : n0 ≤ x1 := by rw [gx1]; exact Z0
  have sz_x1 : h0.size ≤ x1 := by rw [gx1]; exact KK.1
  have E_o0 := E_o0.ext E15
  have F_o0_coder := F_o0_coder.ext E15
  have F_o0_value := F_o0_value.ext E15
  have F_o0_count := F_o0_count.ext E15
  have E_o1 := E_o1.ext E15
  have F_o1_coder := F_o1_coder.ext E15
  have F_o1_value := F_o1_value.ext E15
  have V_o2 := V_o2.ext E15
  have S_cs := S_cs.ext E15
  have Z0 := Nat.le_trans Z0 E15.1
  have KK : Keep h0 h14 [o0] := KK.ext E15
  have V_x1 : own_Ar Z h14 x1 .byte [(.int 0), (.int 0), (.int 0), (.int 0), (.int 0), (.int 0), (.int 0), (.int 0), (.int 0), (.int 0), (.int 0), (.int 0), (.int 0), (.int 0), (.int 0), (.int 0), (.int 0)] := V_x1
  have V_x1 : own_Ar Z h14 x1 .byte (List.map own_lo [0, 0, 0, 0, 0, 0, 0, 0, 0, 0, 0, 0, 0, 0, 0, 0, 0]) := V_x1
  have hl_x1 : ([0, 0, 0, 0, 0, 0, 0, 0, 0, 0, 0, 0, 0, 0, 0, 0, 0] : List Int32).length = 17 := rfl
  have A21 := A16.gt H dm7_46 rfl 53 (by decide) (by decide)
  obtain ⟨h18, W19, A20⟩ := A21.putF hx hZ hown (hb hby dm7_53) (oW hw 60 rfl) F_o0_value E_o0 (Or.inl (oW hw 61 rfl)) (oW hw 32 rfl) (ty := (.array .byte)) (by decide) rfl rfl g_o0
  have E_o0 := E_o0.wr W19
  have F_o0_coder := F_o0_coder.other W19 (Or.inr (slot_ne (Or.inl (oW hw 59 rfl)) (Or.inl (oW hw 61 rfl)) (by decide) (t := .byte) (t' := (.array .byte)) (by decide) (by decide)))
  have F_o0_value : Fld Z h18 o0 "java/lang/AbstractStringBuilder" "value" "[B" (.ref x1) := F_o0_value.same W19
  have F_o0_count := F_o0_count.other W19 (Or.inr (slot_ne (Or.inl (oW hw 77 rfl)) (Or.inl (oW hw 61 rfl)) (by decide) (t := .int) (t' := (.array .byte)) (by decide) (by decide)))
  have E_o1 := E_o1.wr W19
  have F_o1_coder := F_o1_coder.other W19 (Or.inl ne_o1_o0)
  have F_o1_value := F_o1_value.other W19 (Or.inl ne_o1_o0)
  have V_o2 := V_o2.other W19 ne_o2_o0
  have S_cs := S_cs.wr W19
  have V_x1 := V_x1.other W19 ne_x1_o0
  have Z0 : n0 ≤ h18.size := by rw [W19.size]; exact Z0
  have KK : Keep h0 h18 [o0] := KK.wr W19 (Or.inl (by simp))
  have A23 := A20.aN H dm7_56 rfl rfl rfl |>.aN H dm7_57 rfl rfl rfl
  obtain ⟨vA22, hA22, ⟨rfl, KA22, P_F_o0_coder, P_F_o0_value, P_F_o0_count, P_V_x1, hl_x1⟩, A22⟩ := A23.cV (own_c20 l Z a0 hw o0 o1 x1 o2 _ _ cs h18 n0 Z0 E_o0 F_o0_coder F_o0_value F_o0_count E_o1 F_o1_coder F_o1_value V_x1 V_o2 S_cs rfl hl_o2 hcs ne_o0_x1 ne_o1_o0 ne_o1_x1 ne_x1_o0 ne_o2_o0 ne_o2_x1 g_o0 g_x1) E_o0 H hZ hown dm7_58 (oW hw 62 rfl) (kV23 hw) hml rfl rfl [] rfl rfl
  have KK : Keep h0 hA22 [o0] := KK.trans KA22 (allS (P := fun x => x ∈ ([o0] : List Addr) ∨ h0.size ≤ x) (Or.inl (by simp)) (allS (P := fun x => x ∈ ([o0] : List Addr) ∨ h0.size ≤ x) (Or.inr sz_x1) all0))
  have F_o0_coder : Fld Z hA22 o0 "java/lang/AbstractStringBuilder" "coder" "B" (.int 0) := P_F_o0_coder
  have F_o0_value : Fld Z hA22 o0 "java/lang/AbstractStringBuilder" "value" "[B" (.ref x1) := P_F_o0_value
  have F_o0_count : Fld Z hA22 o0 "java/lang/AbstractStringBuilder" "count" "I" (.int 1) := P_F_o0_count
  have V_x1 : own_Ar Z hA22 x1 .byte (List.map own_lo (List.take 0 ([0, 0, 0, 0, 0, 0, 0, 0, 0, 0, 0, 0, 0, 0, 0, 0, 0] : List Int32) ++ List.take 1 (List.drop 0 us_o2) ++ List.drop (0 + 1) ([0, 0, 0, 0, 0, 0, 0, 0, 0, 0, 0, 0, 0, 0, 0, 0, 0] : List Int32))) := P_V_x1
  have A24 := A22.cl |>.po H dm7_61 rfl rfl
  exact A24.retV hx hlk hret (hb hby dm7_62) (by decide) (by decide) ⟨x1, rfl, KK, sz_x1, F_o0_coder, F_o0_value, F_o0_count, V_x1, hl_x1⟩
theorem own_c22 (l : Launch) (Z : State) (a0 : Array Value) (hw : ∀ d ∈ tables_1, d.before a0 Z = true) (o0 o1 o2 : Addr) (us_o2 : List Int32) (cs : Int32) (h0 : Heap) (n0 : Nat) (Z0 : n0 ≤ h0.size) (E_o0 : Exa Z h0 o0 "java/lang/StringBuilder") (F_o0_coder : Fld Z h0 o0 "java/lang/AbstractStringBuilder" "coder" "B" (.int 0)) (F_o0_value : Fld Z h0 o0 "java/lang/AbstractStringBuilder" "value" "[B" .null) (F_o0_count : Fld Z h0 o0 "java/lang/AbstractStringBuilder" "count" "I" (.int 0)) (E_o1 : Exa Z h0 o1 "java/lang/String") (F_o1_coder : Fld Z h0 o1 "java/lang/String" "coder" "B" (.int 0)) (F_o1_value : Fld Z h0 o1 "java/lang/String" "value" "[B" (.ref o2)) (V_o2 : own_Ar Z h0 o2 .byte (List.map own_lo us_o2)) (S_cs : Sta Z h0 "java/lang/String" "COMPACT_STRINGS" "Z" (.int cs)) (hl_o2 : us_o2.length = 1) (hcs : ¬ (cs = (0 : Int32))) (ne_o1_o0 : o1 ≠ o0) (ne_o2_o0 : o2 ≠ o0) (g_o0 : n0 ≤ o0) :
    own_M l Z (⟨"java/lang/StringBuilder", "<init>", "(Ljava/lang/String;)V"⟩ : MethodName) jdk_67_method_3_code 2 none [] (⟨7, 1, 17, 103⟩ : Room) #[(.ref o0), (.ref o1)] h0 n0 (fun v h => ∃ x1 : Addr, v = none ∧ Keep h0 h [o0] ∧ h0.size ≤ x1 ∧ Fld Z h o0 "java/lang/AbstractStringBuilder" "coder" "B" (.int 0) ∧ Fld Z h o0 "java/lang/AbstractStringBuilder" "value" "[B" (.ref x1) ∧ Fld Z h o0 "java/lang/AbstractStringBuilder" "count" "I" (.int 1) ∧ own_Ar Z h x1 .byte (List.map own_lo (List.take 0 ([0, 0, 0, 0, 0, 0, 0, 0, 0, 0, 0, 0, 0, 0, 0, 0, 0] : List Int32) ++ List.take 1 (List.drop 0 us_o2) ++ List.drop (0 + 1) ([0, 0, 0, 0, 0, 0, 0, 0, 0, 0, 0, 0, 0, 0, 0, 0, 0] : List Int32))) ∧ ((List.take 0 ([0, 0, 0, 0, 0, 0, 0, 0, 0, 0, 0, 0, 0, 0, 0, 0, 0] : List Int32) ++ List.take 1 (List.drop 0 us_o2) ++ List.drop (0 + 1) ([0, 0, 0, 0, 0, 0, 0, 0, 0, 0, 0, 0, 0, 0, 0, 0, 0] : List Int32)) : List Int32).length = 17) := by
  refine own_M.of pl30 ?_
  intro p e s m below meth c S0 hx hby hml hown hnm hret hlk hZ A00
  have H : own_H p c _ := ⟨hx, hby⟩
  have A0 := A00.cast (f' := mkF m 0 #[.val (.ref o0), .val (.ref o1)] []) (by first | (simp [entryFrame, mkF, argsToLocals, Value.category, maxLocals]; done) | rfl)
  have KK : Keep h0 h0 ([o0] : List Addr) := Keep.refl _ _
  have A2 := A0.aN H dm6_0 rfl rfl rfl |>.aN H dm6_1 rfl rfl rfl
  obtain ⟨vA1, hA1, ⟨x1, rfl, KA1, zz_x1, P_F_o0_coder, P_F_o0_value, P_F_o0_count, P_V_x1, hl_x1⟩, A1⟩ := A2.cI (own_c21 l Z a0 hw o0 o1 o2 _ cs h0 n0 Z0 E_o0 F_o0_coder F_o0_value F_o0_count E_o1 F_o1_coder F_o1_value V_o2 S_cs hl_o2 hcs ne_o1_o0 ne_o2_o0 g_o0) H hZ hown dm6_2 (oW hw 38 rfl) (kI24 hw) hml rfl rfl [] rfl rfl
  have sz_x1 : h0.size ≤ x1 := Nat.le_trans KK.1 zz_x1
  have KK : Keep h0 hA1 [o0] := KK.trans KA1 (allS (P := fun x => x ∈ ([o0] : List Addr) ∨ h0.size ≤ x) (Or.inl (by simp)) all0)
  have F_o0_coder : Fld Z hA1 o0 "java/lang/AbstractStringBuilder" "coder" "B" (.int 0) := P_F_o0_coder
  have F_o0_value : Fld Z hA1 o0 "java/lang/AbstractStringBuilder" "value" "[B" (.ref x1) := P_F_o0_value
  have F_o0_count : Fld Z hA1 o0 "java/lang/AbstractStringBuilder" "count" "I" (.int 1) := P_F_o0_count
  have V_x1 : own_Ar Z hA1 x1 .byte (List.map own_lo (List.take 0 ([0, 0, 0, 0, 0, 0, 0, 0, 0, 0, 0, 0, 0, 0, 0, 0, 0] : List Int32) ++ List.take 1 (List.drop 0 us_o2) ++ List.drop (0 + 1) ([0, 0, 0, 0, 0, 0, 0, 0, 0, 0, 0, 0, 0, 0, 0, 0, 0] : List Int32))) := P_V_x1
  have A3 := A1.c0
  exact A3.retV hx hlk hret (hb hby dm6_5) (by decide) (by decide) ⟨x1, rfl, KK, sz_x1, F_o0_coder, F_o0_value, F_o0_count, V_x1, hl_x1⟩
theorem own_c24 (l : Launch) (Z : State) (a0 : Array Value) (hw : ∀ d ∈ tables_1, d.before a0 Z = true)  (h0 : Heap) (n0 : Nat) (Z0 : n0 ≤ h0.size)  :
    own_M l Z (⟨"java/lang/Math", "min", "(II)I"⟩ : MethodName) jdk_29_method_69_code 2 (some .int) [] (⟨0, 0, 0, 0⟩ : Room) #[(.int 0), (.int 24)] h0 n0 (fun v h => v = some (.int 0) ∧ h0 = h) := by
  refine own_M.of (by decide +kernel) ?_
  intro p e s m below meth c S0 hx hby hml hown hnm hret hlk hZ A00
  have H : own_H p c _ := ⟨hx, hby⟩
  have A0 := A00.cast (f' := mkF m 0 #[.val (.int 0), .val (.int 24)] []) (by first | (simp [entryFrame, mkF, argsToLocals, Value.category, maxLocals]; done) | rfl)
  have A1 := A0.iN H dm17_0 rfl rfl |>.iN H dm17_1 rfl rfl |>.cn H dm17_2 rfl rfl |>.iN H dm17_5 rfl rfl |>.gt H dm17_6 rfl 10 (by decide) (by decide)
  exact A1.ret hx hlk hret (hb hby dm17_10) rfl (Or.inl ⟨rfl, by simp, _, rfl⟩) (by decide) (by decide) ⟨rfl, rfl⟩
theorem own_c28 (l : Launch) (Z : State) (a0 : Array Value) (hw : ∀ d ∈ tables_1, d.before a0 Z = true) (o0 o1 : Addr) (j0 : Int32) (us_o1 : List Int32) (h0 : Heap) (n0 : Nat) (Z0 : n0 ≤ h0.size) (F_o0_coder : Fld Z h0 o0 "java/lang/AbstractStringBuilder" "coder" "B" (.int 0)) (F_o0_value : Fld Z h0 o0 "java/lang/AbstractStringBuilder" "value" "[B" (.ref o1)) (V_o1 : own_Ar Z h0 o1 .byte (List.map own_lo us_o1)) (hl_o1 : us_o1.length = 17) (hn0 : ¬ ((0 : Int32) < (j0 - (17 : Int32)))) :
    own_M l Z (⟨"java/lang/AbstractStringBuilder", "ensureCapacityInternal", "(I)V"⟩ : MethodName) jdk_68_method_9_code 3 none [] (⟨0, 0, 0, 0⟩ : Room) #[(.ref o0), (.int j0)] h0 n0 (fun v h => v = none ∧ h0 = h) := by
  refine own_M.of pl22 ?_
  intro p e s m below meth c S0 hx hby hml hown hnm hret hlk hZ A00
  have H : own_H p c _ := ⟨hx, hby⟩
  have A0 := A00.cast (f' := mkF m 0 #[.val (.ref o0), .val (.int j0), .unset] []) (by first | (simp [entryFrame, mkF, argsToLocals, Value.category, maxLocals]; done) | rfl)
  have A1 := A0.aN H dm13_0 rfl rfl rfl
  have A2 := A1.getF hx hZ hown (hb hby dm13_1) (oW hw 60 rfl) Via.refl F_o0_value
  have A3 : own_R p l e _ _ m _ below meth c S0 n0 h0 0 0 (mkF m 5 #[.val (.ref o0), .val (.int j0), .unset] [(.int (List.map own_lo us_o1).length.toInt32)]) := A2.len hx hZ (hb hby dm13_4) V_o1
  rw [List.length_map, hl_o1] at A3
  have A4 : own_R p l e _ _ m _ below meth c S0 n0 h0 0 0 (mkF m 5 #[.val (.ref o0), .val (.int j0), .unset] [(.int 17)]) := A3
  have A5 := A4.aN H dm13_5 rfl rfl rfl
  have A6 := A5.getF hx hZ hown (hb hby dm13_6) (oW hw 58 rfl) Via.refl F_o0_coder
  have A7 := A6.sr H dm13_9 rfl 17 rfl |>.iM H dm13_10 rfl #[.val (.ref o0), .val (.int j0), .val (.int 17)] rfl |>.iN H dm13_11 rfl rfl |>.iN H dm13_12 rfl rfl |>.sb H dm13_13 rfl _ rfl |>.fy H dm13_14 rfl ((if0 _ _).trans (flt hn0).2.2.2) 38 (by decide) (by decide)
  exact A7.retV hx hlk hret (hb hby dm13_38) (by decide) (by decide) ⟨rfl, rfl⟩
theorem own_c30 (l : Launch) (Z : State) (a0 : Array Value) (hw : ∀ d ∈ tables_1, d.before a0 Z = true) (o0 : Addr) (cs : Int32) (h0 : Heap) (n0 : Nat) (Z0 : n0 ≤ h0.size) (F_o0_coder : Fld Z h0 o0 "java/lang/AbstractStringBuilder" "coder" "B" (.int 0)) (S_cs : Sta Z h0 "java/lang/String" "COMPACT_STRINGS" "Z" (.int cs)) (hcs : ¬ (cs = (0 : Int32))) :
    own_M l Z (⟨"java/lang/AbstractStringBuilder", "isLatin1", "()Z"⟩ : MethodName) jdk_68_method_68_code 1 (some .boolean) [] (⟨0, 0, 0, 0⟩ : Room) #[(.ref o0)] h0 n0 (fun v h => v = some (.int 1) ∧ h0 = h) := by
  refine own_M.of pl32 ?_
  intro p e s m below meth c S0 hx hby hml hown hnm hret hlk hZ A00
  have H : own_H p c _ := ⟨hx, hby⟩
  have A0 := A00.cast (f' := mkF m 0 #[.val (.ref o0)] []) (by first | (simp [entryFrame, mkF, argsToLocals, Value.category, maxLocals]; done) | rfl)
  have A1 := A0.getS hx hZ hown (hb hby dm20_0) (oW hw 93 rfl) Via.refl S_cs
  have A2 := A1.fn H dm20_3 rfl ((if0 _ _).trans (feq hcs).1) |>.aN H dm20_6 rfl rfl rfl
  have A3 := A2.getF hx hZ hown (hb hby dm20_7) (oW hw 58 rfl) Via.refl F_o0_coder
  have q4 : ((0 : Int32) = (0 : Int32)) := rfl
  have A5 := A3.fn H dm20_10 rfl ((if0 _ _).trans (teq q4).2) |>.ic H dm20_13 rfl 1 rfl |>.gt H dm20_14 rfl 18 (by decide) (by decide)
  exact A5.ret hx hlk hret (hb hby dm20_18) rfl (Or.inl ⟨rfl, by simp, _, rfl⟩) (by decide) (by decide) ⟨rfl, rfl⟩
theorem own_c32 (l : Launch) (Z : State) (a0 : Array Value) (hw : ∀ d ∈ tables_1, d.before a0 Z = true)  (h0 : Heap) (n0 : Nat) (Z0 : n0 ≤ h0.size)  :
    own_M l Z (⟨"java/lang/StringLatin1", "canEncode", "(C)Z"⟩ : MethodName) jdk_43_method_3_code 1 (some .boolean) [] (⟨0, 0, 0, 0⟩ : Room) #[(.int 39)] h0 n0 (fun v h => v = some (.int 1) ∧ h0 = h) := by
  refine own_M.of pl33 ?_
  intro p e s m below meth c S0 hx hby hml hown hnm hret hlk hZ A00
  have H : own_H p c _ := ⟨hx, hby⟩
  have A0 := A00.cast (f' := mkF m 0 #[.val (.int 39)] []) (by first | (simp [entryFrame, mkF, argsToLocals, Value.category, maxLocals]; done) | rfl)
  have A1 := A0.iN H dm21_0 rfl rfl |>.sp H dm21_1 rfl 255 rfl |>.cn H dm21_4 rfl rfl |>.ic H dm21_7 rfl 1 rfl |>.gt H dm21_8 rfl 12 (by decide) (by decide)
  exact A1.ret hx hlk hret (hb hby dm21_12) rfl (Or.inl ⟨rfl, by simp, _, rfl⟩) (by decide) (by decide) ⟨rfl, rfl⟩
theorem own_c33 (l : Launch) (Z : State) (a0 : Array Value) (hw : ∀ d ∈ tables_1, d.before a0 Z = true) (o0 o1 : Addr) (j0 : Int32) (us_o1 : List Int32) (cs : Int32) (h0 : Heap) (n0 : Nat) (Z0 : n0 ≤ h0.size) (E_o0 : Exa Z h0 o0 "java/lang/StringBuilder") (F_o0_coder : Fld Z h0 o0 "java/lang/AbstractStringBuilder" "coder" "B" (.int 0)) (F_o0_value : Fld Z h0 o0 "java/lang/AbstractStringBuilder" "value" "[B" (.ref o1)) (F_o0_count : Fld Z h0 o0 "java/lang/AbstractStringBuilder" "count" "I" (.int j0)) (V_o1 : own_Ar Z h0 o1 .byte (List.map own_lo us_o1)) (S_cs : Sta Z h0 "java/lang/String" "COMPACT_STRINGS" "Z" (.int cs)) (hl_o1 : us_o1.length = 17) (hcs : ¬ (cs = (0 : Int32))) (hn1 : ¬ ((0 : Int32) < ((j0 + (1 : Int32)) - (17 : Int32)))) (hn2 : ¬ (j0 < (0 : Int32))) (hn3 : (j0.toNatClampNeg < 17)) (ne_o0_o1 : o0 ≠ o1) (ne_o1_o0 : o1 ≠ o0) (g_o0 : n0 ≤ o0) (g_o1 : n0 ≤ o1) :
    own_M l Z (⟨"java/lang/AbstractStringBuilder", "append", "(C)Ljava/lang/AbstractStringBuilder;"⟩ : MethodName) jdk_68_method_31_code 2 (some (.object "java/lang/AbstractStringBuilder")) [] (⟨1, 0, 0, 14⟩ : Room) #[(.ref o0), (.int 39)] h0 n0 (fun v h => v = some (.ref o0) ∧ Keep h0 h [o0, o1] ∧ Fld Z h o0 "java/lang/AbstractStringBuilder" "coder" "B" (.int 0) ∧ Fld Z h o0 "java/lang/AbstractStringBuilder" "value" "[B" (.ref o1) ∧ Fld Z h o0 "java/lang/AbstractStringBuilder" "count" "I" (.int (j0 + (1 : Int32))) ∧ own_Ar Z h o1 .byte (List.map own_lo (List.set us_o1 j0.toNatClampNeg (39 : Int32))) ∧ ((List.set us_o1 j0.toNatClampNeg (39 : Int32)) : List Int32).length = 17) := by
  refine own_M.of pl34 ?_
  intro p e s m below meth c S0 hx hby hml hown hnm hret hlk hZ A00
  have H : own_H p c _ := ⟨hx, hby⟩
  have A0 := A00.cast (f' := mkF m 0 #[.val (.ref o0), .val (.int 39)] []) (by first | (simp [entryFrame, mkF, argsToLocals, Value.category, maxLocals]; done) | rfl)
  have KK : Keep h0 h0 ([o0, o1] : List Addr) := Keep.refl _ _
  have A1 := A0.aN H dm19_0 rfl rfl rfl |>.aN H dm19_1 rfl rfl rfl
  have A2 := A1.getF hx hZ hown (hb hby dm19_2) (oW hw 76 rfl) Via.refl F_o0_count
  have A4 := A2.ic H dm19_5 rfl 1 rfl |>.ad H dm19_6 rfl _ rfl
  obtain ⟨vA3, hA3, ⟨rfl, rfl⟩, A3⟩ := A4.cV (own_c28 l Z a0 hw o0 o1 (j0 + (1 : Int32)) _ h0 n0 Z0 F_o0_coder F_o0_value V_o1 hl_o1 hn1) E_o0 H hZ hown dm19_7 (oW hw 78 rfl) (kV18 hw) hml rfl rfl [] rfl rfl
  have A6 := A3.c0 |>.aN H dm19_10 rfl rfl rfl
  obtain ⟨vA5, hA5, ⟨rfl, rfl⟩, A5⟩ := A6.cV (own_c30 l Z a0 hw o0 cs h0 n0 Z0 F_o0_coder S_cs hcs) E_o0 H hZ hown dm19_11 (oW hw 117 rfl) (kV27 hw) hml rfl rfl [] rfl rfl
  have A8 := A5.cl |>.fn H dm19_14 rfl rfl |>.iN H dm19_17 rfl rfl
  obtain ⟨vA7, hA7, ⟨rfl, rfl⟩, A7⟩ := A8.cS (own_c32 l Z a0 hw h0 n0 Z0) H hZ hown dm19_18 (oW hw 122 rfl) (kS28 hw) hml rfl rfl [] rfl rfl
  have A9 := A7.cl |>.fn H dm19_21 rfl rfl |>.aN H dm19_24 rfl rfl rfl
  have A10 := A9.getF hx hZ hown (hb hby dm19_25) (oW hw 60 rfl) Via.refl F_o0_value
  have A11 := A10.aN H dm19_28 rfl rfl rfl |>.du H dm19_29 rfl rfl
  have A12 := A11.getF hx hZ hown (hb hby dm19_30) (oW hw 76 rfl) Via.refl F_o0_count
  have A16 := A12.dx H dm19_33 rfl rfl rfl |>.ic H dm19_34 rfl 1 rfl |>.ad H dm19_35 rfl _ rfl
  obtain ⟨h13, W14, A15⟩ := A16.putF hx hZ hown (hb hby dm19_36) (oW hw 76 rfl) F_o0_count E_o0 (Or.inl (oW hw 77 rfl)) (oW hw 32 rfl) (ty := .int) (by decide) rfl rfl g_o0
  have F_o0_coder := F_o0_coder.other W14 (Or.inr (slot_ne (Or.inl (oW hw 59 rfl)) (Or.inl (oW hw 77 rfl)) (by decide) (t := .byte) (t' := .int) (by decide) (by decide)))
  have F_o0_value := F_o0_value.other W14 (Or.inr (slot_ne (Or.inl (oW hw 61 rfl)) (Or.inl (oW hw 77 rfl)) (by decide) (t := (.array .byte)) (t' := .int) (by decide) (by decide)))
  have F_o0_count : Fld Z h13 o0 "java/lang/AbstractStringBuilder" "count" "I" (.int (j0 + (1 : Int32))) := F_o0_count.same W14
  have V_o1 := V_o1.other W14 ne_o1_o0
  have KK : Keep h0 h13 [o0, o1] := KK.wr W14 (Or.inl (by simp))
  have A20 := A15.iN H dm19_39 rfl rfl |>.ib H dm19_40 rfl _ rfl
  obtain ⟨h17, W18, A19⟩ := A20.stB hx hZ (hb hby dm19_41) V_o1 hn2 (by rw [List.length_map, hl_o1]; exact hn3) g_o1
  have F_o0_coder := F_o0_coder.other W18 (Or.inl ne_o0_o1)
  have F_o0_value := F_o0_value.other W18 (Or.inl ne_o0_o1)
  have F_o0_count := F_o0_count.other W18 (Or.inl ne_o0_o1)
  have V_o1 : own_Ar Z h17 o1 .byte (List.map own_lo (List.set us_o1 j0.toNatClampNeg (39 : Int32))) := by
    have q := V_o1.same W18
    rw [own_nb] at q
    rw [← own_setM]
    exact q
  have hl_o1 : ((List.set us_o1 j0.toNatClampNeg (39 : Int32)) : List Int32).length = 17 := by rw [List.length_set]; exact hl_o1
  have V_o1 : own_Ar Z h17 o1 .byte (List.map own_lo (List.set us_o1 j0.toNatClampNeg (39 : Int32))) := V_o1
  have KK : Keep h0 h17 [o0, o1] := KK.wr W18 (Or.inl (by simp))
  have A21 := A19.gt H dm19_42 rfl 75 (by decide) (by decide) |>.aN H dm19_75 rfl rfl rfl
  exact A21.ret hx hlk hret (hb hby dm19_76) rfl (Or.inr (Or.inr (Or.inr (Or.inr ⟨rfl, rfl, rfl⟩)))) (by decide) (by decide) ⟨rfl, KK, F_o0_coder, F_o0_value, F_o0_count, V_o1, hl_o1⟩
theorem own_c34 (l : Launch) (Z : State) (a0 : Array Value) (hw : ∀ d ∈ tables_1, d.before a0 Z = true) (o0 o1 : Addr) (j0 : Int32) (us_o1 : List Int32) (cs : Int32) (h0 : Heap) (n0 : Nat) (Z0 : n0 ≤ h0.size) (E_o0 : Exa Z h0 o0 "java/lang/StringBuilder") (F_o0_coder : Fld Z h0 o0 "java/lang/AbstractStringBuilder" "coder" "B" (.int 0)) (F_o0_value : Fld Z h0 o0 "java/lang/AbstractStringBuilder" "value" "[B" (.ref o1)) (F_o0_count : Fld Z h0 o0 "java/lang/AbstractStringBuilder" "count" "I" (.int j0)) (V_o1 : own_Ar Z h0 o1 .byte (List.map own_lo us_o1)) (S_cs : Sta Z h0 "java/lang/String" "COMPACT_STRINGS" "Z" (.int cs)) (hl_o1 : us_o1.length = 17) (hcs : ¬ (cs = (0 : Int32))) (hn1 : ¬ ((0 : Int32) < ((j0 + (1 : Int32)) - (17 : Int32)))) (hn2 : ¬ (j0 < (0 : Int32))) (hn3 : (j0.toNatClampNeg < 17)) (ne_o0_o1 : o0 ≠ o1) (ne_o1_o0 : o1 ≠ o0) (g_o0 : n0 ≤ o0) (g_o1 : n0 ≤ o1) :
    own_M l Z (⟨"java/lang/StringBuilder", "append", "(C)Ljava/lang/StringBuilder;"⟩ : MethodName) jdk_67_method_14_code 2 (some (.object "java/lang/StringBuilder")) [] (⟨2, 0, 0, 27⟩ : Room) #[(.ref o0), (.int 39)] h0 n0 (fun v h => v = some (.ref o0) ∧ Keep h0 h [o0, o1] ∧ Fld Z h o0 "java/lang/AbstractStringBuilder" "coder" "B" (.int 0) ∧ Fld Z h o0 "java/lang/AbstractStringBuilder" "value" "[B" (.ref o1) ∧ Fld Z h o0 "java/lang/AbstractStringBuilder" "count" "I" (.int (j0 + (1 : Int32))) ∧ own_Ar Z h o1 .byte (List.map own_lo (List.set us_o1 j0.toNatClampNeg (39 : Int32))) ∧ ((List.set us_o1 j0.toNatClampNeg (39 : Int32)) : List Int32).length = 17) := by
  refine own_M.of pl35 ?_
  intro p e s m below meth c S0 hx hby hml hown hnm hret hlk hZ A00
  have H : own_H p c _ := ⟨hx, hby⟩
  have A0 := A00.cast (f' := mkF m 0 #[.val (.ref o0), .val (.int 39)] []) (by first | (simp [entryFrame, mkF, argsToLocals, Value.category, maxLocals]; done) | rfl)
  have KK : Keep h0 h0 ([o0, o1] : List Addr) := Keep.refl _ _
  have A2 := A0.aN H dm18_0 rfl rfl rfl |>.iN H dm18_1 rfl rfl
  obtain ⟨vA1, hA1, ⟨rfl, KA1, P_F_o0_coder, P_F_o0_value, P_F_o0_count, P_V_o1, hl_o1⟩, A1⟩ := A2.callU (b := o0) (own_c33 l Z a0 hw o0 o1 j0 _ cs h0 n0 Z0 E_o0 F_o0_coder F_o0_value F_o0_count V_o1 S_cs hl_o1 hcs hn1 hn2 hn3 ne_o0_o1 ne_o1_o0 g_o0 g_o1) E_o0 hx hZ hown (hb hby dm18_2) (by decide) (oW hw 113 rfl) (own_same (y' := (⟨"java/lang/AbstractStringBuilder", "ensureCapacityInternal", "(I)V"⟩ : MethodName)) (oW hw 81 rfl) rfl (oW hw 114 rfl) ⟨by decide, by decide⟩) (oW hw 114 rfl) (oW hw 74 rfl) (oW hw 116 rfl) (oW hw 42 rfl) (lenOf pd__28C_29Ljava_2flang_2fAbstractStringBuilder_3b rfl) (argsL := [(.int 39)]) (rest := []) rfl rfl (by rw [hml]; rfl) (W := 0) (Nat.le_of_eq rfl) (by decide) (by decide) (by decide) (by decide)
  have KK : Keep h0 hA1 [o0, o1] := KK.trans KA1 (allS (P := fun x => x ∈ ([o0, o1] : List Addr) ∨ h0.size ≤ x) (Or.inl (by simp)) (allS (P := fun x => x ∈ ([o0, o1] : List Addr) ∨ h0.size ≤ x) (Or.inl (by simp)) all0))
  have F_o0_coder : Fld Z hA1 o0 "java/lang/AbstractStringBuilder" "coder" "B" (.int 0) := P_F_o0_coder
  have F_o0_value : Fld Z hA1 o0 "java/lang/AbstractStringBuilder" "value" "[B" (.ref o1) := P_F_o0_value
  have F_o0_count : Fld Z hA1 o0 "java/lang/AbstractStringBuilder" "count" "I" (.int (j0 + (1 : Int32))) := P_F_o0_count
  have V_o1 : own_Ar Z hA1 o1 .byte (List.map own_lo (List.set us_o1 j0.toNatClampNeg (39 : Int32))) := P_V_o1
  have A3 := A1.cl |>.po H dm18_5 rfl rfl |>.aN H dm18_6 rfl rfl rfl
  exact A3.ret hx hlk hret (hb hby dm18_7) rfl (Or.inr (Or.inr (Or.inr (Or.inr ⟨rfl, rfl, rfl⟩)))) (by decide) (by decide) ⟨rfl, KK, F_o0_coder, F_o0_value, F_o0_count, V_o1, hl_o1⟩
theorem own_c39 (l : Launch) (Z : State) (a0 : Array Value) (hw : ∀ d ∈ tables_1, d.before a0 Z = true) (o0 o1 : Addr) (h0 : Heap) (n0 : Nat) (Z0 : n0 ≤ h0.size) (F_o0_value : Fld Z h0 o0 "java/lang/AbstractStringBuilder" "value" "[B" (.ref o1)) :
    own_M l Z (⟨"java/lang/AbstractStringBuilder", "getValue", "()[B"⟩ : MethodName) jdk_68_method_64_code 1 (some (.array .byte)) [] (⟨0, 0, 0, 0⟩ : Room) #[(.ref o0)] h0 n0 (fun v h => v = some (.ref o1) ∧ h0 = h) := by
  refine own_M.of pl36 ?_
  intro p e s m below meth c S0 hx hby hml hown hnm hret hlk hZ A00
  have H : own_H p c _ := ⟨hx, hby⟩
  have A0 := A00.cast (f' := mkF m 0 #[.val (.ref o0)] []) (by first | (simp [entryFrame, mkF, argsToLocals, Value.category, maxLocals]; done) | rfl)
  have A1 := A0.aN H dm25_0 rfl rfl rfl
  have A2 := A1.getF hx hZ hown (hb hby dm25_1) (oW hw 60 rfl) Via.refl F_o0_value
  exact A2.ret hx hlk hret (hb hby dm25_4) rfl (Or.inr (Or.inr (Or.inr (Or.inr ⟨rfl, rfl, rfl⟩)))) (by decide) (by decide) ⟨rfl, rfl⟩
theorem own_c42 (l : Launch) (Z : State) (a0 : Array Value) (hw : ∀ d ∈ tables_1, d.before a0 Z = true) (o0 : Addr) (j0 : Int32) (h0 : Heap) (n0 : Nat) (Z0 : n0 ≤ h0.size) (F_o0_count : Fld Z h0 o0 "java/lang/AbstractStringBuilder" "count" "I" (.int j0)) :
    own_M l Z (⟨"java/lang/AbstractStringBuilder", "length", "()I"⟩ : MethodName) jdk_68_method_6_code 1 (some .int) [] (⟨0, 0, 0, 0⟩ : Room) #[(.ref o0)] h0 n0 (fun v h => v = some (.int j0) ∧ h0 = h) := by
  refine own_M.of pl37 ?_
  intro p e s m below meth c S0 hx hby hml hown hnm hret hlk hZ A00
  have H : own_H p c _ := ⟨hx, hby⟩
  have A0 := A00.cast (f' := mkF m 0 #[.val (.ref o0)] []) (by first | (simp [entryFrame, mkF, argsToLocals, Value.category, maxLocals]; done) | rfl)
  have A1 := A0.aN H dm27_0 rfl rfl rfl
  have A2 := A1.getF hx hZ hown (hb hby dm27_1) (oW hw 76 rfl) Via.refl F_o0_count
  exact A2.ret hx hlk hret (hb hby dm27_4) rfl (Or.inl ⟨rfl, by simp, _, rfl⟩) (by decide) (by decide) ⟨rfl, rfl⟩
theorem own_c43 (l : Launch) (Z : State) (a0 : Array Value) (hw : ∀ d ∈ tables_1, d.before a0 Z = true) (o0 : Addr) (j0 : Int32) (h0 : Heap) (n0 : Nat) (Z0 : n0 ≤ h0.size) (E_o0 : Exa Z h0 o0 "java/lang/StringBuilder") (F_o0_count : Fld Z h0 o0 "java/lang/AbstractStringBuilder" "count" "I" (.int j0)) :
    own_M l Z (⟨"java/lang/StringBuilder", "length", "()I"⟩ : MethodName) jdk_67_method_93_code 1 (some .int) [] (⟨1, 0, 0, 12⟩ : Room) #[(.ref o0)] h0 n0 (fun v h => v = some (.int j0) ∧ h0 = h) := by
  refine own_M.of pl38 ?_
  intro p e s m below meth c S0 hx hby hml hown hnm hret hlk hZ A00
  have H : own_H p c _ := ⟨hx, hby⟩
  have A0 := A00.cast (f' := mkF m 0 #[.val (.ref o0)] []) (by first | (simp [entryFrame, mkF, argsToLocals, Value.category, maxLocals]; done) | rfl)
  have A2 := A0.aN H dm26_0 rfl rfl rfl
  obtain ⟨vA1, hA1, ⟨rfl, rfl⟩, A1⟩ := A2.callU (b := o0) (own_c42 l Z a0 hw o0 j0 h0 n0 Z0 F_o0_count) E_o0 hx hZ hown (hb hby dm26_1) (by decide) (oW hw 149 rfl) (own_same (y' := (⟨"java/lang/AbstractStringBuilder", "ensureCapacityInternal", "(I)V"⟩ : MethodName)) (oW hw 81 rfl) rfl (oW hw 145 rfl) ⟨by decide, by decide⟩) (oW hw 145 rfl) (oW hw 74 rfl) (oW hw 150 rfl) (oW hw 42 rfl) (lenOf pd__28_29I rfl) (argsL := []) (rest := []) rfl rfl (by rw [hml]; rfl) (W := 0) (Nat.le_of_eq rfl) (by decide) (by decide) (by decide) (by decide)
  have A3 := A1.cl
  exact A3.ret hx hlk hret (hb hby dm26_4) rfl (Or.inl ⟨rfl, by simp, _, rfl⟩) (by decide) (by decide) ⟨rfl, rfl⟩
theorem own_c47 (l : Launch) (Z : State) (a0 : Array Value) (hw : ∀ d ∈ tables_1, d.before a0 Z = true) (j0 : Int32) (h0 : Heap) (n0 : Nat) (Z0 : n0 ≤ h0.size) (hn0 : ¬ (j0 < (0 : Int32))) :
    own_M l Z (⟨"java/util/Arrays", "checkLength", "(II)V"⟩ : MethodName) jdk_65_method_131_code 2 none [] (⟨0, 0, 0, 0⟩ : Room) #[(.int 0), (.int j0)] h0 n0 (fun v h => v = none ∧ h0 = h) := by
  refine own_M.of pl39 ?_
  intro p e s m below meth c S0 hx hby hml hown hnm hret hlk hZ A00
  have H : own_H p c _ := ⟨hx, hby⟩
  have A0 := A00.cast (f' := mkF m 0 #[.val (.int 0), .val (.int j0)] []) (by first | (simp [entryFrame, mkF, argsToLocals, Value.category, maxLocals]; done) | rfl)
  have A1 := A0.iN H dm30_0 rfl rfl |>.iN H dm30_1 rfl rfl |>.cy H dm30_2 rfl ((flt hn0).2.1) 37 (by decide) (by decide)
  exact A1.retV hx hlk hret (hb hby dm30_37) (by decide) (by decide) ⟨rfl, rfl⟩
theorem own_c49 (l : Launch) (Z : State) (a0 : Array Value) (hw : ∀ d ∈ tables_1, d.before a0 Z = true) (j0 : Int32) (h0 : Heap) (n0 : Nat) (Z0 : n0 ≤ h0.size) (hn0 : (j0 < (17 : Int32))) :
    own_M l Z (⟨"java/lang/Math", "min", "(II)I"⟩ : MethodName) jdk_29_method_69_code 2 (some .int) [] (⟨0, 0, 0, 0⟩ : Room) #[(.int 17), (.int j0)] h0 n0 (fun v h => v = some (.int j0) ∧ h0 = h) := by
  refine own_M.of (by decide +kernel) ?_
  intro p e s m below meth c S0 hx hby hml hown hnm hret hlk hZ A00
  have H : own_H p c _ := ⟨hx, hby⟩
  have A0 := A00.cast (f' := mkF m 0 #[.val (.int 17), .val (.int j0)] []) (by first | (simp [entryFrame, mkF, argsToLocals, Value.category, maxLocals]; done) | rfl)
  have A1 := A0.iN H dm17_0 rfl rfl |>.iN H dm17_1 rfl rfl |>.cy H dm17_2 rfl ((tlt hn0).2.2.1) 9 (by decide) (by decide) |>.iN H dm17_9 rfl rfl
  exact A1.ret hx hlk hret (hb hby dm17_10) rfl (Or.inl ⟨rfl, by simp, _, rfl⟩) (by decide) (by decide) ⟨rfl, rfl⟩
theorem own_c50 (l : Launch) (Z : State) (a0 : Array Value) (hw : ∀ d ∈ tables_1, d.before a0 Z = true) (o0 : Addr) (j0 : Int32) (us_o0 : List Int32) (h0 : Heap) (n0 : Nat) (Z0 : n0 ≤ h0.size) (V_o0 : own_Ar Z h0 o0 .byte (List.map own_lo us_o0)) (hl_o0 : us_o0.length = 17) (hn0 : ¬ (j0 < (0 : Int32))) (hn1 : (j0.toNatClampNeg < 37)) (hn2 : (j0 < (17 : Int32))) (hn3 : (j0.toNatClampNeg < 17)) :
    own_M l Z (⟨"java/util/Arrays", "copyOfRangeByte", "([BII)[B"⟩ : MethodName) jdk_65_method_133_code 5 (some (.array .byte)) [] (⟨1, 1, 36, 18⟩ : Room) #[(.ref o0), (.int 0), (.int j0)] h0 n0 (fun v h => ∃ x1 : Addr, v = some (.ref x1) ∧ Keep h0 h [] ∧ h0.size ≤ x1 ∧ own_Ar Z h x1 .byte (List.map own_lo (List.take j0.toNatClampNeg us_o0)) ∧ ((List.take j0.toNatClampNeg us_o0) : List Int32).length = j0.toNatClampNeg) := by
  refine own_M.of pl40 ?_
  intro p e s m below meth c S0 hx hby hml hown hnm hret hlk hZ A00
  have H : own_H p c _ := ⟨hx, hby⟩
  have A0 := A00.cast (f' := mkF m 0 #[.val (.ref o0), .val (.int 0), .val (.int j0), .unset, .unset] []) (by first | (simp [entryFrame, mkF, argsToLocals, Value.category, maxLocals]; done) | rfl)
  have KK : Keep h0 h0 ([] : List Addr) := Keep.refl _ _
  have A2 := A0.iN H dm29_0 rfl rfl |>.iN H dm29_1 rfl rfl
  obtain ⟨vA1, hA1, ⟨rfl, rfl⟩, A1⟩ := A2.cS (own_c47 l Z a0 hw j0 h0 n0 Z0 hn0) H hZ hown dm29_2 (oW hw 159 rfl) (kS32 hw) hml rfl rfl [] rfl rfl
  have A6 := A1.c0 |>.iN H dm29_5 rfl rfl |>.iN H dm29_6 rfl rfl |>.s0 H dm29_7 rfl |>.iM H dm29_8 rfl #[.val (.ref o0), .val (.int 0), .val (.int j0), .val (.int j0), .unset] rfl |>.iN H dm29_9 rfl rfl
  obtain ⟨h3, E4, V_x1, A5⟩ := A6.newP hx hZ (hb hby dm29_10) (oW hw 20 rfl) hn0 (cap := 36) (Nat.le_of_lt_succ hn1) (by decide) (by decide) (by decide)
  obtain ⟨x1, gx1⟩ : ∃ z, z = h0.size := ⟨_, rfl⟩
  rw [← gx1] at V_x1 A5
  have g_x1 : n0 ≤ x1 := by rw [gx1]; exact Z0
  have sz_x1 : h0.size ≤ x1 := by rw [gx1]; exact KK.1
  have V_o0 := V_o0.ext E4
  have Z0 := Nat.le_trans Z0 E4.1
  have KK : Keep h0 h3 [] := KK.ext E4
  have V_x1 : own_Ar Z h3 x1 .byte (List.map own_lo (List.replicate j0.toNatClampNeg (0 : Int32))) := by rw [List.map_replicate]; exact V_x1
  have hl_x1 : (List.replicate j0.toNatClampNeg (0 : Int32)).length = j0.toNatClampNeg := by simp
  have A8 := A5.aS H dm29_12 rfl rfl #[.val (.ref o0), .val (.int 0), .val (.int j0), .val (.int j0), .val (.ref x1)] rfl |>.aN H dm29_14 rfl rfl rfl |>.iN H dm29_15 rfl rfl |>.aL H dm29_16 rfl rfl rfl |>.ic H dm29_18 rfl 0 rfl |>.aN H dm29_19 rfl rfl rfl
  have A7 : own_R p l e _ _ m _ below meth c S0 n0 h3 1 36 (mkF m 21 #[.val (.ref o0), .val (.int 0), .val (.int j0), .val (.int j0), .val (.ref x1)] [(.int (List.map own_lo us_o0).length.toInt32), (.int 0), (.ref x1), (.int 0), (.ref o0)]) := A8.len hx hZ (hb hby dm29_20) V_o0
  rw [List.length_map, hl_o0] at A7
  have A9 : own_R p l e _ _ m _ below meth c S0 n0 h3 1 36 (mkF m 21 #[.val (.ref o0), .val (.int 0), .val (.int j0), .val (.int j0), .val (.ref x1)] [(.int 17), (.int 0), (.ref x1), (.int 0), (.ref o0)]) := A7
  have A11 := A9.iN H dm29_21 rfl rfl |>.sb H dm29_22 rfl 17 rfl |>.iN H dm29_23 rfl rfl
  obtain ⟨vA10, hA10, ⟨rfl, rfl⟩, A10⟩ := A11.cS (own_c49 l Z a0 hw j0 h3 n0 Z0 hn2) H hZ hown dm29_24 (oW hw 162 rfl) (kS26 hw) hml rfl rfl [(.int 0), (.ref x1), (.int 0), (.ref o0)] rfl rfl
  have A13 := A10.cl
  obtain ⟨hA12, KA12, P_V_x1, A12⟩ := A13.cpL (S := 0) (D := 0) (N := j0.toNatClampNeg) hx hZ hown (hb hby dm29_27) (oW hw 163 rfl) (oW hw 102 rfl) (oW hw 100 rfl) (oW hw 101 rfl) V_o0 V_x1 (z1 := (17 : Int32)) (z2 := j0) (by rw [hl_o0]; rfl) hl_x1.symm (by decide) hn0 (by decide) (by decide) hn0 rfl rfl rfl (by rw [hl_o0]; omega) (by rw [hl_x1]; omega) g_x1 (by rw [hml]; rfl) (W := 0) (Nat.le_of_eq rfl) (by decide) (by decide)
  have hl_x1 : ((List.take j0.toNatClampNeg us_o0) : List Int32).length = j0.toNatClampNeg := by rw [List.length_take, hl_o0]; omega
  have KK : Keep h0 hA12 [] := KK.trans KA12 (allS (P := fun x => x ∈ ([] : List Addr) ∨ h0.size ≤ x) (Or.inr sz_x1) all0)
  have V_x1 : own_Ar Z hA12 x1 .byte (List.map own_lo (List.take j0.toNatClampNeg us_o0)) := by rw [own_cpt] at P_V_x1; exact P_V_x1
  have A14 := A12.aL H dm29_30 rfl rfl rfl
  exact A14.ret hx hlk hret (hb hby dm29_32) rfl (Or.inr (Or.inr (Or.inr (Or.inr ⟨rfl, rfl, rfl⟩)))) (by decide) (by decide) ⟨x1, rfl, KK, sz_x1, V_x1, hl_x1⟩
theorem own_c51 (l : Launch) (Z : State) (a0 : Array Value) (hw : ∀ d ∈ tables_1, d.before a0 Z = true) (o0 : Addr) (j0 : Int32) (us_o0 : List Int32) (h0 : Heap) (n0 : Nat) (Z0 : n0 ≤ h0.size) (V_o0 : own_Ar Z h0 o0 .byte (List.map own_lo us_o0)) (hl_o0 : us_o0.length = 17) (hn0 : ¬ (j0 = (17 : Int32))) (hn1 : ¬ (j0 < (0 : Int32))) (hn2 : (j0.toNatClampNeg < 37)) (hn3 : (j0 < (17 : Int32))) (hn4 : (j0.toNatClampNeg < 17)) :
    own_M l Z (⟨"java/util/Arrays", "copyOfRange", "([BII)[B"⟩ : MethodName) jdk_65_method_132_code 3 (some (.array .byte)) [] (⟨2, 1, 36, 34⟩ : Room) #[(.ref o0), (.int 0), (.int j0)] h0 n0 (fun v h => ∃ x1 : Addr, v = some (.ref x1) ∧ Keep h0 h [] ∧ h0.size ≤ x1 ∧ own_Ar Z h x1 .byte (List.map own_lo (List.take j0.toNatClampNeg us_o0)) ∧ ((List.take j0.toNatClampNeg us_o0) : List Int32).length = j0.toNatClampNeg) := by
  refine own_M.of pl41 ?_
  intro p e s m below meth c S0 hx hby hml hown hnm hret hlk hZ A00
  have H : own_H p c _ := ⟨hx, hby⟩
  have A0 := A00.cast (f' := mkF m 0 #[.val (.ref o0), .val (.int 0), .val (.int j0)] []) (by first | (simp [entryFrame, mkF, argsToLocals, Value.category, maxLocals]; done) | rfl)
  have KK : Keep h0 h0 ([] : List Addr) := Keep.refl _ _
  have q1 : ((0 : Int32) = (0 : Int32)) := rfl
  have A3 := A0.iN H dm28_0 rfl rfl |>.fn H dm28_1 rfl ((if0 _ _).trans (teq q1).2) |>.iN H dm28_4 rfl rfl |>.aN H dm28_5 rfl rfl rfl
  have A2 : own_R p l e _ _ m _ below meth c S0 n0 h0 0 0 (mkF m 7 #[.val (.ref o0), .val (.int 0), .val (.int j0)] [(.int (List.map own_lo us_o0).length.toInt32), (.int j0)]) := A3.len hx hZ (hb hby dm28_6) V_o0
  rw [List.length_map, hl_o0] at A2
  have A4 : own_R p l e _ _ m _ below meth c S0 n0 h0 0 0 (mkF m 7 #[.val (.ref o0), .val (.int 0), .val (.int j0)] [(.int 17), (.int j0)]) := A2
  have A6 := A4.cn H dm28_7 rfl ((feq hn0).1) |>.aN H dm28_10 rfl rfl rfl |>.iN H dm28_11 rfl rfl |>.iN H dm28_12 rfl rfl
  obtain ⟨vA5, hA5, ⟨x1, rfl, KA5, zz_x1, P_V_x1, hl_x1⟩, A5⟩ := A6.cS (own_c50 l Z a0 hw o0 j0 _ h0 n0 Z0 V_o0 hl_o0 hn1 hn2 hn3 hn4) H hZ hown dm28_13 (oW hw 156 rfl) (kS33 hw) hml rfl rfl [] rfl rfl
  have sz_x1 : h0.size ≤ x1 := Nat.le_trans KK.1 zz_x1
  have KK : Keep h0 hA5 [] := KK.trans KA5 all0
  have V_x1 : own_Ar Z hA5 x1 .byte (List.map own_lo (List.take j0.toNatClampNeg us_o0)) := P_V_x1
  have A7 := A5.cl
  exact A7.ret hx hlk hret (hb hby dm28_16) rfl (Or.inr (Or.inr (Or.inr (Or.inr ⟨rfl, rfl, rfl⟩)))) (by decide) (by decide) ⟨x1, rfl, KK, sz_x1, V_x1, hl_x1⟩
theorem own_c52 (l : Launch) (Z : State) (a0 : Array Value) (hw : ∀ d ∈ tables_1, d.before a0 Z = true) (o0 o1 o2 : Addr) (j0 : Int32) (us_o2 : List Int32) (cs : Int32) (h0 : Heap) (n0 : Nat) (Z0 : n0 ≤ h0.size) (E_o0 : Exa Z h0 o0 "java/lang/String") (F_o0_value : Fld Z h0 o0 "java/lang/String" "value" "[B" .null) (F_o0_coder : Fld Z h0 o0 "java/lang/String" "coder" "B" (.int 0)) (E_o1 : Exa Z h0 o1 "java/lang/StringBuilder") (F_o1_coder : Fld Z h0 o1 "java/lang/AbstractStringBuilder" "coder" "B" (.int 0)) (F_o1_value : Fld Z h0 o1 "java/lang/AbstractStringBuilder" "value" "[B" (.ref o2)) (F_o1_count : Fld Z h0 o1 "java/lang/AbstractStringBuilder" "count" "I" (.int j0)) (V_o2 : own_Ar Z h0 o2 .byte (List.map own_lo us_o2)) (S_cs : Sta Z h0 "java/lang/String" "COMPACT_STRINGS" "Z" (.int cs)) (hl_o2 : us_o2.length = 17) (hcs : ¬ (cs = (0 : Int32))) (hn1 : ¬ (j0 = (17 : Int32))) (hn2 : ¬ (j0 < (0 : Int32))) (hn3 : (j0.toNatClampNeg < 37)) (hn4 : (j0 < (17 : Int32))) (hn5 : (j0.toNatClampNeg < 17)) (ne_o1_o0 : o1 ≠ o0) (ne_o2_o0 : o2 ≠ o0) (g_o0 : n0 ≤ o0) :
    own_M l Z (⟨"java/lang/String", "<init>", "(Ljava/lang/AbstractStringBuilder;Ljava/lang/Void;)V"⟩ : MethodName) jdk_42_method_150_code 5 none [] (⟨3, 1, 36, 49⟩ : Room) #[(.ref o0), (.ref o1), .null] h0 n0 (fun v h => ∃ x1 : Addr, v = none ∧ Keep h0 h [o0] ∧ h0.size ≤ x1 ∧ Fld Z h o0 "java/lang/String" "value" "[B" (.ref x1) ∧ Fld Z h o0 "java/lang/String" "coder" "B" (.int 0) ∧ own_Ar Z h x1 .byte (List.map own_lo (List.take j0.toNatClampNeg us_o2)) ∧ ((List.take j0.toNatClampNeg us_o2) : List Int32).length = j0.toNatClampNeg) := by
  refine own_M.of pl42 ?_
  intro p e s m below meth c S0 hx hby hml hown hnm hret hlk hZ A00
  have H : own_H p c _ := ⟨hx, hby⟩
  have A0 := A00.cast (f' := mkF m 0 #[.val (.ref o0), .val (.ref o1), .val .null, .unset, .unset] []) (by first | (simp [entryFrame, mkF, argsToLocals, Value.category, maxLocals]; done) | rfl)
  have KK : Keep h0 h0 ([o0] : List Addr) := Keep.refl _ _
  have A1 := A0.aN H dm24_0 rfl rfl rfl
  have A2 := A1.initO hx hZ hown (hb hby dm24_1) (oW hw 16 rfl) (oW hw 17 rfl) (oW hw 18 rfl) (by rw [hml]; rfl) (W := 0) (Nat.le_of_eq rfl) (by decide) (by decide)
  have A4 := A2.aN H dm24_4 rfl rfl rfl
  obtain ⟨vA3, hA3, ⟨rfl, rfl⟩, A3⟩ := A4.cV (own_c39 l Z a0 hw o1 o2 h0 n0 Z0 F_o1_value) E_o1 H hZ hown dm24_5 (oW hw 138 rfl) (kV30 hw) hml rfl rfl [] rfl rfl
  have A6 := A3.cl |>.aM H dm24_8 rfl rfl #[.val (.ref o0), .val (.ref o1), .val .null, .val (.ref o2), .unset] rfl |>.aN H dm24_9 rfl rfl rfl
  obtain ⟨vA5, hA5, ⟨rfl, rfl⟩, A5⟩ := A6.cV (own_c43 l Z a0 hw o1 j0 h0 n0 Z0 E_o1 F_o1_count) E_o1 H hZ hown dm24_10 (oW hw 143 rfl) (kV31 hw) hml rfl rfl [] rfl rfl
  have A8 := A5.cl |>.iS H dm24_13 rfl #[.val (.ref o0), .val (.ref o1), .val .null, .val (.ref o2), .val (.int j0)] rfl |>.aN H dm24_15 rfl rfl rfl
  obtain ⟨vA7, hA7, ⟨rfl, rfl⟩, A7⟩ := A8.cV (own_c30 l Z a0 hw o1 cs h0 n0 Z0 F_o1_coder S_cs hcs) E_o1 H hZ hown dm24_16 (oW hw 151 rfl) (kV27 hw) hml rfl rfl [] rfl rfl
  have A12 := A7.cl |>.fn H dm24_19 rfl rfl |>.aN H dm24_22 rfl rfl rfl |>.ic H dm24_23 rfl 0 rfl
  obtain ⟨h9, W10, A11⟩ := A12.putF hx hZ hown (hb hby dm24_24) (oW hw 26 rfl) F_o0_coder E_o0 (Or.inr ⟨(oW hw 22 rfl), rfl, hnm⟩) (oW hw 7 rfl) (ty := .byte) (by decide) rfl rfl g_o0
  have E_o0 := E_o0.wr W10
  have F_o0_value := F_o0_value.other W10 (Or.inr (slot_ne (Or.inr (oW hw 21 rfl)) (Or.inr (oW hw 22 rfl)) (by decide) (t := (.array .byte)) (t' := .byte) (by decide) (by decide)))
  have F_o0_coder : Fld Z h9 o0 "java/lang/String" "coder" "B" (.int 0) := F_o0_coder.same W10
  have V_o2 := V_o2.other W10 ne_o2_o0
  have Z0 : n0 ≤ h9.size := by rw [W10.size]; exact Z0
  have KK : Keep h0 h9 [o0] := KK.wr W10 (Or.inl (by simp))
  have A14 := A11.aN H dm24_27 rfl rfl rfl |>.aN H dm24_28 rfl rfl rfl |>.ic H dm24_29 rfl 0 rfl |>.iL H dm24_30 rfl rfl
  obtain ⟨vA13, hA13, ⟨x1, rfl, KA13, zz_x1, P_V_x1, hl_x1⟩, A13⟩ := A14.cS (own_c51 l Z a0 hw o2 j0 _ h9 n0 Z0 V_o2 hl_o2 hn1 hn2 hn3 hn4 hn5) H hZ hown dm24_32 (oW hw 152 rfl) (kS34 hw) hml rfl rfl [(.ref o0)] rfl rfl
  have ne_o0_x1 : o0 ≠ x1 := Nat.ne_of_lt (Nat.lt_of_lt_of_le E_o0.lt zz_x1)
  have ne_x1_o0 := Ne.symm ne_o0_x1
  have sz_x1 : h0.size ≤ x1 := Nat.le_trans KK.1 zz_x1
  have E_o0 := E_o0.keep KA13
  have F_o0_value := F_o0_value.keep KA13 nin0
  have F_o0_coder := F_o0_coder.keep KA13 nin0
  have KK : Keep h0 hA13 [o0] := KK.trans KA13 all0
  have V_x1 : own_Ar Z hA13 x1 .byte (List.map own_lo (List.take j0.toNatClampNeg us_o2)) := P_V_x1
  have A18 := A13.cl
  obtain ⟨h15, W16, A17⟩ := A18.putF hx hZ hown (hb hby dm24_35) (oW hw 25 rfl) F_o0_value E_o0 (Or.inr ⟨(oW hw 21 rfl), rfl, hnm⟩) (oW hw 7 rfl) (ty := (.array .byte)) (by decide) rfl rfl g_o0
  have F_o0_value : Fld Z h15 o0 "java/lang/String" "value" "[B" (.ref x1) := F_o0_value.same W16
  have F_o0_coder := F_o0_coder.other W16 (Or.inr (slot_ne (Or.inr (oW hw 22 rfl)) (Or.inr (oW hw 21 rfl)) (by decide) (t := .byte) (t' := (.array .byte)) (by decide) (by decide)))
  have V_x1 := V_x1.other W16 ne_x1_o0
  have KK : Keep h0 h15 [o0] := KK.wr W16 (Or.inl (by simp))
  have A19 := A17.gt H dm24_38 rfl 97 (by decide) (by decide)
  exact A19.retV hx hlk hret (hb hby dm24_97) (by decide) (by decide) ⟨x1, rfl, KK, sz_x1, F_o0_value, F_o0_coder, V_x1, hl_x1⟩
theorem own_c53 (l : Launch) (Z : State) (a0 : Array Value) (hw : ∀ d ∈ tables_1, d.before a0 Z = true) (o0 o1 o2 : Addr) (j0 : Int32) (us_o2 : List Int32) (cs : Int32) (h0 : Heap) (n0 : Nat) (Z0 : n0 ≤ h0.size) (E_o0 : Exa Z h0 o0 "java/lang/String") (F_o0_value : Fld Z h0 o0 "java/lang/String" "value" "[B" .null) (F_o0_coder : Fld Z h0 o0 "java/lang/String" "coder" "B" (.int 0)) (E_o1 : Exa Z h0 o1 "java/lang/StringBuilder") (F_o1_coder : Fld Z h0 o1 "java/lang/AbstractStringBuilder" "coder" "B" (.int 0)) (F_o1_value : Fld Z h0 o1 "java/lang/AbstractStringBuilder" "value" "[B" (.ref o2)) (F_o1_count : Fld Z h0 o1 "java/lang/AbstractStringBuilder" "count" "I" (.int j0)) (V_o2 : own_Ar Z h0 o2 .byte (List.map own_lo us_o2)) (S_cs : Sta Z h0 "java/lang/String" "COMPACT_STRINGS" "Z" (.int cs)) (hl_o2 : us_o2.length = 17) (hcs : ¬ (cs = (0 : Int32))) (hn1 : ¬ (j0 = (17 : Int32))) (hn2 : ¬ (j0 < (0 : Int32))) (hn3 : (j0.toNatClampNeg < 37)) (hn4 : (j0 < (17 : Int32))) (hn5 : (j0.toNatClampNeg < 17)) (ne_o1_o0 : o1 ≠ o0) (ne_o2_o0 : o2 ≠ o0) (g_o0 : n0 ≤ o0) :
    own_M l Z (⟨"java/lang/String", "<init>", "(Ljava/lang/StringBuilder;)V"⟩ : MethodName) jdk_42_method_53_code 2 none [] (⟨4, 1, 36, 65⟩ : Room) #[(.ref o0), (.ref o1)] h0 n0 (fun v h => ∃ x1 : Addr, v = none ∧ Keep h0 h [o0] ∧ h0.size ≤ x1 ∧ Fld Z h o0 "java/lang/String" "value" "[B" (.ref x1) ∧ Fld Z h o0 "java/lang/String" "coder" "B" (.int 0) ∧ own_Ar Z h x1 .byte (List.map own_lo (List.take j0.toNatClampNeg us_o2)) ∧ ((List.take j0.toNatClampNeg us_o2) : List Int32).length = j0.toNatClampNeg) := by
  refine own_M.of pl43 ?_
  intro p e s m below meth c S0 hx hby hml hown hnm hret hlk hZ A00
  have H : own_H p c _ := ⟨hx, hby⟩
  have A0 := A00.cast (f' := mkF m 0 #[.val (.ref o0), .val (.ref o1)] []) (by first | (simp [entryFrame, mkF, argsToLocals, Value.category, maxLocals]; done) | rfl)
  have KK : Keep h0 h0 ([o0] : List Addr) := Keep.refl _ _
  have A2 := A0.aN H dm23_0 rfl rfl rfl |>.aN H dm23_1 rfl rfl rfl |>.nu H dm23_2 rfl
  obtain ⟨vA1, hA1, ⟨x1, rfl, KA1, zz_x1, P_F_o0_value, P_F_o0_coder, P_V_x1, hl_x1⟩, A1⟩ := A2.cI (own_c52 l Z a0 hw o0 o1 o2 j0 _ cs h0 n0 Z0 E_o0 F_o0_value F_o0_coder E_o1 F_o1_coder F_o1_value F_o1_count V_o2 S_cs hl_o2 hcs hn1 hn2 hn3 hn4 hn5 ne_o1_o0 ne_o2_o0 g_o0) H hZ hown dm23_3 (oW hw 135 rfl) (kI35 hw) hml rfl rfl [] rfl rfl
  have sz_x1 : h0.size ≤ x1 := Nat.le_trans KK.1 zz_x1
  have KK : Keep h0 hA1 [o0] := KK.trans KA1 (allS (P := fun x => x ∈ ([o0] : List Addr) ∨ h0.size ≤ x) (Or.inl (by simp)) all0)
  have F_o0_value : Fld Z hA1 o0 "java/lang/String" "value" "[B" (.ref x1) := P_F_o0_value
  have F_o0_coder : Fld Z hA1 o0 "java/lang/String" "coder" "B" (.int 0) := P_F_o0_coder
  have V_x1 : own_Ar Z hA1 x1 .byte (List.map own_lo (List.take j0.toNatClampNeg us_o2)) := P_V_x1
  have A3 := A1.c0
  exact A3.retV hx hlk hret (hb hby dm23_6) (by decide) (by decide) ⟨x1, rfl, KK, sz_x1, F_o0_value, F_o0_coder, V_x1, hl_x1⟩
theorem own_c54 (l : Launch) (Z : State) (a0 : Array Value) (hw : ∀ d ∈ tables_1, d.before a0 Z = true) (o0 o1 : Addr) (j0 : Int32) (us_o1 : List Int32) (cs : Int32) (h0 : Heap) (n0 : Nat) (Z0 : n0 ≤ h0.size) (E_o0 : Exa Z h0 o0 "java/lang/StringBuilder") (F_o0_coder : Fld Z h0 o0 "java/lang/AbstractStringBuilder" "coder" "B" (.int 0)) (F_o0_value : Fld Z h0 o0 "java/lang/AbstractStringBuilder" "value" "[B" (.ref o1)) (F_o0_count : Fld Z h0 o0 "java/lang/AbstractStringBuilder" "count" "I" (.int j0)) (V_o1 : own_Ar Z h0 o1 .byte (List.map own_lo us_o1)) (S_cs : Sta Z h0 "java/lang/String" "COMPACT_STRINGS" "Z" (.int cs)) (hl_o1 : us_o1.length = 17) (hcs : ¬ (cs = (0 : Int32))) (hn1 : ¬ (j0 = (17 : Int32))) (hn2 : ¬ (j0 < (0 : Int32))) (hn3 : (j0.toNatClampNeg < 37)) (hn4 : (j0 < (17 : Int32))) (hn5 : (j0.toNatClampNeg < 17)) :
    own_M l Z (⟨"java/lang/StringBuilder", "toString", "()Ljava/lang/String;"⟩ : MethodName) jdk_67_method_42_code 1 (some (.object "java/lang/String")) [] (⟨5, 2, 40, 79⟩ : Room) #[(.ref o0)] h0 n0 (fun v h => ∃ x1 x2 : Addr, v = some (.ref x1) ∧ Keep h0 h [] ∧ h0.size ≤ x1 ∧ h0.size ≤ x2 ∧ x2 ≠ x1 ∧ Exa Z h x1 "java/lang/String" ∧ Fld Z h x1 "java/lang/String" "value" "[B" (.ref x2) ∧ Fld Z h x1 "java/lang/String" "coder" "B" (.int 0) ∧ own_Ar Z h x2 .byte (List.map own_lo (List.take j0.toNatClampNeg us_o1)) ∧ ((List.take j0.toNatClampNeg us_o1) : List Int32).length = j0.toNatClampNeg) := by
  refine own_M.of pl44 ?_
  intro p e s m below meth c S0 hx hby hml hown hnm hret hlk hZ A00
  have H : own_H p c _ := ⟨hx, hby⟩
  have A0 := A00.cast (f' := mkF m 0 #[.val (.ref o0)] []) (by first | (simp [entryFrame, mkF, argsToLocals, Value.category, maxLocals]; done) | rfl)
  have KK : Keep h0 h0 ([] : List Addr) := Keep.refl _ _
  obtain ⟨h1, E2, E_x1, D_x1, A3⟩ := A0.newO hx hZ hown (hb hby dm22_0) (oW hw 131 rfl) (oW hw 7 rfl) (oW hw 8 rfl) (by decide) (by decide)
  obtain ⟨x1, gx1⟩ : ∃ z, z = h0.size := ⟨_, rfl⟩
  rw [← gx1] at E_x1 D_x1 A3
  have ne_o0_x1 : o0 ≠ x1 := by rw [gx1]; exact Nat.ne_of_lt E_o0.lt
  have ne_o1_x1 : o1 ≠ x1 := by rw [gx1]; exact Nat.ne_of_lt V_o1.lt
  have g_x1 : n0 ≤ x1 := by rw [gx1]; exact Z0
  have sz_x1 : h0.size ≤ x1 := by rw [gx1]; exact KK.1
  have E_o0 := E_o0.ext E2
  have F_o0_coder := F_o0_coder.ext E2
  have F_o0_value := F_o0_value.ext E2
  have F_o0_count := F_o0_count.ext E2
  have V_o1 := V_o1.ext E2
  have S_cs := S_cs.ext E2
  have Z0 := Nat.le_trans Z0 E2.1
  have KK : Keep h0 h1 [] := KK.ext E2
  have F_x1_value : Fld Z h1 x1 "java/lang/String" "value" "[B" .null := D_x1 (Or.inr (oW hw 21 rfl)) (ty := (.array .byte)) (by decide)
  have F_x1_coder : Fld Z h1 x1 "java/lang/String" "coder" "B" (.int 0) := D_x1 (Or.inr (oW hw 22 rfl)) (ty := .byte) (by decide)
  have A5 := A3.du H dm22_3 rfl rfl |>.aN H dm22_4 rfl rfl rfl
  obtain ⟨vA4, hA4, ⟨x2, rfl, KA4, zz_x2, P_F_x1_value, P_F_x1_coder, P_V_x2, hl_x2⟩, A4⟩ := A5.cI (own_c53 l Z a0 hw x1 o0 o1 j0 _ cs h1 n0 Z0 E_x1 F_x1_value F_x1_coder E_o0 F_o0_coder F_o0_value F_o0_count V_o1 S_cs hl_o1 hcs hn1 hn2 hn3 hn4 hn5 ne_o0_x1 ne_o1_x1 g_x1) H hZ hown dm22_5 (oW hw 132 rfl) (kI36 hw) hml rfl rfl [(.ref x1)] rfl rfl
  have ne_x1_x2 : x1 ≠ x2 := Nat.ne_of_lt (Nat.lt_of_lt_of_le E_x1.lt zz_x2)
  have ne_x2_x1 := Ne.symm ne_x1_x2
  have sz_x2 : h0.size ≤ x2 := Nat.le_trans KK.1 zz_x2
  have E_x1 := E_x1.keep KA4
  have KK : Keep h0 hA4 [] := KK.trans KA4 (allS (P := fun x => x ∈ ([] : List Addr) ∨ h0.size ≤ x) (Or.inr sz_x1) all0)
  have F_x1_value : Fld Z hA4 x1 "java/lang/String" "value" "[B" (.ref x2) := P_F_x1_value
  have F_x1_coder : Fld Z hA4 x1 "java/lang/String" "coder" "B" (.int 0) := P_F_x1_coder
  have V_x2 : own_Ar Z hA4 x2 .byte (List.map own_lo (List.take j0.toNatClampNeg us_o1)) := P_V_x2
  have A6 := A4.c0
  exact A6.ret hx hlk hret (hb hby dm22_8) rfl (Or.inr (Or.inr (Or.inr (Or.inr ⟨rfl, rfl, rfl⟩)))) (by decide) (by decide) ⟨x1, x2, rfl, KK, sz_x1, sz_x2, ne_x2_x1, E_x1, F_x1_value, F_x1_coder, V_x2, hl_x2⟩
theorem own_c58 (l : Launch) (Z : State) (a0 : Array Value) (hw : ∀ d ∈ tables_1, d.before a0 Z = true) (j0 : Int32) (h0 : Heap) (n0 : Nat) (Z0 : n0 ≤ h0.size) (hj0 : ¬ ((255 : Int32) < j0)) :
    own_M l Z (⟨"java/lang/StringLatin1", "canEncode", "(C)Z"⟩ : MethodName) jdk_43_method_3_code 1 (some .boolean) [] (⟨0, 0, 0, 0⟩ : Room) #[(.int j0)] h0 n0 (fun v h => v = some (.int 1) ∧ h0 = h) := by
  refine own_M.of pl33 ?_
  intro p e s m below meth c S0 hx hby hml hown hnm hret hlk hZ A00
  have H : own_H p c _ := ⟨hx, hby⟩
  have A0 := A00.cast (f' := mkF m 0 #[.val (.int j0)] []) (by first | (simp [entryFrame, mkF, argsToLocals, Value.category, maxLocals]; done) | rfl)
  have A1 := A0.iN H dm21_0 rfl rfl |>.sp H dm21_1 rfl 255 rfl |>.cn H dm21_4 rfl ((flt hj0).2.2.1) |>.ic H dm21_7 rfl 1 rfl |>.gt H dm21_8 rfl 12 (by decide) (by decide)
  exact A1.ret hx hlk hret (hb hby dm21_12) rfl (Or.inl ⟨rfl, by simp, _, rfl⟩) (by decide) (by decide) ⟨rfl, rfl⟩
theorem own_c59 (l : Launch) (Z : State) (a0 : Array Value) (hw : ∀ d ∈ tables_1, d.before a0 Z = true) (o0 o1 : Addr) (j0 j1 : Int32) (us_o1 : List Int32) (cs : Int32) (h0 : Heap) (n0 : Nat) (Z0 : n0 ≤ h0.size) (E_o0 : Exa Z h0 o0 "java/lang/StringBuilder") (F_o0_coder : Fld Z h0 o0 "java/lang/AbstractStringBuilder" "coder" "B" (.int 0)) (F_o0_value : Fld Z h0 o0 "java/lang/AbstractStringBuilder" "value" "[B" (.ref o1)) (F_o0_count : Fld Z h0 o0 "java/lang/AbstractStringBuilder" "count" "I" (.int j1)) (V_o1 : own_Ar Z h0 o1 .byte (List.map own_lo us_o1)) (S_cs : Sta Z h0 "java/lang/String" "COMPACT_STRINGS" "Z" (.int cs)) (hl_o1 : us_o1.length = 17) (hcs : ¬ (cs = (0 : Int32))) (hj1 : ¬ ((255 : Int32) < j0)) (hn2 : ¬ ((0 : Int32) < ((j1 + (1 : Int32)) - (17 : Int32)))) (hn3 : ¬ (j1 < (0 : Int32))) (hn4 : (j1.toNatClampNeg < 17)) (ne_o0_o1 : o0 ≠ o1) (ne_o1_o0 : o1 ≠ o0) (g_o0 : n0 ≤ o0) (g_o1 : n0 ≤ o1) :
    own_M l Z (⟨"java/lang/AbstractStringBuilder", "append", "(C)Ljava/lang/AbstractStringBuilder;"⟩ : MethodName) jdk_68_method_31_code 2 (some (.object "java/lang/AbstractStringBuilder")) [] (⟨1, 0, 0, 14⟩ : Room) #[(.ref o0), (.int j0)] h0 n0 (fun v h => v = some (.ref o0) ∧ Keep h0 h [o0, o1] ∧ Fld Z h o0 "java/lang/AbstractStringBuilder" "coder" "B" (.int 0) ∧ Fld Z h o0 "java/lang/AbstractStringBuilder" "value" "[B" (.ref o1) ∧ Fld Z h o0 "java/lang/AbstractStringBuilder" "count" "I" (.int (j1 + (1 : Int32))) ∧ own_Ar Z h o1 .byte (List.map own_lo (List.set us_o1 j1.toNatClampNeg j0)) ∧ ((List.set us_o1 j1.toNatClampNeg j0) : List Int32).length = 17) := by
  refine own_M.of pl34 ?_
  intro p e s m below meth c S0 hx hby hml hown hnm hret hlk hZ A00
  have H : own_H p c _ := ⟨hx, hby⟩
  have A0 := A00.cast (f' := mkF m 0 #[.val (.ref o0), .val (.int j0)] []) (by first | (simp [entryFrame, mkF, argsToLocals, Value.category, maxLocals]; done) | rfl)
  have KK : Keep h0 h0 ([o0, o1] : List Addr) := Keep.refl _ _
  have A1 := A0.aN H dm19_0 rfl rfl rfl |>.aN H dm19_1 rfl rfl rfl
  have A2 := A1.getF hx hZ hown (hb hby dm19_2) (oW hw 76 rfl) Via.refl F_o0_count
  have A4 := A2.ic H dm19_5 rfl 1 rfl |>.ad H dm19_6 rfl _ rfl
  obtain ⟨vA3, hA3, ⟨rfl, rfl⟩, A3⟩ := A4.cV (own_c28 l Z a0 hw o0 o1 (j1 + (1 : Int32)) _ h0 n0 Z0 F_o0_coder F_o0_value V_o1 hl_o1 hn2) E_o0 H hZ hown dm19_7 (oW hw 78 rfl) (kV18 hw) hml rfl rfl [] rfl rfl
  have A6 := A3.c0 |>.aN H dm19_10 rfl rfl rfl
  obtain ⟨vA5, hA5, ⟨rfl, rfl⟩, A5⟩ := A6.cV (own_c30 l Z a0 hw o0 cs h0 n0 Z0 F_o0_coder S_cs hcs) E_o0 H hZ hown dm19_11 (oW hw 117 rfl) (kV27 hw) hml rfl rfl [] rfl rfl
  have A8 := A5.cl |>.fn H dm19_14 rfl rfl |>.iN H dm19_17 rfl rfl
  obtain ⟨vA7, hA7, ⟨rfl, rfl⟩, A7⟩ := A8.cS (own_c58 l Z a0 hw j0 h0 n0 Z0 hj1) H hZ hown dm19_18 (oW hw 122 rfl) (kS28 hw) hml rfl rfl [] rfl rfl
  have A9 := A7.cl |>.fn H dm19_21 rfl rfl |>.aN H dm19_24 rfl rfl rfl
  have A10 := A9.getF hx hZ hown (hb hby dm19_25) (oW hw 60 rfl) Via.refl F_o0_value
  have A11 := A10.aN H dm19_28 rfl rfl rfl |>.du H dm19_29 rfl rfl
  have A12 := A11.getF hx hZ hown (hb hby dm19_30) (oW hw 76 rfl) Via.refl F_o0_count
  have A16 := A12.dx H dm19_33 rfl rfl rfl |>.ic H dm19_34 rfl 1 rfl |>.ad H dm19_35 rfl _ rfl
  obtain ⟨h13, W14, A15⟩ := A16.putF hx hZ hown (hb hby dm19_36) (oW hw 76 rfl) F_o0_count E_o0 (Or.inl (oW hw 77 rfl)) (oW hw 32 rfl) (ty := .int) (by decide) rfl rfl g_o0
  have F_o0_coder := F_o0_coder.other W14 (Or.inr (slot_ne (Or.inl (oW hw 59 rfl)) (Or.inl (oW hw 77 rfl)) (by decide) (t := .byte) (t' := .int) (by decide) (by decide)))
  have F_o0_value := F_o0_value.other W14 (Or.inr (slot_ne (Or.inl (oW hw 61 rfl)) (Or.inl (oW hw 77 rfl)) (by decide) (t := (.array .byte)) (t' := .int) (by decide) (by decide)))
  have F_o0_count : Fld Z h13 o0 "java/lang/AbstractStringBuilder" "count" "I" (.int (j1 + (1 : Int32))) := F_o0_count.same W14
  have V_o1 := V_o1.other W14 ne_o1_o0
  have KK : Keep h0 h13 [o0, o1] := KK.wr W14 (Or.inl (by simp))
  have A20 := A15.iN H dm19_39 rfl rfl |>.ib H dm19_40 rfl _ rfl
  obtain ⟨h17, W18, A19⟩ := A20.stB hx hZ (hb hby dm19_41) V_o1 hn3 (by rw [List.length_map, hl_o1]; exact hn4) g_o1
  have F_o0_coder := F_o0_coder.other W18 (Or.inl ne_o0_o1)
  have F_o0_value := F_o0_value.other W18 (Or.inl ne_o0_o1)
  have F_o0_count := F_o0_count.other W18 (Or.inl ne_o0_o1)
  have V_o1 : own_Ar Z h17 o1 .byte (List.map own_lo (List.set us_o1 j1.toNatClampNeg j0)) := by
    have q := V_o1.same W18
    rw [own_nb] at q
    rw [← own_setM]
    exact q
  have hl_o1 : ((List.set us_o1 j1.toNatClampNeg j0) : List Int32).length = 17 := by rw [List.length_set]; exact hl_o1
  have V_o1 : own_Ar Z h17 o1 .byte (List.map own_lo (List.set us_o1 j1.toNatClampNeg j0)) := V_o1
  have KK : Keep h0 h17 [o0, o1] := KK.wr W18 (Or.inl (by simp))
  have A21 := A19.gt H dm19_42 rfl 75 (by decide) (by decide) |>.aN H dm19_75 rfl rfl rfl
  exact A21.ret hx hlk hret (hb hby dm19_76) rfl (Or.inr (Or.inr (Or.inr (Or.inr ⟨rfl, rfl, rfl⟩)))) (by decide) (by decide) ⟨rfl, KK, F_o0_coder, F_o0_value, F_o0_count, V_o1, hl_o1⟩
theorem own_c60 (l : Launch) (Z : State) (a0 : Array Value) (hw : ∀ d ∈ tables_1, d.before a0 Z = true) (o0 o1 : Addr) (j0 j1 : Int32) (us_o1 : List Int32) (cs : Int32) (h0 : Heap) (n0 : Nat) (Z0 : n0 ≤ h0.size) (E_o0 : Exa Z h0 o0 "java/lang/StringBuilder") (F_o0_coder : Fld Z h0 o0 "java/lang/AbstractStringBuilder" "coder" "B" (.int 0)) (F_o0_value : Fld Z h0 o0 "java/lang/AbstractStringBuilder" "value" "[B" (.ref o1)) (F_o0_count : Fld Z h0 o0 "java/lang/AbstractStringBuilder" "count" "I" (.int j1)) (V_o1 : own_Ar Z h0 o1 .byte (List.map own_lo us_o1)) (S_cs : Sta Z h0 "java/lang/String" "COMPACT_STRINGS" "Z" (.int cs)) (hl_o1 : us_o1.length = 17) (hcs : ¬ (cs = (0 : Int32))) (hj1 : ¬ ((255 : Int32) < j0)) (hn2 : ¬ ((0 : Int32) < ((j1 + (1 : Int32)) - (17 : Int32)))) (hn3 : ¬ (j1 < (0 : Int32))) (hn4 : (j1.toNatClampNeg < 17)) (ne_o0_o1 : o0 ≠ o1) (ne_o1_o0 : o1 ≠ o0) (g_o0 : n0 ≤ o0) (g_o1 : n0 ≤ o1) :
    own_M l Z (⟨"java/lang/StringBuilder", "append", "(C)Ljava/lang/StringBuilder;"⟩ : MethodName) jdk_67_method_14_code 2 (some (.object "java/lang/StringBuilder")) [] (⟨2, 0, 0, 27⟩ : Room) #[(.ref o0), (.int j0)] h0 n0 (fun v h => v = some (.ref o0) ∧ Keep h0 h [o0, o1] ∧ Fld Z h o0 "java/lang/AbstractStringBuilder" "coder" "B" (.int 0) ∧ Fld Z h o0 "java/lang/AbstractStringBuilder" "value" "[B" (.ref o1) ∧ Fld Z h o0 "java/lang/AbstractStringBuilder" "count" "I" (.int (j1 + (1 : Int32))) ∧ own_Ar Z h o1 .byte (List.map own_lo (List.set us_o1 j1.toNatClampNeg j0)) ∧ ((List.set us_o1 j1.toNatClampNeg j0) : List Int32).length = 17) := by
  refine own_M.of pl35 ?_
  intro p e s m below meth c S0 hx hby hml hown hnm hret hlk hZ A00
  have H : own_H p c _ := ⟨hx, hby⟩
  have A0 := A00.cast (f' := mkF m 0 #[.val (.ref o0), .val (.int j0)] []) (by first | (simp [entryFrame, mkF, argsToLocals, Value.category, maxLocals]; done) | rfl)
  have KK : Keep h0 h0 ([o0, o1] : List Addr) := Keep.refl _ _
  have A2 := A0.aN H dm18_0 rfl rfl rfl |>.iN H dm18_1 rfl rfl
  obtain ⟨vA1, hA1, ⟨rfl, KA1, P_F_o0_coder, P_F_o0_value, P_F_o0_count, P_V_o1, hl_o1⟩, A1⟩ := A2.callU (b := o0) (own_c59 l Z a0 hw o0 o1 j0 j1 _ cs h0 n0 Z0 E_o0 F_o0_coder F_o0_value F_o0_count V_o1 S_cs hl_o1 hcs hj1 hn2 hn3 hn4 ne_o0_o1 ne_o1_o0 g_o0 g_o1) E_o0 hx hZ hown (hb hby dm18_2) (by decide) (oW hw 113 rfl) (own_same (y' := (⟨"java/lang/AbstractStringBuilder", "ensureCapacityInternal", "(I)V"⟩ : MethodName)) (oW hw 81 rfl) rfl (oW hw 114 rfl) ⟨by decide, by decide⟩) (oW hw 114 rfl) (oW hw 74 rfl) (oW hw 116 rfl) (oW hw 42 rfl) (lenOf pd__28C_29Ljava_2flang_2fAbstractStringBuilder_3b rfl) (argsL := [(.int j0)]) (rest := []) rfl rfl (by rw [hml]; rfl) (W := 0) (Nat.le_of_eq rfl) (by decide) (by decide) (by decide) (by decide)
  have KK : Keep h0 hA1 [o0, o1] := KK.trans KA1 (allS (P := fun x => x ∈ ([o0, o1] : List Addr) ∨ h0.size ≤ x) (Or.inl (by simp)) (allS (P := fun x => x ∈ ([o0, o1] : List Addr) ∨ h0.size ≤ x) (Or.inl (by simp)) all0))
  have F_o0_coder : Fld Z hA1 o0 "java/lang/AbstractStringBuilder" "coder" "B" (.int 0) := P_F_o0_coder
  have F_o0_value : Fld Z hA1 o0 "java/lang/AbstractStringBuilder" "value" "[B" (.ref o1) := P_F_o0_value
  have F_o0_count : Fld Z hA1 o0 "java/lang/AbstractStringBuilder" "count" "I" (.int (j1 + (1 : Int32))) := P_F_o0_count
  have V_o1 : own_Ar Z hA1 o1 .byte (List.map own_lo (List.set us_o1 j1.toNatClampNeg j0)) := P_V_o1
  have A3 := A1.cl |>.po H dm18_5 rfl rfl |>.aN H dm18_6 rfl rfl rfl
  exact A3.ret hx hlk hret (hb hby dm18_7) rfl (Or.inr (Or.inr (Or.inr (Or.inr ⟨rfl, rfl, rfl⟩)))) (by decide) (by decide) ⟨rfl, KK, F_o0_coder, F_o0_value, F_o0_count, V_o1, hl_o1⟩
theorem own_c62 (l : Launch) (Z : State) (a0 : Array Value) (hw : ∀ d ∈ tables_1, d.before a0 Z = true)  (h0 : Heap) (n0 : Nat) (Z0 : n0 ≤ h0.size)  :
    own_M l Z (⟨"java/lang/Math", "min", "(II)I"⟩ : MethodName) jdk_29_method_69_code 2 (some .int) [] (⟨0, 0, 0, 0⟩ : Room) #[(.int 1), (.int 24)] h0 n0 (fun v h => v = some (.int 1) ∧ h0 = h) := by
  refine own_M.of (by decide +kernel) ?_
  intro p e s m below meth c S0 hx hby hml hown hnm hret hlk hZ A00
  have H : own_H p c _ := ⟨hx, hby⟩
  have A0 := A00.cast (f' := mkF m 0 #[.val (.int 1), .val (.int 24)] []) (by first | (simp [entryFrame, mkF, argsToLocals, Value.category, maxLocals]; done) | rfl)
  have A1 := A0.iN H dm17_0 rfl rfl |>.iN H dm17_1 rfl rfl |>.cn H dm17_2 rfl rfl |>.iN H dm17_5 rfl rfl |>.gt H dm17_6 rfl 10 (by decide) (by decide)
  exact A1.ret hx hlk hret (hb hby dm17_10) rfl (Or.inl ⟨rfl, by simp, _, rfl⟩) (by decide) (by decide) ⟨rfl, rfl⟩
theorem own_c64 (l : Launch) (Z : State) (a0 : Array Value) (hw : ∀ d ∈ tables_1, d.before a0 Z = true)  (h0 : Heap) (n0 : Nat) (Z0 : n0 ≤ h0.size)  :
    own_M l Z (⟨"java/lang/Math", "min", "(II)I"⟩ : MethodName) jdk_29_method_69_code 2 (some .int) [] (⟨0, 0, 0, 0⟩ : Room) #[(.int 2), (.int 24)] h0 n0 (fun v h => v = some (.int 2) ∧ h0 = h) := by
  refine own_M.of (by decide +kernel) ?_
  intro p e s m below meth c S0 hx hby hml hown hnm hret hlk hZ A00
  have H : own_H p c _ := ⟨hx, hby⟩
  have A0 := A00.cast (f' := mkF m 0 #[.val (.int 2), .val (.int 24)] []) (by first | (simp [entryFrame, mkF, argsToLocals, Value.category, maxLocals]; done) | rfl)
  have A1 := A0.iN H dm17_0 rfl rfl |>.iN H dm17_1 rfl rfl |>.cn H dm17_2 rfl rfl |>.iN H dm17_5 rfl rfl |>.gt H dm17_6 rfl 10 (by decide) (by decide)
  exact A1.ret hx hlk hret (hb hby dm17_10) rfl (Or.inl ⟨rfl, by simp, _, rfl⟩) (by decide) (by decide) ⟨rfl, rfl⟩
theorem own_c66 (l : Launch) (Z : State) (a0 : Array Value) (hw : ∀ d ∈ tables_1, d.before a0 Z = true)  (h0 : Heap) (n0 : Nat) (Z0 : n0 ≤ h0.size)  :
    own_M l Z (⟨"java/lang/Math", "min", "(II)I"⟩ : MethodName) jdk_29_method_69_code 2 (some .int) [] (⟨0, 0, 0, 0⟩ : Room) #[(.int 3), (.int 24)] h0 n0 (fun v h => v = some (.int 3) ∧ h0 = h) := by
  refine own_M.of (by decide +kernel) ?_
  intro p e s m below meth c S0 hx hby hml hown hnm hret hlk hZ A00
  have H : own_H p c _ := ⟨hx, hby⟩
  have A0 := A00.cast (f' := mkF m 0 #[.val (.int 3), .val (.int 24)] []) (by first | (simp [entryFrame, mkF, argsToLocals, Value.category, maxLocals]; done) | rfl)
  have A1 := A0.iN H dm17_0 rfl rfl |>.iN H dm17_1 rfl rfl |>.cn H dm17_2 rfl rfl |>.iN H dm17_5 rfl rfl |>.gt H dm17_6 rfl 10 (by decide) (by decide)
  exact A1.ret hx hlk hret (hb hby dm17_10) rfl (Or.inl ⟨rfl, by simp, _, rfl⟩) (by decide) (by decide) ⟨rfl, rfl⟩
theorem own_c68 (l : Launch) (Z : State) (a0 : Array Value) (hw : ∀ d ∈ tables_1, d.before a0 Z = true)  (h0 : Heap) (n0 : Nat) (Z0 : n0 ≤ h0.size)  :
    own_M l Z (⟨"java/lang/Math", "min", "(II)I"⟩ : MethodName) jdk_29_method_69_code 2 (some .int) [] (⟨0, 0, 0, 0⟩ : Room) #[(.int 23), (.int 24)] h0 n0 (fun v h => v = some (.int 23) ∧ h0 = h) := by
  refine own_M.of (by decide +kernel) ?_
  intro p e s m below meth c S0 hx hby hml hown hnm hret hlk hZ A00
  have H : own_H p c _ := ⟨hx, hby⟩
  have A0 := A00.cast (f' := mkF m 0 #[.val (.int 23), .val (.int 24)] []) (by first | (simp [entryFrame, mkF, argsToLocals, Value.category, maxLocals]; done) | rfl)
  have A1 := A0.iN H dm17_0 rfl rfl |>.iN H dm17_1 rfl rfl |>.cn H dm17_2 rfl rfl |>.iN H dm17_5 rfl rfl |>.gt H dm17_6 rfl 10 (by decide) (by decide)
  exact A1.ret hx hlk hret (hb hby dm17_10) rfl (Or.inl ⟨rfl, by simp, _, rfl⟩) (by decide) (by decide) ⟨rfl, rfl⟩
theorem own_c75 (l : Launch) (Z : State) (a0 : Array Value) (hw : ∀ d ∈ tables_1, d.before a0 Z = true)  (h0 : Heap) (n0 : Nat) (Z0 : n0 ≤ h0.size)  :
    own_M l Z (⟨"java/lang/Math", "max", "(II)I"⟩ : MethodName) jdk_29_method_65_code 2 (some .int) [] (⟨0, 0, 0, 0⟩ : Room) #[(.int 1), (.int 19)] h0 n0 (fun v h => v = some (.int 19) ∧ h0 = h) := by
  refine own_M.of (by decide +kernel) ?_
  intro p e s m below meth c S0 hx hby hml hown hnm hret hlk hZ A00
  have H : own_H p c _ := ⟨hx, hby⟩
  have A0 := A00.cast (f' := mkF m 0 #[.val (.int 1), .val (.int 19)] []) (by first | (simp [entryFrame, mkF, argsToLocals, Value.category, maxLocals]; done) | rfl)
  have A1 := A0.iN H dm51_0 rfl rfl |>.iN H dm51_1 rfl rfl |>.cy H dm51_2 rfl rfl 9 (by decide) (by decide) |>.iN H dm51_9 rfl rfl
  exact A1.ret hx hlk hret (hb hby dm51_10) rfl (Or.inl ⟨rfl, by simp, _, rfl⟩) (by decide) (by decide) ⟨rfl, rfl⟩
theorem own_c76 (l : Launch) (Z : State) (a0 : Array Value) (hw : ∀ d ∈ tables_1, d.before a0 Z = true)  (h0 : Heap) (n0 : Nat) (Z0 : n0 ≤ h0.size)  :
    own_M l Z (⟨"jdk/internal/util/ArraysSupport", "newLength", "(III)I"⟩ : MethodName) jdk_48_method_27_code 4 (some .int) [] (⟨1, 0, 0, 14⟩ : Room) #[(.int 17), (.int 1), (.int 19)] h0 n0 (fun v h => v = some (.int 36) ∧ h0 = h) := by
  refine own_M.of pl46 ?_
  intro p e s m below meth c S0 hx hby hml hown hnm hret hlk hZ A00
  have H : own_H p c _ := ⟨hx, hby⟩
  have A0 := A00.cast (f' := mkF m 0 #[.val (.int 17), .val (.int 1), .val (.int 19), .unset] []) (by first | (simp [entryFrame, mkF, argsToLocals, Value.category, maxLocals]; done) | rfl)
  have A2 := A0.iN H dm50_0 rfl rfl |>.iN H dm50_1 rfl rfl |>.iN H dm50_2 rfl rfl
  obtain ⟨vA1, hA1, ⟨rfl, rfl⟩, A1⟩ := A2.cS (own_c75 l Z a0 hw h0 n0 Z0) H hZ hown dm50_3 (oW hw 242 rfl) (kS39 hw) hml rfl rfl [(.int 17)] rfl rfl
  have A3 := A1.cl |>.ad H dm50_6 rfl 36 rfl |>.iM H dm50_7 rfl #[.val (.int 17), .val (.int 1), .val (.int 19), .val (.int 36)] rfl |>.ic H dm50_8 rfl 0 rfl |>.iN H dm50_9 rfl rfl |>.cn H dm50_10 rfl rfl |>.iN H dm50_13 rfl rfl
  have A4 := A3.ldcI hx hZ hown (hb hby dm50_14) (oW hw 245 rfl)
  have A5 := A4.cn H dm50_16 rfl rfl |>.iN H dm50_19 rfl rfl
  exact A5.ret hx hlk hret (hb hby dm50_20) rfl (Or.inl ⟨rfl, by simp, _, rfl⟩) (by decide) (by decide) ⟨rfl, rfl⟩
theorem own_c77 (l : Launch) (Z : State) (a0 : Array Value) (hw : ∀ d ∈ tables_1, d.before a0 Z = true) (o0 o1 : Addr) (us_o1 : List Int32) (h0 : Heap) (n0 : Nat) (Z0 : n0 ≤ h0.size) (F_o0_coder : Fld Z h0 o0 "java/lang/AbstractStringBuilder" "coder" "B" (.int 0)) (F_o0_value : Fld Z h0 o0 "java/lang/AbstractStringBuilder" "value" "[B" (.ref o1)) (V_o1 : own_Ar Z h0 o1 .byte (List.map own_lo us_o1)) (hl_o1 : us_o1.length = 17) :
    own_M l Z (⟨"java/lang/AbstractStringBuilder", "newCapacity", "(I)I"⟩ : MethodName) jdk_68_method_10_code 6 (some .int) [] (⟨2, 0, 0, 29⟩ : Room) #[(.ref o0), (.int 18)] h0 n0 (fun v h => v = some (.int 36) ∧ h0 = h) := by
  refine own_M.of pl47 ?_
  intro p e s m below meth c S0 hx hby hml hown hnm hret hlk hZ A00
  have H : own_H p c _ := ⟨hx, hby⟩
  have A0 := A00.cast (f' := mkF m 0 #[.val (.ref o0), .val (.int 18), .unset, .unset, .unset, .unset] []) (by first | (simp [entryFrame, mkF, argsToLocals, Value.category, maxLocals]; done) | rfl)
  have A1 := A0.aN H dm49_0 rfl rfl rfl
  have A2 := A1.getF hx hZ hown (hb hby dm49_1) (oW hw 60 rfl) Via.refl F_o0_value
  have A3 : own_R p l e _ _ m _ below meth c S0 n0 h0 0 0 (mkF m 5 #[.val (.ref o0), .val (.int 18), .unset, .unset, .unset, .unset] [(.int (List.map own_lo us_o1).length.toInt32)]) := A2.len hx hZ (hb hby dm49_4) V_o1
  rw [List.length_map, hl_o1] at A3
  have A4 : own_R p l e _ _ m _ below meth c S0 n0 h0 0 0 (mkF m 5 #[.val (.ref o0), .val (.int 18), .unset, .unset, .unset, .unset] [(.int 17)]) := A3
  have A5 := A4.iM H dm49_5 rfl #[.val (.ref o0), .val (.int 18), .val (.int 17), .unset, .unset, .unset] rfl |>.iN H dm49_6 rfl rfl |>.aN H dm49_7 rfl rfl rfl
  have A6 := A5.getF hx hZ hown (hb hby dm49_8) (oW hw 58 rfl) Via.refl F_o0_coder
  have A7 := A6.lS H dm49_11 rfl 18 rfl |>.iM H dm49_12 rfl #[.val (.ref o0), .val (.int 18), .val (.int 17), .val (.int 18), .unset, .unset] rfl |>.iN H dm49_13 rfl rfl |>.iN H dm49_14 rfl rfl |>.sb H dm49_15 rfl 1 rfl |>.iS H dm49_16 rfl #[.val (.ref o0), .val (.int 18), .val (.int 17), .val (.int 18), .val (.int 1), .unset] rfl |>.iN H dm49_18 rfl rfl |>.iL H dm49_19 rfl rfl |>.iN H dm49_21 rfl rfl |>.ic H dm49_22 rfl 2 rfl |>.aN H dm49_23 rfl rfl rfl
  have A8 := A7.getF hx hZ hown (hb hby dm49_24) (oW hw 58 rfl) Via.refl F_o0_coder
  have A10 := A8.lS H dm49_27 rfl 2 rfl |>.ad H dm49_28 rfl 19 rfl
  obtain ⟨vA9, hA9, ⟨rfl, rfl⟩, A9⟩ := A10.cS (own_c76 l Z a0 hw h0 n0 Z0) H hZ hown dm49_29 (oW hw 238 rfl) (kS40 hw) hml rfl rfl [] rfl rfl
  have A11 := A9.cl |>.iS H dm49_32 rfl #[.val (.ref o0), .val (.int 18), .val (.int 17), .val (.int 18), .val (.int 1), .val (.int 36)] rfl |>.iL H dm49_34 rfl rfl
  have A12 := A11.ldcI hx hZ hown (hb hby dm49_36) (oW hw 246 rfl)
  have A13 := A12.cy H dm49_38 rfl rfl 51 (by decide) (by decide) |>.iL H dm49_51 rfl rfl |>.aN H dm49_53 rfl rfl rfl
  have A14 := A13.getF hx hZ hown (hb hby dm49_54) (oW hw 58 rfl) Via.refl F_o0_coder
  have A15 := A14.sr H dm49_57 rfl 36 rfl
  exact A15.ret hx hlk hret (hb hby dm49_58) rfl (Or.inl ⟨rfl, by simp, _, rfl⟩) (by decide) (by decide) ⟨rfl, rfl⟩
theorem own_c80 (l : Launch) (Z : State) (a0 : Array Value) (hw : ∀ d ∈ tables_1, d.before a0 Z = true)  (h0 : Heap) (n0 : Nat) (Z0 : n0 ≤ h0.size)  :
    own_M l Z (⟨"java/lang/Math", "min", "(II)I"⟩ : MethodName) jdk_29_method_69_code 2 (some .int) [] (⟨0, 0, 0, 0⟩ : Room) #[(.int 17), (.int 36)] h0 n0 (fun v h => v = some (.int 17) ∧ h0 = h) := by
  refine own_M.of (by decide +kernel) ?_
  intro p e s m below meth c S0 hx hby hml hown hnm hret hlk hZ A00
  have H : own_H p c _ := ⟨hx, hby⟩
  have A0 := A00.cast (f' := mkF m 0 #[.val (.int 17), .val (.int 36)] []) (by first | (simp [entryFrame, mkF, argsToLocals, Value.category, maxLocals]; done) | rfl)
  have A1 := A0.iN H dm17_0 rfl rfl |>.iN H dm17_1 rfl rfl |>.cn H dm17_2 rfl rfl |>.iN H dm17_5 rfl rfl |>.gt H dm17_6 rfl 10 (by decide) (by decide)
  exact A1.ret hx hlk hret (hb hby dm17_10) rfl (Or.inl ⟨rfl, by simp, _, rfl⟩) (by decide) (by decide) ⟨rfl, rfl⟩
theorem own_c81 (l : Launch) (Z : State) (a0 : Array Value) (hw : ∀ d ∈ tables_1, d.before a0 Z = true) (o0 : Addr) (us_o0 : List Int32) (h0 : Heap) (n0 : Nat) (Z0 : n0 ≤ h0.size) (V_o0 : own_Ar Z h0 o0 .byte (List.map own_lo us_o0)) (hl_o0 : us_o0.length = 17) :
    own_M l Z (⟨"java/util/Arrays", "copyOf", "([BI)[B"⟩ : MethodName) jdk_65_method_121_code 3 (some (.array .byte)) [] (⟨1, 1, 36, 18⟩ : Room) #[(.ref o0), (.int 36)] h0 n0 (fun v h => ∃ x1 : Addr, v = some (.ref x1) ∧ Keep h0 h [] ∧ h0.size ≤ x1 ∧ own_Ar Z h x1 .byte (List.map own_lo (List.take 0 ([0, 0, 0, 0, 0, 0, 0, 0, 0, 0, 0, 0, 0, 0, 0, 0, 0, 0, 0, 0, 0, 0, 0, 0, 0, 0, 0, 0, 0, 0, 0, 0, 0, 0, 0, 0] : List Int32) ++ List.take 17 (List.drop 0 us_o0) ++ List.drop (0 + 17) ([0, 0, 0, 0, 0, 0, 0, 0, 0, 0, 0, 0, 0, 0, 0, 0, 0, 0, 0, 0, 0, 0, 0, 0, 0, 0, 0, 0, 0, 0, 0, 0, 0, 0, 0, 0] : List Int32))) ∧ ((List.take 0 ([0, 0, 0, 0, 0, 0, 0, 0, 0, 0, 0, 0, 0, 0, 0, 0, 0, 0, 0, 0, 0, 0, 0, 0, 0, 0, 0, 0, 0, 0, 0, 0, 0, 0, 0, 0] : List Int32) ++ List.take 17 (List.drop 0 us_o0) ++ List.drop (0 + 17) ([0, 0, 0, 0, 0, 0, 0, 0, 0, 0, 0, 0, 0, 0, 0, 0, 0, 0, 0, 0, 0, 0, 0, 0, 0, 0, 0, 0, 0, 0, 0, 0, 0, 0, 0, 0] : List Int32)) : List Int32).length = 36) := by
  refine own_M.of pl48 ?_
  intro p e s m below meth c S0 hx hby hml hown hnm hret hlk hZ A00
  have H : own_H p c _ := ⟨hx, hby⟩
  have A0 := A00.cast (f' := mkF m 0 #[.val (.ref o0), .val (.int 36), .unset] []) (by first | (simp [entryFrame, mkF, argsToLocals, Value.category, maxLocals]; done) | rfl)
  have KK : Keep h0 h0 ([] : List Addr) := Keep.refl _ _
  have A2 := A0.iN H dm52_0 rfl rfl |>.aN H dm52_1 rfl rfl rfl
  have A1 : own_R p l e _ _ m _ below meth c S0 n0 h0 0 0 (mkF m 3 #[.val (.ref o0), .val (.int 36), .unset] [(.int (List.map own_lo us_o0).length.toInt32), (.int 36)]) := A2.len hx hZ (hb hby dm52_2) V_o0
  rw [List.length_map, hl_o0] at A1
  have A3 : own_R p l e _ _ m _ below meth c S0 n0 h0 0 0 (mkF m 3 #[.val (.ref o0), .val (.int 36), .unset] [(.int 17), (.int 36)]) := A1
  have A7 := A3.cy H dm52_3 rfl rfl 14 (by decide) (by decide) |>.iN H dm52_14 rfl rfl
  obtain ⟨h4, E5, V_x1, A6⟩ := A7.newP hx hZ (hb hby dm52_15) (oW hw 20 rfl) (by decide) (cap := 36) (by decide) (by decide) (by decide) (by decide)
  obtain ⟨x1, gx1⟩ : ∃ z, z = h0.size := ⟨_, rfl⟩
  rw [← gx1] at V_x1 A6
  have g_x1 : n0 ≤ x1 := by rw [gx1]; exact Z0
  have sz_x1 : h0.size ≤ x1 := by rw [gx1]; exact KK.1
  have V_o0 := V_o0.ext E5
  have Z0 := Nat.le_trans Z0 E5.1
  have KK : Keep h0 h4 [] := KK.ext E5
  have V_x1 : own_Ar Z h4 x1 .byte [(.int 0), (.int 0), (.int 0), (.int 0), (.int 0), (.int 0), (.int 0), (.int 0), (.int 0), (.int 0), (.int 0), (.int 0), (.int 0), (.int 0), (.int 0), (.int 0), (.int 0), (.int 0), (.int 0), (.int 0), (.int 0), (.int 0), (.int 0), (.int 0), (.int 0), (.int 0), (.int 0), (.int 0), (.int 0), (.int 0), (.int 0), (.int 0), (.int 0), (.int 0), (.int 0), (.int 0)] := V_x1
  have V_x1 : own_Ar Z h4 x1 .byte (List.map own_lo [0, 0, 0, 0, 0, 0, 0, 0, 0, 0, 0, 0, 0, 0, 0, 0, 0, 0, 0, 0, 0, 0, 0, 0, 0, 0, 0, 0, 0, 0, 0, 0, 0, 0, 0, 0]) := V_x1
  have hl_x1 : ([0, 0, 0, 0, 0, 0, 0, 0, 0, 0, 0, 0, 0, 0, 0, 0, 0, 0, 0, 0, 0, 0, 0, 0, 0, 0, 0, 0, 0, 0, 0, 0, 0, 0, 0, 0] : List Int32).length = 36 := rfl
  have A9 := A6.aM H dm52_17 rfl rfl #[.val (.ref o0), .val (.int 36), .val (.ref x1)] rfl |>.aN H dm52_18 rfl rfl rfl |>.ic H dm52_19 rfl 0 rfl |>.aN H dm52_20 rfl rfl rfl |>.ic H dm52_21 rfl 0 rfl |>.aN H dm52_22 rfl rfl rfl
  have A8 : own_R p l e _ _ m _ below meth c S0 n0 h4 1 36 (mkF m 24 #[.val (.ref o0), .val (.int 36), .val (.ref x1)] [(.int (List.map own_lo us_o0).length.toInt32), (.int 0), (.ref x1), (.int 0), (.ref o0)]) := A9.len hx hZ (hb hby dm52_23) V_o0
  rw [List.length_map, hl_o0] at A8
  have A10 : own_R p l e _ _ m _ below meth c S0 n0 h4 1 36 (mkF m 24 #[.val (.ref o0), .val (.int 36), .val (.ref x1)] [(.int 17), (.int 0), (.ref x1), (.int 0), (.ref o0)]) := A8
  have A12 := A10.iN H dm52_24 rfl rfl
  obtain ⟨vA11, hA11, ⟨rfl, rfl⟩, A11⟩ := A12.cS (own_c80 l Z a0 hw h4 n0 Z0) H hZ hown dm52_25 (oW hw 162 rfl) (kS26 hw) hml rfl rfl [(.int 0), (.ref x1), (.int 0), (.ref o0)] rfl rfl
  have A14 := A11.cl
  obtain ⟨hA13, KA13, P_V_x1, A13⟩ := A14.cpL (S := 0) (D := 0) (N := 17) hx hZ hown (hb hby dm52_28) (oW hw 163 rfl) (oW hw 102 rfl) (oW hw 100 rfl) (oW hw 101 rfl) V_o0 V_x1 (z1 := (17 : Int32)) (z2 := (36 : Int32)) (by rw [hl_o0]; rfl) (by rw [hl_x1]; rfl) (by decide) (by decide) (by decide) (by decide) (by decide) rfl rfl rfl (by rw [hl_o0]; decide) (by rw [hl_x1]; decide) g_x1 (by rw [hml]; rfl) (W := 0) (Nat.le_of_eq rfl) (by decide) (by decide)
  have hl_x1 : ((List.take 0 ([0, 0, 0, 0, 0, 0, 0, 0, 0, 0, 0, 0, 0, 0, 0, 0, 0, 0, 0, 0, 0, 0, 0, 0, 0, 0, 0, 0, 0, 0, 0, 0, 0, 0, 0, 0] : List Int32) ++ List.take 17 (List.drop 0 us_o0) ++ List.drop (0 + 17) ([0, 0, 0, 0, 0, 0, 0, 0, 0, 0, 0, 0, 0, 0, 0, 0, 0, 0, 0, 0, 0, 0, 0, 0, 0, 0, 0, 0, 0, 0, 0, 0, 0, 0, 0, 0] : List Int32)) : List Int32).length = 36 := by simp [hl_o0, hl_x1]
  have KK : Keep h0 hA13 [] := KK.trans KA13 (allS (P := fun x => x ∈ ([] : List Addr) ∨ h0.size ≤ x) (Or.inr sz_x1) all0)
  have V_x1 : own_Ar Z hA13 x1 .byte (List.map own_lo (List.take 0 ([0, 0, 0, 0, 0, 0, 0, 0, 0, 0, 0, 0, 0, 0, 0, 0, 0, 0, 0, 0, 0, 0, 0, 0, 0, 0, 0, 0, 0, 0, 0, 0, 0, 0, 0, 0] : List Int32) ++ List.take 17 (List.drop 0 us_o0) ++ List.drop (0 + 17) ([0, 0, 0, 0, 0, 0, 0, 0, 0, 0, 0, 0, 0, 0, 0, 0, 0, 0, 0, 0, 0, 0, 0, 0, 0, 0, 0, 0, 0, 0, 0, 0, 0, 0, 0, 0] : List Int32))) := P_V_x1
  have A15 := A13.aN H dm52_31 rfl rfl rfl
  exact A15.ret hx hlk hret (hb hby dm52_32) rfl (Or.inr (Or.inr (Or.inr (Or.inr ⟨rfl, rfl, rfl⟩)))) (by decide) (by decide) ⟨x1, rfl, KK, sz_x1, V_x1, hl_x1⟩
theorem own_c82 (l : Launch) (Z : State) (a0 : Array Value) (hw : ∀ d ∈ tables_1, d.before a0 Z = true) (o0 o1 : Addr) (us_o1 : List Int32) (h0 : Heap) (n0 : Nat) (Z0 : n0 ≤ h0.size) (E_o0 : Exa Z h0 o0 "java/lang/StringBuilder") (F_o0_coder : Fld Z h0 o0 "java/lang/AbstractStringBuilder" "coder" "B" (.int 0)) (F_o0_value : Fld Z h0 o0 "java/lang/AbstractStringBuilder" "value" "[B" (.ref o1)) (F_o0_count : Fld Z h0 o0 "java/lang/AbstractStringBuilder" "count" "I" (.int 17)) (V_o1 : own_Ar Z h0 o1 .byte (List.map own_lo us_o1)) (hl_o1 : us_o1.length = 17) (ne_o1_o0 : o1 ≠ o0) (g_o0 : n0 ≤ o0) :
    own_M l Z (⟨"java/lang/AbstractStringBuilder", "ensureCapacityInternal", "(I)V"⟩ : MethodName) jdk_68_method_9_code 3 none [] (⟨3, 1, 36, 48⟩ : Room) #[(.ref o0), (.int 18)] h0 n0 (fun v h => ∃ x1 : Addr, v = none ∧ Keep h0 h [o0] ∧ h0.size ≤ x1 ∧ Fld Z h o0 "java/lang/AbstractStringBuilder" "coder" "B" (.int 0) ∧ Fld Z h o0 "java/lang/AbstractStringBuilder" "value" "[B" (.ref x1) ∧ Fld Z h o0 "java/lang/AbstractStringBuilder" "count" "I" (.int 17) ∧ own_Ar Z h x1 .byte (List.map own_lo (List.take 0 ([0, 0, 0, 0, 0, 0, 0, 0, 0, 0, 0, 0, 0, 0, 0, 0, 0, 0, 0, 0, 0, 0, 0, 0, 0, 0, 0, 0, 0, 0, 0, 0, 0, 0, 0, 0] : List Int32) ++ List.take 17 (List.drop 0 us_o1) ++ List.drop (0 + 17) ([0, 0, 0, 0, 0, 0, 0, 0, 0, 0, 0, 0, 0, 0, 0, 0, 0, 0, 0, 0, 0, 0, 0, 0, 0, 0, 0, 0, 0, 0, 0, 0, 0, 0, 0, 0] : List Int32))) ∧ ((List.take 0 ([0, 0, 0, 0, 0, 0, 0, 0, 0, 0, 0, 0, 0, 0, 0, 0, 0, 0, 0, 0, 0, 0, 0, 0, 0, 0, 0, 0, 0, 0, 0, 0, 0, 0, 0, 0] : List Int32) ++ List.take 17 (List.drop 0 us_o1) ++ List.drop (0 + 17) ([0, 0, 0, 0, 0, 0, 0, 0, 0, 0, 0, 0, 0, 0, 0, 0, 0, 0, 0, 0, 0, 0, 0, 0, 0, 0, 0, 0, 0, 0, 0, 0, 0, 0, 0, 0] : List Int32)) : List Int32).length = 36) := by
  refine own_M.of pl22 ?_
  intro p e s m below meth c S0 hx hby hml hown hnm hret hlk hZ A00
  have H : own_H p c _ := ⟨hx, hby⟩
  have A0 := A00.cast (f' := mkF m 0 #[.val (.ref o0), .val (.int 18), .unset] []) (by first | (simp [entryFrame, mkF, argsToLocals, Value.category, maxLocals]; done) | rfl)
  have KK : Keep h0 h0 ([o0] : List Addr) := Keep.refl _ _
  have A1 := A0.aN H dm13_0 rfl rfl rfl
  have A2 := A1.getF hx hZ hown (hb hby dm13_1) (oW hw 60 rfl) Via.refl F_o0_value
  have A3 : own_R p l e _ _ m _ below meth c S0 n0 h0 0 0 (mkF m 5 #[.val (.ref o0), .val (.int 18), .unset] [(.int (List.map own_lo us_o1).length.toInt32)]) := A2.len hx hZ (hb hby dm13_4) V_o1
  rw [List.length_map, hl_o1] at A3
  have A4 : own_R p l e _ _ m _ below meth c S0 n0 h0 0 0 (mkF m 5 #[.val (.ref o0), .val (.int 18), .unset] [(.int 17)]) := A3
  have A5 := A4.aN H dm13_5 rfl rfl rfl
  have A6 := A5.getF hx hZ hown (hb hby dm13_6) (oW hw 58 rfl) Via.refl F_o0_coder
  have A7 := A6.sr H dm13_9 rfl 17 rfl |>.iM H dm13_10 rfl #[.val (.ref o0), .val (.int 18), .val (.int 17)] rfl |>.iN H dm13_11 rfl rfl |>.iN H dm13_12 rfl rfl |>.sb H dm13_13 rfl 1 rfl |>.fn H dm13_14 rfl rfl |>.aN H dm13_17 rfl rfl rfl |>.aN H dm13_18 rfl rfl rfl
  have A8 := A7.getF hx hZ hown (hb hby dm13_19) (oW hw 60 rfl) Via.refl F_o0_value
  have A10 := A8.aN H dm13_22 rfl rfl rfl |>.iN H dm13_23 rfl rfl
  obtain ⟨vA9, hA9, ⟨rfl, rfl⟩, A9⟩ := A10.cV (own_c77 l Z a0 hw o0 o1 _ h0 n0 Z0 F_o0_coder F_o0_value V_o1 hl_o1) E_o0 H hZ hown dm13_24 (oW hw 233 rfl) (kV41 hw) hml rfl rfl [(.ref o1), (.ref o0)] rfl rfl
  have A11 := A9.cl |>.aN H dm13_27 rfl rfl rfl
  have A12 := A11.getF hx hZ hown (hb hby dm13_28) (oW hw 58 rfl) Via.refl F_o0_coder
  have A14 := A12.lS H dm13_31 rfl 36 rfl
  obtain ⟨vA13, hA13, ⟨x1, rfl, KA13, zz_x1, P_V_x1, hl_x1⟩, A13⟩ := A14.cS (own_c81 l Z a0 hw o1 _ h0 n0 Z0 V_o1 hl_o1) H hZ hown dm13_32 (oW hw 247 rfl) (kS42 hw) hml rfl rfl [(.ref o0)] rfl rfl
  have ne_o0_x1 : o0 ≠ x1 := Nat.ne_of_lt (Nat.lt_of_lt_of_le E_o0.lt zz_x1)
  have ne_x1_o0 := Ne.symm ne_o0_x1
  have sz_x1 : h0.size ≤ x1 := Nat.le_trans KK.1 zz_x1
  have E_o0 := E_o0.keep KA13
  have F_o0_coder := F_o0_coder.keep KA13 nin0
  have F_o0_value := F_o0_value.keep KA13 nin0
  have F_o0_count := F_o0_count.keep KA13 nin0
  have KK : Keep h0 hA13 [o0] := KK.trans KA13 all0
  have V_x1 : own_Ar Z hA13 x1 .byte (List.map own_lo (List.take 0 ([0, 0, 0, 0, 0, 0, 0, 0, 0, 0, 0, 0, 0, 0, 0, 0, 0, 0, 0, 0, 0, 0, 0, 0, 0, 0, 0, 0, 0, 0, 0, 0, 0, 0, 0, 0] : List Int32) ++ List.take 17 (List.drop 0 us_o1) ++ List.drop (0 + 17) ([0, 0, 0, 0, 0, 0, 0, 0, 0, 0, 0, 0, 0, 0, 0, 0, 0, 0, 0, 0, 0, 0, 0, 0, 0, 0, 0, 0, 0, 0, 0, 0, 0, 0, 0, 0] : List Int32))) := P_V_x1
  have A18 := A13.cl
  obtain ⟨h15, W16, A17⟩ := A18.putF hx hZ hown (hb hby dm13_35) (oW hw 60 rfl) F_o0_value E_o0 (Or.inl (oW hw 61 rfl)) (oW hw 32 rfl) (ty := (.array .byte)) (by decide) rfl rfl g_o0
  have F_o0_coder := F_o0_coder.other W16 (Or.inr (slot_ne (Or.inl (oW hw 59 rfl)) (Or.inl (oW hw 61 rfl)) (by decide) (t := .byte) (t' := (.array .byte)) (by decide) (by decide)))
  have F_o0_value : Fld Z h15 o0 "java/lang/AbstractStringBuilder" "value" "[B" (.ref x1) := F_o0_value.same W16
  have F_o0_count := F_o0_count.other W16 (Or.inr (slot_ne (Or.inl (oW hw 77 rfl)) (Or.inl (oW hw 61 rfl)) (by decide) (t := .int) (t' := (.array .byte)) (by decide) (by decide)))
  have V_x1 := V_x1.other W16 ne_x1_o0
  have KK : Keep h0 h15 [o0] := KK.wr W16 (Or.inl (by simp))
  exact A17.retV hx hlk hret (hb hby dm13_38) (by decide) (by decide) ⟨x1, rfl, KK, sz_x1, F_o0_coder, F_o0_value, F_o0_count, V_x1, hl_x1⟩
theorem own_c83 (l : Launch) (Z : State) (a0 : Array Value) (hw : ∀ d ∈ tables_1, d.before a0 Z = true) (o0 o1 : Addr) (j0 : Int32) (us_o1 : List Int32) (cs : Int32) (h0 : Heap) (n0 : Nat) (Z0 : n0 ≤ h0.size) (E_o0 : Exa Z h0 o0 "java/lang/StringBuilder") (F_o0_coder : Fld Z h0 o0 "java/lang/AbstractStringBuilder" "coder" "B" (.int 0)) (F_o0_value : Fld Z h0 o0 "java/lang/AbstractStringBuilder" "value" "[B" (.ref o1)) (F_o0_count : Fld Z h0 o0 "java/lang/AbstractStringBuilder" "count" "I" (.int 17)) (V_o1 : own_Ar Z h0 o1 .byte (List.map own_lo us_o1)) (S_cs : Sta Z h0 "java/lang/String" "COMPACT_STRINGS" "Z" (.int cs)) (hl_o1 : us_o1.length = 17) (hcs : ¬ (cs = (0 : Int32))) (hj1 : ¬ ((255 : Int32) < j0)) (ne_o1_o0 : o1 ≠ o0) (g_o0 : n0 ≤ o0) :
    own_M l Z (⟨"java/lang/AbstractStringBuilder", "append", "(C)Ljava/lang/AbstractStringBuilder;"⟩ : MethodName) jdk_68_method_31_code 2 (some (.object "java/lang/AbstractStringBuilder")) [] (⟨4, 1, 36, 62⟩ : Room) #[(.ref o0), (.int j0)] h0 n0 (fun v h => ∃ x1 : Addr, v = some (.ref o0) ∧ Keep h0 h [o0] ∧ h0.size ≤ x1 ∧ Fld Z h o0 "java/lang/AbstractStringBuilder" "coder" "B" (.int 0) ∧ Fld Z h o0 "java/lang/AbstractStringBuilder" "value" "[B" (.ref x1) ∧ Fld Z h o0 "java/lang/AbstractStringBuilder" "count" "I" (.int 18) ∧ own_Ar Z h x1 .byte (List.map own_lo (List.set (List.take 0 ([0, 0, 0, 0, 0, 0, 0, 0, 0, 0, 0, 0, 0, 0, 0, 0, 0, 0, 0, 0, 0, 0, 0, 0, 0, 0, 0, 0, 0, 0, 0, 0, 0, 0, 0, 0] : List Int32) ++ List.take 17 (List.drop 0 us_o1) ++ List.drop (0 + 17) ([0, 0, 0, 0, 0, 0, 0, 0, 0, 0, 0, 0, 0, 0, 0, 0, 0, 0, 0, 0, 0, 0, 0, 0, 0, 0, 0, 0, 0, 0, 0, 0, 0, 0, 0, 0] : List Int32)) 17 j0)) ∧ ((List.set (List.take 0 ([0, 0, 0, 0, 0, 0, 0, 0, 0, 0, 0, 0, 0, 0, 0, 0, 0, 0, 0, 0, 0, 0, 0, 0, 0, 0, 0, 0, 0, 0, 0, 0, 0, 0, 0, 0] : List Int32) ++ List.take 17 (List.drop 0 us_o1) ++ List.drop (0 + 17) ([0, 0, 0, 0, 0, 0, 0, 0, 0, 0, 0, 0, 0, 0, 0, 0, 0, 0, 0, 0, 0, 0, 0, 0, 0, 0, 0, 0, 0, 0, 0, 0, 0, 0, 0, 0] : List Int32)) 17 j0) : List Int32).length = 36) := by
  refine own_M.of pl34 ?_
  intro p e s m below meth c S0 hx hby hml hown hnm hret hlk hZ A00
  have H : own_H p c _ := ⟨hx, hby⟩
  have A0 := A00.cast (f' := mkF m 0 #[.val (.ref o0), .val (.int j0)] []) (by first | (simp [entryFrame, mkF, argsToLocals, Value.category, maxLocals]; done) | rfl)
  have KK : Keep h0 h0 ([o0] : List Addr) := Keep.refl _ _
  have A1 := A0.aN H dm19_0 rfl rfl rfl |>.aN H dm19_1 rfl rfl rfl
  have A2 := A1.getF hx hZ hown (hb hby dm19_2) (oW hw 76 rfl) Via.refl F_o0_count
  have A4 := A2.ic H dm19_5 rfl 1 rfl |>.ad H dm19_6 rfl 18 rfl
  obtain ⟨vA3, hA3, ⟨x1, rfl, KA3, zz_x1, P_F_o0_coder, P_F_o0_value, P_F_o0_count, P_V_x1, hl_x1⟩, A3⟩ := A4.cV (own_c82 l Z a0 hw o0 o1 _ h0 n0 Z0 E_o0 F_o0_coder F_o0_value F_o0_count V_o1 hl_o1 ne_o1_o0 g_o0) E_o0 H hZ hown dm19_7 (oW hw 78 rfl) (kV18 hw) hml rfl rfl [] rfl rfl
  have ne_o0_x1 : o0 ≠ x1 := Nat.ne_of_lt (Nat.lt_of_lt_of_le E_o0.lt zz_x1)
  have ne_x1_o0 := Ne.symm ne_o0_x1
  have g_x1 : n0 ≤ x1 := Nat.le_trans Z0 zz_x1
  have sz_x1 : h0.size ≤ x1 := Nat.le_trans KK.1 zz_x1
  have S_cs := own_staK S_cs KA3 (allS (P := fun x => ∀ cell : Cell, h0[x]? = some cell → cell.vm.isStatics = false) E_o0.nostat all0)
  have E_o0 := E_o0.keep KA3
  have Z0 := Nat.le_trans Z0 KA3.1
  have KK : Keep h0 hA3 [o0] := KK.trans KA3 (allS (P := fun x => x ∈ ([o0] : List Addr) ∨ h0.size ≤ x) (Or.inl (by simp)) all0)
  have F_o0_coder : Fld Z hA3 o0 "java/lang/AbstractStringBuilder" "coder" "B" (.int 0) := P_F_o0_coder
  have F_o0_value : Fld Z hA3 o0 "java/lang/AbstractStringBuilder" "value" "[B" (.ref x1) := P_F_o0_value
  have F_o0_count : Fld Z hA3 o0 "java/lang/AbstractStringBuilder" "count" "I" (.int 17) := P_F_o0_count
  have V_x1 : own_Ar Z hA3 x1 .byte (List.map own_lo (List.take 0 ([0, 0, 0, 0, 0, 0, 0, 0, 0, 0, 0, 0, 0, 0, 0, 0, 0, 0, 0, 0, 0, 0, 0, 0, 0, 0, 0, 0, 0, 0, 0, 0, 0, 0, 0, 0] : List Int32) ++ List.take 17 (List.drop 0 us_o1) ++ List.drop (0 + 17) ([0, 0, 0, 0, 0, 0, 0, 0, 0, 0, 0, 0, 0, 0, 0, 0, 0, 0, 0, 0, 0, 0, 0, 0, 0, 0, 0, 0, 0, 0, 0, 0, 0, 0, 0, 0] : List Int32))) := P_V_x1
  have A6 := A3.c0 |>.aN H dm19_10 rfl rfl rfl
  obtain ⟨vA5, hA5, ⟨rfl, rfl⟩, A5⟩ := A6.cV (own_c30 l Z a0 hw o0 cs hA3 n0 Z0 F_o0_coder S_cs hcs) E_o0 H hZ hown dm19_11 (oW hw 117 rfl) (kV27 hw) hml rfl rfl [] rfl rfl
  have A8 := A5.cl |>.fn H dm19_14 rfl rfl |>.iN H dm19_17 rfl rfl
  obtain ⟨vA7, hA7, ⟨rfl, rfl⟩, A7⟩ := A8.cS (own_c58 l Z a0 hw j0 hA3 n0 Z0 hj1) H hZ hown dm19_18 (oW hw 122 rfl) (kS28 hw) hml rfl rfl [] rfl rfl
  have A9 := A7.cl |>.fn H dm19_21 rfl rfl |>.aN H dm19_24 rfl rfl rfl
  have A10 := A9.getF hx hZ hown (hb hby dm19_25) (oW hw 60 rfl) Via.refl F_o0_value
  have A11 := A10.aN H dm19_28 rfl rfl rfl |>.du H dm19_29 rfl rfl
  have A12 := A11.getF hx hZ hown (hb hby dm19_30) (oW hw 76 rfl) Via.refl F_o0_count
  have A16 := A12.dx H dm19_33 rfl rfl rfl |>.ic H dm19_34 rfl 1 rfl |>.ad H dm19_35 rfl 18 rfl
  obtain ⟨h13, W14, A15⟩ := A16.putF hx hZ hown (hb hby dm19_36) (oW hw 76 rfl) F_o0_count E_o0 (Or.inl (oW hw 77 rfl)) (oW hw 32 rfl) (ty := .int) (by decide) rfl rfl g_o0
  have F_o0_coder := F_o0_coder.other W14 (Or.inr (slot_ne (Or.inl (oW hw 59 rfl)) (Or.inl (oW hw 77 rfl)) (by decide) (t := .byte) (t' := .int) (by decide) (by decide)))
  have F_o0_value := F_o0_value.other W14 (Or.inr (slot_ne (Or.inl (oW hw 61 rfl)) (Or.inl (oW hw 77 rfl)) (by decide) (t := (.array .byte)) (t' := .int) (by decide) (by decide)))
  have F_o0_count : Fld Z h13 o0 "java/lang/AbstractStringBuilder" "count" "I" (.int 18) := F_o0_count.same W14
  have V_x1 := V_x1.other W14 ne_x1_o0
  have KK : Keep h0 h13 [o0] := KK.wr W14 (Or.inl (by simp))
  have A20 := A15.iN H dm19_39 rfl rfl |>.ib H dm19_40 rfl _ rfl
  obtain ⟨h17, W18, A19⟩ := A20.stB hx hZ (hb hby dm19_41) V_x1 (by decide) (by rw [List.length_map, hl_x1]; decide) g_x1
  have F_o0_coder := F_o0_coder.other W18 (Or.inl ne_o0_x1)
  have F_o0_value := F_o0_value.other W18 (Or.inl ne_o0_x1)
  have F_o0_count := F_o0_count.other W18 (Or.inl ne_o0_x1)
  have V_x1 : own_Ar Z h17 x1 .byte (List.map own_lo (List.set (List.take 0 ([0, 0, 0, 0, 0, 0, 0, 0, 0, 0, 0, 0, 0, 0, 0, 0, 0, 0, 0, 0, 0, 0, 0, 0, 0, 0, 0, 0, 0, 0, 0, 0, 0, 0, 0, 0] : List Int32) ++ List.take 17 (List.drop 0 us_o1) ++ List.drop (0 + 17) ([0, 0, 0, 0, 0, 0, 0, 0, 0, 0, 0, 0, 0, 0, 0, 0, 0, 0, 0, 0, 0, 0, 0, 0, 0, 0, 0, 0, 0, 0, 0, 0, 0, 0, 0, 0] : List Int32)) 17 j0)) := by
    have q := V_x1.same W18
    rw [own_nb] at q
    rw [← own_setM]
    exact q
  have hl_x1 : ((List.set (List.take 0 ([0, 0, 0, 0, 0, 0, 0, 0, 0, 0, 0, 0, 0, 0, 0, 0, 0, 0, 0, 0, 0, 0, 0, 0, 0, 0, 0, 0, 0, 0, 0, 0, 0, 0, 0, 0] : List Int32) ++ List.take 17 (List.drop 0 us_o1) ++ List.drop (0 + 17) ([0, 0, 0, 0, 0, 0, 0, 0, 0, 0, 0, 0, 0, 0, 0, 0, 0, 0, 0, 0, 0, 0, 0, 0, 0, 0, 0, 0, 0, 0, 0, 0, 0, 0, 0, 0] : List Int32)) 17 j0) : List Int32).length = 36 := by rw [List.length_set]; exact hl_x1
  have V_x1 : own_Ar Z h17 x1 .byte (List.map own_lo (List.set (List.take 0 ([0, 0, 0, 0, 0, 0, 0, 0, 0, 0, 0, 0, 0, 0, 0, 0, 0, 0, 0, 0, 0, 0, 0, 0, 0, 0, 0, 0, 0, 0, 0, 0, 0, 0, 0, 0] : List Int32) ++ List.take 17 (List.drop 0 us_o1) ++ List.drop (0 + 17) ([0, 0, 0, 0, 0, 0, 0, 0, 0, 0, 0, 0, 0, 0, 0, 0, 0, 0, 0, 0, 0, 0, 0, 0, 0, 0, 0, 0, 0, 0, 0, 0, 0, 0, 0, 0] : List Int32)) 17 j0)) := V_x1
  have KK : Keep h0 h17 [o0] := KK.wr W18 (Or.inr sz_x1)
  have A21 := A19.gt H dm19_42 rfl 75 (by decide) (by decide) |>.aN H dm19_75 rfl rfl rfl
  exact A21.ret hx hlk hret (hb hby dm19_76) rfl (Or.inr (Or.inr (Or.inr (Or.inr ⟨rfl, rfl, rfl⟩)))) (by decide) (by decide) ⟨x1, rfl, KK, sz_x1, F_o0_coder, F_o0_value, F_o0_count, V_x1, hl_x1⟩
theorem own_c84 (l : Launch) (Z : State) (a0 : Array Value) (hw : ∀ d ∈ tables_1, d.before a0 Z = true) (o0 o1 : Addr) (j0 : Int32) (us_o1 : List Int32) (cs : Int32) (h0 : Heap) (n0 : Nat) (Z0 : n0 ≤ h0.size) (E_o0 : Exa Z h0 o0 "java/lang/StringBuilder") (F_o0_coder : Fld Z h0 o0 "java/lang/AbstractStringBuilder" "coder" "B" (.int 0)) (F_o0_value : Fld Z h0 o0 "java/lang/AbstractStringBuilder" "value" "[B" (.ref o1)) (F_o0_count : Fld Z h0 o0 "java/lang/AbstractStringBuilder" "count" "I" (.int 17)) (V_o1 : own_Ar Z h0 o1 .byte (List.map own_lo us_o1)) (S_cs : Sta Z h0 "java/lang/String" "COMPACT_STRINGS" "Z" (.int cs)) (hl_o1 : us_o1.length = 17) (hcs : ¬ (cs = (0 : Int32))) (hj1 : ¬ ((255 : Int32) < j0)) (ne_o1_o0 : o1 ≠ o0) (g_o0 : n0 ≤ o0) :
    own_M l Z (⟨"java/lang/StringBuilder", "append", "(C)Ljava/lang/StringBuilder;"⟩ : MethodName) jdk_67_method_14_code 2 (some (.object "java/lang/StringBuilder")) [] (⟨5, 1, 36, 75⟩ : Room) #[(.ref o0), (.int j0)] h0 n0 (fun v h => ∃ x1 : Addr, v = some (.ref o0) ∧ Keep h0 h [o0] ∧ h0.size ≤ x1 ∧ Fld Z h o0 "java/lang/AbstractStringBuilder" "coder" "B" (.int 0) ∧ Fld Z h o0 "java/lang/AbstractStringBuilder" "value" "[B" (.ref x1) ∧ Fld Z h o0 "java/lang/AbstractStringBuilder" "count" "I" (.int 18) ∧ own_Ar Z h x1 .byte (List.map own_lo (List.set (List.take 0 ([0, 0, 0, 0, 0, 0, 0, 0, 0, 0, 0, 0, 0, 0, 0, 0, 0, 0, 0, 0, 0, 0, 0, 0, 0, 0, 0, 0, 0, 0, 0, 0, 0, 0, 0, 0] : List Int32) ++ List.take 17 (List.drop 0 us_o1) ++ List.drop (0 + 17) ([0, 0, 0, 0, 0, 0, 0, 0, 0, 0, 0, 0, 0, 0, 0, 0, 0, 0, 0, 0, 0, 0, 0, 0, 0, 0, 0, 0, 0, 0, 0, 0, 0, 0, 0, 0] : List Int32)) 17 j0)) ∧ ((List.set (List.take 0 ([0, 0, 0, 0, 0, 0, 0, 0, 0, 0, 0, 0, 0, 0, 0, 0, 0, 0, 0, 0, 0, 0, 0, 0, 0, 0, 0, 0, 0, 0, 0, 0, 0, 0, 0, 0] : List Int32) ++ List.take 17 (List.drop 0 us_o1) ++ List.drop (0 + 17) ([0, 0, 0, 0, 0, 0, 0, 0, 0, 0, 0, 0, 0, 0, 0, 0, 0, 0, 0, 0, 0, 0, 0, 0, 0, 0, 0, 0, 0, 0, 0, 0, 0, 0, 0, 0] : List Int32)) 17 j0) : List Int32).length = 36) := by
  refine own_M.of pl35 ?_
  intro p e s m below meth c S0 hx hby hml hown hnm hret hlk hZ A00
  have H : own_H p c _ := ⟨hx, hby⟩
  have A0 := A00.cast (f' := mkF m 0 #[.val (.ref o0), .val (.int j0)] []) (by first | (simp [entryFrame, mkF, argsToLocals, Value.category, maxLocals]; done) | rfl)
  have KK : Keep h0 h0 ([o0] : List Addr) := Keep.refl _ _
  have A2 := A0.aN H dm18_0 rfl rfl rfl |>.iN H dm18_1 rfl rfl
  obtain ⟨vA1, hA1, ⟨x1, rfl, KA1, zz_x1, P_F_o0_coder, P_F_o0_value, P_F_o0_count, P_V_x1, hl_x1⟩, A1⟩ := A2.callU (b := o0) (own_c83 l Z a0 hw o0 o1 j0 _ cs h0 n0 Z0 E_o0 F_o0_coder F_o0_value F_o0_count V_o1 S_cs hl_o1 hcs hj1 ne_o1_o0 g_o0) E_o0 hx hZ hown (hb hby dm18_2) (by decide) (oW hw 113 rfl) (own_same (y' := (⟨"java/lang/AbstractStringBuilder", "ensureCapacityInternal", "(I)V"⟩ : MethodName)) (oW hw 81 rfl) rfl (oW hw 114 rfl) ⟨by decide, by decide⟩) (oW hw 114 rfl) (oW hw 74 rfl) (oW hw 116 rfl) (oW hw 42 rfl) (lenOf pd__28C_29Ljava_2flang_2fAbstractStringBuilder_3b rfl) (argsL := [(.int j0)]) (rest := []) rfl rfl (by rw [hml]; rfl) (W := 0) (Nat.le_of_eq rfl) (by decide) (by decide) (by decide) (by decide)
  have sz_x1 : h0.size ≤ x1 := Nat.le_trans KK.1 zz_x1
  have KK : Keep h0 hA1 [o0] := KK.trans KA1 (allS (P := fun x => x ∈ ([o0] : List Addr) ∨ h0.size ≤ x) (Or.inl (by simp)) all0)
  have F_o0_coder : Fld Z hA1 o0 "java/lang/AbstractStringBuilder" "coder" "B" (.int 0) := P_F_o0_coder
  have F_o0_value : Fld Z hA1 o0 "java/lang/AbstractStringBuilder" "value" "[B" (.ref x1) := P_F_o0_value
  have F_o0_count : Fld Z hA1 o0 "java/lang/AbstractStringBuilder" "count" "I" (.int 18) := P_F_o0_count
  have V_x1 : own_Ar Z hA1 x1 .byte (List.map own_lo (List.set (List.take 0 ([0, 0, 0, 0, 0, 0, 0, 0, 0, 0, 0, 0, 0, 0, 0, 0, 0, 0, 0, 0, 0, 0, 0, 0, 0, 0, 0, 0, 0, 0, 0, 0, 0, 0, 0, 0] : List Int32) ++ List.take 17 (List.drop 0 us_o1) ++ List.drop (0 + 17) ([0, 0, 0, 0, 0, 0, 0, 0, 0, 0, 0, 0, 0, 0, 0, 0, 0, 0, 0, 0, 0, 0, 0, 0, 0, 0, 0, 0, 0, 0, 0, 0, 0, 0, 0, 0] : List Int32)) 17 j0)) := P_V_x1
  have A3 := A1.cl |>.po H dm18_5 rfl rfl |>.aN H dm18_6 rfl rfl rfl
  exact A3.ret hx hlk hret (hb hby dm18_7) rfl (Or.inr (Or.inr (Or.inr (Or.inr ⟨rfl, rfl, rfl⟩)))) (by decide) (by decide) ⟨x1, rfl, KK, sz_x1, F_o0_coder, F_o0_value, F_o0_count, V_x1, hl_x1⟩
theorem own_c88 (l : Launch) (Z : State) (a0 : Array Value) (hw : ∀ d ∈ tables_1, d.before a0 Z = true) (o0 o1 : Addr) (j0 : Int32) (us_o1 : List Int32) (h0 : Heap) (n0 : Nat) (Z0 : n0 ≤ h0.size) (F_o0_coder : Fld Z h0 o0 "java/lang/AbstractStringBuilder" "coder" "B" (.int 0)) (F_o0_value : Fld Z h0 o0 "java/lang/AbstractStringBuilder" "value" "[B" (.ref o1)) (V_o1 : own_Ar Z h0 o1 .byte (List.map own_lo us_o1)) (hl_o1 : us_o1.length = 36) (hn0 : ¬ ((0 : Int32) < (j0 - (36 : Int32)))) :
    own_M l Z (⟨"java/lang/AbstractStringBuilder", "ensureCapacityInternal", "(I)V"⟩ : MethodName) jdk_68_method_9_code 3 none [] (⟨0, 0, 0, 0⟩ : Room) #[(.ref o0), (.int j0)] h0 n0 (fun v h => v = none ∧ h0 = h) := by
  refine own_M.of pl22 ?_
  intro p e s m below meth c S0 hx hby hml hown hnm hret hlk hZ A00
  have H : own_H p c _ := ⟨hx, hby⟩
  have A0 := A00.cast (f' := mkF m 0 #[.val (.ref o0), .val (.int j0), .unset] []) (by first | (simp [entryFrame, mkF, argsToLocals, Value.category, maxLocals]; done) | rfl)
  have A1 := A0.aN H dm13_0 rfl rfl rfl
  have A2 := A1.getF hx hZ hown (hb hby dm13_1) (oW hw 60 rfl) Via.refl F_o0_value
  have A3 : own_R p l e _ _ m _ below meth c S0 n0 h0 0 0 (mkF m 5 #[.val (.ref o0), .val (.int j0), .unset] [(.int (List.map own_lo us_o1).length.toInt32)]) := A2.len hx hZ (hb hby dm13_4) V_o1
  rw [List.length_map, hl_o1] at A3
  have A4 : own_R p l e _ _ m _ below meth c S0 n0 h0 0 0 (mkF m 5 #[.val (.ref o0), .val (.int j0), .unset] [(.int 36)]) := A3
  have A5 := A4.aN H dm13_5 rfl rfl rfl
  have A6 := A5.getF hx hZ hown (hb hby dm13_6) (oW hw 58 rfl) Via.refl F_o0_coder
  have A7 := A6.sr H dm13_9 rfl 36 rfl |>.iM H dm13_10 rfl #[.val (.ref o0), .val (.int j0), .val (.int 36)] rfl |>.iN H dm13_11 rfl rfl |>.iN H dm13_12 rfl rfl |>.sb H dm13_13 rfl _ rfl |>.fy H dm13_14 rfl ((if0 _ _).trans (flt hn0).2.2.2) 38 (by decide) (by decide)
  exact A7.retV hx hlk hret (hb hby dm13_38) (by decide) (by decide) ⟨rfl, rfl⟩
theorem own_c89 (l : Launch) (Z : State) (a0 : Array Value) (hw : ∀ d ∈ tables_1, d.before a0 Z = true) (o0 o1 : Addr) (j0 j1 : Int32) (us_o1 : List Int32) (cs : Int32) (h0 : Heap) (n0 : Nat) (Z0 : n0 ≤ h0.size) (E_o0 : Exa Z h0 o0 "java/lang/StringBuilder") (F_o0_coder : Fld Z h0 o0 "java/lang/AbstractStringBuilder" "coder" "B" (.int 0)) (F_o0_value : Fld Z h0 o0 "java/lang/AbstractStringBuilder" "value" "[B" (.ref o1)) (F_o0_count : Fld Z h0 o0 "java/lang/AbstractStringBuilder" "count" "I" (.int j1)) (V_o1 : own_Ar Z h0 o1 .byte (List.map own_lo us_o1)) (S_cs : Sta Z h0 "java/lang/String" "COMPACT_STRINGS" "Z" (.int cs)) (hl_o1 : us_o1.length = 36) (hcs : ¬ (cs = (0 : Int32))) (hj1 : ¬ ((255 : Int32) < j0)) (hn2 : ¬ ((0 : Int32) < ((j1 + (1 : Int32)) - (36 : Int32)))) (hn3 : ¬ (j1 < (0 : Int32))) (hn4 : (j1.toNatClampNeg < 36)) (ne_o0_o1 : o0 ≠ o1) (ne_o1_o0 : o1 ≠ o0) (g_o0 : n0 ≤ o0) (g_o1 : n0 ≤ o1) :
    own_M l Z (⟨"java/lang/AbstractStringBuilder", "append", "(C)Ljava/lang/AbstractStringBuilder;"⟩ : MethodName) jdk_68_method_31_code 2 (some (.object "java/lang/AbstractStringBuilder")) [] (⟨1, 0, 0, 14⟩ : Room) #[(.ref o0), (.int j0)] h0 n0 (fun v h => v = some (.ref o0) ∧ Keep h0 h [o0, o1] ∧ Fld Z h o0 "java/lang/AbstractStringBuilder" "coder" "B" (.int 0) ∧ Fld Z h o0 "java/lang/AbstractStringBuilder" "value" "[B" (.ref o1) ∧ Fld Z h o0 "java/lang/AbstractStringBuilder" "count" "I" (.int (j1 + (1 : Int32))) ∧ own_Ar Z h o1 .byte (List.map own_lo (List.set us_o1 j1.toNatClampNeg j0)) ∧ ((List.set us_o1 j1.toNatClampNeg j0) : List Int32).length = 36) := by
  refine own_M.of pl34 ?_
  intro p e s m below meth c S0 hx hby hml hown hnm hret hlk hZ A00
  have H : own_H p c _ := ⟨hx, hby⟩
  have A0 := A00.cast (f' := mkF m 0 #[.val (.ref o0), .val (.int j0)] []) (by first | (simp [entryFrame, mkF, argsToLocals, Value.category, maxLocals]; done) | rfl)
  have KK : Keep h0 h0 ([o0, o1] : List Addr) := Keep.refl _ _
  have A1 := A0.aN H dm19_0 rfl rfl rfl |>.aN H dm19_1 rfl rfl rfl
  have A2 := A1.getF hx hZ hown (hb hby dm19_2) (oW hw 76 rfl) Via.refl F_o0_count
  have A4 := A2.ic H dm19_5 rfl 1 rfl |>.ad H dm19_6 rfl _ rfl
  obtain ⟨vA3, hA3, ⟨rfl, rfl⟩, A3⟩ := A4.cV (own_c88 l Z a0 hw o0 o1 (j1 + (1 : Int32)) _ h0 n0 Z0 F_o0_coder F_o0_value V_o1 hl_o1 hn2) E_o0 H hZ hown dm19_7 (oW hw 78 rfl) (kV18 hw) hml rfl rfl [] rfl rfl
  have A6 := A3.c0 |>.aN H dm19_10 rfl rfl rfl
  obtain ⟨vA5, hA5, ⟨rfl, rfl⟩, A5⟩ := A6.cV (own_c30 l Z a0 hw o0 cs h0 n0 Z0 F_o0_coder S_cs hcs) E_o0 H hZ hown dm19_11 (oW hw 117 rfl) (kV27 hw) hml rfl rfl [] rfl rfl
  have A8 := A5.cl |>.fn H dm19_14 rfl rfl |>.iN H dm19_17 rfl rfl
  obtain ⟨vA7, hA7, ⟨rfl, rfl⟩, A7⟩ := A8.cS (own_c58 l Z a0 hw j0 h0 n0 Z0 hj1) H hZ hown dm19_18 (oW hw 122 rfl) (kS28 hw) hml rfl rfl [] rfl rfl
  have A9 := A7.cl |>.fn H dm19_21 rfl rfl |>.aN H dm19_24 rfl rfl rfl
  have A10 := A9.getF hx hZ hown (hb hby dm19_25) (oW hw 60 rfl) Via.refl F_o0_value
  have A11 := A10.aN H dm19_28 rfl rfl rfl |>.du H dm19_29 rfl rfl
  have A12 := A11.getF hx hZ hown (hb hby dm19_30) (oW hw 76 rfl) Via.refl F_o0_count
  have A16 := A12.dx H dm19_33 rfl rfl rfl |>.ic H dm19_34 rfl 1 rfl |>.ad H dm19_35 rfl _ rfl
  obtain ⟨h13, W14, A15⟩ := A16.putF hx hZ hown (hb hby dm19_36) (oW hw 76 rfl) F_o0_count E_o0 (Or.inl (oW hw 77 rfl)) (oW hw 32 rfl) (ty := .int) (by decide) rfl rfl g_o0
  have F_o0_coder := F_o0_coder.other W14 (Or.inr (slot_ne (Or.inl (oW hw 59 rfl)) (Or.inl (oW hw 77 rfl)) (by decide) (t := .byte) (t' := .int) (by decide) (by decide)))
  have F_o0_value := F_o0_value.other W14 (Or.inr (slot_ne (Or.inl (oW hw 61 rfl)) (Or.inl (oW hw 77 rfl)) (by decide) (t := (.array .byte)) (t' := .int) (by decide) (by decide)))
  have F_o0_count : Fld Z h13 o0 "java/lang/AbstractStringBuilder" "count" "I" (.int (j1 + (1 : Int32))) := F_o0_count.same W14
  have V_o1 := V_o1.other W14 ne_o1_o0
  have KK : Keep h0 h13 [o0, o1] := KK.wr W14 (Or.inl (by simp))
  have A20 := A15.iN H dm19_39 rfl rfl |>.ib H dm19_40 rfl _ rfl
  obtain ⟨h17, W18, A19⟩ := A20.stB hx hZ (hb hby dm19_41) V_o1 hn3 (by rw [List.length_map, hl_o1]; exact hn4) g_o1
  have F_o0_coder := F_o0_coder.other W18 (Or.inl ne_o0_o1)
  have F_o0_value := F_o0_value.other W18 (Or.inl ne_o0_o1)
  have F_o0_count := F_o0_count.other W18 (Or.inl ne_o0_o1)
  have V_o1 : own_Ar Z h17 o1 .byte (List.map own_lo (List.set us_o1 j1.toNatClampNeg j0)) := by
    have q := V_o1.same W18
    rw [own_nb] at q
    rw [← own_setM]
    exact q
  have hl_o1 : ((List.set us_o1 j1.toNatClampNeg j0) : List Int32).length = 36 := by rw [List.length_set]; exact hl_o1
  have V_o1 : own_Ar Z h17 o1 .byte (List.map own_lo (List.set us_o1 j1.toNatClampNeg j0)) := V_o1
  have KK : Keep h0 h17 [o0, o1] := KK.wr W18 (Or.inl (by simp))
  have A21 := A19.gt H dm19_42 rfl 75 (by decide) (by decide) |>.aN H dm19_75 rfl rfl rfl
  exact A21.ret hx hlk hret (hb hby dm19_76) rfl (Or.inr (Or.inr (Or.inr (Or.inr ⟨rfl, rfl, rfl⟩)))) (by decide) (by decide) ⟨rfl, KK, F_o0_coder, F_o0_value, F_o0_count, V_o1, hl_o1⟩
theorem own_c90 (l : Launch) (Z : State) (a0 : Array Value) (hw : ∀ d ∈ tables_1, d.before a0 Z = true) (o0 o1 : Addr) (j0 j1 : Int32) (us_o1 : List Int32) (cs : Int32) (h0 : Heap) (n0 : Nat) (Z0 : n0 ≤ h0.size) (E_o0 : Exa Z h0 o0 "java/lang/StringBuilder") (F_o0_coder : Fld Z h0 o0 "java/lang/AbstractStringBuilder" "coder" "B" (.int 0)) (F_o0_value : Fld Z h0 o0 "java/lang/AbstractStringBuilder" "value" "[B" (.ref o1)) (F_o0_count : Fld Z h0 o0 "java/lang/AbstractStringBuilder" "count" "I" (.int j1)) (V_o1 : own_Ar Z h0 o1 .byte (List.map own_lo us_o1)) (S_cs : Sta Z h0 "java/lang/String" "COMPACT_STRINGS" "Z" (.int cs)) (hl_o1 : us_o1.length = 36) (hcs : ¬ (cs = (0 : Int32))) (hj1 : ¬ ((255 : Int32) < j0)) (hn2 : ¬ ((0 : Int32) < ((j1 + (1 : Int32)) - (36 : Int32)))) (hn3 : ¬ (j1 < (0 : Int32))) (hn4 : (j1.toNatClampNeg < 36)) (ne_o0_o1 : o0 ≠ o1) (ne_o1_o0 : o1 ≠ o0) (g_o0 : n0 ≤ o0) (g_o1 : n0 ≤ o1) :
    own_M l Z (⟨"java/lang/StringBuilder", "append", "(C)Ljava/lang/StringBuilder;"⟩ : MethodName) jdk_67_method_14_code 2 (some (.object "java/lang/StringBuilder")) [] (⟨2, 0, 0, 27⟩ : Room) #[(.ref o0), (.int j0)] h0 n0 (fun v h => v = some (.ref o0) ∧ Keep h0 h [o0, o1] ∧ Fld Z h o0 "java/lang/AbstractStringBuilder" "coder" "B" (.int 0) ∧ Fld Z h o0 "java/lang/AbstractStringBuilder" "value" "[B" (.ref o1) ∧ Fld Z h o0 "java/lang/AbstractStringBuilder" "count" "I" (.int (j1 + (1 : Int32))) ∧ own_Ar Z h o1 .byte (List.map own_lo (List.set us_o1 j1.toNatClampNeg j0)) ∧ ((List.set us_o1 j1.toNatClampNeg j0) : List Int32).length = 36) := by
  refine own_M.of pl35 ?_
  intro p e s m below meth c S0 hx hby hml hown hnm hret hlk hZ A00
  have H : own_H p c _ := ⟨hx, hby⟩
  have A0 := A00.cast (f' := mkF m 0 #[.val (.ref o0), .val (.int j0)] []) (by first | (simp [entryFrame, mkF, argsToLocals, Value.category, maxLocals]; done) | rfl)
  have KK : Keep h0 h0 ([o0, o1] : List Addr) := Keep.refl _ _
  have A2 := A0.aN H dm18_0 rfl rfl rfl |>.iN H dm18_1 rfl rfl
  obtain ⟨vA1, hA1, ⟨rfl, KA1, P_F_o0_coder, P_F_o0_value, P_F_o0_count, P_V_o1, hl_o1⟩, A1⟩ := A2.callU (b := o0) (own_c89 l Z a0 hw o0 o1 j0 j1 _ cs h0 n0 Z0 E_o0 F_o0_coder F_o0_value F_o0_count V_o1 S_cs hl_o1 hcs hj1 hn2 hn3 hn4 ne_o0_o1 ne_o1_o0 g_o0 g_o1) E_o0 hx hZ hown (hb hby dm18_2) (by decide) (oW hw 113 rfl) (own_same (y' := (⟨"java/lang/AbstractStringBuilder", "ensureCapacityInternal", "(I)V"⟩ : MethodName)) (oW hw 81 rfl) rfl (oW hw 114 rfl) ⟨by decide, by decide⟩) (oW hw 114 rfl) (oW hw 74 rfl) (oW hw 116 rfl) (oW hw 42 rfl) (lenOf pd__28C_29Ljava_2flang_2fAbstractStringBuilder_3b rfl) (argsL := [(.int j0)]) (rest := []) rfl rfl (by rw [hml]; rfl) (W := 0) (Nat.le_of_eq rfl) (by decide) (by decide) (by decide) (by decide)
  have KK : Keep h0 hA1 [o0, o1] := KK.trans KA1 (allS (P := fun x => x ∈ ([o0, o1] : List Addr) ∨ h0.size ≤ x) (Or.inl (by simp)) (allS (P := fun x => x ∈ ([o0, o1] : List Addr) ∨ h0.size ≤ x) (Or.inl (by simp)) all0))
  have F_o0_coder : Fld Z hA1 o0 "java/lang/AbstractStringBuilder" "coder" "B" (.int 0) := P_F_o0_coder
  have F_o0_value : Fld Z hA1 o0 "java/lang/AbstractStringBuilder" "value" "[B" (.ref o1) := P_F_o0_value
  have F_o0_count : Fld Z hA1 o0 "java/lang/AbstractStringBuilder" "count" "I" (.int (j1 + (1 : Int32))) := P_F_o0_count
  have V_o1 : own_Ar Z hA1 o1 .byte (List.map own_lo (List.set us_o1 j1.toNatClampNeg j0)) := P_V_o1
  have A3 := A1.cl |>.po H dm18_5 rfl rfl |>.aN H dm18_6 rfl rfl rfl
  exact A3.ret hx hlk hret (hb hby dm18_7) rfl (Or.inr (Or.inr (Or.inr (Or.inr ⟨rfl, rfl, rfl⟩)))) (by decide) (by decide) ⟨rfl, KK, F_o0_coder, F_o0_value, F_o0_count, V_o1, hl_o1⟩
theorem own_c97 (l : Launch) (Z : State) (a0 : Array Value) (hw : ∀ d ∈ tables_1, d.before a0 Z = true) (j0 : Int32) (h0 : Heap) (n0 : Nat) (Z0 : n0 ≤ h0.size) (hn0 : (j0 < (36 : Int32))) :
    own_M l Z (⟨"java/lang/Math", "min", "(II)I"⟩ : MethodName) jdk_29_method_69_code 2 (some .int) [] (⟨0, 0, 0, 0⟩ : Room) #[(.int 36), (.int j0)] h0 n0 (fun v h => v = some (.int j0) ∧ h0 = h) := by
  refine own_M.of (by decide +kernel) ?_
  intro p e s m below meth c S0 hx hby hml hown hnm hret hlk hZ A00
  have H : own_H p c _ := ⟨hx, hby⟩
  have A0 := A00.cast (f' := mkF m 0 #[.val (.int 36), .val (.int j0)] []) (by first | (simp [entryFrame, mkF, argsToLocals, Value.category, maxLocals]; done) | rfl)
  have A1 := A0.iN H dm17_0 rfl rfl |>.iN H dm17_1 rfl rfl |>.cy H dm17_2 rfl ((tlt hn0).2.2.1) 9 (by decide) (by decide) |>.iN H dm17_9 rfl rfl
  exact A1.ret hx hlk hret (hb hby dm17_10) rfl (Or.inl ⟨rfl, by simp, _, rfl⟩) (by decide) (by decide) ⟨rfl, rfl⟩
theorem own_c98 (l : Launch) (Z : State) (a0 : Array Value) (hw : ∀ d ∈ tables_1, d.before a0 Z = true) (o0 : Addr) (j0 : Int32) (us_o0 : List Int32) (h0 : Heap) (n0 : Nat) (Z0 : n0 ≤ h0.size) (V_o0 : own_Ar Z h0 o0 .byte (List.map own_lo us_o0)) (hl_o0 : us_o0.length = 36) (hn0 : ¬ (j0 < (0 : Int32))) (hn1 : (j0.toNatClampNeg < 37)) (hn2 : (j0 < (36 : Int32))) (hn3 : (j0.toNatClampNeg < 36)) :
    own_M l Z (⟨"java/util/Arrays", "copyOfRangeByte", "([BII)[B"⟩ : MethodName) jdk_65_method_133_code 5 (some (.array .byte)) [] (⟨1, 1, 36, 18⟩ : Room) #[(.ref o0), (.int 0), (.int j0)] h0 n0 (fun v h => ∃ x1 : Addr, v = some (.ref x1) ∧ Keep h0 h [] ∧ h0.size ≤ x1 ∧ own_Ar Z h x1 .byte (List.map own_lo (List.take j0.toNatClampNeg us_o0)) ∧ ((List.take j0.toNatClampNeg us_o0) : List Int32).length = j0.toNatClampNeg) := by
  refine own_M.of pl40 ?_
  intro p e s m below meth c S0 hx hby hml hown hnm hret hlk hZ A00
  have H : own_H p c _ := ⟨hx, hby⟩
  have A0 := A00.cast (f' := mkF m 0 #[.val (.ref o0), .val (.int 0), .val (.int j0), .unset, .unset] []) (by first | (simp [entryFrame, mkF, argsToLocals, Value.category, maxLocals]; done) | rfl)
  have KK : Keep h0 h0 ([] : List Addr) := Keep.refl _ _
  have A2 := A0.iN H dm29_0 rfl rfl |>.iN H dm29_1 rfl rfl
  obtain ⟨vA1, hA1, ⟨rfl, rfl⟩, A1⟩ := A2.cS (own_c47 l Z a0 hw j0 h0 n0 Z0 hn0) H hZ hown dm29_2 (oW hw 159 rfl) (kS32 hw) hml rfl rfl [] rfl rfl
  have A6 := A1.c0 |>.iN H dm29_5 rfl rfl |>.iN H dm29_6 rfl rfl |>.s0 H dm29_7 rfl |>.iM H dm29_8 rfl #[.val (.ref o0), .val (.int 0), .val (.int j0), .val (.int j0), .unset] rfl |>.iN H dm29_9 rfl rfl
  obtain ⟨h3, E4, V_x1, A5⟩ := A6.newP hx hZ (hb hby dm29_10) (oW hw 20 rfl) hn0 (cap := 36) (Nat.le_of_lt_succ hn1) (by decide) (by decide) (by decide)
  obtain ⟨x1, gx1⟩ : ∃ z, z = h0.size := ⟨_, rfl⟩
  rw [← gx1] at V_x1 A5
  have g_x1 : n0 ≤ x1 := by rw [gx1]; exact Z0
  have sz_x1 : h0.size ≤ x1 := by rw [gx1]; exact KK.1
  have V_o0 := V_o0.ext E4
  have Z0 := Nat.le_trans Z0 E4.1
  have KK : Keep h0 h3 [] := KK.ext E4
  have V_x1 : own_Ar Z h3 x1 .byte (List.map own_lo (List.replicate j0.toNatClampNeg (0 : Int32))) := by rw [List.map_replicate]; exact V_x1
  have hl_x1 : (List.replicate j0.toNatClampNeg (0 : Int32)).length = j0.toNatClampNeg := by simp
  have A8 := A5.aS H dm29_12 rfl rfl #[.val (.ref o0), .val (.int 0), .val (.int j0), .val (.int j0), .val (.ref x1)] rfl |>.aN H dm29_14 rfl rfl rfl |>.iN H dm29_15 rfl rfl |>.aL H dm29_16 rfl rfl rfl |>.ic H dm29_18 rfl 0 rfl |>.aN H dm29_19 rfl rfl rfl
  have A7 : own_R p l e _ _ m _ below meth c S0 n0 h3 1 36 (mkF m 21 #[.val (.ref o0), .val (.int 0), .val (.int j0), .val (.int j0), .val (.ref x1)] [(.int (List.map own_lo us_o0).length.toInt32), (.int 0), (.ref x1), (.int 0), (.ref o0)]) := A8.len hx hZ (hb hby dm29_20) V_o0
  rw [List.length_map, hl_o0] at A7
  have A9 : own_R p l e _ _ m _ below meth c S0 n0 h3 1 36 (mkF m 21 #[.val (.ref o0), .val (.int 0), .val (.int j0), .val (.int j0), .val (.ref x1)] [(.int 36), (.int 0), (.ref x1), (.int 0), (.ref o0)]) := A7
  have A11 := A9.iN H dm29_21 rfl rfl |>.sb H dm29_22 rfl 36 rfl |>.iN H dm29_23 rfl rfl
  obtain ⟨vA10, hA10, ⟨rfl, rfl⟩, A10⟩ := A11.cS (own_c97 l Z a0 hw j0 h3 n0 Z0 hn2) H hZ hown dm29_24 (oW hw 162 rfl) (kS26 hw) hml rfl rfl [(.int 0), (.ref x1), (.int 0), (.ref o0)] rfl rfl
  have A13 := A10.cl
  obtain ⟨hA12, KA12, P_V_x1, A12⟩ := A13.cpL (S := 0) (D := 0) (N := j0.toNatClampNeg) hx hZ hown (hb hby dm29_27) (oW hw 163 rfl) (oW hw 102 rfl) (oW hw 100 rfl) (oW hw 101 rfl) V_o0 V_x1 (z1 := (36 : Int32)) (z2 := j0) (by rw [hl_o0]; rfl) hl_x1.symm (by decide) hn0 (by decide) (by decide) hn0 rfl rfl rfl (by rw [hl_o0]; omega) (by rw [hl_x1]; omega) g_x1 (by rw [hml]; rfl) (W := 0) (Nat.le_of_eq rfl) (by decide) (by decide)
  have hl_x1 : ((List.take j0.toNatClampNeg us_o0) : List Int32).length = j0.toNatClampNeg := by rw [List.length_take, hl_o0]; omega
  have KK : Keep h0 hA12 [] := KK.trans KA12 (allS (P := fun x => x ∈ ([] : List Addr) ∨ h0.size ≤ x) (Or.inr sz_x1) all0)
  have V_x1 : own_Ar Z hA12 x1 .byte (List.map own_lo (List.take j0.toNatClampNeg us_o0)) := by rw [own_cpt] at P_V_x1; exact P_V_x1
  have A14 := A12.aL H dm29_30 rfl rfl rfl
  exact A14.ret hx hlk hret (hb hby dm29_32) rfl (Or.inr (Or.inr (Or.inr (Or.inr ⟨rfl, rfl, rfl⟩)))) (by decide) (by decide) ⟨x1, rfl, KK, sz_x1, V_x1, hl_x1⟩
theorem own_c99 (l : Launch) (Z : State) (a0 : Array Value) (hw : ∀ d ∈ tables_1, d.before a0 Z = true) (o0 : Addr) (j0 : Int32) (us_o0 : List Int32) (h0 : Heap) (n0 : Nat) (Z0 : n0 ≤ h0.size) (V_o0 : own_Ar Z h0 o0 .byte (List.map own_lo us_o0)) (hl_o0 : us_o0.length = 36) (hn0 : ¬ (j0 = (36 : Int32))) (hn1 : ¬ (j0 < (0 : Int32))) (hn2 : (j0.toNatClampNeg < 37)) (hn3 : (j0 < (36 : Int32))) (hn4 : (j0.toNatClampNeg < 36)) :
    own_M l Z (⟨"java/util/Arrays", "copyOfRange", "([BII)[B"⟩ : MethodName) jdk_65_method_132_code 3 (some (.array .byte)) [] (⟨2, 1, 36, 34⟩ : Room) #[(.ref o0), (.int 0), (.int j0)] h0 n0 (fun v h => ∃ x1 : Addr, v = some (.ref x1) ∧ Keep h0 h [] ∧ h0.size ≤ x1 ∧ own_Ar Z h x1 .byte (List.map own_lo (List.take j0.toNatClampNeg us_o0)) ∧ ((List.take j0.toNatClampNeg us_o0) : List Int32).length = j0.toNatClampNeg) := by
  refine own_M.of pl41 ?_
  intro p e s m below meth c S0 hx hby hml hown hnm hret hlk hZ A00
  have H : own_H p c _ := ⟨hx, hby⟩
  have A0 := A00.cast (f' := mkF m 0 #[.val (.ref o0), .val (.int 0), .val (.int j0)] []) (by first | (simp [entryFrame, mkF, argsToLocals, Value.category, maxLocals]; done) | rfl)
  have KK : Keep h0 h0 ([] : List Addr) := Keep.refl _ _
  have q1 : ((0 : Int32) = (0 : Int32)) := rfl
  have A3 := A0.iN H dm28_0 rfl rfl |>.fn H dm28_1 rfl ((if0 _ _).trans (teq q1).2) |>.iN H dm28_4 rfl rfl |>.aN H dm28_5 rfl rfl rfl
  have A2 : own_R p l e _ _ m _ below meth c S0 n0 h0 0 0 (mkF m 7 #[.val (.ref o0), .val (.int 0), .val (.int j0)] [(.int (List.map own_lo us_o0).length.toInt32), (.int j0)]) := A3.len hx hZ (hb hby dm28_6) V_o0
  rw [List.length_map, hl_o0] at A2
  have A4 : own_R p l e _ _ m _ below meth c S0 n0 h0 0 0 (mkF m 7 #[.val (.ref o0), .val (.int 0), .val (.int j0)] [(.int 36), (.int j0)]) := A2
  have A6 := A4.cn H dm28_7 rfl ((feq hn0).1) |>.aN H dm28_10 rfl rfl rfl |>.iN H dm28_11 rfl rfl |>.iN H dm28_12 rfl rfl
  obtain ⟨vA5, hA5, ⟨x1, rfl, KA5, zz_x1, P_V_x1, hl_x1⟩, A5⟩ := A6.cS (own_c98 l Z a0 hw o0 j0 _ h0 n0 Z0 V_o0 hl_o0 hn1 hn2 hn3 hn4) H hZ hown dm28_13 (oW hw 156 rfl) (kS33 hw) hml rfl rfl [] rfl rfl
  have sz_x1 : h0.size ≤ x1 := Nat.le_trans KK.1 zz_x1
  have KK : Keep h0 hA5 [] := KK.trans KA5 all0
  have V_x1 : own_Ar Z hA5 x1 .byte (List.map own_lo (List.take j0.toNatClampNeg us_o0)) := P_V_x1
  have A7 := A5.cl
  exact A7.ret hx hlk hret (hb hby dm28_16) rfl (Or.inr (Or.inr (Or.inr (Or.inr ⟨rfl, rfl, rfl⟩)))) (by decide) (by decide) ⟨x1, rfl, KK, sz_x1, V_x1, hl_x1⟩
theorem own_c100 (l : Launch) (Z : State) (a0 : Array Value) (hw : ∀ d ∈ tables_1, d.before a0 Z = true) (o0 o1 o2 : Addr) (j0 : Int32) (us_o2 : List Int32) (cs : Int32) (h0 : Heap) (n0 : Nat) (Z0 : n0 ≤ h0.size) (E_o0 : Exa Z h0 o0 "java/lang/String") (F_o0_value : Fld Z h0 o0 "java/lang/String" "value" "[B" .null) (F_o0_coder : Fld Z h0 o0 "java/lang/String" "coder" "B" (.int 0)) (E_o1 : Exa Z h0 o1 "java/lang/StringBuilder") (F_o1_coder : Fld Z h0 o1 "java/lang/AbstractStringBuilder" "coder" "B" (.int 0)) (F_o1_value : Fld Z h0 o1 "java/lang/AbstractStringBuilder" "value" "[B" (.ref o2)) (F_o1_count : Fld Z h0 o1 "java/lang/AbstractStringBuilder" "count" "I" (.int j0)) (V_o2 : own_Ar Z h0 o2 .byte (List.map own_lo us_o2)) (S_cs : Sta Z h0 "java/lang/String" "COMPACT_STRINGS" "Z" (.int cs)) (hl_o2 : us_o2.length = 36) (hcs : ¬ (cs = (0 : Int32))) (hn1 : ¬ (j0 = (36 : Int32))) (hn2 : ¬ (j0 < (0 : Int32))) (hn3 : (j0.toNatClampNeg < 37)) (hn4 : (j0 < (36 : Int32))) (hn5 : (j0.toNatClampNeg < 36)) (ne_o1_o0 : o1 ≠ o0) (ne_o2_o0 : o2 ≠ o0) (g_o0 : n0 ≤ o0) :
    own_M l Z (⟨"java/lang/String", "<init>", "(Ljava/lang/AbstractStringBuilder;Ljava/lang/Void;)V"⟩ : MethodName) jdk_42_method_150_code 5 none [] (⟨3, 1, 36, 49⟩ : Room) #[(.ref o0), (.ref o1), .null] h0 n0 (fun v h => ∃ x1 : Addr, v = none ∧ Keep h0 h [o0] ∧ h0.size ≤ x1 ∧ Fld Z h o0 "java/lang/String" "value" "[B" (.ref x1) ∧ Fld Z h o0 "java/lang/String" "coder" "B" (.int 0) ∧ own_Ar Z h x1 .byte (List.map own_lo (List.take j0.toNatClampNeg us_o2)) ∧ ((List.take j0.toNatClampNeg us_o2) : List Int32).length = j0.toNatClampNeg) := by
  refine own_M.of pl42 ?_
  intro p e s m below meth c S0 hx hby hml hown hnm hret hlk hZ A00
  have H : own_H p c _ := ⟨hx, hby⟩
  have A0 := A00.cast (f' := mkF m 0 #[.val (.ref o0), .val (.ref o1), .val .null, .unset, .unset] []) (by first | (simp [entryFrame, mkF, argsToLocals, Value.category, maxLocals]; done) | rfl)
  have KK : Keep h0 h0 ([o0] : List Addr) := Keep.refl _ _
  have A1 := A0.aN H dm24_0 rfl rfl rfl
  have A2 := A1.initO hx hZ hown (hb hby dm24_1) (oW hw 16 rfl) (oW hw 17 rfl) (oW hw 18 rfl) (by rw [hml]; rfl) (W := 0) (Nat.le_of_eq rfl) (by decide) (by decide)
  have A4 := A2.aN H dm24_4 rfl rfl rfl
  obtain ⟨vA3, hA3, ⟨rfl, rfl⟩, A3⟩ := A4.cV (own_c39 l Z a0 hw o1 o2 h0 n0 Z0 F_o1_value) E_o1 H hZ hown dm24_5 (oW hw 138 rfl) (kV30 hw) hml rfl rfl [] rfl rfl
  have A6 := A3.cl |>.aM H dm24_8 rfl rfl #[.val (.ref o0), .val (.ref o1), .val .null, .val (.ref o2), .unset] rfl |>.aN H dm24_9 rfl rfl rfl
  obtain ⟨vA5, hA5, ⟨rfl, rfl⟩, A5⟩ := A6.cV (own_c43 l Z a0 hw o1 j0 h0 n0 Z0 E_o1 F_o1_count) E_o1 H hZ hown dm24_10 (oW hw 143 rfl) (kV31 hw) hml rfl rfl [] rfl rfl
  have A8 := A5.cl |>.iS H dm24_13 rfl #[.val (.ref o0), .val (.ref o1), .val .null, .val (.ref o2), .val (.int j0)] rfl |>.aN H dm24_15 rfl rfl rfl
  obtain ⟨vA7, hA7, ⟨rfl, rfl⟩, A7⟩ := A8.cV (own_c30 l Z a0 hw o1 cs h0 n0 Z0 F_o1_coder S_cs hcs) E_o1 H hZ hown dm24_16 (oW hw 151 rfl) (kV27 hw) hml rfl rfl [] rfl rfl
  have A12 := A7.cl |>.fn H dm24_19 rfl rfl |>.aN H dm24_22 rfl rfl rfl |>.ic H dm24_23 rfl 0 rfl
  obtain ⟨h9, W10, A11⟩ := A12.putF hx hZ hown (hb hby dm24_24) (oW hw 26 rfl) F_o0_coder E_o0 (Or.inr ⟨(oW hw 22 rfl), rfl, hnm⟩) (oW hw 7 rfl) (ty := .byte) (by decide) rfl rfl g_o0
  have E_o0 := E_o0.wr W10
  have F_o0_value := F_o0_value.other W10 (Or.inr (slot_ne (Or.inr (oW hw 21 rfl)) (Or.inr (oW hw 22 rfl)) (by decide) (t := (.array .byte)) (t' := .byte) (by decide) (by decide)))
  have F_o0_coder : Fld Z h9 o0 "java/lang/String" "coder" "B" (.int 0) := F_o0_coder.same W10
  have V_o2 := V_o2.other W10 ne_o2_o0
  have Z0 : n0 ≤ h9.size := by rw [W10.size]; exact Z0
  have KK : Keep h0 h9 [o0] := KK.wr W10 (Or.inl (by simp))
  have A14 := A11.aN H dm24_27 rfl rfl rfl |>.aN H dm24_28 rfl rfl rfl |>.ic H dm24_29 rfl 0 rfl |>.iL H dm24_30 rfl rfl
  obtain ⟨vA13, hA13, ⟨x1, rfl, KA13, zz_x1, P_V_x1, hl_x1⟩, A13⟩ := A14.cS (own_c99 l Z a0 hw o2 j0 _ h9 n0 Z0 V_o2 hl_o2 hn1 hn2 hn3 hn4 hn5) H hZ hown dm24_32 (oW hw 152 rfl) (kS34 hw) hml rfl rfl [(.ref o0)] rfl rfl
  have ne_o0_x1 : o0 ≠ x1 := Nat.ne_of_lt (Nat.lt_of_lt_of_le E_o0.lt zz_x1)
  have ne_x1_o0 := Ne.symm ne_o0_x1
  have sz_x1 : h0.size ≤ x1 := Nat.le_trans KK.1 zz_x1
  have E_o0 := E_o0.keep KA13
  have F_o0_value := F_o0_value.keep KA13 nin0
  have F_o0_coder := F_o0_coder.keep KA13 nin0
  have KK : Keep h0 hA13 [o0] := KK.trans KA13 all0
  have V_x1 : own_Ar Z hA13 x1 .byte (List.map own_lo (List.take j0.toNatClampNeg us_o2)) := P_V_x1
  have A18 := A13.cl
  obtain ⟨h15, W16, A17⟩ := A18.putF hx hZ hown (hb hby dm24_35) (oW hw 25 rfl) F_o0_value E_o0 (Or.inr ⟨(oW hw 21 rfl), rfl, hnm⟩) (oW hw 7 rfl) (ty := (.array .byte)) (by decide) rfl rfl g_o0
  have F_o0_value : Fld Z h15 o0 "java/lang/String" "value" "[B" (.ref x1) := F_o0_value.same W16
  have F_o0_coder := F_o0_coder.other W16 (Or.inr (slot_ne (Or.inr (oW hw 22 rfl)) (Or.inr (oW hw 21 rfl)) (by decide) (t := .byte) (t' := (.array .byte)) (by decide) (by decide)))
  have V_x1 := V_x1.other W16 ne_x1_o0
  have KK : Keep h0 h15 [o0] := KK.wr W16 (Or.inl (by simp))
  have A19 := A17.gt H dm24_38 rfl 97 (by decide) (by decide)
  exact A19.retV hx hlk hret (hb hby dm24_97) (by decide) (by decide) ⟨x1, rfl, KK, sz_x1, F_o0_value, F_o0_coder, V_x1, hl_x1⟩
theorem own_c101 (l : Launch) (Z : State) (a0 : Array Value) (hw : ∀ d ∈ tables_1, d.before a0 Z = true) (o0 o1 o2 : Addr) (j0 : Int32) (us_o2 : List Int32) (cs : Int32) (h0 : Heap) (n0 : Nat) (Z0 : n0 ≤ h0.size) (E_o0 : Exa Z h0 o0 "java/lang/String") (F_o0_value : Fld Z h0 o0 "java/lang/String" "value" "[B" .null) (F_o0_coder : Fld Z h0 o0 "java/lang/String" "coder" "B" (.int 0)) (E_o1 : Exa Z h0 o1 "java/lang/StringBuilder") (F_o1_coder : Fld Z h0 o1 "java/lang/AbstractStringBuilder" "coder" "B" (.int 0)) (F_o1_value : Fld Z h0 o1 "java/lang/AbstractStringBuilder" "value" "[B" (.ref o2)) (F_o1_count : Fld Z h0 o1 "java/lang/AbstractStringBuilder" "count" "I" (.int j0)) (V_o2 : own_Ar Z h0 o2 .byte (List.map own_lo us_o2)) (S_cs : Sta Z h0 "java/lang/String" "COMPACT_STRINGS" "Z" (.int cs)) (hl_o2 : us_o2.length = 36) (hcs : ¬ (cs = (0 : Int32))) (hn1 : ¬ (j0 = (36 : Int32))) (hn2 : ¬ (j0 < (0 : Int32))) (hn3 : (j0.toNatClampNeg < 37)) (hn4 : (j0 < (36 : Int32))) (hn5 : (j0.toNatClampNeg < 36)) (ne_o1_o0 : o1 ≠ o0) (ne_o2_o0 : o2 ≠ o0) (g_o0 : n0 ≤ o0) :
    own_M l Z (⟨"java/lang/String", "<init>", "(Ljava/lang/StringBuilder;)V"⟩ : MethodName) jdk_42_method_53_code 2 none [] (⟨4, 1, 36, 65⟩ : Room) #[(.ref o0), (.ref o1)] h0 n0 (fun v h => ∃ x1 : Addr, v = none ∧ Keep h0 h [o0] ∧ h0.size ≤ x1 ∧ Fld Z h o0 "java/lang/String" "value" "[B" (.ref x1) ∧ Fld Z h o0 "java/lang/String" "coder" "B" (.int 0) ∧ own_Ar Z h x1 .byte (List.map own_lo (List.take j0.toNatClampNeg us_o2)) ∧ ((List.take j0.toNatClampNeg us_o2) : List Int32).length = j0.toNatClampNeg) := by
  refine own_M.of pl43 ?_
  intro p e s m below meth c S0 hx hby hml hown hnm hret hlk hZ A00
  have H : own_H p c _ := ⟨hx, hby⟩
  have A0 := A00.cast (f' := mkF m 0 #[.val (.ref o0), .val (.ref o1)] []) (by first | (simp [entryFrame, mkF, argsToLocals, Value.category, maxLocals]; done) | rfl)
  have KK : Keep h0 h0 ([o0] : List Addr) := Keep.refl _ _
  have A2 := A0.aN H dm23_0 rfl rfl rfl |>.aN H dm23_1 rfl rfl rfl |>.nu H dm23_2 rfl
  obtain ⟨vA1, hA1, ⟨x1, rfl, KA1, zz_x1, P_F_o0_value, P_F_o0_coder, P_V_x1, hl_x1⟩, A1⟩ := A2.cI (own_c100 l Z a0 hw o0 o1 o2 j0 _ cs h0 n0 Z0 E_o0 F_o0_value F_o0_coder E_o1 F_o1_coder F_o1_value F_o1_count V_o2 S_cs hl_o2 hcs hn1 hn2 hn3 hn4 hn5 ne_o1_o0 ne_o2_o0 g_o0) H hZ hown dm23_3 (oW hw 135 rfl) (kI35 hw) hml rfl rfl [] rfl rfl
  have sz_x1 : h0.size ≤ x1 := Nat.le_trans KK.1 zz_x1
  have KK : Keep h0 hA1 [o0] := KK.trans KA1 (allS (P := fun x => x ∈ ([o0] : List Addr) ∨ h0.size ≤ x) (Or.inl (by simp)) all0)
  have F_o0_value : Fld Z hA1 o0 "java/lang/String" "value" "[B" (.ref x1) := P_F_o0_value
  have F_o0_coder : Fld Z hA1 o0 "java/lang/String" "coder" "B" (.int 0) := P_F_o0_coder
  have V_x1 : own_Ar Z hA1 x1 .byte (List.map own_lo (List.take j0.toNatClampNeg us_o2)) := P_V_x1
  have A3 := A1.c0
  exact A3.retV hx hlk hret (hb hby dm23_6) (by decide) (by decide) ⟨x1, rfl, KK, sz_x1, F_o0_value, F_o0_coder, V_x1, hl_x1⟩
theorem own_c102 (l : Launch) (Z : State) (a0 : Array Value) (hw : ∀ d ∈ tables_1, d.before a0 Z = true) (o0 o1 : Addr) (j0 : Int32) (us_o1 : List Int32) (cs : Int32) (h0 : Heap) (n0 : Nat) (Z0 : n0 ≤ h0.size) (E_o0 : Exa Z h0 o0 "java/lang/StringBuilder") (F_o0_coder : Fld Z h0 o0 "java/lang/AbstractStringBuilder" "coder" "B" (.int 0)) (F_o0_value : Fld Z h0 o0 "java/lang/AbstractStringBuilder" "value" "[B" (.ref o1)) (F_o0_count : Fld Z h0 o0 "java/lang/AbstractStringBuilder" "count" "I" (.int j0)) (V_o1 : own_Ar Z h0 o1 .byte (List.map own_lo us_o1)) (S_cs : Sta Z h0 "java/lang/String" "COMPACT_STRINGS" "Z" (.int cs)) (hl_o1 : us_o1.length = 36) (hcs : ¬ (cs = (0 : Int32))) (hn1 : ¬ (j0 = (36 : Int32))) (hn2 : ¬ (j0 < (0 : Int32))) (hn3 : (j0.toNatClampNeg < 37)) (hn4 : (j0 < (36 : Int32))) (hn5 : (j0.toNatClampNeg < 36)) :
    own_M l Z (⟨"java/lang/StringBuilder", "toString", "()Ljava/lang/String;"⟩ : MethodName) jdk_67_method_42_code 1 (some (.object "java/lang/String")) [] (⟨5, 2, 40, 79⟩ : Room) #[(.ref o0)] h0 n0 (fun v h => ∃ x1 x2 : Addr, v = some (.ref x1) ∧ Keep h0 h [] ∧ h0.size ≤ x1 ∧ h0.size ≤ x2 ∧ x2 ≠ x1 ∧ Exa Z h x1 "java/lang/String" ∧ Fld Z h x1 "java/lang/String" "value" "[B" (.ref x2) ∧ Fld Z h x1 "java/lang/String" "coder" "B" (.int 0) ∧ own_Ar Z h x2 .byte (List.map own_lo (List.take j0.toNatClampNeg us_o1)) ∧ ((List.take j0.toNatClampNeg us_o1) : List Int32).length = j0.toNatClampNeg) := by
  refine own_M.of pl44 ?_
  intro p e s m below meth c S0 hx hby hml hown hnm hret hlk hZ A00
  have H : own_H p c _ := ⟨hx, hby⟩
  have A0 := A00.cast (f' := mkF m 0 #[.val (.ref o0)] []) (by first | (simp [entryFrame, mkF, argsToLocals, Value.category, maxLocals]; done) | rfl)
  have KK : Keep h0 h0 ([] : List Addr) := Keep.refl _ _
  obtain ⟨h1, E2, E_x1, D_x1, A3⟩ := A0.newO hx hZ hown (hb hby dm22_0) (oW hw 131 rfl) (oW hw 7 rfl) (oW hw 8 rfl) (by decide) (by decide)
  obtain ⟨x1, gx1⟩ : ∃ z, z = h0.size := ⟨_, rfl⟩
  rw [← gx1] at E_x1 D_x1 A3
  have ne_o0_x1 : o0 ≠ x1 := by rw [gx1]; exact Nat.ne_of_lt E_o0.lt
  have ne_o1_x1 : o1 ≠ x1 := by rw [gx1]; exact Nat.ne_of_lt V_o1.lt
  have g_x1 : n0 ≤ x1 := by rw [gx1]; exact Z0
  have sz_x1 : h0.size ≤ x1 := by rw [gx1]; exact KK.1
  have E_o0 := E_o0.ext E2
  have F_o0_coder := F_o0_coder.ext E2
  have F_o0_value := F_o0_value.ext E2
  have F_o0_count := F_o0_count.ext E2
  have V_o1 := V_o1.ext E2
  have S_cs := S_cs.ext E2
  have Z0 := Nat.le_trans Z0 E2.1
  have KK : Keep h0 h1 [] := KK.ext E2
  have F_x1_value : Fld Z h1 x1 "java/lang/String" "value" "[B" .null := D_x1 (Or.inr (oW hw 21 rfl)) (ty := (.array .byte)) (by decide)
  have F_x1_coder : Fld Z h1 x1 "java/lang/String" "coder" "B" (.int 0) := D_x1 (Or.inr (oW hw 22 rfl)) (ty := .byte) (by decide)
  have A5 := A3.du H dm22_3 rfl rfl |>.aN H dm22_4 rfl rfl rfl
  obtain ⟨vA4, hA4, ⟨x2, rfl, KA4, zz_x2, P_F_x1_value, P_F_x1_coder, P_V_x2, hl_x2⟩, A4⟩ := A5.cI (own_c101 l Z a0 hw x1 o0 o1 j0 _ cs h1 n0 Z0 E_x1 F_x1_value F_x1_coder E_o0 F_o0_coder F_o0_value F_o0_count V_o1 S_cs hl_o1 hcs hn1 hn2 hn3 hn4 hn5 ne_o0_x1 ne_o1_x1 g_x1) H hZ hown dm22_5 (oW hw 132 rfl) (kI36 hw) hml rfl rfl [(.ref x1)] rfl rfl
  have ne_x1_x2 : x1 ≠ x2 := Nat.ne_of_lt (Nat.lt_of_lt_of_le E_x1.lt zz_x2)
  have ne_x2_x1 := Ne.symm ne_x1_x2
  have sz_x2 : h0.size ≤ x2 := Nat.le_trans KK.1 zz_x2
  have E_x1 := E_x1.keep KA4
  have KK : Keep h0 hA4 [] := KK.trans KA4 (allS (P := fun x => x ∈ ([] : List Addr) ∨ h0.size ≤ x) (Or.inr sz_x1) all0)
  have F_x1_value : Fld Z hA4 x1 "java/lang/String" "value" "[B" (.ref x2) := P_F_x1_value
  have F_x1_coder : Fld Z hA4 x1 "java/lang/String" "coder" "B" (.int 0) := P_F_x1_coder
  have V_x2 : own_Ar Z hA4 x2 .byte (List.map own_lo (List.take j0.toNatClampNeg us_o1)) := P_V_x2
  have A6 := A4.c0
  exact A6.ret hx hlk hret (hb hby dm22_8) rfl (Or.inr (Or.inr (Or.inr (Or.inr ⟨rfl, rfl, rfl⟩)))) (by decide) (by decide) ⟨x1, x2, rfl, KK, sz_x1, sz_x2, ne_x2_x1, E_x1, F_x1_value, F_x1_coder, V_x2, hl_x2⟩
theorem own_c104 (l : Launch) (Z : State) (a0 : Array Value) (hw : ∀ d ∈ tables_1, d.before a0 Z = true)  (h0 : Heap) (n0 : Nat) (Z0 : n0 ≤ h0.size)  :
    own_M l Z (⟨"java/lang/Math", "min", "(II)I"⟩ : MethodName) jdk_29_method_69_code 2 (some .int) [] (⟨0, 0, 0, 0⟩ : Room) #[(.int 24), (.int 24)] h0 n0 (fun v h => v = some (.int 24) ∧ h0 = h) := by
  refine own_M.of (by decide +kernel) ?_
  intro p e s m below meth c S0 hx hby hml hown hnm hret hlk hZ A00
  have H : own_H p c _ := ⟨hx, hby⟩
  have A0 := A00.cast (f' := mkF m 0 #[.val (.int 24), .val (.int 24)] []) (by first | (simp [entryFrame, mkF, argsToLocals, Value.category, maxLocals]; done) | rfl)
  have A1 := A0.iN H dm17_0 rfl rfl |>.iN H dm17_1 rfl rfl |>.cn H dm17_2 rfl rfl |>.iN H dm17_5 rfl rfl |>.gt H dm17_6 rfl 10 (by decide) (by decide)
  exact A1.ret hx hlk hret (hb hby dm17_10) rfl (Or.inl ⟨rfl, by simp, _, rfl⟩) (by decide) (by decide) ⟨rfl, rfl⟩
theorem own_c106 (l : Launch) (Z : State) (a0 : Array Value) (hw : ∀ d ∈ tables_1, d.before a0 Z = true)  (h0 : Heap) (n0 : Nat) (Z0 : n0 ≤ h0.size)  :
    own_M l Z (⟨"java/lang/Math", "min", "(II)I"⟩ : MethodName) jdk_29_method_69_code 2 (some .int) [] (⟨0, 0, 0, 0⟩ : Room) #[(.int 25), (.int 24)] h0 n0 (fun v h => v = some (.int 24) ∧ h0 = h) := by
  refine own_M.of (by decide +kernel) ?_
  intro p e s m below meth c S0 hx hby hml hown hnm hret hlk hZ A00
  have H : own_H p c _ := ⟨hx, hby⟩
  have A0 := A00.cast (f' := mkF m 0 #[.val (.int 25), .val (.int 24)] []) (by first | (simp [entryFrame, mkF, argsToLocals, Value.category, maxLocals]; done) | rfl)
  have A1 := A0.iN H dm17_0 rfl rfl |>.iN H dm17_1 rfl rfl |>.cy H dm17_2 rfl rfl 9 (by decide) (by decide) |>.iN H dm17_9 rfl rfl
  exact A1.ret hx hlk hret (hb hby dm17_10) rfl (Or.inl ⟨rfl, by simp, _, rfl⟩) (by decide) (by decide) ⟨rfl, rfl⟩
theorem own_c110 (l : Launch) (Z : State) (a0 : Array Value) (hw : ∀ d ∈ tables_1, d.before a0 Z = true) (o0 o1 : Addr) (us_o1 : List Int32) (cs : Int32) (h0 : Heap) (n0 : Nat) (Z0 : n0 ≤ h0.size) (E_o0 : Exa Z h0 o0 "java/lang/String") (F_o0_coder : Fld Z h0 o0 "java/lang/String" "coder" "B" (.int 0)) (F_o0_value : Fld Z h0 o0 "java/lang/String" "value" "[B" (.ref o1)) (V_o1 : own_Ar Z h0 o1 .byte (List.map own_lo us_o1)) (S_cs : Sta Z h0 "java/lang/String" "COMPACT_STRINGS" "Z" (.int cs)) (hl_o1 : us_o1.length = 3) (hcs : ¬ (cs = (0 : Int32))) :
    own_M l Z (⟨"java/lang/String", "length", "()I"⟩ : MethodName) jdk_42_method_54_code 1 (some .int) [] (⟨1, 0, 0, 13⟩ : Room) #[(.ref o0)] h0 n0 (fun v h => v = some (.int 3) ∧ h0 = h) := by
  refine own_M.of pl9 ?_
  intro p e s m below meth c S0 hx hby hml hown hnm hret hlk hZ A00
  have H : own_H p c _ := ⟨hx, hby⟩
  have A0 := A00.cast (f' := mkF m 0 #[.val (.ref o0)] []) (by first | (simp [entryFrame, mkF, argsToLocals, Value.category, maxLocals]; done) | rfl)
  have A1 := A0.aN H dm8_0 rfl rfl rfl
  have A2 := A1.getF hx hZ hown (hb hby dm8_1) (oW hw 25 rfl) Via.refl F_o0_value
  have A3 : own_R p l e _ _ m _ below meth c S0 n0 h0 0 0 (mkF m 5 #[.val (.ref o0)] [(.int (List.map own_lo us_o1).length.toInt32)]) := A2.len hx hZ (hb hby dm8_4) V_o1
  rw [List.length_map, hl_o1] at A3
  have A4 : own_R p l e _ _ m _ below meth c S0 n0 h0 0 0 (mkF m 5 #[.val (.ref o0)] [(.int 3)]) := A3
  have A6 := A4.aN H dm8_5 rfl rfl rfl
  obtain ⟨vA5, hA5, ⟨rfl, rfl⟩, A5⟩ := A6.cV (own_c5 l Z a0 hw o0 cs h0 n0 Z0 F_o0_coder S_cs hcs) E_o0 H hZ hown dm8_6 (oW hw 50 rfl) (kV5 hw) hml rfl rfl [(.int 3)] rfl rfl
  have A7 := A5.cl |>.sr H dm8_9 rfl 3 rfl
  exact A7.ret hx hlk hret (hb hby dm8_10) rfl (Or.inl ⟨rfl, by simp, _, rfl⟩) (by decide) (by decide) ⟨rfl, rfl⟩
theorem own_c113 (l : Launch) (Z : State) (a0 : Array Value) (hw : ∀ d ∈ tables_1, d.before a0 Z = true) (o0 o1 o2 : Addr) (us_o1 : List Int32) (us_o2 : List Int32) (cs : Int32) (h0 : Heap) (n0 : Nat) (Z0 : n0 ≤ h0.size) (E_o0 : Exa Z h0 o0 "java/lang/String") (F_o0_coder : Fld Z h0 o0 "java/lang/String" "coder" "B" (.int 0)) (F_o0_value : Fld Z h0 o0 "java/lang/String" "value" "[B" (.ref o2)) (V_o1 : own_Ar Z h0 o1 .byte (List.map own_lo us_o1)) (V_o2 : own_Ar Z h0 o2 .byte (List.map own_lo us_o2)) (S_cs : Sta Z h0 "java/lang/String" "COMPACT_STRINGS" "Z" (.int cs)) (hl_o1 : us_o1.length = 36) (hl_o2 : us_o2.length = 3) (hcs : ¬ (cs = (0 : Int32))) (ne_o0_o1 : o0 ≠ o1) (ne_o2_o1 : o2 ≠ o1) (g_o1 : n0 ≤ o1) :
    own_M l Z (⟨"java/lang/String", "getBytes", "([BIB)V"⟩ : MethodName) jdk_42_method_147_code 4 none [] (⟨1, 0, 0, 18⟩ : Room) #[(.ref o0), (.ref o1), (.int 25), (.int 0)] h0 n0 (fun v h => v = none ∧ Keep h0 h [o1] ∧ own_Ar Z h o1 .byte (List.map own_lo (List.take 25 us_o1 ++ List.take 3 (List.drop 0 us_o2) ++ List.drop (25 + 3) us_o1)) ∧ ((List.take 25 us_o1 ++ List.take 3 (List.drop 0 us_o2) ++ List.drop (25 + 3) us_o1) : List Int32).length = 36) := by
  refine own_M.of pl24 ?_
  intro p e s m below meth c S0 hx hby hml hown hnm hret hlk hZ A00
  have H : own_H p c _ := ⟨hx, hby⟩
  have A0 := A00.cast (f' := mkF m 0 #[.val (.ref o0), .val (.ref o1), .val (.int 25), .val (.int 0)] []) (by first | (simp [entryFrame, mkF, argsToLocals, Value.category, maxLocals]; done) | rfl)
  have KK : Keep h0 h0 ([o1] : List Addr) := Keep.refl _ _
  have A2 := A0.aN H dm16_0 rfl rfl rfl
  obtain ⟨vA1, hA1, ⟨rfl, rfl⟩, A1⟩ := A2.cV (own_c5 l Z a0 hw o0 cs h0 n0 Z0 F_o0_coder S_cs hcs) E_o0 H hZ hown dm16_1 (oW hw 50 rfl) (kV5 hw) hml rfl rfl [] rfl rfl
  have q3 : ((0 : Int32) = (0 : Int32)) := rfl
  have A4 := A1.cl |>.iN H dm16_4 rfl rfl |>.cn H dm16_5 rfl ((teq q3).2) |>.aN H dm16_8 rfl rfl rfl
  have A5 := A4.getF hx hZ hown (hb hby dm16_9) (oW hw 25 rfl) Via.refl F_o0_value
  have A6 := A5.ic H dm16_12 rfl 0 rfl |>.aN H dm16_13 rfl rfl rfl |>.iN H dm16_14 rfl rfl |>.iN H dm16_15 rfl rfl |>.lS H dm16_16 rfl 25 rfl |>.aN H dm16_17 rfl rfl rfl
  have A7 := A6.getF hx hZ hown (hb hby dm16_18) (oW hw 25 rfl) Via.refl F_o0_value
  have A8 : own_R p l e _ _ m _ below meth c S0 n0 h0 0 0 (mkF m 22 #[.val (.ref o0), .val (.ref o1), .val (.int 25), .val (.int 0)] [(.int (List.map own_lo us_o2).length.toInt32), (.int 25), (.ref o1), (.int 0), (.ref o2)]) := A7.len hx hZ (hb hby dm16_21) V_o2
  rw [List.length_map, hl_o2] at A8
  have A9 : own_R p l e _ _ m _ below meth c S0 n0 h0 0 0 (mkF m 22 #[.val (.ref o0), .val (.ref o1), .val (.int 25), .val (.int 0)] [(.int 3), (.int 25), (.ref o1), (.int 0), (.ref o2)]) := A8
  obtain ⟨hA10, KA10, P_V_o1, A10⟩ := A9.cpL (S := 0) (D := 25) (N := 3) hx hZ hown (hb hby dm16_22) (oW hw 99 rfl) (oW hw 102 rfl) (oW hw 100 rfl) (oW hw 101 rfl) V_o2 V_o1 (z1 := (3 : Int32)) (z2 := (36 : Int32)) (by rw [hl_o2]; rfl) (by rw [hl_o1]; rfl) (by decide) (by decide) (by decide) (by decide) (by decide) rfl rfl rfl (by rw [hl_o2]; decide) (by rw [hl_o1]; decide) g_o1 (by rw [hml]; rfl) (W := 0) (Nat.le_of_eq rfl) (by decide) (by decide)
  have hl_o1 : ((List.take 25 us_o1 ++ List.take 3 (List.drop 0 us_o2) ++ List.drop (25 + 3) us_o1) : List Int32).length = 36 := by simp [hl_o2, hl_o1]
  have KK : Keep h0 hA10 [o1] := KK.trans KA10 (allS (P := fun x => x ∈ ([o1] : List Addr) ∨ h0.size ≤ x) (Or.inl (by simp)) all0)
  have V_o1 : own_Ar Z hA10 o1 .byte (List.map own_lo (List.take 25 us_o1 ++ List.take 3 (List.drop 0 us_o2) ++ List.drop (25 + 3) us_o1)) := P_V_o1
  have A11 := A10.gt H dm16_25 rfl 43 (by decide) (by decide)
  exact A11.retV hx hlk hret (hb hby dm16_43) (by decide) (by decide) ⟨rfl, KK, V_o1, hl_o1⟩
theorem own_c114 (l : Launch) (Z : State) (a0 : Array Value) (hw : ∀ d ∈ tables_1, d.before a0 Z = true) (o0 o1 o2 o3 : Addr) (us_o2 : List Int32) (us_o3 : List Int32) (cs : Int32) (h0 : Heap) (n0 : Nat) (Z0 : n0 ≤ h0.size) (E_o0 : Exa Z h0 o0 "java/lang/StringBuilder") (F_o0_coder : Fld Z h0 o0 "java/lang/AbstractStringBuilder" "coder" "B" (.int 0)) (F_o0_value : Fld Z h0 o0 "java/lang/AbstractStringBuilder" "value" "[B" (.ref o2)) (E_o1 : Exa Z h0 o1 "java/lang/String") (F_o1_coder : Fld Z h0 o1 "java/lang/String" "coder" "B" (.int 0)) (F_o1_value : Fld Z h0 o1 "java/lang/String" "value" "[B" (.ref o3)) (V_o2 : own_Ar Z h0 o2 .byte (List.map own_lo us_o2)) (V_o3 : own_Ar Z h0 o3 .byte (List.map own_lo us_o3)) (S_cs : Sta Z h0 "java/lang/String" "COMPACT_STRINGS" "Z" (.int cs)) (hl_o2 : us_o2.length = 36) (hl_o3 : us_o3.length = 3) (hcs : ¬ (cs = (0 : Int32))) (ne_o0_o2 : o0 ≠ o2) (ne_o1_o2 : o1 ≠ o2) (ne_o3_o2 : o3 ≠ o2) (g_o2 : n0 ≤ o2) :
    own_M l Z (⟨"java/lang/AbstractStringBuilder", "putStringAt", "(ILjava/lang/String;)V"⟩ : MethodName) jdk_68_method_73_code 3 none [] (⟨2, 0, 0, 33⟩ : Room) #[(.ref o0), (.int 25), (.ref o1)] h0 n0 (fun v h => v = none ∧ Keep h0 h [o2] ∧ own_Ar Z h o2 .byte (List.map own_lo (List.take 25 us_o2 ++ List.take 3 (List.drop 0 us_o3) ++ List.drop (25 + 3) us_o2)) ∧ ((List.take 25 us_o2 ++ List.take 3 (List.drop 0 us_o3) ++ List.drop (25 + 3) us_o2) : List Int32).length = 36) := by
  refine own_M.of pl25 ?_
  intro p e s m below meth c S0 hx hby hml hown hnm hret hlk hZ A00
  have H : own_H p c _ := ⟨hx, hby⟩
  have A0 := A00.cast (f' := mkF m 0 #[.val (.ref o0), .val (.int 25), .val (.ref o1)] []) (by first | (simp [entryFrame, mkF, argsToLocals, Value.category, maxLocals]; done) | rfl)
  have KK : Keep h0 h0 ([o2] : List Addr) := Keep.refl _ _
  have A2 := A0.aN H dm14_0 rfl rfl rfl |>.aN H dm14_1 rfl rfl rfl
  obtain ⟨vA1, hA1, ⟨rfl, rfl⟩, A1⟩ := A2.cV (own_c14 l Z a0 hw o0 o1 cs h0 n0 Z0 F_o0_coder E_o1 F_o1_coder S_cs hcs) E_o0 H hZ hown dm14_2 (oW hw 88 rfl) (kV19 hw) hml rfl rfl [] rfl rfl
  have A3 := A1.c0 |>.aN H dm14_5 rfl rfl rfl |>.aN H dm14_6 rfl rfl rfl
  have A4 := A3.getF hx hZ hown (hb hby dm14_7) (oW hw 60 rfl) Via.refl F_o0_value
  have A5 := A4.iN H dm14_10 rfl rfl |>.aN H dm14_11 rfl rfl rfl
  have A6 := A5.getF hx hZ hown (hb hby dm14_12) (oW hw 58 rfl) Via.refl F_o0_coder
  obtain ⟨vA7, hA7, ⟨rfl, KA7, P_V_o2, hl_o2⟩, A7⟩ := A6.cV (own_c113 l Z a0 hw o1 o2 o3 _ _ cs h0 n0 Z0 E_o1 F_o1_coder F_o1_value V_o2 V_o3 S_cs hl_o2 hl_o3 hcs ne_o1_o2 ne_o3_o2 g_o2) E_o1 H hZ hown dm14_15 (oW hw 94 rfl) (kV20 hw) hml rfl rfl [] rfl rfl
  have KK : Keep h0 hA7 [o2] := KK.trans KA7 (allS (P := fun x => x ∈ ([o2] : List Addr) ∨ h0.size ≤ x) (Or.inl (by simp)) all0)
  have V_o2 : own_Ar Z hA7 o2 .byte (List.map own_lo (List.take 25 us_o2 ++ List.take 3 (List.drop 0 us_o3) ++ List.drop (25 + 3) us_o2)) := P_V_o2
  have A8 := A7.c0
  exact A8.retV hx hlk hret (hb hby dm14_18) (by decide) (by decide) ⟨rfl, KK, V_o2, hl_o2⟩
theorem own_c115 (l : Launch) (Z : State) (a0 : Array Value) (hw : ∀ d ∈ tables_1, d.before a0 Z = true) (o0 o1 o2 o3 : Addr) (us_o2 : List Int32) (us_o3 : List Int32) (cs : Int32) (h0 : Heap) (n0 : Nat) (Z0 : n0 ≤ h0.size) (E_o0 : Exa Z h0 o0 "java/lang/StringBuilder") (F_o0_coder : Fld Z h0 o0 "java/lang/AbstractStringBuilder" "coder" "B" (.int 0)) (F_o0_value : Fld Z h0 o0 "java/lang/AbstractStringBuilder" "value" "[B" (.ref o2)) (F_o0_count : Fld Z h0 o0 "java/lang/AbstractStringBuilder" "count" "I" (.int 25)) (E_o1 : Exa Z h0 o1 "java/lang/String") (F_o1_coder : Fld Z h0 o1 "java/lang/String" "coder" "B" (.int 0)) (F_o1_value : Fld Z h0 o1 "java/lang/String" "value" "[B" (.ref o3)) (V_o2 : own_Ar Z h0 o2 .byte (List.map own_lo us_o2)) (V_o3 : own_Ar Z h0 o3 .byte (List.map own_lo us_o3)) (S_cs : Sta Z h0 "java/lang/String" "COMPACT_STRINGS" "Z" (.int cs)) (hl_o2 : us_o2.length = 36) (hl_o3 : us_o3.length = 3) (hcs : ¬ (cs = (0 : Int32))) (ne_o0_o2 : o0 ≠ o2) (ne_o1_o0 : o1 ≠ o0) (ne_o1_o2 : o1 ≠ o2) (ne_o2_o0 : o2 ≠ o0) (ne_o3_o0 : o3 ≠ o0) (ne_o3_o2 : o3 ≠ o2) (g_o0 : n0 ≤ o0) (g_o2 : n0 ≤ o2) :
    own_M l Z (⟨"java/lang/AbstractStringBuilder", "append", "(Ljava/lang/String;)Ljava/lang/AbstractStringBuilder;"⟩ : MethodName) jdk_68_method_22_code 3 (some (.object "java/lang/AbstractStringBuilder")) [] (⟨3, 0, 0, 47⟩ : Room) #[(.ref o0), (.ref o1)] h0 n0 (fun v h => v = some (.ref o0) ∧ Keep h0 h [o0, o2] ∧ Fld Z h o0 "java/lang/AbstractStringBuilder" "coder" "B" (.int 0) ∧ Fld Z h o0 "java/lang/AbstractStringBuilder" "value" "[B" (.ref o2) ∧ Fld Z h o0 "java/lang/AbstractStringBuilder" "count" "I" (.int 28) ∧ own_Ar Z h o2 .byte (List.map own_lo (List.take 25 us_o2 ++ List.take 3 (List.drop 0 us_o3) ++ List.drop (25 + 3) us_o2)) ∧ ((List.take 25 us_o2 ++ List.take 3 (List.drop 0 us_o3) ++ List.drop (25 + 3) us_o2) : List Int32).length = 36) := by
  refine own_M.of pl26 ?_
  intro p e s m below meth c S0 hx hby hml hown hnm hret hlk hZ A00
  have H : own_H p c _ := ⟨hx, hby⟩
  have A0 := A00.cast (f' := mkF m 0 #[.val (.ref o0), .val (.ref o1), .unset] []) (by first | (simp [entryFrame, mkF, argsToLocals, Value.category, maxLocals]; done) | rfl)
  have KK : Keep h0 h0 ([o0, o2] : List Addr) := Keep.refl _ _
  have A2 := A0.aN H dm12_0 rfl rfl rfl |>.ny H dm12_1 rfl 9 (by decide) (by decide) |>.aN H dm12_9 rfl rfl rfl
  obtain ⟨vA1, hA1, ⟨rfl, rfl⟩, A1⟩ := A2.cV (own_c110 l Z a0 hw o1 o3 _ cs h0 n0 Z0 E_o1 F_o1_coder F_o1_value V_o3 S_cs hl_o3 hcs) E_o1 H hZ hown dm12_10 (oW hw 45 rfl) (kV17 hw) hml rfl rfl [] rfl rfl
  have A3 := A1.cl |>.iM H dm12_13 rfl #[.val (.ref o0), .val (.ref o1), .val (.int 3)] rfl |>.aN H dm12_14 rfl rfl rfl |>.aN H dm12_15 rfl rfl rfl
  have A4 := A3.getF hx hZ hown (hb hby dm12_16) (oW hw 76 rfl) Via.refl F_o0_count
  have A6 := A4.iN H dm12_19 rfl rfl |>.ad H dm12_20 rfl 28 rfl
  obtain ⟨vA5, hA5, ⟨rfl, rfl⟩, A5⟩ := A6.cV (own_c88 l Z a0 hw o0 o2 (28 : Int32) _ h0 n0 Z0 F_o0_coder F_o0_value V_o2 hl_o2 (by decide)) E_o0 H hZ hown dm12_21 (oW hw 78 rfl) (kV18 hw) hml rfl rfl [] rfl rfl
  have A7 := A5.c0 |>.aN H dm12_24 rfl rfl rfl |>.aN H dm12_25 rfl rfl rfl
  have A8 := A7.getF hx hZ hown (hb hby dm12_26) (oW hw 76 rfl) Via.refl F_o0_count
  have A10 := A8.aN H dm12_29 rfl rfl rfl
  obtain ⟨vA9, hA9, ⟨rfl, KA9, P_V_o2, hl_o2⟩, A9⟩ := A10.cV (own_c114 l Z a0 hw o0 o1 o2 o3 _ _ cs h0 n0 Z0 E_o0 F_o0_coder F_o0_value E_o1 F_o1_coder F_o1_value V_o2 V_o3 S_cs hl_o2 hl_o3 hcs ne_o0_o2 ne_o1_o2 ne_o3_o2 g_o2) E_o0 H hZ hown dm12_30 (oW hw 83 rfl) (kV21 hw) hml rfl rfl [] rfl rfl
  have E_o0 := E_o0.keep KA9
  have F_o0_coder := F_o0_coder.keep KA9 (ninS ne_o0_o2 nin0)
  have F_o0_value := F_o0_value.keep KA9 (ninS ne_o0_o2 nin0)
  have F_o0_count := F_o0_count.keep KA9 (ninS ne_o0_o2 nin0)
  have KK : Keep h0 hA9 [o0, o2] := KK.trans KA9 (allS (P := fun x => x ∈ ([o0, o2] : List Addr) ∨ h0.size ≤ x) (Or.inl (by simp)) all0)
  have V_o2 : own_Ar Z hA9 o2 .byte (List.map own_lo (List.take 25 us_o2 ++ List.take 3 (List.drop 0 us_o3) ++ List.drop (25 + 3) us_o2)) := P_V_o2
  have A11 := A9.c0 |>.aN H dm12_33 rfl rfl rfl |>.du H dm12_34 rfl rfl
  have A12 := A11.getF hx hZ hown (hb hby dm12_35) (oW hw 76 rfl) Via.refl F_o0_count
  have A16 := A12.iN H dm12_38 rfl rfl |>.ad H dm12_39 rfl 28 rfl
  obtain ⟨h13, W14, A15⟩ := A16.putF hx hZ hown (hb hby dm12_40) (oW hw 76 rfl) F_o0_count E_o0 (Or.inl (oW hw 77 rfl)) (oW hw 32 rfl) (ty := .int) (by decide) rfl rfl g_o0
  have F_o0_coder := F_o0_coder.other W14 (Or.inr (slot_ne (Or.inl (oW hw 59 rfl)) (Or.inl (oW hw 77 rfl)) (by decide) (t := .byte) (t' := .int) (by decide) (by decide)))
  have F_o0_value := F_o0_value.other W14 (Or.inr (slot_ne (Or.inl (oW hw 61 rfl)) (Or.inl (oW hw 77 rfl)) (by decide) (t := (.array .byte)) (t' := .int) (by decide) (by decide)))
  have F_o0_count : Fld Z h13 o0 "java/lang/AbstractStringBuilder" "count" "I" (.int 28) := F_o0_count.same W14
  have V_o2 := V_o2.other W14 ne_o2_o0
  have KK : Keep h0 h13 [o0, o2] := KK.wr W14 (Or.inl (by simp))
  have A17 := A15.aN H dm12_43 rfl rfl rfl
  exact A17.ret hx hlk hret (hb hby dm12_44) rfl (Or.inr (Or.inr (Or.inr (Or.inr ⟨rfl, rfl, rfl⟩)))) (by decide) (by decide) ⟨rfl, KK, F_o0_coder, F_o0_value, F_o0_count, V_o2, hl_o2⟩
theorem own_c116 (l : Launch) (Z : State) (a0 : Array Value) (hw : ∀ d ∈ tables_1, d.before a0 Z = true) (o0 o1 o2 o3 : Addr) (us_o2 : List Int32) (us_o3 : List Int32) (cs : Int32) (h0 : Heap) (n0 : Nat) (Z0 : n0 ≤ h0.size) (E_o0 : Exa Z h0 o0 "java/lang/StringBuilder") (F_o0_coder : Fld Z h0 o0 "java/lang/AbstractStringBuilder" "coder" "B" (.int 0)) (F_o0_value : Fld Z h0 o0 "java/lang/AbstractStringBuilder" "value" "[B" (.ref o2)) (F_o0_count : Fld Z h0 o0 "java/lang/AbstractStringBuilder" "count" "I" (.int 25)) (E_o1 : Exa Z h0 o1 "java/lang/String") (F_o1_coder : Fld Z h0 o1 "java/lang/String" "coder" "B" (.int 0)) (F_o1_value : Fld Z h0 o1 "java/lang/String" "value" "[B" (.ref o3)) (V_o2 : own_Ar Z h0 o2 .byte (List.map own_lo us_o2)) (V_o3 : own_Ar Z h0 o3 .byte (List.map own_lo us_o3)) (S_cs : Sta Z h0 "java/lang/String" "COMPACT_STRINGS" "Z" (.int cs)) (hl_o2 : us_o2.length = 36) (hl_o3 : us_o3.length = 3) (hcs : ¬ (cs = (0 : Int32))) (ne_o0_o2 : o0 ≠ o2) (ne_o1_o0 : o1 ≠ o0) (ne_o1_o2 : o1 ≠ o2) (ne_o2_o0 : o2 ≠ o0) (ne_o3_o0 : o3 ≠ o0) (ne_o3_o2 : o3 ≠ o2) (g_o0 : n0 ≤ o0) (g_o2 : n0 ≤ o2) :
    own_M l Z (⟨"java/lang/StringBuilder", "append", "(Ljava/lang/String;)Ljava/lang/StringBuilder;"⟩ : MethodName) jdk_67_method_7_code 2 (some (.object "java/lang/StringBuilder")) [] (⟨4, 0, 0, 61⟩ : Room) #[(.ref o0), (.ref o1)] h0 n0 (fun v h => v = some (.ref o0) ∧ Keep h0 h [o0, o2] ∧ Fld Z h o0 "java/lang/AbstractStringBuilder" "coder" "B" (.int 0) ∧ Fld Z h o0 "java/lang/AbstractStringBuilder" "value" "[B" (.ref o2) ∧ Fld Z h o0 "java/lang/AbstractStringBuilder" "count" "I" (.int 28) ∧ own_Ar Z h o2 .byte (List.map own_lo (List.take 25 us_o2 ++ List.take 3 (List.drop 0 us_o3) ++ List.drop (25 + 3) us_o2)) ∧ ((List.take 25 us_o2 ++ List.take 3 (List.drop 0 us_o3) ++ List.drop (25 + 3) us_o2) : List Int32).length = 36) := by
  refine own_M.of pl27 ?_
  intro p e s m below meth c S0 hx hby hml hown hnm hret hlk hZ A00
  have H : own_H p c _ := ⟨hx, hby⟩
  have A0 := A00.cast (f' := mkF m 0 #[.val (.ref o0), .val (.ref o1)] []) (by first | (simp [entryFrame, mkF, argsToLocals, Value.category, maxLocals]; done) | rfl)
  have KK : Keep h0 h0 ([o0, o2] : List Addr) := Keep.refl _ _
  have A2 := A0.aN H dm11_0 rfl rfl rfl |>.aN H dm11_1 rfl rfl rfl
  obtain ⟨vA1, hA1, ⟨rfl, KA1, P_F_o0_coder, P_F_o0_value, P_F_o0_count, P_V_o2, hl_o2⟩, A1⟩ := A2.callU (b := o0) (own_c115 l Z a0 hw o0 o1 o2 o3 _ _ cs h0 n0 Z0 E_o0 F_o0_coder F_o0_value F_o0_count E_o1 F_o1_coder F_o1_value V_o2 V_o3 S_cs hl_o2 hl_o3 hcs ne_o0_o2 ne_o1_o0 ne_o1_o2 ne_o2_o0 ne_o3_o0 ne_o3_o2 g_o0 g_o2) E_o0 hx hZ hown (hb hby dm11_2) (by decide) (oW hw 73 rfl) (own_same (y' := (⟨"java/lang/AbstractStringBuilder", "ensureCapacityInternal", "(I)V"⟩ : MethodName)) (oW hw 81 rfl) rfl (oW hw 64 rfl) ⟨by decide, by decide⟩) (oW hw 64 rfl) (oW hw 74 rfl) (oW hw 75 rfl) (oW hw 42 rfl) (lenOf pd__28Ljava_2flang_2fString_3b_29Ljava_2flang_2fAbstractStringBuilder_3b rfl) (argsL := [(.ref o1)]) (rest := []) rfl rfl (by rw [hml]; rfl) (W := 0) (Nat.le_of_eq rfl) (by decide) (by decide) (by decide) (by decide)
  have KK : Keep h0 hA1 [o0, o2] := KK.trans KA1 (allS (P := fun x => x ∈ ([o0, o2] : List Addr) ∨ h0.size ≤ x) (Or.inl (by simp)) (allS (P := fun x => x ∈ ([o0, o2] : List Addr) ∨ h0.size ≤ x) (Or.inl (by simp)) all0))
  have F_o0_coder : Fld Z hA1 o0 "java/lang/AbstractStringBuilder" "coder" "B" (.int 0) := P_F_o0_coder
  have F_o0_value : Fld Z hA1 o0 "java/lang/AbstractStringBuilder" "value" "[B" (.ref o2) := P_F_o0_value
  have F_o0_count : Fld Z hA1 o0 "java/lang/AbstractStringBuilder" "count" "I" (.int 28) := P_F_o0_count
  have V_o2 : own_Ar Z hA1 o2 .byte (List.map own_lo (List.take 25 us_o2 ++ List.take 3 (List.drop 0 us_o3) ++ List.drop (25 + 3) us_o2)) := P_V_o2
  have A3 := A1.cl |>.po H dm11_5 rfl rfl |>.aN H dm11_6 rfl rfl rfl
  exact A3.ret hx hlk hret (hb hby dm11_7) rfl (Or.inr (Or.inr (Or.inr (Or.inr ⟨rfl, rfl, rfl⟩)))) (by decide) (by decide) ⟨rfl, KK, F_o0_coder, F_o0_value, F_o0_count, V_o2, hl_o2⟩
theorem own_c118 (l : Launch) (Z : State) (a0 : Array Value) (hw : ∀ d ∈ tables_1, d.before a0 Z = true)  (h0 : Heap) (n0 : Nat) (Z0 : n0 ≤ h0.size)  :
    own_M l Z (⟨"java/lang/Math", "min", "(II)I"⟩ : MethodName) jdk_29_method_69_code 2 (some .int) [] (⟨0, 0, 0, 0⟩ : Room) #[(.int 26), (.int 24)] h0 n0 (fun v h => v = some (.int 24) ∧ h0 = h) := by
  refine own_M.of (by decide +kernel) ?_
  intro p e s m below meth c S0 hx hby hml hown hnm hret hlk hZ A00
  have H : own_H p c _ := ⟨hx, hby⟩
  have A0 := A00.cast (f' := mkF m 0 #[.val (.int 26), .val (.int 24)] []) (by first | (simp [entryFrame, mkF, argsToLocals, Value.category, maxLocals]; done) | rfl)
  have A1 := A0.iN H dm17_0 rfl rfl |>.iN H dm17_1 rfl rfl |>.cy H dm17_2 rfl rfl 9 (by decide) (by decide) |>.iN H dm17_9 rfl rfl
  exact A1.ret hx hlk hret (hb hby dm17_10) rfl (Or.inl ⟨rfl, by simp, _, rfl⟩) (by decide) (by decide) ⟨rfl, rfl⟩
theorem own_c120 (l : Launch) (Z : State) (a0 : Array Value) (hw : ∀ d ∈ tables_1, d.before a0 Z = true)  (h0 : Heap) (n0 : Nat) (Z0 : n0 ≤ h0.size)  :
    own_M l Z (⟨"com/example/paretolio/paretolio/RecordReaderQuotePinLaw", "alloc", "(I)[C"⟩ : MethodName) method_5_code 1 (some (.array .char)) [] (⟨0, 1, 0, 0⟩ : Room) #[(.int 0)] h0 n0 (fun v h => ∃ x1 : Addr, v = some (.ref x1) ∧ Keep h0 h [] ∧ h0.size ≤ x1 ∧ own_Ar Z h x1 .char []) := by
  refine own_M.of pl49 ?_
  intro p e s m below meth c S0 hx hby hml hown hnm hret hlk hZ A00
  have H : own_H p c _ := ⟨hx, hby⟩
  have A0 := A00.cast (f' := mkF m 0 #[.val (.int 0)] []) (by first | (simp [entryFrame, mkF, argsToLocals, Value.category, maxLocals]; done) | rfl)
  have KK : Keep h0 h0 ([] : List Addr) := Keep.refl _ _
  have q1 : ((0 : Int32) = (0 : Int32)) := rfl
  have A5 := A0.iN H dm1_0 rfl rfl |>.fn H dm1_1 rfl ((if0 _ _).trans (teq q1).2) |>.ic H dm1_4 rfl 0 rfl
  obtain ⟨h2, E3, V_x1, A4⟩ := A5.newP hx hZ (hb hby dm1_5) (oW hw 4 rfl) (by decide) (cap := 0) (by decide) (by decide) (by decide) (by decide)
  obtain ⟨x1, gx1⟩ : ∃ z, z = h0.size := ⟨_, rfl⟩
  rw [← gx1] at V_x1 A4
  have sz_x1 : h0.size ≤ x1 := by rw [gx1]; exact KK.1
  have KK : Keep h0 h2 [] := KK.ext E3
  have V_x1 : own_Ar Z h2 x1 .char [] := V_x1
  exact A4.ret hx hlk hret (hb hby dm1_7) rfl (Or.inr (Or.inr (Or.inr (Or.inr ⟨rfl, rfl, rfl⟩)))) (by decide) (by decide) ⟨x1, rfl, KK, sz_x1, V_x1⟩
theorem own_c123 (l : Launch) (Z : State) (a0 : Array Value) (hw : ∀ d ∈ tables_1, d.before a0 Z = true) (o0 o1 : Addr) (h0 : Heap) (n0 : Nat) (Z0 : n0 ≤ h0.size) (hEL : EW Z a0 own_EL) (own_wS : ∀ a ∈ Bundle.stringAtoms, a.before a0 Z = true) (E_o0 : Exa Z h0 o0 "java/lang/String") (F_o0_value : Fld Z h0 o0 "java/lang/String" "value" "[B" .null) (F_o0_coder : Fld Z h0 o0 "java/lang/String" "coder" "B" (.int 0)) (g_o0 : n0 ≤ o0) :
    own_MS l Z own_EL (⟨"java/lang/String", "<init>", "([CIILjava/lang/Void;)V"⟩ : MethodName) jdk_42_method_149_code 6 none [] (⟨1, 4, 8, 12⟩ : Room) #[(.ref o0), (.ref o1), (.int 0), (.int 0), .null] h0 n0 (fun v h => ∃ x2 : Addr, v = none ∧ Keep h0 h [o0] ∧ x2 ≠ o0 ∧ Fld Z h o0 "java/lang/String" "value" "[B" (.ref x2) ∧ Fld Z h o0 "java/lang/String" "coder" "B" (.int 0) ∧ own_Ar Z h x2 .byte (List.map own_lo ([] : List Int32)) ∧ (([] : List Int32) : List Int32).length = 0) := by
  refine own_MS.of pl18 ?_
  intro p e s m below meth c S0 vm0 k0 hx hby hml hown hnm hret hlk hZ hS hk HC A00
  have H : own_H p c _ := ⟨hx, hby⟩
  have A0 := A00.cast (f' := mkF m 0 #[.val (.ref o0), .val (.ref o1), .val (.int 0), .val (.int 0), .val .null, .unset] []) (by first | (simp [entryFrame, mkF, argsToLocals, Value.category, maxLocals]; done) | rfl)
  have KK : Keep h0 h0 ([o0] : List Addr) := Keep.refl _ _
  have SX_o0 : Safe Z own_EL vm0 h0 o0 := own_safeNull hZ.alike E_o0 F_o0_value
  have A1 := A0.aN H dm3_0 rfl rfl rfl
  have A2 := A1.initO hx hZ hown (hb hby dm3_1) (oW hw 16 rfl) (oW hw 17 rfl) (oW hw 18 rfl) (by rw [hml]; rfl) (W := 0) (Nat.le_of_eq rfl) (by decide) (by decide)
  have q3 : ((0 : Int32) = (0 : Int32)) := rfl
  have A7 := A2.iN H dm3_4 rfl rfl |>.fn H dm3_5 rfl ((if0 _ _).trans (teq q3).2) |>.aN H dm3_8 rfl rfl rfl
  obtain ⟨x1, x2, vmA6, kA6, h4, E5, E_x1, F_x1_coder, F_x1_value, V_x2, ns_x1, hS, hk, hZ, hown, HCs, hLA6, A6⟩ := A7.ldcS hx hZ hown (hb hby dm3_9) (oW hw 19 rfl) own_wS hS hk hEL (by simp +decide [own_EL]) (CHr.refl HC.1) (vs := []) (z := (0 : Int32)) ⟨by decide, by decide⟩ (by decide) (by decide) (n := 0) (by decide) (by decide) (by decide) (by decide)
  have SX_o0 := HCs.safe E_o0.lt SX_o0
  have HC := HC.trans HCs
  have E_o0 := E_o0.ext E5
  have F_o0_value := F_o0_value.ext E5
  have F_o0_coder := F_o0_coder.ext E5
  have KK : Keep h0 h4 [o0] := KK.ext E5
  have ne_o0_x2 : o0 ≠ x2 := (ns_x1 _ SX_o0).2
  have ne_x2_o0 := Ne.symm ne_o0_x2
  have V_x2 : own_Ar Z h4 x2 .byte (List.map own_lo ([] : List Int32)) := V_x2
  have hl_x2 : (([] : List Int32) : List Int32).length = 0 := rfl
  have A8 := A6.getF hx hZ hown (hb hby dm3_11) (oW hw 25 rfl) Via.refl F_x1_value
  obtain ⟨h9, W10, A11⟩ := A8.putF hx hZ hown (hb hby dm3_14) (oW hw 25 rfl) F_o0_value E_o0 (Or.inr ⟨(oW hw 21 rfl), rfl, hnm⟩) (oW hw 7 rfl) (ty := (.array .byte)) (by decide) rfl rfl g_o0
  have SY_o0 := Safe.wr W10 SX_o0 HC.1 SX_o0
  have E_o0 := E_o0.wr W10
  have F_o0_value : Fld Z h9 o0 "java/lang/String" "value" "[B" (.ref x2) := F_o0_value.same W10
  have F_o0_coder := F_o0_coder.other W10 (Or.inr (slot_ne (Or.inr (oW hw 22 rfl)) (Or.inr (oW hw 21 rfl)) (by decide) (t := .byte) (t' := (.array .byte)) (by decide) (by decide)))
  have V_x2 := V_x2.other W10 ne_x2_o0
  have KK : Keep h0 h9 [o0] := KK.wr W10 (Or.inl (by simp))
  have hk := (by rw [W10.size]; exact hk : _ ≤ h9.size)
  have HC := HC.trans (CHr.wr W10 SX_o0 HC.1)
  have SX_o0 := SY_o0
  have A15 := A11.aN H dm3_17 rfl rfl rfl
  obtain ⟨x3, x4, vmA14, kA14, h12, E13, E_x3, F_x3_coder, F_x3_value, V_x4, ns_x3, hS, hk, hZ, hown, HCs, hLA14, A14⟩ := A15.ldcS hx hZ hown (hb hby dm3_18) (oW hw 19 rfl) own_wS hS hk hEL (by simp +decide [own_EL]) (CHr.refl HC.1) (vs := []) (z := (0 : Int32)) ⟨by decide, by decide⟩ (by decide) (by decide) (n := 0) (by decide) (by decide) (by decide) (by decide)
  have SX_o0 := HCs.safe E_o0.lt SX_o0
  have HC := HC.trans HCs
  have E_o0 := E_o0.ext E13
  have F_o0_value := F_o0_value.ext E13
  have F_o0_coder := F_o0_coder.ext E13
  have V_x2 := V_x2.ext E13
  have KK : Keep h0 h12 [o0] := KK.ext E13
  have A16 := A14.getF hx hZ hown (hb hby dm3_20) (oW hw 26 rfl) Via.refl F_x3_coder
  obtain ⟨h17, W18, A19⟩ := A16.putF hx hZ hown (hb hby dm3_23) (oW hw 26 rfl) F_o0_coder E_o0 (Or.inr ⟨(oW hw 22 rfl), rfl, hnm⟩) (oW hw 7 rfl) (ty := .byte) (by decide) rfl rfl g_o0
  have F_o0_value := F_o0_value.other W18 (Or.inr (slot_ne (Or.inr (oW hw 21 rfl)) (Or.inr (oW hw 22 rfl)) (by decide) (t := (.array .byte)) (t' := .byte) (by decide) (by decide)))
  have F_o0_coder : Fld Z h17 o0 "java/lang/String" "coder" "B" (.int 0) := F_o0_coder.same W18
  have V_x2 := V_x2.other W18 ne_x2_o0
  have KK : Keep h0 h17 [o0] := KK.wr W18 (Or.inl (by simp))
  have hk := (by rw [W18.size]; exact hk : _ ≤ h17.size)
  have HC := HC.trans (CHr.wr W18 SX_o0 HC.1)
  exact A19.retVS hx hlk hZ hS hk hEL HC hret (hb hby dm3_26) (by decide) (by decide) ⟨x2, rfl, KK, ne_x2_o0, F_o0_value, F_o0_coder, V_x2, hl_x2⟩
theorem own_c124 (l : Launch) (Z : State) (a0 : Array Value) (hw : ∀ d ∈ tables_1, d.before a0 Z = true) (o0 o1 : Addr) (h0 : Heap) (n0 : Nat) (Z0 : n0 ≤ h0.size) (hEL : EW Z a0 own_EL) (own_wS : ∀ a ∈ Bundle.stringAtoms, a.before a0 Z = true) (E_o0 : Exa Z h0 o0 "java/lang/String") (F_o0_value : Fld Z h0 o0 "java/lang/String" "value" "[B" .null) (F_o0_coder : Fld Z h0 o0 "java/lang/String" "coder" "B" (.int 0)) (V_o1 : own_Ar Z h0 o1 .char []) (ne_o1_o0 : o1 ≠ o0) (g_o0 : n0 ≤ o0) :
    own_MS l Z own_EL (⟨"java/lang/String", "<init>", "([C)V"⟩ : MethodName) jdk_42_method_3_code 2 none [] (⟨2, 4, 8, 29⟩ : Room) #[(.ref o0), (.ref o1)] h0 n0 (fun v h => ∃ x1 : Addr, v = none ∧ Keep h0 h [o0] ∧ x1 ≠ o0 ∧ Fld Z h o0 "java/lang/String" "value" "[B" (.ref x1) ∧ Fld Z h o0 "java/lang/String" "coder" "B" (.int 0) ∧ own_Ar Z h x1 .byte (List.map own_lo ([] : List Int32)) ∧ (([] : List Int32) : List Int32).length = 0) := by
  refine own_MS.of pl19 ?_
  intro p e s m below meth c S0 vm0 k0 hx hby hml hown hnm hret hlk hZ hS hk HC A00
  have H : own_H p c _ := ⟨hx, hby⟩
  have A0 := A00.cast (f' := mkF m 0 #[.val (.ref o0), .val (.ref o1)] []) (by first | (simp [entryFrame, mkF, argsToLocals, Value.category, maxLocals]; done) | rfl)
  have KK : Keep h0 h0 ([o0] : List Addr) := Keep.refl _ _
  have A2 := A0.aN H dm2_0 rfl rfl rfl |>.aN H dm2_1 rfl rfl rfl |>.ic H dm2_2 rfl 0 rfl |>.aN H dm2_3 rfl rfl rfl
  have A1 : own_R p l e _ _ m _ below meth c S0 n0 h0 0 0 (mkF m 5 #[.val (.ref o0), .val (.ref o1)] [(.int 0), (.int 0), (.ref o1), (.ref o0)]) := A2.len hx hZ (hb hby dm2_4) V_o1
  have A4 := A1.nu H dm2_5 rfl
  obtain ⟨vA3, vmA3, kA3, hA3, ⟨x1, rfl, KA3, ne_x1_o0, P_F_o0_value, P_F_o0_coder, P_V_x1, hl_x1⟩, hS, hk, hZ, hown, HCs, hgA3, hwA3, A3⟩ := A4.callIS (b := o0) (own_c123 l Z a0 hw o0 o1 h0 n0 Z0 hEL own_wS E_o0 F_o0_value F_o0_coder g_o0) hx hZ hown (hb hby dm2_6) rfl (oW hw 12 rfl) (oW hw 13 rfl) (oW hw 15 rfl) (oW hw 8 rfl) hS hk hEL (CHr.refl HC.1) ⟨by decide, by decide⟩ (lenOf pd__28_5bCIILjava_2flang_2fVoid_3b_29V rfl) (argsL := [(.ref o1), (.int 0), (.int 0), .null]) (rest := []) rfl rfl (by rw [hml]; rfl) (W := 0) (Nat.le_of_eq rfl) (by decide) (by decide) (by decide) (by decide)
  have HC := HC.trans HCs
  have KK : Keep h0 hA3 [o0] := KK.trans KA3 (allS (P := fun x => x ∈ ([o0] : List Addr) ∨ h0.size ≤ x) (Or.inl (by simp)) all0)
  have F_o0_value : Fld Z hA3 o0 "java/lang/String" "value" "[B" (.ref x1) := P_F_o0_value
  have F_o0_coder : Fld Z hA3 o0 "java/lang/String" "coder" "B" (.int 0) := P_F_o0_coder
  have V_x1 : own_Ar Z hA3 x1 .byte (List.map own_lo ([] : List Int32)) := P_V_x1
  have hl_x1 : (([] : List Int32) : List Int32).length = 0 := rfl
  have A5 := A3.c0
  exact A5.retVS hx hlk hZ hS hk hEL HC hret (hb hby dm2_9) (by decide) (by decide) ⟨x1, rfl, KK, ne_x1_o0, F_o0_value, F_o0_coder, V_x1, hl_x1⟩
theorem own_c126 (l : Launch) (Z : State) (a0 : Array Value) (hw : ∀ d ∈ tables_1, d.before a0 Z = true)  (h0 : Heap) (n0 : Nat) (Z0 : n0 ≤ h0.size)  :
    own_M l Z (⟨"com/example/paretolio/paretolio/RecordReaderQuotePinLaw", "alloc", "(I)[C"⟩ : MethodName) method_5_code 1 (some (.array .char)) [] (⟨0, 1, 1, 0⟩ : Room) #[(.int 1)] h0 n0 (fun v h => ∃ x1 : Addr, v = some (.ref x1) ∧ Keep h0 h [] ∧ h0.size ≤ x1 ∧ own_Ar Z h x1 .char [(.int 0)]) := by
  refine own_M.of pl49 ?_
  intro p e s m below meth c S0 hx hby hml hown hnm hret hlk hZ A00
  have H : own_H p c _ := ⟨hx, hby⟩
  have A0 := A00.cast (f' := mkF m 0 #[.val (.int 1)] []) (by first | (simp [entryFrame, mkF, argsToLocals, Value.category, maxLocals]; done) | rfl)
  have KK : Keep h0 h0 ([] : List Addr) := Keep.refl _ _
  have q1 : ((1 : Int32) = (1 : Int32)) := rfl
  have A5 := A0.iN H dm1_0 rfl rfl |>.fy H dm1_1 rfl rfl 8 (by decide) (by decide) |>.iN H dm1_8 rfl rfl |>.ic H dm1_9 rfl 1 rfl |>.cn H dm1_10 rfl ((teq q1).2) |>.ic H dm1_13 rfl 1 rfl
  obtain ⟨h2, E3, V_x1, A4⟩ := A5.newP hx hZ (hb hby dm1_14) (oW hw 4 rfl) (by decide) (cap := 1) (by decide) (by decide) (by decide) (by decide)
  obtain ⟨x1, gx1⟩ : ∃ z, z = h0.size := ⟨_, rfl⟩
  rw [← gx1] at V_x1 A4
  have sz_x1 : h0.size ≤ x1 := by rw [gx1]; exact KK.1
  have KK : Keep h0 h2 [] := KK.ext E3
  have V_x1 : own_Ar Z h2 x1 .char [(.int 0)] := V_x1
  exact A4.ret hx hlk hret (hb hby dm1_16) rfl (Or.inr (Or.inr (Or.inr (Or.inr ⟨rfl, rfl, rfl⟩)))) (by decide) (by decide) ⟨x1, rfl, KK, sz_x1, V_x1⟩
theorem own_c128 (l : Launch) (Z : State) (a0 : Array Value) (hw : ∀ d ∈ tables_1, d.before a0 Z = true)  (h0 : Heap) (n0 : Nat) (Z0 : n0 ≤ h0.size)  :
    own_M l Z (⟨"com/example/paretolio/paretolio/RecordReaderQuotePinLaw", "alloc", "(I)[C"⟩ : MethodName) method_5_code 1 (some (.array .char)) [] (⟨0, 1, 2, 0⟩ : Room) #[(.int 2)] h0 n0 (fun v h => ∃ x1 : Addr, v = some (.ref x1) ∧ Keep h0 h [] ∧ h0.size ≤ x1 ∧ own_Ar Z h x1 .char [(.int 0), (.int 0)]) := by
  refine own_M.of pl49 ?_
  intro p e s m below meth c S0 hx hby hml hown hnm hret hlk hZ A00
  have H : own_H p c _ := ⟨hx, hby⟩
  have A0 := A00.cast (f' := mkF m 0 #[.val (.int 2)] []) (by first | (simp [entryFrame, mkF, argsToLocals, Value.category, maxLocals]; done) | rfl)
  have KK : Keep h0 h0 ([] : List Addr) := Keep.refl _ _
  have q1 : ((2 : Int32) = (2 : Int32)) := rfl
  have A5 := A0.iN H dm1_0 rfl rfl |>.fy H dm1_1 rfl rfl 8 (by decide) (by decide) |>.iN H dm1_8 rfl rfl |>.ic H dm1_9 rfl 1 rfl |>.cy H dm1_10 rfl rfl 17 (by decide) (by decide) |>.iN H dm1_17 rfl rfl |>.ic H dm1_18 rfl 2 rfl |>.cn H dm1_19 rfl ((teq q1).2) |>.ic H dm1_22 rfl 2 rfl
  obtain ⟨h2, E3, V_x1, A4⟩ := A5.newP hx hZ (hb hby dm1_23) (oW hw 4 rfl) (by decide) (cap := 2) (by decide) (by decide) (by decide) (by decide)
  obtain ⟨x1, gx1⟩ : ∃ z, z = h0.size := ⟨_, rfl⟩
  rw [← gx1] at V_x1 A4
  have sz_x1 : h0.size ≤ x1 := by rw [gx1]; exact KK.1
  have KK : Keep h0 h2 [] := KK.ext E3
  have V_x1 : own_Ar Z h2 x1 .char [(.int 0), (.int 0)] := V_x1
  exact A4.ret hx hlk hret (hb hby dm1_25) rfl (Or.inr (Or.inr (Or.inr (Or.inr ⟨rfl, rfl, rfl⟩)))) (by decide) (by decide) ⟨x1, rfl, KK, sz_x1, V_x1⟩
theorem own_c130 (l : Launch) (Z : State) (a0 : Array Value) (hw : ∀ d ∈ tables_1, d.before a0 Z = true)  (h0 : Heap) (n0 : Nat) (Z0 : n0 ≤ h0.size)  :
    own_M l Z (⟨"com/example/paretolio/paretolio/RecordReaderQuotePinLaw", "alloc", "(I)[C"⟩ : MethodName) method_5_code 1 (some (.array .char)) [] (⟨0, 1, 3, 0⟩ : Room) #[(.int 3)] h0 n0 (fun v h => ∃ x1 : Addr, v = some (.ref x1) ∧ Keep h0 h [] ∧ h0.size ≤ x1 ∧ own_Ar Z h x1 .char [(.int 0), (.int 0), (.int 0)]) := by
  refine own_M.of pl49 ?_
  intro p e s m below meth c S0 hx hby hml hown hnm hret hlk hZ A00
  have H : own_H p c _ := ⟨hx, hby⟩
  have A0 := A00.cast (f' := mkF m 0 #[.val (.int 3)] []) (by first | (simp [entryFrame, mkF, argsToLocals, Value.category, maxLocals]; done) | rfl)
  have KK : Keep h0 h0 ([] : List Addr) := Keep.refl _ _
  have q1 : ((3 : Int32) = (3 : Int32)) := rfl
  have A5 := A0.iN H dm1_0 rfl rfl |>.fy H dm1_1 rfl rfl 8 (by decide) (by decide) |>.iN H dm1_8 rfl rfl |>.ic H dm1_9 rfl 1 rfl |>.cy H dm1_10 rfl rfl 17 (by decide) (by decide) |>.iN H dm1_17 rfl rfl |>.ic H dm1_18 rfl 2 rfl |>.cy H dm1_19 rfl rfl 26 (by decide) (by decide) |>.iN H dm1_26 rfl rfl |>.ic H dm1_27 rfl 3 rfl |>.cn H dm1_28 rfl ((teq q1).2) |>.ic H dm1_31 rfl 3 rfl
  obtain ⟨h2, E3, V_x1, A4⟩ := A5.newP hx hZ (hb hby dm1_32) (oW hw 4 rfl) (by decide) (cap := 3) (by decide) (by decide) (by decide) (by decide)
  obtain ⟨x1, gx1⟩ : ∃ z, z = h0.size := ⟨_, rfl⟩
  rw [← gx1] at V_x1 A4
  have sz_x1 : h0.size ≤ x1 := by rw [gx1]; exact KK.1
  have KK : Keep h0 h2 [] := KK.ext E3
  have V_x1 : own_Ar Z h2 x1 .char [(.int 0), (.int 0), (.int 0)] := V_x1
  exact A4.ret hx hlk hret (hb hby dm1_34) rfl (Or.inr (Or.inr (Or.inr (Or.inr ⟨rfl, rfl, rfl⟩)))) (by decide) (by decide) ⟨x1, rfl, KK, sz_x1, V_x1⟩
theorem own_c132 (l : Launch) (Z : State) (a0 : Array Value) (hw : ∀ d ∈ tables_1, d.before a0 Z = true)  (h0 : Heap) (n0 : Nat) (Z0 : n0 ≤ h0.size)  :
    own_M l Z (⟨"com/example/paretolio/paretolio/RecordReaderQuotePinLaw", "alloc", "(I)[C"⟩ : MethodName) method_5_code 1 (some (.array .char)) [] (⟨0, 1, 23, 0⟩ : Room) #[(.int 4)] h0 n0 (fun v h => ∃ x1 : Addr, v = some (.ref x1) ∧ Keep h0 h [] ∧ h0.size ≤ x1 ∧ own_Ar Z h x1 .char [(.int 0), (.int 0), (.int 0), (.int 0), (.int 0), (.int 0), (.int 0), (.int 0), (.int 0), (.int 0), (.int 0), (.int 0), (.int 0), (.int 0), (.int 0), (.int 0), (.int 0), (.int 0), (.int 0), (.int 0), (.int 0), (.int 0), (.int 0)]) := by
  refine own_M.of pl49 ?_
  intro p e s m below meth c S0 hx hby hml hown hnm hret hlk hZ A00
  have H : own_H p c _ := ⟨hx, hby⟩
  have A0 := A00.cast (f' := mkF m 0 #[.val (.int 4)] []) (by first | (simp [entryFrame, mkF, argsToLocals, Value.category, maxLocals]; done) | rfl)
  have KK : Keep h0 h0 ([] : List Addr) := Keep.refl _ _
  have A1 := A0.iN H dm1_0 rfl rfl |>.fy H dm1_1 rfl rfl 8 (by decide) (by decide) |>.iN H dm1_8 rfl rfl |>.ic H dm1_9 rfl 1 rfl |>.cy H dm1_10 rfl rfl 17 (by decide) (by decide) |>.iN H dm1_17 rfl rfl |>.ic H dm1_18 rfl 2 rfl |>.cy H dm1_19 rfl rfl 26 (by decide) (by decide) |>.iN H dm1_26 rfl rfl |>.ic H dm1_27 rfl 3 rfl |>.cy H dm1_28 rfl rfl 35 (by decide) (by decide) |>.iN H dm1_35 rfl rfl
  have q2 : ((4 : Int32) = (4 : Int32)) := rfl
  have A6 := A1.ic H dm1_36 rfl 4 rfl |>.cn H dm1_37 rfl ((teq q2).2) |>.bp H dm1_40 rfl 23 rfl
  obtain ⟨h3, E4, V_x1, A5⟩ := A6.newP hx hZ (hb hby dm1_42) (oW hw 4 rfl) (by decide) (cap := 23) (by decide) (by decide) (by decide) (by decide)
  obtain ⟨x1, gx1⟩ : ∃ z, z = h0.size := ⟨_, rfl⟩
  rw [← gx1] at V_x1 A5
  have sz_x1 : h0.size ≤ x1 := by rw [gx1]; exact KK.1
  have KK : Keep h0 h3 [] := KK.ext E4
  have V_x1 : own_Ar Z h3 x1 .char [(.int 0), (.int 0), (.int 0), (.int 0), (.int 0), (.int 0), (.int 0), (.int 0), (.int 0), (.int 0), (.int 0), (.int 0), (.int 0), (.int 0), (.int 0), (.int 0), (.int 0), (.int 0), (.int 0), (.int 0), (.int 0), (.int 0), (.int 0)] := V_x1
  exact A5.ret hx hlk hret (hb hby dm1_44) rfl (Or.inr (Or.inr (Or.inr (Or.inr ⟨rfl, rfl, rfl⟩)))) (by decide) (by decide) ⟨x1, rfl, KK, sz_x1, V_x1⟩
theorem own_c134 (l : Launch) (Z : State) (a0 : Array Value) (hw : ∀ d ∈ tables_1, d.before a0 Z = true)  (h0 : Heap) (n0 : Nat) (Z0 : n0 ≤ h0.size)  :
    own_M l Z (⟨"com/example/paretolio/paretolio/RecordReaderQuotePinLaw", "alloc", "(I)[C"⟩ : MethodName) method_5_code 1 (some (.array .char)) [] (⟨0, 1, 24, 0⟩ : Room) #[(.int 5)] h0 n0 (fun v h => ∃ x1 : Addr, v = some (.ref x1) ∧ Keep h0 h [] ∧ h0.size ≤ x1 ∧ own_Ar Z h x1 .char [(.int 0), (.int 0), (.int 0), (.int 0), (.int 0), (.int 0), (.int 0), (.int 0), (.int 0), (.int 0), (.int 0), (.int 0), (.int 0), (.int 0), (.int 0), (.int 0), (.int 0), (.int 0), (.int 0), (.int 0), (.int 0), (.int 0), (.int 0), (.int 0)]) := by
  refine own_M.of pl49 ?_
  intro p e s m below meth c S0 hx hby hml hown hnm hret hlk hZ A00
  have H : own_H p c _ := ⟨hx, hby⟩
  have A0 := A00.cast (f' := mkF m 0 #[.val (.int 5)] []) (by first | (simp [entryFrame, mkF, argsToLocals, Value.category, maxLocals]; done) | rfl)
  have KK : Keep h0 h0 ([] : List Addr) := Keep.refl _ _
  have A1 := A0.iN H dm1_0 rfl rfl |>.fy H dm1_1 rfl rfl 8 (by decide) (by decide) |>.iN H dm1_8 rfl rfl |>.ic H dm1_9 rfl 1 rfl |>.cy H dm1_10 rfl rfl 17 (by decide) (by decide) |>.iN H dm1_17 rfl rfl |>.ic H dm1_18 rfl 2 rfl |>.cy H dm1_19 rfl rfl 26 (by decide) (by decide) |>.iN H dm1_26 rfl rfl |>.ic H dm1_27 rfl 3 rfl |>.cy H dm1_28 rfl rfl 35 (by decide) (by decide) |>.iN H dm1_35 rfl rfl
  have q2 : ((5 : Int32) = (5 : Int32)) := rfl
  have A6 := A1.ic H dm1_36 rfl 4 rfl |>.cy H dm1_37 rfl rfl 45 (by decide) (by decide) |>.iN H dm1_45 rfl rfl |>.ic H dm1_46 rfl 5 rfl |>.cn H dm1_47 rfl ((teq q2).2) |>.bp H dm1_50 rfl 24 rfl
  obtain ⟨h3, E4, V_x1, A5⟩ := A6.newP hx hZ (hb hby dm1_52) (oW hw 4 rfl) (by decide) (cap := 24) (by decide) (by decide) (by decide) (by decide)
  obtain ⟨x1, gx1⟩ : ∃ z, z = h0.size := ⟨_, rfl⟩
  rw [← gx1] at V_x1 A5
  have sz_x1 : h0.size ≤ x1 := by rw [gx1]; exact KK.1
  have KK : Keep h0 h3 [] := KK.ext E4
  have V_x1 : own_Ar Z h3 x1 .char [(.int 0), (.int 0), (.int 0), (.int 0), (.int 0), (.int 0), (.int 0), (.int 0), (.int 0), (.int 0), (.int 0), (.int 0), (.int 0), (.int 0), (.int 0), (.int 0), (.int 0), (.int 0), (.int 0), (.int 0), (.int 0), (.int 0), (.int 0), (.int 0)] := V_x1
  exact A5.ret hx hlk hret (hb hby dm1_54) rfl (Or.inr (Or.inr (Or.inr (Or.inr ⟨rfl, rfl, rfl⟩)))) (by decide) (by decide) ⟨x1, rfl, KK, sz_x1, V_x1⟩
theorem own_c136 (l : Launch) (Z : State) (a0 : Array Value) (hw : ∀ d ∈ tables_1, d.before a0 Z = true)  (h0 : Heap) (n0 : Nat) (Z0 : n0 ≤ h0.size)  :
    own_M l Z (⟨"com/example/paretolio/paretolio/RecordReaderQuotePinLaw", "alloc", "(I)[C"⟩ : MethodName) method_5_code 1 (some (.array .char)) [] (⟨0, 1, 25, 0⟩ : Room) #[(.int 6)] h0 n0 (fun v h => ∃ x1 : Addr, v = some (.ref x1) ∧ Keep h0 h [] ∧ h0.size ≤ x1 ∧ own_Ar Z h x1 .char [(.int 0), (.int 0), (.int 0), (.int 0), (.int 0), (.int 0), (.int 0), (.int 0), (.int 0), (.int 0), (.int 0), (.int 0), (.int 0), (.int 0), (.int 0), (.int 0), (.int 0), (.int 0), (.int 0), (.int 0), (.int 0), (.int 0), (.int 0), (.int 0), (.int 0)]) := by
  refine own_M.of pl49 ?_
  intro p e s m below meth c S0 hx hby hml hown hnm hret hlk hZ A00
  have H : own_H p c _ := ⟨hx, hby⟩
  have A0 := A00.cast (f' := mkF m 0 #[.val (.int 6)] []) (by first | (simp [entryFrame, mkF, argsToLocals, Value.category, maxLocals]; done) | rfl)
  have KK : Keep h0 h0 ([] : List Addr) := Keep.refl _ _
  have A1 := A0.iN H dm1_0 rfl rfl |>.fy H dm1_1 rfl rfl 8 (by decide) (by decide) |>.iN H dm1_8 rfl rfl |>.ic H dm1_9 rfl 1 rfl |>.cy H dm1_10 rfl rfl 17 (by decide) (by decide) |>.iN H dm1_17 rfl rfl |>.ic H dm1_18 rfl 2 rfl |>.cy H dm1_19 rfl rfl 26 (by decide) (by decide) |>.iN H dm1_26 rfl rfl |>.ic H dm1_27 rfl 3 rfl |>.cy H dm1_28 rfl rfl 35 (by decide) (by decide) |>.iN H dm1_35 rfl rfl
  have q2 : ((6 : Int32) = (6 : Int32)) := rfl
  have A6 := A1.ic H dm1_36 rfl 4 rfl |>.cy H dm1_37 rfl rfl 45 (by decide) (by decide) |>.iN H dm1_45 rfl rfl |>.ic H dm1_46 rfl 5 rfl |>.cy H dm1_47 rfl rfl 55 (by decide) (by decide) |>.iN H dm1_55 rfl rfl |>.bp H dm1_56 rfl 6 rfl |>.cn H dm1_58 rfl ((teq q2).2) |>.bp H dm1_61 rfl 25 rfl
  obtain ⟨h3, E4, V_x1, A5⟩ := A6.newP hx hZ (hb hby dm1_63) (oW hw 4 rfl) (by decide) (cap := 25) (by decide) (by decide) (by decide) (by decide)
  obtain ⟨x1, gx1⟩ : ∃ z, z = h0.size := ⟨_, rfl⟩
  rw [← gx1] at V_x1 A5
  have sz_x1 : h0.size ≤ x1 := by rw [gx1]; exact KK.1
  have KK : Keep h0 h3 [] := KK.ext E4
  have V_x1 : own_Ar Z h3 x1 .char [(.int 0), (.int 0), (.int 0), (.int 0), (.int 0), (.int 0), (.int 0), (.int 0), (.int 0), (.int 0), (.int 0), (.int 0), (.int 0), (.int 0), (.int 0), (.int 0), (.int 0), (.int 0), (.int 0), (.int 0), (.int 0), (.int 0), (.int 0), (.int 0), (.int 0)] := V_x1
  exact A5.ret hx hlk hret (hb hby dm1_65) rfl (Or.inr (Or.inr (Or.inr (Or.inr ⟨rfl, rfl, rfl⟩)))) (by decide) (by decide) ⟨x1, rfl, KK, sz_x1, V_x1⟩
theorem own_c138 (l : Launch) (Z : State) (a0 : Array Value) (hw : ∀ d ∈ tables_1, d.before a0 Z = true)  (h0 : Heap) (n0 : Nat) (Z0 : n0 ≤ h0.size)  :
    own_M l Z (⟨"com/example/paretolio/paretolio/RecordReaderQuotePinLaw", "alloc", "(I)[C"⟩ : MethodName) method_5_code 1 (some (.array .char)) [] (⟨0, 1, 26, 0⟩ : Room) #[(.int 7)] h0 n0 (fun v h => ∃ x1 : Addr, v = some (.ref x1) ∧ Keep h0 h [] ∧ h0.size ≤ x1 ∧ own_Ar Z h x1 .char [(.int 0), (.int 0), (.int 0), (.int 0), (.int 0), (.int 0), (.int 0), (.int 0), (.int 0), (.int 0), (.int 0), (.int 0), (.int 0), (.int 0), (.int 0), (.int 0), (.int 0), (.int 0), (.int 0), (.int 0), (.int 0), (.int 0), (.int 0), (.int 0), (.int 0), (.int 0)]) := by
  refine own_M.of pl49 ?_
  intro p e s m below meth c S0 hx hby hml hown hnm hret hlk hZ A00
  have H : own_H p c _ := ⟨hx, hby⟩
  have A0 := A00.cast (f' := mkF m 0 #[.val (.int 7)] []) (by first | (simp [entryFrame, mkF, argsToLocals, Value.category, maxLocals]; done) | rfl)
  have KK : Keep h0 h0 ([] : List Addr) := Keep.refl _ _
  have A1 := A0.iN H dm1_0 rfl rfl |>.fy H dm1_1 rfl rfl 8 (by decide) (by decide) |>.iN H dm1_8 rfl rfl |>.ic H dm1_9 rfl 1 rfl |>.cy H dm1_10 rfl rfl 17 (by decide) (by decide) |>.iN H dm1_17 rfl rfl |>.ic H dm1_18 rfl 2 rfl |>.cy H dm1_19 rfl rfl 26 (by decide) (by decide) |>.iN H dm1_26 rfl rfl |>.ic H dm1_27 rfl 3 rfl |>.cy H dm1_28 rfl rfl 35 (by decide) (by decide) |>.iN H dm1_35 rfl rfl
  have A5 := A1.ic H dm1_36 rfl 4 rfl |>.cy H dm1_37 rfl rfl 45 (by decide) (by decide) |>.iN H dm1_45 rfl rfl |>.ic H dm1_46 rfl 5 rfl |>.cy H dm1_47 rfl rfl 55 (by decide) (by decide) |>.iN H dm1_55 rfl rfl |>.bp H dm1_56 rfl 6 rfl |>.cy H dm1_58 rfl rfl 66 (by decide) (by decide) |>.bp H dm1_66 rfl 26 rfl
  obtain ⟨h2, E3, V_x1, A4⟩ := A5.newP hx hZ (hb hby dm1_68) (oW hw 4 rfl) (by decide) (cap := 26) (by decide) (by decide) (by decide) (by decide)
  obtain ⟨x1, gx1⟩ : ∃ z, z = h0.size := ⟨_, rfl⟩
  rw [← gx1] at V_x1 A4
  have sz_x1 : h0.size ≤ x1 := by rw [gx1]; exact KK.1
  have KK : Keep h0 h2 [] := KK.ext E3
  have V_x1 : own_Ar Z h2 x1 .char [(.int 0), (.int 0), (.int 0), (.int 0), (.int 0), (.int 0), (.int 0), (.int 0), (.int 0), (.int 0), (.int 0), (.int 0), (.int 0), (.int 0), (.int 0), (.int 0), (.int 0), (.int 0), (.int 0), (.int 0), (.int 0), (.int 0), (.int 0), (.int 0), (.int 0), (.int 0)] := V_x1
  exact A4.ret hx hlk hret (hb hby dm1_70) rfl (Or.inr (Or.inr (Or.inr (Or.inr ⟨rfl, rfl, rfl⟩)))) (by decide) (by decide) ⟨x1, rfl, KK, sz_x1, V_x1⟩
theorem own_t17f (l : Launch) (Z : State) (a0 : Array Value) (hw : ∀ d ∈ tables_1, d.before a0 Z = true) {p : Program} {e : Env} (s : State) {m : MethodId} {args : Array Value} {below : List Frame} {meth : Method} {c : Code} {S0 : State} (s1 b1 sb vb : Addr) (k cs N MM : Int32) (ch : List Int32) (fm : Value) (n0 : Nat) (us_vb : List Int32) (e1 : Int32) (h0 : Heap) (Z0 : n0 ≤ h0.size) (E_s1 : Exa Z h0 s1 "java/lang/String") (F_s1_coder : Fld Z h0 s1 "java/lang/String" "coder" "B" (.int k)) (F_s1_value : Fld Z h0 s1 "java/lang/String" "value" "[B" (.ref b1)) (V_b1 : own_Ar Z h0 b1 .byte (own_by k ch)) (SS : own_ST Z h0 cs fm) (E_sb : Exa Z h0 sb "java/lang/StringBuilder") (F_sb_coder : Fld Z h0 sb "java/lang/AbstractStringBuilder" "coder" "B" (.int 0)) (F_sb_value : Fld Z h0 sb "java/lang/AbstractStringBuilder" "value" "[B" (.ref vb)) (F_sb_count : Fld Z h0 sb "java/lang/AbstractStringBuilder" "count" "I" (.int 1)) (V_vb : own_Ar Z h0 vb .byte (List.map own_lo us_vb)) (hl_vb : us_vb.length = 17) (hcs : ¬ (cs = (0 : Int32))) (ne_b1_sb : b1 ≠ sb) (ne_b1_vb : b1 ≠ vb) (ne_s1_sb : s1 ≠ sb) (ne_s1_vb : s1 ≠ vb) (ne_sb_vb : sb ≠ vb) (ne_vb_sb : vb ≠ sb) (g_sb : n0 ≤ sb) (g_vb : n0 ≤ vb) (hfm : fm.isRef = true) (hok : own_ok k ch) (hlen : ch.length < 64) (hN : ch.length.toInt32 = N) (HM : ∀ (h : Heap) (n : Nat), n ≤ h.size → own_M l Z (⟨"java/lang/Math", "min", "(II)I"⟩ : MethodName) jdk_29_method_69_code 2 (some .int) [] (⟨0, 0, 0, 0⟩ : Room) #[(.int N), (.int 24)] h n (fun v h' => v = some (.int MM) ∧ h = h')) (hj8 : ¬ (0 : Int32) < (0 : Int32)) (hje : ch[(0 : Int32).toNatClampNeg]? = some e1) (hlt : (0 : Int32) < MM) (hx : p.tables.exec = Jvm.exec) (hby : c.code = prog_11_method_10_code) (hml : c.maxLocals = 4) (hown : s.vm.findClass "com/example/paretolio/paretolio/RecordReader" = some m.cls) (hZ : Z.Warmed39 s.vm)
    (A0 : own_R p l e (⟨8, 9, 130, 117⟩ : Room) s m args below meth c S0 n0 h0 4 29 (mkF m 12 #[.val (.ref s1), .val (.ref sb), .val (.int 0), .unset] [])) :
    ∃ (h : Heap), Keep h0 h [sb, vb] ∧ Fld Z h sb "java/lang/AbstractStringBuilder" "coder" "B" (.int 0) ∧ Fld Z h sb "java/lang/AbstractStringBuilder" "value" "[B" (.ref vb) ∧ Fld Z h sb "java/lang/AbstractStringBuilder" "count" "I" (.int 2) ∧ own_Ar Z h vb .byte (List.map own_lo (List.set us_vb 1 (own_sh e1))) ∧ ((List.set us_vb 1 (own_sh e1)) : List Int32).length = 17 ∧ own_R p l e (⟨8, 9, 130, 117⟩ : Room) s m args below meth c S0 n0 h 4 29 (mkF m 12 #[.val (.ref s1), .val (.ref sb), .val (.int 1), .val (.int e1)] []) := by
  have H : own_H p c _ := ⟨hx, hby⟩
  have KK : Keep h0 h0 ([sb, vb] : List Addr) := Keep.refl _ _
  have A2 := A0.iN H dm5_12 rfl rfl |>.aN H dm5_13 rfl rfl rfl
  obtain ⟨vA1, hA1, ⟨rfl, rfl⟩, A1⟩ := A2.cV (own_len l Z a0 hw s1 b1 cs k N ch h0 n0 Z0 SS.1 hcs E_s1 F_s1_coder F_s1_value V_b1 hok hlen hN) E_s1 H hZ hown dm5_14 (oW hw 103 rfl) (kV17 hw) hml rfl rfl [(.int 0)] rfl rfl
  have A4 := A1.cl |>.bp H dm5_17 rfl 24 rfl
  obtain ⟨vA3, hA3, ⟨rfl, rfl⟩, A3⟩ := A4.cS (HM h0 n0 Z0) H hZ hown dm5_19 (oW hw 104 rfl) (kS26 hw) hml rfl rfl [(.int 0)] rfl rfl
  have A6 := A3.cl |>.cn H dm5_22 rfl ((tlt hlt).2.1) |>.aN H dm5_25 rfl rfl rfl |>.iN H dm5_26 rfl rfl
  obtain ⟨vA5, hA5, ⟨rfl, rfl⟩, A5⟩ := A6.cV (own_ch l Z a0 hw s1 b1 cs k (0 : Int32) e1 ch fm h0 n0 Z0 SS.1 hcs E_s1 F_s1_coder F_s1_value V_b1 hok hlen hfm SS.2.1 SS.2.2.1 SS.2.2.2.1 SS.2.2.2.2 hj8 hje) E_s1 H hZ hown dm5_27 (oW hw 200 rfl) (kV38 hw) hml rfl rfl [] rfl rfl
  have A8 := A5.cl |>.iM H dm5_30 rfl #[.val (.ref s1), .val (.ref sb), .val (.int 0), .val (.int e1)] rfl |>.aN H dm5_31 rfl rfl rfl |>.iN H dm5_32 rfl rfl |>.bp H dm5_33 rfl 32 rfl
  have A9 : own_R p l e (⟨8, 9, 130, 117⟩ : Room) s m args below meth c S0 n0 h0 4 29 (mkF m 50 #[.val (.ref s1), .val (.ref sb), .val (.int 0), .val (.int e1)] [(.int (if e1 < (32 : Int32) then (63 : Int32) else (if (126 : Int32) < e1 then (63 : Int32) else e1))), (.ref sb)]) := by
    by_cases q7 : e1 < (32 : Int32)
    · skip
      have A10 := A8.cy H dm5_35 rfl ((tlt q7).1) 48 (by decide) (by decide) |>.bp H dm5_48 rfl 63 rfl
      simp only [if_pos q7]
      exact A10
    · skip
      have A12 := A8.cn H dm5_35 rfl ((flt q7).1) |>.iN H dm5_38 rfl rfl |>.bp H dm5_39 rfl 126 rfl
      have A13 : own_R p l e (⟨8, 9, 130, 117⟩ : Room) s m args below meth c S0 n0 h0 4 29 (mkF m 50 #[.val (.ref s1), .val (.ref sb), .val (.int 0), .val (.int e1)] [(.int (if (126 : Int32) < e1 then (63 : Int32) else e1)), (.ref sb)]) := by
        by_cases q11 : (126 : Int32) < e1
        · skip
          have A14 := A12.cy H dm5_41 rfl ((tlt q11).2.2.1) 48 (by decide) (by decide) |>.bp H dm5_48 rfl 63 rfl
          simp only [if_pos q11]
          exact A14
        · skip
          have A15 := A12.cn H dm5_41 rfl ((flt q11).2.2.1) |>.iN H dm5_44 rfl rfl |>.gt H dm5_45 rfl 50 (by decide) (by decide)
          simp only [if_neg q11]
          exact A15
      simp only [if_neg q7]
      exact A13
  have A16 : own_R p l e _ _ m _ below meth c S0 n0 h0 4 29 (mkF m 50 #[.val (.ref s1), .val (.ref sb), .val (.int 0), .val (.int e1)] [(.int (own_sh e1)), (.ref sb)]) := A9
  obtain ⟨d1, hd1⟩ : ∃ zq_, zq_ = (own_sh e1) := ⟨_, rfl⟩
  rw [← hd1] at A16
  have hd1x : ¬ ((255 : Int32) < d1) := hd1 ▸ own_sh255 e1
  obtain ⟨vA17, hA17, ⟨rfl, KA17, P_F_sb_coder, P_F_sb_value, P_F_sb_count, P_V_vb, hl_vb⟩, A17⟩ := A16.cV (own_c60 l Z a0 hw sb vb d1 (1 : Int32) _ cs h0 n0 Z0 E_sb F_sb_coder F_sb_value F_sb_count V_vb SS.1 hl_vb hcs hd1x (by decide) (by decide) (by decide) ne_sb_vb ne_vb_sb g_sb g_vb) E_sb H hZ hown dm5_50 (oW hw 108 rfl) (kV29 hw) hml rfl rfl [] rfl rfl
  have KK : Keep h0 hA17 [sb, vb] := KK.trans KA17 (allS (P := fun x => x ∈ ([sb, vb] : List Addr) ∨ h0.size ≤ x) (Or.inl (by simp)) (allS (P := fun x => x ∈ ([sb, vb] : List Addr) ∨ h0.size ≤ x) (Or.inl (by simp)) all0))
  have F_sb_coder : Fld Z hA17 sb "java/lang/AbstractStringBuilder" "coder" "B" (.int 0) := P_F_sb_coder
  have F_sb_value : Fld Z hA17 sb "java/lang/AbstractStringBuilder" "value" "[B" (.ref vb) := P_F_sb_value
  have F_sb_count : Fld Z hA17 sb "java/lang/AbstractStringBuilder" "count" "I" (.int 2) := P_F_sb_count
  have V_vb : own_Ar Z hA17 vb .byte (List.map own_lo (List.set us_vb 1 d1)) := P_V_vb
  have A18 := A17.cl |>.po H dm5_53 rfl rfl |>.ii H dm5_54 rfl rfl #[.val (.ref s1), .val (.ref sb), .val (.int 1), .val (.int e1)] rfl |>.gt H dm5_57 rfl 12 (by decide) (by decide)
  subst hd1
  exact ⟨hA17, KK, F_sb_coder, F_sb_value, F_sb_count, V_vb, hl_vb, A18⟩
theorem own_t17 (l : Launch) (Z : State) (a0 : Array Value) (hw : ∀ d ∈ tables_1, d.before a0 Z = true) {p : Program} {e : Env} (s : State) {m : MethodId} {args : Array Value} {below : List Frame} {meth : Method} {c : Code} {S0 : State} (s1 b1 sb vb : Addr) (k cs N MM : Int32) (ch : List Int32) (fm : Value) (n0 : Nat) (us_vb : List Int32) (j8 j9 c3 e1 : Int32) (h0 : Heap) (Z0 : n0 ≤ h0.size) (E_s1 : Exa Z h0 s1 "java/lang/String") (F_s1_coder : Fld Z h0 s1 "java/lang/String" "coder" "B" (.int k)) (F_s1_value : Fld Z h0 s1 "java/lang/String" "value" "[B" (.ref b1)) (V_b1 : own_Ar Z h0 b1 .byte (own_by k ch)) (SS : own_ST Z h0 cs fm) (E_sb : Exa Z h0 sb "java/lang/StringBuilder") (F_sb_coder : Fld Z h0 sb "java/lang/AbstractStringBuilder" "coder" "B" (.int 0)) (F_sb_value : Fld Z h0 sb "java/lang/AbstractStringBuilder" "value" "[B" (.ref vb)) (F_sb_count : Fld Z h0 sb "java/lang/AbstractStringBuilder" "count" "I" (.int j9)) (V_vb : own_Ar Z h0 vb .byte (List.map own_lo us_vb)) (hl_vb : us_vb.length = 17) (hcs : ¬ (cs = (0 : Int32))) (hn1 : ¬ ((0 : Int32) < ((j9 + (1 : Int32)) - (17 : Int32)))) (hn2 : ¬ (j9 < (0 : Int32))) (hn3 : (j9.toNatClampNeg < 17)) (ne_b1_sb : b1 ≠ sb) (ne_b1_vb : b1 ≠ vb) (ne_s1_sb : s1 ≠ sb) (ne_s1_vb : s1 ≠ vb) (ne_sb_vb : sb ≠ vb) (ne_vb_sb : vb ≠ sb) (g_sb : n0 ≤ sb) (g_vb : n0 ≤ vb) (hfm : fm.isRef = true) (hok : own_ok k ch) (hlen : ch.length < 64) (hN : ch.length.toInt32 = N) (HM : ∀ (h : Heap) (n : Nat), n ≤ h.size → own_M l Z (⟨"java/lang/Math", "min", "(II)I"⟩ : MethodName) jdk_29_method_69_code 2 (some .int) [] (⟨0, 0, 0, 0⟩ : Room) #[(.int N), (.int 24)] h n (fun v h' => v = some (.int MM) ∧ h = h')) (hj8 : ¬ j8 < (0 : Int32)) (hje : ch[j8.toNatClampNeg]? = some e1) (hlt : j8 < MM) (hx : p.tables.exec = Jvm.exec) (hby : c.code = prog_11_method_10_code) (hml : c.maxLocals = 4) (hown : s.vm.findClass "com/example/paretolio/paretolio/RecordReader" = some m.cls) (hZ : Z.Warmed39 s.vm)
    (A0 : own_R p l e (⟨8, 9, 130, 117⟩ : Room) s m args below meth c S0 n0 h0 4 29 (mkF m 12 #[.val (.ref s1), .val (.ref sb), .val (.int j8), .val (.int c3)] [])) :
    ∃ (h : Heap), Keep h0 h [sb, vb] ∧ Fld Z h sb "java/lang/AbstractStringBuilder" "coder" "B" (.int 0) ∧ Fld Z h sb "java/lang/AbstractStringBuilder" "value" "[B" (.ref vb) ∧ Fld Z h sb "java/lang/AbstractStringBuilder" "count" "I" (.int (j9 + (1 : Int32))) ∧ own_Ar Z h vb .byte (List.map own_lo (List.set us_vb j9.toNatClampNeg (own_sh e1))) ∧ ((List.set us_vb j9.toNatClampNeg (own_sh e1)) : List Int32).length = 17 ∧ own_R p l e (⟨8, 9, 130, 117⟩ : Room) s m args below meth c S0 n0 h 4 29 (mkF m 12 #[.val (.ref s1), .val (.ref sb), .val (.int (j8 + (1 : Int32))), .val (.int e1)] []) := by
  have H : own_H p c _ := ⟨hx, hby⟩
  have KK : Keep h0 h0 ([sb, vb] : List Addr) := Keep.refl _ _
  have A2 := A0.iN H dm5_12 rfl rfl |>.aN H dm5_13 rfl rfl rfl
  obtain ⟨vA1, hA1, ⟨rfl, rfl⟩, A1⟩ := A2.cV (own_len l Z a0 hw s1 b1 cs k N ch h0 n0 Z0 SS.1 hcs E_s1 F_s1_coder F_s1_value V_b1 hok hlen hN) E_s1 H hZ hown dm5_14 (oW hw 103 rfl) (kV17 hw) hml rfl rfl [(.int j8)] rfl rfl
  have A4 := A1.cl |>.bp H dm5_17 rfl 24 rfl
  obtain ⟨vA3, hA3, ⟨rfl, rfl⟩, A3⟩ := A4.cS (HM h0 n0 Z0) H hZ hown dm5_19 (oW hw 104 rfl) (kS26 hw) hml rfl rfl [(.int j8)] rfl rfl
  have A6 := A3.cl |>.cn H dm5_22 rfl ((tlt hlt).2.1) |>.aN H dm5_25 rfl rfl rfl |>.iN H dm5_26 rfl rfl
  obtain ⟨vA5, hA5, ⟨rfl, rfl⟩, A5⟩ := A6.cV (own_ch l Z a0 hw s1 b1 cs k j8 e1 ch fm h0 n0 Z0 SS.1 hcs E_s1 F_s1_coder F_s1_value V_b1 hok hlen hfm SS.2.1 SS.2.2.1 SS.2.2.2.1 SS.2.2.2.2 hj8 hje) E_s1 H hZ hown dm5_27 (oW hw 200 rfl) (kV38 hw) hml rfl rfl [] rfl rfl
  have A8 := A5.cl |>.iM H dm5_30 rfl #[.val (.ref s1), .val (.ref sb), .val (.int j8), .val (.int e1)] rfl |>.aN H dm5_31 rfl rfl rfl |>.iN H dm5_32 rfl rfl |>.bp H dm5_33 rfl 32 rfl
  have A9 : own_R p l e (⟨8, 9, 130, 117⟩ : Room) s m args below meth c S0 n0 h0 4 29 (mkF m 50 #[.val (.ref s1), .val (.ref sb), .val (.int j8), .val (.int e1)] [(.int (if e1 < (32 : Int32) then (63 : Int32) else (if (126 : Int32) < e1 then (63 : Int32) else e1))), (.ref sb)]) := by
    by_cases q7 : e1 < (32 : Int32)
    · skip
      have A10 := A8.cy H dm5_35 rfl ((tlt q7).1) 48 (by decide) (by decide) |>.bp H dm5_48 rfl 63 rfl
      simp only [if_pos q7]
      exact A10
    · skip
      have A12 := A8.cn H dm5_35 rfl ((flt q7).1) |>.iN H dm5_38 rfl rfl |>.bp H dm5_39 rfl 126 rfl
      have A13 : own_R p l e (⟨8, 9, 130, 117⟩ : Room) s m args below meth c S0 n0 h0 4 29 (mkF m 50 #[.val (.ref s1), .val (.ref sb), .val (.int j8), .val (.int e1)] [(.int (if (126 : Int32) < e1 then (63 : Int32) else e1)), (.ref sb)]) := by
        by_cases q11 : (126 : Int32) < e1
        · skip
          have A14 := A12.cy H dm5_41 rfl ((tlt q11).2.2.1) 48 (by decide) (by decide) |>.bp H dm5_48 rfl 63 rfl
          simp only [if_pos q11]
          exact A14
        · skip
          have A15 := A12.cn H dm5_41 rfl ((flt q11).2.2.1) |>.iN H dm5_44 rfl rfl |>.gt H dm5_45 rfl 50 (by decide) (by decide)
          simp only [if_neg q11]
          exact A15
      simp only [if_neg q7]
      exact A13
  have A16 : own_R p l e _ _ m _ below meth c S0 n0 h0 4 29 (mkF m 50 #[.val (.ref s1), .val (.ref sb), .val (.int j8), .val (.int e1)] [(.int (own_sh e1)), (.ref sb)]) := A9
  obtain ⟨d1, hd1⟩ : ∃ zq_, zq_ = (own_sh e1) := ⟨_, rfl⟩
  rw [← hd1] at A16
  have hd1x : ¬ ((255 : Int32) < d1) := hd1 ▸ own_sh255 e1
  obtain ⟨vA17, hA17, ⟨rfl, KA17, P_F_sb_coder, P_F_sb_value, P_F_sb_count, P_V_vb, hl_vb⟩, A17⟩ := A16.cV (own_c60 l Z a0 hw sb vb d1 j9 _ cs h0 n0 Z0 E_sb F_sb_coder F_sb_value F_sb_count V_vb SS.1 hl_vb hcs hd1x hn1 hn2 hn3 ne_sb_vb ne_vb_sb g_sb g_vb) E_sb H hZ hown dm5_50 (oW hw 108 rfl) (kV29 hw) hml rfl rfl [] rfl rfl
  have KK : Keep h0 hA17 [sb, vb] := KK.trans KA17 (allS (P := fun x => x ∈ ([sb, vb] : List Addr) ∨ h0.size ≤ x) (Or.inl (by simp)) (allS (P := fun x => x ∈ ([sb, vb] : List Addr) ∨ h0.size ≤ x) (Or.inl (by simp)) all0))
  have F_sb_coder : Fld Z hA17 sb "java/lang/AbstractStringBuilder" "coder" "B" (.int 0) := P_F_sb_coder
  have F_sb_value : Fld Z hA17 sb "java/lang/AbstractStringBuilder" "value" "[B" (.ref vb) := P_F_sb_value
  have F_sb_count : Fld Z hA17 sb "java/lang/AbstractStringBuilder" "count" "I" (.int (j9 + (1 : Int32))) := P_F_sb_count
  have V_vb : own_Ar Z hA17 vb .byte (List.map own_lo (List.set us_vb j9.toNatClampNeg d1)) := P_V_vb
  have A18 := A17.cl |>.po H dm5_53 rfl rfl |>.ii H dm5_54 rfl rfl #[.val (.ref s1), .val (.ref sb), .val (.int (j8 + (1 : Int32))), .val (.int e1)] rfl |>.gt H dm5_57 rfl 12 (by decide) (by decide)
  subst hd1
  exact ⟨hA17, KK, F_sb_coder, F_sb_value, F_sb_count, V_vb, hl_vb, A18⟩
theorem own_cap17 : ∀ i, i < 16 → ¬ ((0 : Int32) < (((i + 1).toInt32 + (1 : Int32)) - (17 : Int32))) := by decide
theorem own_lp17 (l : Launch) (Z : State) (a0 : Array Value) (hw : ∀ d ∈ tables_1, d.before a0 Z = true) {p : Program} {e : Env} (s : State) {m : MethodId} {args : Array Value} {below : List Frame} {meth : Method} {c : Code} {S0 : State} (s1 b1 sb vb : Addr) (k cs N MM : Int32) (ch : List Int32) (fm : Value) (n0 : Nat) (Mn : Nat) (hMM : MM = Mn.toInt32) (hMl : Mn ≤ ch.length) (hcs : ¬ (cs = (0 : Int32))) (ne_b1_sb : b1 ≠ sb) (ne_b1_vb : b1 ≠ vb) (ne_s1_sb : s1 ≠ sb) (ne_s1_vb : s1 ≠ vb) (ne_sb_vb : sb ≠ vb) (ne_vb_sb : vb ≠ sb) (g_sb : n0 ≤ sb) (g_vb : n0 ≤ vb) (hfm : fm.isRef = true) (hok : own_ok k ch) (hlen : ch.length < 64) (hN : ch.length.toInt32 = N) (HM : ∀ (h : Heap) (n : Nat), n ≤ h.size → own_M l Z (⟨"java/lang/Math", "min", "(II)I"⟩ : MethodName) jdk_29_method_69_code 2 (some .int) [] (⟨0, 0, 0, 0⟩ : Room) #[(.int N), (.int 24)] h n (fun v h' => v = some (.int MM) ∧ h = h')) (hx : p.tables.exec = Jvm.exec) (hby : c.code = prog_11_method_10_code) (hml : c.maxLocals = 4) (hown : s.vm.findClass "com/example/paretolio/paretolio/RecordReader" = some m.cls) (hZ : Z.Warmed39 s.vm) :
    ∀ (j i : Nat) (us : List Int32) (c3 : Int32) (h0 : Heap), i + j ≤ Mn → i + j ≤ 16 → n0 ≤ h0.size → own_ST Z h0 cs fm → Exa Z h0 s1 "java/lang/String" → Fld Z h0 s1 "java/lang/String" "coder" "B" (.int k) → Fld Z h0 s1 "java/lang/String" "value" "[B" (.ref b1) → own_Ar Z h0 b1 .byte (own_by k ch) → Exa Z h0 sb "java/lang/StringBuilder" → Fld Z h0 sb "java/lang/AbstractStringBuilder" "coder" "B" (.int 0) → Fld Z h0 sb "java/lang/AbstractStringBuilder" "value" "[B" (.ref vb) → Fld Z h0 sb "java/lang/AbstractStringBuilder" "count" "I" (.int (i + 1).toInt32) → own_Ar Z h0 vb .byte (List.map own_lo us) → us.length = 17 → own_R p l e (⟨8, 9, 130, 117⟩ : Room) s m args below meth c S0 n0 h0 4 29 (mkF m 12 #[.val (.ref s1), .val (.ref sb), .val (.int i.toInt32), .val (.int c3)] []) → ∃ (c4 : Int32) (h : Heap), Keep h0 h [sb, vb] ∧ Fld Z h sb "java/lang/AbstractStringBuilder" "coder" "B" (.int 0) ∧ Fld Z h sb "java/lang/AbstractStringBuilder" "value" "[B" (.ref vb) ∧ Fld Z h sb "java/lang/AbstractStringBuilder" "count" "I" (.int (i + j + 1).toInt32) ∧ own_Ar Z h vb .byte (List.map own_lo (own_fill ch us i j)) ∧ (own_fill ch us i j).length = 17 ∧ own_R p l e (⟨8, 9, 130, 117⟩ : Room) s m args below meth c S0 n0 h 4 29 (mkF m 12 #[.val (.ref s1), .val (.ref sb), .val (.int (i + j).toInt32), .val (.int c4)] []) := by
  intro j
  induction j with
  | zero =>
    intro i us c3 h0 q1 q2 Z0 SS E_s1 F_s1_coder F_s1_value V_b1 E_sb F_sb_coder F_sb_value F_sb_count V_vb hl A0
    exact ⟨c3, h0, Keep.refl _ _, F_sb_coder, F_sb_value, F_sb_count, V_vb, hl, A0⟩
  | succ j ih =>
    intro i us c3 h0 q1 q2 Z0 SS E_s1 F_s1_coder F_s1_value V_b1 E_sb F_sb_coder F_sb_value F_sb_count V_vb hl_vb A0
    obtain ⟨e1, he⟩ : ∃ e1, ch[i]? = some e1 := ⟨_, List.getElem?_eq_getElem (show i < ch.length by omega)⟩
    have r0 := own_i32a i (by omega)
    have r1 := own_i32a (i + 1) (by omega)
    obtain ⟨h1, K, P_F_sb_coder, P_F_sb_value, P_F_sb_count, P_V_vb, hl1, A1⟩ := own_t17 l Z a0 hw s s1 b1 sb vb k cs N MM ch fm n0 us i.toInt32 (i + 1).toInt32 c3 e1 h0 Z0 E_s1 F_s1_coder F_s1_value V_b1 SS E_sb F_sb_coder F_sb_value F_sb_count V_vb hl_vb hcs (own_cap17 i (by omega)) r1.1 (by rw [r1.2.1]; omega) ne_b1_sb ne_b1_vb ne_s1_sb ne_s1_vb ne_sb_vb ne_vb_sb g_sb g_vb hfm hok hlen hN HM r0.1 (by rw [r0.2.1]; exact he) (by rw [hMM]; exact own_i32lt (show i < Mn by omega) (by omega)) hx hby hml hown hZ A0
    have qs := allS (P := fun x => ∀ cell : Cell, h0[x]? = some cell → cell.vm.isStatics = false) E_sb.nostat (allS (P := fun x => ∀ cell : Cell, h0[x]? = some cell → cell.vm.isStatics = false) V_vb.nostat all0)
    have E_s1 := E_s1.keep K
    have F_s1_coder := F_s1_coder.keep K (ninS ne_s1_sb (ninS ne_s1_vb nin0))
    have F_s1_value := F_s1_value.keep K (ninS ne_s1_sb (ninS ne_s1_vb nin0))
    have V_b1 := V_b1.keep K (ninS ne_b1_sb (ninS ne_b1_vb nin0))
    have SS := SS.kp K qs
    have E_sb := E_sb.keep K
    rw [r0.2.2] at A1
    rw [r1.2.2] at P_F_sb_count
    rw [r1.2.1] at P_V_vb hl1
    obtain ⟨c4, h, K2, f0, f1, f2, f3, f9, A2⟩ := ih (i + 1) _ e1 h1 (by omega) (by omega) (Nat.le_trans Z0 K.1) SS E_s1 F_s1_coder F_s1_value V_b1 E_sb P_F_sb_coder P_F_sb_value P_F_sb_count P_V_vb hl1 A1
    have he' : ch.getD i 0 = e1 := by rw [List.getD_eq_getElem?_getD, he]; rfl
    refine ⟨c4, h, K.trans K2 (allS (P := fun x => x ∈ ([sb, vb] : List Addr) ∨ h0.size ≤ x) (Or.inl (by simp)) (allS (P := fun x => x ∈ ([sb, vb] : List Addr) ∨ h0.size ≤ x) (Or.inl (by simp)) all0)), f0, f1, ?_, ?_, ?_, ?_⟩
    · rw [show i + (j + 1) + 1 = i + 1 + j + 1 by omega]; exact f2
    · rw [own_fill, he']; exact f3
    · rw [own_fill, he']; exact f9
    · rw [show i + (j + 1) = i + 1 + j by omega]; exact A2
theorem own_t17g (l : Launch) (Z : State) (a0 : Array Value) (hw : ∀ d ∈ tables_1, d.before a0 Z = true) {p : Program} {e : Env} (s : State) {m : MethodId} {args : Array Value} {below : List Frame} {meth : Method} {c : Code} {S0 : State} (s1 b1 sb vb : Addr) (k cs N MM : Int32) (ch : List Int32) (fm : Value) (n0 : Nat) (us_vb : List Int32) (c3 e1 : Int32) (h0 : Heap) (Z0 : n0 ≤ h0.size) (E_s1 : Exa Z h0 s1 "java/lang/String") (F_s1_coder : Fld Z h0 s1 "java/lang/String" "coder" "B" (.int k)) (F_s1_value : Fld Z h0 s1 "java/lang/String" "value" "[B" (.ref b1)) (V_b1 : own_Ar Z h0 b1 .byte (own_by k ch)) (SS : own_ST Z h0 cs fm) (E_sb : Exa Z h0 sb "java/lang/StringBuilder") (F_sb_coder : Fld Z h0 sb "java/lang/AbstractStringBuilder" "coder" "B" (.int 0)) (F_sb_value : Fld Z h0 sb "java/lang/AbstractStringBuilder" "value" "[B" (.ref vb)) (F_sb_count : Fld Z h0 sb "java/lang/AbstractStringBuilder" "count" "I" (.int 17)) (V_vb : own_Ar Z h0 vb .byte (List.map own_lo us_vb)) (hl_vb : us_vb.length = 17) (hcs : ¬ (cs = (0 : Int32))) (ne_b1_sb : b1 ≠ sb) (ne_s1_sb : s1 ≠ sb) (ne_vb_sb : vb ≠ sb) (g_sb : n0 ≤ sb) (hfm : fm.isRef = true) (hok : own_ok k ch) (hlen : ch.length < 64) (hN : ch.length.toInt32 = N) (HM : ∀ (h : Heap) (n : Nat), n ≤ h.size → own_M l Z (⟨"java/lang/Math", "min", "(II)I"⟩ : MethodName) jdk_29_method_69_code 2 (some .int) [] (⟨0, 0, 0, 0⟩ : Room) #[(.int N), (.int 24)] h n (fun v h' => v = some (.int MM) ∧ h = h')) (hj8 : ¬ (16 : Int32) < (0 : Int32)) (hje : ch[(16 : Int32).toNatClampNeg]? = some e1) (hlt : (16 : Int32) < MM) (hx : p.tables.exec = Jvm.exec) (hby : c.code = prog_11_method_10_code) (hml : c.maxLocals = 4) (hown : s.vm.findClass "com/example/paretolio/paretolio/RecordReader" = some m.cls) (hZ : Z.Warmed39 s.vm)
    (A0 : own_R p l e (⟨8, 9, 130, 117⟩ : Room) s m args below meth c S0 n0 h0 4 29 (mkF m 12 #[.val (.ref s1), .val (.ref sb), .val (.int 16), .val (.int c3)] [])) :
    ∃ (x1 : Addr) (h : Heap), Keep h0 h [sb] ∧ h0.size ≤ x1 ∧ Fld Z h sb "java/lang/AbstractStringBuilder" "coder" "B" (.int 0) ∧ Fld Z h sb "java/lang/AbstractStringBuilder" "value" "[B" (.ref x1) ∧ Fld Z h sb "java/lang/AbstractStringBuilder" "count" "I" (.int 18) ∧ own_Ar Z h x1 .byte (List.map own_lo (List.set (List.take 0 ([0, 0, 0, 0, 0, 0, 0, 0, 0, 0, 0, 0, 0, 0, 0, 0, 0, 0, 0, 0, 0, 0, 0, 0, 0, 0, 0, 0, 0, 0, 0, 0, 0, 0, 0, 0] : List Int32) ++ List.take 17 (List.drop 0 us_vb) ++ List.drop (0 + 17) ([0, 0, 0, 0, 0, 0, 0, 0, 0, 0, 0, 0, 0, 0, 0, 0, 0, 0, 0, 0, 0, 0, 0, 0, 0, 0, 0, 0, 0, 0, 0, 0, 0, 0, 0, 0] : List Int32)) 17 (own_sh e1))) ∧ ((List.set (List.take 0 ([0, 0, 0, 0, 0, 0, 0, 0, 0, 0, 0, 0, 0, 0, 0, 0, 0, 0, 0, 0, 0, 0, 0, 0, 0, 0, 0, 0, 0, 0, 0, 0, 0, 0, 0, 0] : List Int32) ++ List.take 17 (List.drop 0 us_vb) ++ List.drop (0 + 17) ([0, 0, 0, 0, 0, 0, 0, 0, 0, 0, 0, 0, 0, 0, 0, 0, 0, 0, 0, 0, 0, 0, 0, 0, 0, 0, 0, 0, 0, 0, 0, 0, 0, 0, 0, 0] : List Int32)) 17 (own_sh e1)) : List Int32).length = 36 ∧ own_R p l e (⟨8, 9, 130, 117⟩ : Room) s m args below meth c S0 n0 h 5 65 (mkF m 12 #[.val (.ref s1), .val (.ref sb), .val (.int 17), .val (.int e1)] []) := by
  have H : own_H p c _ := ⟨hx, hby⟩
  have KK : Keep h0 h0 ([sb] : List Addr) := Keep.refl _ _
  have A2 := A0.iN H dm5_12 rfl rfl |>.aN H dm5_13 rfl rfl rfl
  obtain ⟨vA1, hA1, ⟨rfl, rfl⟩, A1⟩ := A2.cV (own_len l Z a0 hw s1 b1 cs k N ch h0 n0 Z0 SS.1 hcs E_s1 F_s1_coder F_s1_value V_b1 hok hlen hN) E_s1 H hZ hown dm5_14 (oW hw 103 rfl) (kV17 hw) hml rfl rfl [(.int 16)] rfl rfl
  have A4 := A1.cl |>.bp H dm5_17 rfl 24 rfl
  obtain ⟨vA3, hA3, ⟨rfl, rfl⟩, A3⟩ := A4.cS (HM h0 n0 Z0) H hZ hown dm5_19 (oW hw 104 rfl) (kS26 hw) hml rfl rfl [(.int 16)] rfl rfl
  have A6 := A3.cl |>.cn H dm5_22 rfl ((tlt hlt).2.1) |>.aN H dm5_25 rfl rfl rfl |>.iN H dm5_26 rfl rfl
  obtain ⟨vA5, hA5, ⟨rfl, rfl⟩, A5⟩ := A6.cV (own_ch l Z a0 hw s1 b1 cs k (16 : Int32) e1 ch fm h0 n0 Z0 SS.1 hcs E_s1 F_s1_coder F_s1_value V_b1 hok hlen hfm SS.2.1 SS.2.2.1 SS.2.2.2.1 SS.2.2.2.2 hj8 hje) E_s1 H hZ hown dm5_27 (oW hw 200 rfl) (kV38 hw) hml rfl rfl [] rfl rfl
  have A8 := A5.cl |>.iM H dm5_30 rfl #[.val (.ref s1), .val (.ref sb), .val (.int 16), .val (.int e1)] rfl |>.aN H dm5_31 rfl rfl rfl |>.iN H dm5_32 rfl rfl |>.bp H dm5_33 rfl 32 rfl
  have A9 : own_R p l e (⟨8, 9, 130, 117⟩ : Room) s m args below meth c S0 n0 h0 4 29 (mkF m 50 #[.val (.ref s1), .val (.ref sb), .val (.int 16), .val (.int e1)] [(.int (if e1 < (32 : Int32) then (63 : Int32) else (if (126 : Int32) < e1 then (63 : Int32) else e1))), (.ref sb)]) := by
    by_cases q7 : e1 < (32 : Int32)
    · skip
      have A10 := A8.cy H dm5_35 rfl ((tlt q7).1) 48 (by decide) (by decide) |>.bp H dm5_48 rfl 63 rfl
      simp only [if_pos q7]
      exact A10
    · skip
      have A12 := A8.cn H dm5_35 rfl ((flt q7).1) |>.iN H dm5_38 rfl rfl |>.bp H dm5_39 rfl 126 rfl
      have A13 : own_R p l e (⟨8, 9, 130, 117⟩ : Room) s m args below meth c S0 n0 h0 4 29 (mkF m 50 #[.val (.ref s1), .val (.ref sb), .val (.int 16), .val (.int e1)] [(.int (if (126 : Int32) < e1 then (63 : Int32) else e1)), (.ref sb)]) := by
        by_cases q11 : (126 : Int32) < e1
        · skip
          have A14 := A12.cy H dm5_41 rfl ((tlt q11).2.2.1) 48 (by decide) (by decide) |>.bp H dm5_48 rfl 63 rfl
          simp only [if_pos q11]
          exact A14
        · skip
          have A15 := A12.cn H dm5_41 rfl ((flt q11).2.2.1) |>.iN H dm5_44 rfl rfl |>.gt H dm5_45 rfl 50 (by decide) (by decide)
          simp only [if_neg q11]
          exact A15
      simp only [if_neg q7]
      exact A13
  have A16 : own_R p l e _ _ m _ below meth c S0 n0 h0 4 29 (mkF m 50 #[.val (.ref s1), .val (.ref sb), .val (.int 16), .val (.int e1)] [(.int (own_sh e1)), (.ref sb)]) := A9
  obtain ⟨d1, hd1⟩ : ∃ zq_, zq_ = (own_sh e1) := ⟨_, rfl⟩
  rw [← hd1] at A16
  have hd1x : ¬ ((255 : Int32) < d1) := hd1 ▸ own_sh255 e1
  obtain ⟨vA17, hA17, ⟨x1, rfl, KA17, zz_x1, P_F_sb_coder, P_F_sb_value, P_F_sb_count, P_V_x1, hl_x1⟩, A17⟩ := A16.cV (own_c84 l Z a0 hw sb vb d1 _ cs h0 n0 Z0 E_sb F_sb_coder F_sb_value F_sb_count V_vb SS.1 hl_vb hcs hd1x ne_vb_sb g_sb) E_sb H hZ hown dm5_50 (oW hw 108 rfl) (kV29 hw) hml rfl rfl [] rfl rfl
  have sz_x1 : h0.size ≤ x1 := Nat.le_trans KK.1 zz_x1
  have KK : Keep h0 hA17 [sb] := KK.trans KA17 (allS (P := fun x => x ∈ ([sb] : List Addr) ∨ h0.size ≤ x) (Or.inl (by simp)) all0)
  have F_sb_coder : Fld Z hA17 sb "java/lang/AbstractStringBuilder" "coder" "B" (.int 0) := P_F_sb_coder
  have F_sb_value : Fld Z hA17 sb "java/lang/AbstractStringBuilder" "value" "[B" (.ref x1) := P_F_sb_value
  have F_sb_count : Fld Z hA17 sb "java/lang/AbstractStringBuilder" "count" "I" (.int 18) := P_F_sb_count
  have V_x1 : own_Ar Z hA17 x1 .byte (List.map own_lo (List.set (List.take 0 ([0, 0, 0, 0, 0, 0, 0, 0, 0, 0, 0, 0, 0, 0, 0, 0, 0, 0, 0, 0, 0, 0, 0, 0, 0, 0, 0, 0, 0, 0, 0, 0, 0, 0, 0, 0] : List Int32) ++ List.take 17 (List.drop 0 us_vb) ++ List.drop (0 + 17) ([0, 0, 0, 0, 0, 0, 0, 0, 0, 0, 0, 0, 0, 0, 0, 0, 0, 0, 0, 0, 0, 0, 0, 0, 0, 0, 0, 0, 0, 0, 0, 0, 0, 0, 0, 0] : List Int32)) 17 d1)) := P_V_x1
  have A18 := A17.cl |>.po H dm5_53 rfl rfl |>.ii H dm5_54 rfl rfl #[.val (.ref s1), .val (.ref sb), .val (.int 17), .val (.int e1)] rfl |>.gt H dm5_57 rfl 12 (by decide) (by decide)
  subst hd1
  exact ⟨x1, hA17, KK, sz_x1, F_sb_coder, F_sb_value, F_sb_count, V_x1, hl_x1, A18⟩
theorem own_t36 (l : Launch) (Z : State) (a0 : Array Value) (hw : ∀ d ∈ tables_1, d.before a0 Z = true) {p : Program} {e : Env} (s : State) {m : MethodId} {args : Array Value} {below : List Frame} {meth : Method} {c : Code} {S0 : State} (s1 b1 sb vb : Addr) (k cs N MM : Int32) (ch : List Int32) (fm : Value) (n0 : Nat) (us_vb : List Int32) (j8 j9 c3 e1 : Int32) (h0 : Heap) (Z0 : n0 ≤ h0.size) (E_s1 : Exa Z h0 s1 "java/lang/String") (F_s1_coder : Fld Z h0 s1 "java/lang/String" "coder" "B" (.int k)) (F_s1_value : Fld Z h0 s1 "java/lang/String" "value" "[B" (.ref b1)) (V_b1 : own_Ar Z h0 b1 .byte (own_by k ch)) (SS : own_ST Z h0 cs fm) (E_sb : Exa Z h0 sb "java/lang/StringBuilder") (F_sb_coder : Fld Z h0 sb "java/lang/AbstractStringBuilder" "coder" "B" (.int 0)) (F_sb_value : Fld Z h0 sb "java/lang/AbstractStringBuilder" "value" "[B" (.ref vb)) (F_sb_count : Fld Z h0 sb "java/lang/AbstractStringBuilder" "count" "I" (.int j9)) (V_vb : own_Ar Z h0 vb .byte (List.map own_lo us_vb)) (hl_vb : us_vb.length = 36) (hcs : ¬ (cs = (0 : Int32))) (hn1 : ¬ ((0 : Int32) < ((j9 + (1 : Int32)) - (36 : Int32)))) (hn2 : ¬ (j9 < (0 : Int32))) (hn3 : (j9.toNatClampNeg < 36)) (ne_b1_sb : b1 ≠ sb) (ne_b1_vb : b1 ≠ vb) (ne_s1_sb : s1 ≠ sb) (ne_s1_vb : s1 ≠ vb) (ne_sb_vb : sb ≠ vb) (ne_vb_sb : vb ≠ sb) (g_sb : n0 ≤ sb) (g_vb : n0 ≤ vb) (hfm : fm.isRef = true) (hok : own_ok k ch) (hlen : ch.length < 64) (hN : ch.length.toInt32 = N) (HM : ∀ (h : Heap) (n : Nat), n ≤ h.size → own_M l Z (⟨"java/lang/Math", "min", "(II)I"⟩ : MethodName) jdk_29_method_69_code 2 (some .int) [] (⟨0, 0, 0, 0⟩ : Room) #[(.int N), (.int 24)] h n (fun v h' => v = some (.int MM) ∧ h = h')) (hj8 : ¬ j8 < (0 : Int32)) (hje : ch[j8.toNatClampNeg]? = some e1) (hlt : j8 < MM) (hx : p.tables.exec = Jvm.exec) (hby : c.code = prog_11_method_10_code) (hml : c.maxLocals = 4) (hown : s.vm.findClass "com/example/paretolio/paretolio/RecordReader" = some m.cls) (hZ : Z.Warmed39 s.vm)
    (A0 : own_R p l e (⟨8, 9, 130, 117⟩ : Room) s m args below meth c S0 n0 h0 5 65 (mkF m 12 #[.val (.ref s1), .val (.ref sb), .val (.int j8), .val (.int c3)] [])) :
    ∃ (h : Heap), Keep h0 h [sb, vb] ∧ Fld Z h sb "java/lang/AbstractStringBuilder" "coder" "B" (.int 0) ∧ Fld Z h sb "java/lang/AbstractStringBuilder" "value" "[B" (.ref vb) ∧ Fld Z h sb "java/lang/AbstractStringBuilder" "count" "I" (.int (j9 + (1 : Int32))) ∧ own_Ar Z h vb .byte (List.map own_lo (List.set us_vb j9.toNatClampNeg (own_sh e1))) ∧ ((List.set us_vb j9.toNatClampNeg (own_sh e1)) : List Int32).length = 36 ∧ own_R p l e (⟨8, 9, 130, 117⟩ : Room) s m args below meth c S0 n0 h 5 65 (mkF m 12 #[.val (.ref s1), .val (.ref sb), .val (.int (j8 + (1 : Int32))), .val (.int e1)] []) := by
  have H : own_H p c _ := ⟨hx, hby⟩
  have KK : Keep h0 h0 ([sb, vb] : List Addr) := Keep.refl _ _
  have A2 := A0.iN H dm5_12 rfl rfl |>.aN H dm5_13 rfl rfl rfl
  obtain ⟨vA1, hA1, ⟨rfl, rfl⟩, A1⟩ := A2.cV (own_len l Z a0 hw s1 b1 cs k N ch h0 n0 Z0 SS.1 hcs E_s1 F_s1_coder F_s1_value V_b1 hok hlen hN) E_s1 H hZ hown dm5_14 (oW hw 103 rfl) (kV17 hw) hml rfl rfl [(.int j8)] rfl rfl
  have A4 := A1.cl |>.bp H dm5_17 rfl 24 rfl
  obtain ⟨vA3, hA3, ⟨rfl, rfl⟩, A3⟩ := A4.cS (HM h0 n0 Z0) H hZ hown dm5_19 (oW hw 104 rfl) (kS26 hw) hml rfl rfl [(.int j8)] rfl rfl
  have A6 := A3.cl |>.cn H dm5_22 rfl ((tlt hlt).2.1) |>.aN H dm5_25 rfl rfl rfl |>.iN H dm5_26 rfl rfl
  obtain ⟨vA5, hA5, ⟨rfl, rfl⟩, A5⟩ := A6.cV (own_ch l Z a0 hw s1 b1 cs k j8 e1 ch fm h0 n0 Z0 SS.1 hcs E_s1 F_s1_coder F_s1_value V_b1 hok hlen hfm SS.2.1 SS.2.2.1 SS.2.2.2.1 SS.2.2.2.2 hj8 hje) E_s1 H hZ hown dm5_27 (oW hw 200 rfl) (kV38 hw) hml rfl rfl [] rfl rfl
  have A8 := A5.cl |>.iM H dm5_30 rfl #[.val (.ref s1), .val (.ref sb), .val (.int j8), .val (.int e1)] rfl |>.aN H dm5_31 rfl rfl rfl |>.iN H dm5_32 rfl rfl |>.bp H dm5_33 rfl 32 rfl
  have A9 : own_R p l e (⟨8, 9, 130, 117⟩ : Room) s m args below meth c S0 n0 h0 5 65 (mkF m 50 #[.val (.ref s1), .val (.ref sb), .val (.int j8), .val (.int e1)] [(.int (if e1 < (32 : Int32) then (63 : Int32) else (if (126 : Int32) < e1 then (63 : Int32) else e1))), (.ref sb)]) := by
    by_cases q7 : e1 < (32 : Int32)
    · skip
      have A10 := A8.cy H dm5_35 rfl ((tlt q7).1) 48 (by decide) (by decide) |>.bp H dm5_48 rfl 63 rfl
      simp only [if_pos q7]
      exact A10
    · skip
      have A12 := A8.cn H dm5_35 rfl ((flt q7).1) |>.iN H dm5_38 rfl rfl |>.bp H dm5_39 rfl 126 rfl
      have A13 : own_R p l e (⟨8, 9, 130, 117⟩ : Room) s m args below meth c S0 n0 h0 5 65 (mkF m 50 #[.val (.ref s1), .val (.ref sb), .val (.int j8), .val (.int e1)] [(.int (if (126 : Int32) < e1 then (63 : Int32) else e1)), (.ref sb)]) := by
        by_cases q11 : (126 : Int32) < e1
        · skip
          have A14 := A12.cy H dm5_41 rfl ((tlt q11).2.2.1) 48 (by decide) (by decide) |>.bp H dm5_48 rfl 63 rfl
          simp only [if_pos q11]
          exact A14
        · skip
          have A15 := A12.cn H dm5_41 rfl ((flt q11).2.2.1) |>.iN H dm5_44 rfl rfl |>.gt H dm5_45 rfl 50 (by decide) (by decide)
          simp only [if_neg q11]
          exact A15
      simp only [if_neg q7]
      exact A13
  have A16 : own_R p l e _ _ m _ below meth c S0 n0 h0 5 65 (mkF m 50 #[.val (.ref s1), .val (.ref sb), .val (.int j8), .val (.int e1)] [(.int (own_sh e1)), (.ref sb)]) := A9
  obtain ⟨d1, hd1⟩ : ∃ zq_, zq_ = (own_sh e1) := ⟨_, rfl⟩
  rw [← hd1] at A16
  have hd1x : ¬ ((255 : Int32) < d1) := hd1 ▸ own_sh255 e1
  obtain ⟨vA17, hA17, ⟨rfl, KA17, P_F_sb_coder, P_F_sb_value, P_F_sb_count, P_V_vb, hl_vb⟩, A17⟩ := A16.cV (own_c90 l Z a0 hw sb vb d1 j9 _ cs h0 n0 Z0 E_sb F_sb_coder F_sb_value F_sb_count V_vb SS.1 hl_vb hcs hd1x hn1 hn2 hn3 ne_sb_vb ne_vb_sb g_sb g_vb) E_sb H hZ hown dm5_50 (oW hw 108 rfl) (kV29 hw) hml rfl rfl [] rfl rfl
  have KK : Keep h0 hA17 [sb, vb] := KK.trans KA17 (allS (P := fun x => x ∈ ([sb, vb] : List Addr) ∨ h0.size ≤ x) (Or.inl (by simp)) (allS (P := fun x => x ∈ ([sb, vb] : List Addr) ∨ h0.size ≤ x) (Or.inl (by simp)) all0))
  have F_sb_coder : Fld Z hA17 sb "java/lang/AbstractStringBuilder" "coder" "B" (.int 0) := P_F_sb_coder
  have F_sb_value : Fld Z hA17 sb "java/lang/AbstractStringBuilder" "value" "[B" (.ref vb) := P_F_sb_value
  have F_sb_count : Fld Z hA17 sb "java/lang/AbstractStringBuilder" "count" "I" (.int (j9 + (1 : Int32))) := P_F_sb_count
  have V_vb : own_Ar Z hA17 vb .byte (List.map own_lo (List.set us_vb j9.toNatClampNeg d1)) := P_V_vb
  have A18 := A17.cl |>.po H dm5_53 rfl rfl |>.ii H dm5_54 rfl rfl #[.val (.ref s1), .val (.ref sb), .val (.int (j8 + (1 : Int32))), .val (.int e1)] rfl |>.gt H dm5_57 rfl 12 (by decide) (by decide)
  subst hd1
  exact ⟨hA17, KK, F_sb_coder, F_sb_value, F_sb_count, V_vb, hl_vb, A18⟩
theorem own_cap36 : ∀ i, i < 35 → ¬ ((0 : Int32) < (((i + 1).toInt32 + (1 : Int32)) - (36 : Int32))) := by decide
theorem own_lp36 (l : Launch) (Z : State) (a0 : Array Value) (hw : ∀ d ∈ tables_1, d.before a0 Z = true) {p : Program} {e : Env} (s : State) {m : MethodId} {args : Array Value} {below : List Frame} {meth : Method} {c : Code} {S0 : State} (s1 b1 sb vb : Addr) (k cs N MM : Int32) (ch : List Int32) (fm : Value) (n0 : Nat) (Mn : Nat) (hMM : MM = Mn.toInt32) (hMl : Mn ≤ ch.length) (hcs : ¬ (cs = (0 : Int32))) (ne_b1_sb : b1 ≠ sb) (ne_b1_vb : b1 ≠ vb) (ne_s1_sb : s1 ≠ sb) (ne_s1_vb : s1 ≠ vb) (ne_sb_vb : sb ≠ vb) (ne_vb_sb : vb ≠ sb) (g_sb : n0 ≤ sb) (g_vb : n0 ≤ vb) (hfm : fm.isRef = true) (hok : own_ok k ch) (hlen : ch.length < 64) (hN : ch.length.toInt32 = N) (HM : ∀ (h : Heap) (n : Nat), n ≤ h.size → own_M l Z (⟨"java/lang/Math", "min", "(II)I"⟩ : MethodName) jdk_29_method_69_code 2 (some .int) [] (⟨0, 0, 0, 0⟩ : Room) #[(.int N), (.int 24)] h n (fun v h' => v = some (.int MM) ∧ h = h')) (hx : p.tables.exec = Jvm.exec) (hby : c.code = prog_11_method_10_code) (hml : c.maxLocals = 4) (hown : s.vm.findClass "com/example/paretolio/paretolio/RecordReader" = some m.cls) (hZ : Z.Warmed39 s.vm) :
    ∀ (j i : Nat) (us : List Int32) (c3 : Int32) (h0 : Heap), i + j ≤ Mn → i + j ≤ 35 → n0 ≤ h0.size → own_ST Z h0 cs fm → Exa Z h0 s1 "java/lang/String" → Fld Z h0 s1 "java/lang/String" "coder" "B" (.int k) → Fld Z h0 s1 "java/lang/String" "value" "[B" (.ref b1) → own_Ar Z h0 b1 .byte (own_by k ch) → Exa Z h0 sb "java/lang/StringBuilder" → Fld Z h0 sb "java/lang/AbstractStringBuilder" "coder" "B" (.int 0) → Fld Z h0 sb "java/lang/AbstractStringBuilder" "value" "[B" (.ref vb) → Fld Z h0 sb "java/lang/AbstractStringBuilder" "count" "I" (.int (i + 1).toInt32) → own_Ar Z h0 vb .byte (List.map own_lo us) → us.length = 36 → own_R p l e (⟨8, 9, 130, 117⟩ : Room) s m args below meth c S0 n0 h0 5 65 (mkF m 12 #[.val (.ref s1), .val (.ref sb), .val (.int i.toInt32), .val (.int c3)] []) → ∃ (c4 : Int32) (h : Heap), Keep h0 h [sb, vb] ∧ Fld Z h sb "java/lang/AbstractStringBuilder" "coder" "B" (.int 0) ∧ Fld Z h sb "java/lang/AbstractStringBuilder" "value" "[B" (.ref vb) ∧ Fld Z h sb "java/lang/AbstractStringBuilder" "count" "I" (.int (i + j + 1).toInt32) ∧ own_Ar Z h vb .byte (List.map own_lo (own_fill ch us i j)) ∧ (own_fill ch us i j).length = 36 ∧ own_R p l e (⟨8, 9, 130, 117⟩ : Room) s m args below meth c S0 n0 h 5 65 (mkF m 12 #[.val (.ref s1), .val (.ref sb), .val (.int (i + j).toInt32), .val (.int c4)] []) := by
  intro j
  induction j with
  | zero =>
    intro i us c3 h0 q1 q2 Z0 SS E_s1 F_s1_coder F_s1_value V_b1 E_sb F_sb_coder F_sb_value F_sb_count V_vb hl A0
    exact ⟨c3, h0, Keep.refl _ _, F_sb_coder, F_sb_value, F_sb_count, V_vb, hl, A0⟩
  | succ j ih =>
    intro i us c3 h0 q1 q2 Z0 SS E_s1 F_s1_coder F_s1_value V_b1 E_sb F_sb_coder F_sb_value F_sb_count V_vb hl_vb A0
    obtain ⟨e1, he⟩ : ∃ e1, ch[i]? = some e1 := ⟨_, List.getElem?_eq_getElem (show i < ch.length by omega)⟩
    have r0 := own_i32a i (by omega)
    have r1 := own_i32a (i + 1) (by omega)
    obtain ⟨h1, K, P_F_sb_coder, P_F_sb_value, P_F_sb_count, P_V_vb, hl1, A1⟩ := own_t36 l Z a0 hw s s1 b1 sb vb k cs N MM ch fm n0 us i.toInt32 (i + 1).toInt32 c3 e1 h0 Z0 E_s1 F_s1_coder F_s1_value V_b1 SS E_sb F_sb_coder F_sb_value F_sb_count V_vb hl_vb hcs (own_cap36 i (by omega)) r1.1 (by rw [r1.2.1]; omega) ne_b1_sb ne_b1_vb ne_s1_sb ne_s1_vb ne_sb_vb ne_vb_sb g_sb g_vb hfm hok hlen hN HM r0.1 (by rw [r0.2.1]; exact he) (by rw [hMM]; exact own_i32lt (show i < Mn by omega) (by omega)) hx hby hml hown hZ A0
    have qs := allS (P := fun x => ∀ cell : Cell, h0[x]? = some cell → cell.vm.isStatics = false) E_sb.nostat (allS (P := fun x => ∀ cell : Cell, h0[x]? = some cell → cell.vm.isStatics = false) V_vb.nostat all0)
    have E_s1 := E_s1.keep K
    have F_s1_coder := F_s1_coder.keep K (ninS ne_s1_sb (ninS ne_s1_vb nin0))
    have F_s1_value := F_s1_value.keep K (ninS ne_s1_sb (ninS ne_s1_vb nin0))
    have V_b1 := V_b1.keep K (ninS ne_b1_sb (ninS ne_b1_vb nin0))
    have SS := SS.kp K qs
    have E_sb := E_sb.keep K
    rw [r0.2.2] at A1
    rw [r1.2.2] at P_F_sb_count
    rw [r1.2.1] at P_V_vb hl1
    obtain ⟨c4, h, K2, f0, f1, f2, f3, f9, A2⟩ := ih (i + 1) _ e1 h1 (by omega) (by omega) (Nat.le_trans Z0 K.1) SS E_s1 F_s1_coder F_s1_value V_b1 E_sb P_F_sb_coder P_F_sb_value P_F_sb_count P_V_vb hl1 A1
    have he' : ch.getD i 0 = e1 := by rw [List.getD_eq_getElem?_getD, he]; rfl
    refine ⟨c4, h, K.trans K2 (allS (P := fun x => x ∈ ([sb, vb] : List Addr) ∨ h0.size ≤ x) (Or.inl (by simp)) (allS (P := fun x => x ∈ ([sb, vb] : List Addr) ∨ h0.size ≤ x) (Or.inl (by simp)) all0)), f0, f1, ?_, ?_, ?_, ?_⟩
    · rw [show i + (j + 1) + 1 = i + 1 + j + 1 by omega]; exact f2
    · rw [own_fill, he']; exact f3
    · rw [own_fill, he']; exact f9
    · rw [show i + (j + 1) = i + 1 + j by omega]; exact A2
theorem own_q0 (l : Launch) (Z : State) (a0 : Array Value) (hw : ∀ d ∈ tables_1, d.before a0 Z = true) (s1 b1 : Addr) (k : Int32) (cs : Int32) (fm : Value) (h0 : Heap) (n0 : Nat) (Z0 : n0 ≤ h0.size) (hEL : EW Z a0 own_EL) (own_wS : ∀ a ∈ Bundle.stringAtoms, a.before a0 Z = true) (E_s1 : Exa Z h0 s1 "java/lang/String") (F_s1_coder : Fld Z h0 s1 "java/lang/String" "coder" "B" (.int k)) (F_s1_value : Fld Z h0 s1 "java/lang/String" "value" "[B" (.ref b1)) (V_b1 : own_Ar Z h0 b1 .byte (own_by k ([] : List Int32))) (SS : own_ST Z h0 cs fm) (hcs : ¬ (cs = (0 : Int32))) (hfm : fm.isRef = true) (hok : own_ok k ([] : List Int32)) (hlen : (([] : List Int32) : List Int32).length < 64) :
    own_MS l Z own_EL (⟨"com/example/paretolio/paretolio/RecordReader", "quote", "(Ljava/lang/String;)Ljava/lang/String;"⟩ : MethodName) prog_11_method_10_code 4 (some (.object "java/lang/String")) [] (⟨8, 9, 130, 117⟩ : Room) #[(.ref s1)] h0 n0 (fun v h => ∃ x5 x6 : Addr, v = some (.ref x5) ∧ Keep h0 h [] ∧ h0.size ≤ x5 ∧ h0.size ≤ x6 ∧ x6 ≠ x5 ∧ Exa Z h x5 "java/lang/String" ∧ Fld Z h x5 "java/lang/String" "value" "[B" (.ref x6) ∧ Fld Z h x5 "java/lang/String" "coder" "B" (.int 0) ∧ own_Ar Z h x6 .byte (List.map own_lo [39, 39]) ∧ ([39, 39] : List Int32).length = 2) := by
  refine own_MS.of pl50 ?_
  intro p e s m below meth c S0 vm0 k0 hx hby hml hown hnm hret hlk hZ hS hk HC A00
  have H : own_H p c _ := ⟨hx, hby⟩
  have A0 := A00.cast (f' := mkF m 0 #[.val (.ref s1), .unset, .unset, .unset] []) (by first | (simp [entryFrame, mkF, argsToLocals, Value.category, maxLocals]; done) | rfl)
  have KK : Keep h0 h0 ([] : List Addr) := Keep.refl _ _
  obtain ⟨h1, E2, E_x1, D_x1, A3⟩ := A0.newO hx hZ hown (hb hby dm5_0) (oW hw 31 rfl) (oW hw 32 rfl) (oW hw 33 rfl) (by decide) (by decide)
  obtain ⟨x1, gx1⟩ : ∃ z, z = h0.size := ⟨_, rfl⟩
  rw [← gx1] at E_x1 D_x1 A3
  have ne_s1_x1 : s1 ≠ x1 := by rw [gx1]; exact Nat.ne_of_lt E_s1.lt
  have ne_b1_x1 : b1 ≠ x1 := by rw [gx1]; exact Nat.ne_of_lt V_b1.lt
  have g_x1 : n0 ≤ x1 := by rw [gx1]; exact Z0
  have sz_x1 : h0.size ≤ x1 := by rw [gx1]; exact KK.1
  have E_s1 := E_s1.ext E2
  have F_s1_coder := F_s1_coder.ext E2
  have F_s1_value := F_s1_value.ext E2
  have V_b1 := V_b1.ext E2
  have SS := SS.ext E2
  have Z0 := Nat.le_trans Z0 E2.1
  have KK : Keep h0 h1 [] := KK.ext E2
  have HC := HC.trans (CHr.ext E2 HC.1)
  have hk := Nat.le_trans hk E2.1
  have F_x1_coder : Fld Z h1 x1 "java/lang/AbstractStringBuilder" "coder" "B" (.int 0) := D_x1 (Or.inl (oW hw 59 rfl)) (ty := .byte) (by decide)
  have F_x1_value : Fld Z h1 x1 "java/lang/AbstractStringBuilder" "value" "[B" .null := D_x1 (Or.inl (oW hw 61 rfl)) (ty := (.array .byte)) (by decide)
  have F_x1_count : Fld Z h1 x1 "java/lang/AbstractStringBuilder" "count" "I" (.int 0) := D_x1 (Or.inl (oW hw 77 rfl)) (ty := .int) (by decide)
  have A7 := A3.du H dm5_3 rfl rfl
  obtain ⟨x2, x3, vmA6, kA6, h4, E5, E_x2, F_x2_coder, F_x2_value, V_x3, ns_x2, hS, hk, hZ, hown, HCs, hLA6, A6⟩ := A7.ldcS hx hZ hown (hb hby dm5_4) (oW hw 34 rfl) own_wS hS hk hEL (by simp +decide [own_EL]) (CHr.refl HC.1) (vs := [(.int 39)]) (z := (1 : Int32)) ⟨by decide, by decide⟩ (by decide) (by decide) (n := 4) (by decide) (by decide) (by decide) (by decide)
  have HC := HC.trans HCs
  have E_s1 := E_s1.ext E5
  have F_s1_coder := F_s1_coder.ext E5
  have F_s1_value := F_s1_value.ext E5
  have V_b1 := V_b1.ext E5
  have SS := SS.ext E5
  have E_x1 := E_x1.ext E5
  have F_x1_coder := F_x1_coder.ext E5
  have F_x1_value := F_x1_value.ext E5
  have F_x1_count := F_x1_count.ext E5
  have Z0 := Nat.le_trans Z0 E5.1
  have KK : Keep h0 h4 [] := KK.ext E5
  have SX_x1 : Safe Z own_EL _ h4 x1 := Safe.exa hZ.alike E_x1 (by decide) (by decide)
  have ne_x1_x2 : x1 ≠ x2 := (ns_x2 _ SX_x1).1
  have ne_x2_x1 := Ne.symm ne_x1_x2
  have ne_x1_x3 : x1 ≠ x3 := (ns_x2 _ SX_x1).2
  have ne_x3_x1 := Ne.symm ne_x1_x3
  have V_x3 : own_Ar Z h4 x3 .byte (List.map own_lo [39]) := V_x3
  obtain ⟨vA8, hA8, ⟨x4, rfl, KA8, zz_x4, P_F_x1_coder, P_F_x1_value, P_F_x1_count, P_V_x4, hl_x4⟩, A8⟩ := A6.cI (own_c22 l Z a0 hw x1 x2 x3 _ cs h4 n0 Z0 E_x1 F_x1_coder F_x1_value F_x1_count E_x2 F_x2_coder F_x2_value V_x3 SS.1 rfl hcs ne_x2_x1 ne_x3_x1 g_x1) H hZ hown dm5_6 (oW hw 35 rfl) (kI25 hw) hml rfl rfl [(.ref x1)] rfl rfl
  have ne_x1_x4 : x1 ≠ x4 := Nat.ne_of_lt (Nat.lt_of_lt_of_le E_x1.lt zz_x4)
  have ne_x4_x1 := Ne.symm ne_x1_x4
  have g_x4 : n0 ≤ x4 := Nat.le_trans Z0 zz_x4
  have sz_x4 : h0.size ≤ x4 := Nat.le_trans KK.1 zz_x4
  have SX_x1 : Safe Z own_EL _ h4 x1 := Safe.exa hZ.alike E_x1 (by decide) (by decide)
  have hsA : ∀ x ∈ ([x1] : List Addr), Safe Z own_EL vmA6 h4 x := (allS SX_x1 all0)
  have SX_x4 := Safe.keep KA8 hsA HC.1 (Safe.new zz_x4)
  have HC := HC.trans (CHr.keep KA8 hsA HC.1)
  have hk := Nat.le_trans hk KA8.1
  have SS := SS.kp KA8 (allS (P := fun x => ∀ cell : Cell, h4[x]? = some cell → cell.vm.isStatics = false) E_x1.nostat all0)
  have E_s1 := E_s1.keep KA8
  have F_s1_coder := F_s1_coder.keep KA8 (ninS ne_s1_x1 nin0)
  have F_s1_value := F_s1_value.keep KA8 (ninS ne_s1_x1 nin0)
  have V_b1 := V_b1.keep KA8 (ninS ne_b1_x1 nin0)
  have E_x1 := E_x1.keep KA8
  have Z0 := Nat.le_trans Z0 KA8.1
  have KK : Keep h0 hA8 [] := KK.trans KA8 (allS (P := fun x => x ∈ ([] : List Addr) ∨ h0.size ≤ x) (Or.inr sz_x1) all0)
  have F_x1_coder : Fld Z hA8 x1 "java/lang/AbstractStringBuilder" "coder" "B" (.int 0) := P_F_x1_coder
  have F_x1_value : Fld Z hA8 x1 "java/lang/AbstractStringBuilder" "value" "[B" (.ref x4) := P_F_x1_value
  have F_x1_count : Fld Z hA8 x1 "java/lang/AbstractStringBuilder" "count" "I" (.int 1) := P_F_x1_count
  have V_x4 : own_Ar Z hA8 x4 .byte (List.map own_lo [39, 0, 0, 0, 0, 0, 0, 0, 0, 0, 0, 0, 0, 0, 0, 0, 0]) := P_V_x4
  have hl_x4 : ([39, 0, 0, 0, 0, 0, 0, 0, 0, 0, 0, 0, 0, 0, 0, 0, 0] : List Int32).length = 17 := rfl
  have A10 := A8.c0 |>.aM H dm5_9 rfl rfl #[.val (.ref s1), .val (.ref x1), .unset, .unset] rfl |>.ic H dm5_10 rfl 0 rfl |>.iM H dm5_11 rfl #[.val (.ref s1), .val (.ref x1), .val (.int 0), .unset] rfl |>.iN H dm5_12 rfl rfl |>.aN H dm5_13 rfl rfl rfl
  obtain ⟨vA9, hA9, ⟨rfl, rfl⟩, A9⟩ := A10.cV (own_len l Z a0 hw s1 b1 cs k 0 _ hA8 n0 Z0 SS.1 hcs E_s1 F_s1_coder F_s1_value V_b1 hok hlen rfl) E_s1 H hZ hown dm5_14 (oW hw 103 rfl) (kV17 hw) hml rfl rfl [(.int 0)] rfl rfl
  have A12 := A9.cl |>.bp H dm5_17 rfl 24 rfl
  obtain ⟨vA11, hA11, ⟨rfl, rfl⟩, A11⟩ := A12.cS (own_c24 l Z a0 hw hA8 n0 Z0) H hZ hown dm5_19 (oW hw 104 rfl) (kS26 hw) hml rfl rfl [(.int 0)] rfl rfl
  have A14 := A11.cl |>.cy H dm5_22 rfl rfl 60 (by decide) (by decide) |>.aN H dm5_60 rfl rfl rfl
  obtain ⟨vA13, hA13, ⟨rfl, rfl⟩, A13⟩ := A14.cV (own_len l Z a0 hw s1 b1 cs k 0 _ hA8 n0 Z0 SS.1 hcs E_s1 F_s1_coder F_s1_value V_b1 hok hlen rfl) E_s1 H hZ hown dm5_61 (oW hw 103 rfl) (kV17 hw) hml rfl rfl [] rfl rfl
  have A16 := A13.cl |>.bp H dm5_64 rfl 24 rfl |>.cy H dm5_66 rfl rfl 76 (by decide) (by decide) |>.aN H dm5_76 rfl rfl rfl |>.bp H dm5_77 rfl 39 rfl
  obtain ⟨vA15, hA15, ⟨rfl, KA15, P_F_x1_coder, P_F_x1_value, P_F_x1_count, P_V_x4, hl_x4⟩, A15⟩ := A16.cV (own_c34 l Z a0 hw x1 x4 (1 : Int32) _ cs hA8 n0 Z0 E_x1 F_x1_coder F_x1_value F_x1_count V_x4 SS.1 rfl hcs (by decide) (by decide) (by decide) ne_x1_x4 ne_x4_x1 g_x1 g_x4) E_x1 H hZ hown dm5_79 (oW hw 108 rfl) (kV29 hw) hml rfl rfl [] rfl rfl
  have SX_x1 : Safe Z own_EL _ hA8 x1 := Safe.exa hZ.alike E_x1 (by decide) (by decide)
  have hsA : ∀ x ∈ ([x1, x4] : List Addr), Safe Z own_EL vmA6 hA8 x := (allS SX_x1 (allS SX_x4 all0))
  have HC := HC.trans (CHr.keep KA15 hsA HC.1)
  have hk := Nat.le_trans hk KA15.1
  have SS := SS.kp KA15 (allS (P := fun x => ∀ cell : Cell, hA8[x]? = some cell → cell.vm.isStatics = false) E_x1.nostat (allS (P := fun x => ∀ cell : Cell, hA8[x]? = some cell → cell.vm.isStatics = false) V_x4.nostat all0))
  have E_x1 := E_x1.keep KA15
  have Z0 := Nat.le_trans Z0 KA15.1
  have KK : Keep h0 hA15 [] := KK.trans KA15 (allS (P := fun x => x ∈ ([] : List Addr) ∨ h0.size ≤ x) (Or.inr sz_x1) (allS (P := fun x => x ∈ ([] : List Addr) ∨ h0.size ≤ x) (Or.inr sz_x4) all0))
  have F_x1_coder : Fld Z hA15 x1 "java/lang/AbstractStringBuilder" "coder" "B" (.int 0) := P_F_x1_coder
  have F_x1_value : Fld Z hA15 x1 "java/lang/AbstractStringBuilder" "value" "[B" (.ref x4) := P_F_x1_value
  have F_x1_count : Fld Z hA15 x1 "java/lang/AbstractStringBuilder" "count" "I" (.int 2) := P_F_x1_count
  have V_x4 : own_Ar Z hA15 x4 .byte (List.map own_lo [39, 39, 0, 0, 0, 0, 0, 0, 0, 0, 0, 0, 0, 0, 0, 0, 0]) := P_V_x4
  have A18 := A15.cl
  obtain ⟨vA17, hA17, ⟨x5, x6, rfl, KA17, zz_x5, zz_x6, ne_x6_x5, P_E_x5, P_F_x5_value, P_F_x5_coder, P_V_x6, hl_x6⟩, A17⟩ := A18.cV (own_c54 l Z a0 hw x1 x4 (2 : Int32) _ cs hA15 n0 Z0 E_x1 F_x1_coder F_x1_value F_x1_count V_x4 SS.1 rfl hcs (by decide) (by decide) (by decide) (by decide) (by decide)) E_x1 H hZ hown dm5_82 (oW hw 126 rfl) (kV37 hw) hml rfl rfl [] rfl rfl
  have sz_x5 : h0.size ≤ x5 := Nat.le_trans KK.1 zz_x5
  have sz_x6 : h0.size ≤ x6 := Nat.le_trans KK.1 zz_x6
  have hsA : ∀ x ∈ ([] : List Addr), Safe Z own_EL vmA6 hA15 x := all0
  have HC := HC.trans (CHr.keep KA17 hsA HC.1)
  have hk := Nat.le_trans hk KA17.1
  have KK : Keep h0 hA17 [] := KK.trans KA17 all0
  have E_x5 : Exa Z hA17 x5 "java/lang/String" := P_E_x5
  have F_x5_value : Fld Z hA17 x5 "java/lang/String" "value" "[B" (.ref x6) := P_F_x5_value
  have F_x5_coder : Fld Z hA17 x5 "java/lang/String" "coder" "B" (.int 0) := P_F_x5_coder
  have V_x6 : own_Ar Z hA17 x6 .byte (List.map own_lo [39, 39]) := P_V_x6
  have hl_x6 : ([39, 39] : List Int32).length = 2 := rfl
  have A19 := A17.cl
  exact A19.retSS hx hlk hZ hS hk hEL HC hret (hb hby dm5_85) rfl (Or.inr (Or.inr (Or.inr (Or.inr ⟨rfl, rfl, rfl⟩)))) (by decide) (by decide) ⟨x5, x6, rfl, KK, sz_x5, sz_x6, ne_x6_x5, E_x5, F_x5_value, F_x5_coder, V_x6, hl_x6⟩
theorem own_q1 (l : Launch) (Z : State) (a0 : Array Value) (hw : ∀ d ∈ tables_1, d.before a0 Z = true) (s1 b1 : Addr) (k e0 : Int32) (cs : Int32) (fm : Value) (h0 : Heap) (n0 : Nat) (Z0 : n0 ≤ h0.size) (hEL : EW Z a0 own_EL) (own_wS : ∀ a ∈ Bundle.stringAtoms, a.before a0 Z = true) (E_s1 : Exa Z h0 s1 "java/lang/String") (F_s1_coder : Fld Z h0 s1 "java/lang/String" "coder" "B" (.int k)) (F_s1_value : Fld Z h0 s1 "java/lang/String" "value" "[B" (.ref b1)) (V_b1 : own_Ar Z h0 b1 .byte (own_by k [e0])) (SS : own_ST Z h0 cs fm) (hcs : ¬ (cs = (0 : Int32))) (hfm : fm.isRef = true) (hok : own_ok k [e0]) (hlen : ([e0] : List Int32).length < 64) :
    own_MS l Z own_EL (⟨"com/example/paretolio/paretolio/RecordReader", "quote", "(Ljava/lang/String;)Ljava/lang/String;"⟩ : MethodName) prog_11_method_10_code 4 (some (.object "java/lang/String")) [] (⟨8, 9, 130, 117⟩ : Room) #[(.ref s1)] h0 n0 (fun v h => ∃ x5 x6 : Addr, v = some (.ref x5) ∧ Keep h0 h [] ∧ h0.size ≤ x5 ∧ h0.size ≤ x6 ∧ x6 ≠ x5 ∧ Exa Z h x5 "java/lang/String" ∧ Fld Z h x5 "java/lang/String" "value" "[B" (.ref x6) ∧ Fld Z h x5 "java/lang/String" "coder" "B" (.int 0) ∧ own_Ar Z h x6 .byte (List.map own_lo [39, (own_sh e0), 39]) ∧ ([39, (own_sh e0), 39] : List Int32).length = 3) := by
  refine own_MS.of pl50 ?_
  intro p e s m below meth c S0 vm0 k0 hx hby hml hown hnm hret hlk hZ hS hk HC A00
  have H : own_H p c _ := ⟨hx, hby⟩
  have A0 := A00.cast (f' := mkF m 0 #[.val (.ref s1), .unset, .unset, .unset] []) (by first | (simp [entryFrame, mkF, argsToLocals, Value.category, maxLocals]; done) | rfl)
  have KK : Keep h0 h0 ([] : List Addr) := Keep.refl _ _
  obtain ⟨h1, E2, E_x1, D_x1, A3⟩ := A0.newO hx hZ hown (hb hby dm5_0) (oW hw 31 rfl) (oW hw 32 rfl) (oW hw 33 rfl) (by decide) (by decide)
  obtain ⟨x1, gx1⟩ : ∃ z, z = h0.size := ⟨_, rfl⟩
  rw [← gx1] at E_x1 D_x1 A3
  have ne_s1_x1 : s1 ≠ x1 := by rw [gx1]; exact Nat.ne_of_lt E_s1.lt
  have ne_b1_x1 : b1 ≠ x1 := by rw [gx1]; exact Nat.ne_of_lt V_b1.lt
  have g_x1 : n0 ≤ x1 := by rw [gx1]; exact Z0
  have sz_x1 : h0.size ≤ x1 := by rw [gx1]; exact KK.1
  have E_s1 := E_s1.ext E2
  have F_s1_coder := F_s1_coder.ext E2
  have F_s1_value := F_s1_value.ext E2
  have V_b1 := V_b1.ext E2
  have SS := SS.ext E2
  have Z0 := Nat.le_trans Z0 E2.1
  have KK : Keep h0 h1 [] := KK.ext E2
  have HC := HC.trans (CHr.ext E2 HC.1)
  have hk := Nat.le_trans hk E2.1
  have F_x1_coder : Fld Z h1 x1 "java/lang/AbstractStringBuilder" "coder" "B" (.int 0) := D_x1 (Or.inl (oW hw 59 rfl)) (ty := .byte) (by decide)
  have F_x1_value : Fld Z h1 x1 "java/lang/AbstractStringBuilder" "value" "[B" .null := D_x1 (Or.inl (oW hw 61 rfl)) (ty := (.array .byte)) (by decide)
  have F_x1_count : Fld Z h1 x1 "java/lang/AbstractStringBuilder" "count" "I" (.int 0) := D_x1 (Or.inl (oW hw 77 rfl)) (ty := .int) (by decide)
  have A7 := A3.du H dm5_3 rfl rfl
  obtain ⟨x2, x3, vmA6, kA6, h4, E5, E_x2, F_x2_coder, F_x2_value, V_x3, ns_x2, hS, hk, hZ, hown, HCs, hLA6, A6⟩ := A7.ldcS hx hZ hown (hb hby dm5_4) (oW hw 34 rfl) own_wS hS hk hEL (by simp +decide [own_EL]) (CHr.refl HC.1) (vs := [(.int 39)]) (z := (1 : Int32)) ⟨by decide, by decide⟩ (by decide) (by decide) (n := 4) (by decide) (by decide) (by decide) (by decide)
  have HC := HC.trans HCs
  have E_s1 := E_s1.ext E5
  have F_s1_coder := F_s1_coder.ext E5
  have F_s1_value := F_s1_value.ext E5
  have V_b1 := V_b1.ext E5
  have SS := SS.ext E5
  have E_x1 := E_x1.ext E5
  have F_x1_coder := F_x1_coder.ext E5
  have F_x1_value := F_x1_value.ext E5
  have F_x1_count := F_x1_count.ext E5
  have Z0 := Nat.le_trans Z0 E5.1
  have KK : Keep h0 h4 [] := KK.ext E5
  have SX_x1 : Safe Z own_EL _ h4 x1 := Safe.exa hZ.alike E_x1 (by decide) (by decide)
  have ne_x1_x2 : x1 ≠ x2 := (ns_x2 _ SX_x1).1
  have ne_x2_x1 := Ne.symm ne_x1_x2
  have ne_x1_x3 : x1 ≠ x3 := (ns_x2 _ SX_x1).2
  have ne_x3_x1 := Ne.symm ne_x1_x3
  have V_x3 : own_Ar Z h4 x3 .byte (List.map own_lo [39]) := V_x3
  obtain ⟨vA8, hA8, ⟨x4, rfl, KA8, zz_x4, P_F_x1_coder, P_F_x1_value, P_F_x1_count, P_V_x4, hl_x4⟩, A8⟩ := A6.cI (own_c22 l Z a0 hw x1 x2 x3 _ cs h4 n0 Z0 E_x1 F_x1_coder F_x1_value F_x1_count E_x2 F_x2_coder F_x2_value V_x3 SS.1 rfl hcs ne_x2_x1 ne_x3_x1 g_x1) H hZ hown dm5_6 (oW hw 35 rfl) (kI25 hw) hml rfl rfl [(.ref x1)] rfl rfl
  have ne_s1_x4 : s1 ≠ x4 := Nat.ne_of_lt (Nat.lt_of_lt_of_le E_s1.lt zz_x4)
  have ne_b1_x4 : b1 ≠ x4 := Nat.ne_of_lt (Nat.lt_of_lt_of_le V_b1.lt zz_x4)
  have ne_x1_x4 : x1 ≠ x4 := Nat.ne_of_lt (Nat.lt_of_lt_of_le E_x1.lt zz_x4)
  have ne_x4_x1 := Ne.symm ne_x1_x4
  have g_x4 : n0 ≤ x4 := Nat.le_trans Z0 zz_x4
  have sz_x4 : h0.size ≤ x4 := Nat.le_trans KK.1 zz_x4
  have SX_x1 : Safe Z own_EL _ h4 x1 := Safe.exa hZ.alike E_x1 (by decide) (by decide)
  have hsA : ∀ x ∈ ([x1] : List Addr), Safe Z own_EL vmA6 h4 x := (allS SX_x1 all0)
  have SX_x4 := Safe.keep KA8 hsA HC.1 (Safe.new zz_x4)
  have HC := HC.trans (CHr.keep KA8 hsA HC.1)
  have hk := Nat.le_trans hk KA8.1
  have SS := SS.kp KA8 (allS (P := fun x => ∀ cell : Cell, h4[x]? = some cell → cell.vm.isStatics = false) E_x1.nostat all0)
  have E_s1 := E_s1.keep KA8
  have F_s1_coder := F_s1_coder.keep KA8 (ninS ne_s1_x1 nin0)
  have F_s1_value := F_s1_value.keep KA8 (ninS ne_s1_x1 nin0)
  have V_b1 := V_b1.keep KA8 (ninS ne_b1_x1 nin0)
  have E_x1 := E_x1.keep KA8
  have Z0 := Nat.le_trans Z0 KA8.1
  have KK : Keep h0 hA8 [] := KK.trans KA8 (allS (P := fun x => x ∈ ([] : List Addr) ∨ h0.size ≤ x) (Or.inr sz_x1) all0)
  have F_x1_coder : Fld Z hA8 x1 "java/lang/AbstractStringBuilder" "coder" "B" (.int 0) := P_F_x1_coder
  have F_x1_value : Fld Z hA8 x1 "java/lang/AbstractStringBuilder" "value" "[B" (.ref x4) := P_F_x1_value
  have F_x1_count : Fld Z hA8 x1 "java/lang/AbstractStringBuilder" "count" "I" (.int 1) := P_F_x1_count
  have V_x4 : own_Ar Z hA8 x4 .byte (List.map own_lo [39, 0, 0, 0, 0, 0, 0, 0, 0, 0, 0, 0, 0, 0, 0, 0, 0]) := P_V_x4
  have hl_x4 : ([39, 0, 0, 0, 0, 0, 0, 0, 0, 0, 0, 0, 0, 0, 0, 0, 0] : List Int32).length = 17 := rfl
  have A10 := A8.c0 |>.aM H dm5_9 rfl rfl #[.val (.ref s1), .val (.ref x1), .unset, .unset] rfl |>.ic H dm5_10 rfl 0 rfl |>.iM H dm5_11 rfl #[.val (.ref s1), .val (.ref x1), .val (.int 0), .unset] rfl
  obtain ⟨hA9, KA9, P_F_x1_coder, P_F_x1_value, P_F_x1_count, P_V_x4, hl_x4, A9⟩ := own_t17f l Z a0 hw (s.setVm vmA6) s1 b1 x1 x4 k cs 1 1 _ fm n0 _ e0 hA8 Z0 E_s1 F_s1_coder F_s1_value V_b1 SS E_x1 F_x1_coder F_x1_value F_x1_count V_x4 rfl hcs ne_b1_x1 ne_b1_x4 ne_s1_x1 ne_s1_x4 ne_x1_x4 ne_x4_x1 g_x1 g_x4 hfm hok hlen rfl (own_c62 l Z a0 hw) (by decide) rfl (by decide) hx hby hml hown hZ A10
  have SX_x1 : Safe Z own_EL _ hA8 x1 := Safe.exa hZ.alike E_x1 (by decide) (by decide)
  have hsA : ∀ x ∈ ([x1, x4] : List Addr), Safe Z own_EL vmA6 hA8 x := (allS SX_x1 (allS SX_x4 all0))
  have SX_x4 := Safe.keep KA9 hsA HC.1 SX_x4
  have HC := HC.trans (CHr.keep KA9 hsA HC.1)
  have hk := Nat.le_trans hk KA9.1
  have SS := SS.kp KA9 (allS (P := fun x => ∀ cell : Cell, hA8[x]? = some cell → cell.vm.isStatics = false) E_x1.nostat (allS (P := fun x => ∀ cell : Cell, hA8[x]? = some cell → cell.vm.isStatics = false) V_x4.nostat all0))
  have E_s1 := E_s1.keep KA9
  have F_s1_coder := F_s1_coder.keep KA9 (ninS ne_s1_x1 (ninS ne_s1_x4 nin0))
  have F_s1_value := F_s1_value.keep KA9 (ninS ne_s1_x1 (ninS ne_s1_x4 nin0))
  have V_b1 := V_b1.keep KA9 (ninS ne_b1_x1 (ninS ne_b1_x4 nin0))
  have E_x1 := E_x1.keep KA9
  have Z0 := Nat.le_trans Z0 KA9.1
  have KK : Keep h0 hA9 [] := KK.trans KA9 (allS (P := fun x => x ∈ ([] : List Addr) ∨ h0.size ≤ x) (Or.inr sz_x1) (allS (P := fun x => x ∈ ([] : List Addr) ∨ h0.size ≤ x) (Or.inr sz_x4) all0))
  have F_x1_coder : Fld Z hA9 x1 "java/lang/AbstractStringBuilder" "coder" "B" (.int 0) := P_F_x1_coder
  have F_x1_value : Fld Z hA9 x1 "java/lang/AbstractStringBuilder" "value" "[B" (.ref x4) := P_F_x1_value
  have F_x1_count : Fld Z hA9 x1 "java/lang/AbstractStringBuilder" "count" "I" (.int 2) := P_F_x1_count
  have V_x4 : own_Ar Z hA9 x4 .byte (List.map own_lo [39, (own_sh e0), 0, 0, 0, 0, 0, 0, 0, 0, 0, 0, 0, 0, 0, 0, 0]) := P_V_x4
  have hl_x4 : ([39, (own_sh e0), 0, 0, 0, 0, 0, 0, 0, 0, 0, 0, 0, 0, 0, 0, 0] : List Int32).length = 17 := rfl
  have A11 : own_R p l e _ _ m _ below meth c S0 n0 hA9 4 29 (mkF m 12 #[.val (.ref s1), .val (.ref x1), .val (.int 1), .val (.int e0)] []) := A9
  have A13 := A11.iN H dm5_12 rfl rfl |>.aN H dm5_13 rfl rfl rfl
  obtain ⟨vA12, hA12, ⟨rfl, rfl⟩, A12⟩ := A13.cV (own_len l Z a0 hw s1 b1 cs k 1 _ hA9 n0 Z0 SS.1 hcs E_s1 F_s1_coder F_s1_value V_b1 hok hlen rfl) E_s1 H hZ hown dm5_14 (oW hw 103 rfl) (kV17 hw) hml rfl rfl [(.int 1)] rfl rfl
  have A15 := A12.cl |>.bp H dm5_17 rfl 24 rfl
  obtain ⟨vA14, hA14, ⟨rfl, rfl⟩, A14⟩ := A15.cS (own_c62 l Z a0 hw hA9 n0 Z0) H hZ hown dm5_19 (oW hw 104 rfl) (kS26 hw) hml rfl rfl [(.int 1)] rfl rfl
  have A17 := A14.cl |>.cy H dm5_22 rfl rfl 60 (by decide) (by decide) |>.aN H dm5_60 rfl rfl rfl
  obtain ⟨vA16, hA16, ⟨rfl, rfl⟩, A16⟩ := A17.cV (own_len l Z a0 hw s1 b1 cs k 1 _ hA9 n0 Z0 SS.1 hcs E_s1 F_s1_coder F_s1_value V_b1 hok hlen rfl) E_s1 H hZ hown dm5_61 (oW hw 103 rfl) (kV17 hw) hml rfl rfl [] rfl rfl
  have A19 := A16.cl |>.bp H dm5_64 rfl 24 rfl |>.cy H dm5_66 rfl rfl 76 (by decide) (by decide) |>.aN H dm5_76 rfl rfl rfl |>.bp H dm5_77 rfl 39 rfl
  obtain ⟨vA18, hA18, ⟨rfl, KA18, P_F_x1_coder, P_F_x1_value, P_F_x1_count, P_V_x4, hl_x4⟩, A18⟩ := A19.cV (own_c34 l Z a0 hw x1 x4 (2 : Int32) _ cs hA9 n0 Z0 E_x1 F_x1_coder F_x1_value F_x1_count V_x4 SS.1 rfl hcs (by decide) (by decide) (by decide) ne_x1_x4 ne_x4_x1 g_x1 g_x4) E_x1 H hZ hown dm5_79 (oW hw 108 rfl) (kV29 hw) hml rfl rfl [] rfl rfl
  have SX_x1 : Safe Z own_EL _ hA9 x1 := Safe.exa hZ.alike E_x1 (by decide) (by decide)
  have hsA : ∀ x ∈ ([x1, x4] : List Addr), Safe Z own_EL vmA6 hA9 x := (allS SX_x1 (allS SX_x4 all0))
  have HC := HC.trans (CHr.keep KA18 hsA HC.1)
  have hk := Nat.le_trans hk KA18.1
  have SS := SS.kp KA18 (allS (P := fun x => ∀ cell : Cell, hA9[x]? = some cell → cell.vm.isStatics = false) E_x1.nostat (allS (P := fun x => ∀ cell : Cell, hA9[x]? = some cell → cell.vm.isStatics = false) V_x4.nostat all0))
  have E_x1 := E_x1.keep KA18
  have Z0 := Nat.le_trans Z0 KA18.1
  have KK : Keep h0 hA18 [] := KK.trans KA18 (allS (P := fun x => x ∈ ([] : List Addr) ∨ h0.size ≤ x) (Or.inr sz_x1) (allS (P := fun x => x ∈ ([] : List Addr) ∨ h0.size ≤ x) (Or.inr sz_x4) all0))
  have F_x1_coder : Fld Z hA18 x1 "java/lang/AbstractStringBuilder" "coder" "B" (.int 0) := P_F_x1_coder
  have F_x1_value : Fld Z hA18 x1 "java/lang/AbstractStringBuilder" "value" "[B" (.ref x4) := P_F_x1_value
  have F_x1_count : Fld Z hA18 x1 "java/lang/AbstractStringBuilder" "count" "I" (.int 3) := P_F_x1_count
  have V_x4 : own_Ar Z hA18 x4 .byte (List.map own_lo [39, (own_sh e0), 39, 0, 0, 0, 0, 0, 0, 0, 0, 0, 0, 0, 0, 0, 0]) := P_V_x4
  have A21 := A18.cl
  obtain ⟨vA20, hA20, ⟨x5, x6, rfl, KA20, zz_x5, zz_x6, ne_x6_x5, P_E_x5, P_F_x5_value, P_F_x5_coder, P_V_x6, hl_x6⟩, A20⟩ := A21.cV (own_c54 l Z a0 hw x1 x4 (3 : Int32) _ cs hA18 n0 Z0 E_x1 F_x1_coder F_x1_value F_x1_count V_x4 SS.1 rfl hcs (by decide) (by decide) (by decide) (by decide) (by decide)) E_x1 H hZ hown dm5_82 (oW hw 126 rfl) (kV37 hw) hml rfl rfl [] rfl rfl
  have sz_x5 : h0.size ≤ x5 := Nat.le_trans KK.1 zz_x5
  have sz_x6 : h0.size ≤ x6 := Nat.le_trans KK.1 zz_x6
  have hsA : ∀ x ∈ ([] : List Addr), Safe Z own_EL vmA6 hA18 x := all0
  have HC := HC.trans (CHr.keep KA20 hsA HC.1)
  have hk := Nat.le_trans hk KA20.1
  have KK : Keep h0 hA20 [] := KK.trans KA20 all0
  have E_x5 : Exa Z hA20 x5 "java/lang/String" := P_E_x5
  have F_x5_value : Fld Z hA20 x5 "java/lang/String" "value" "[B" (.ref x6) := P_F_x5_value
  have F_x5_coder : Fld Z hA20 x5 "java/lang/String" "coder" "B" (.int 0) := P_F_x5_coder
  have V_x6 : own_Ar Z hA20 x6 .byte (List.map own_lo [39, (own_sh e0), 39]) := P_V_x6
  have hl_x6 : ([39, (own_sh e0), 39] : List Int32).length = 3 := rfl
  have A22 := A20.cl
  exact A22.retSS hx hlk hZ hS hk hEL HC hret (hb hby dm5_85) rfl (Or.inr (Or.inr (Or.inr (Or.inr ⟨rfl, rfl, rfl⟩)))) (by decide) (by decide) ⟨x5, x6, rfl, KK, sz_x5, sz_x6, ne_x6_x5, E_x5, F_x5_value, F_x5_coder, V_x6, hl_x6⟩
theorem own_q2 (l : Launch) (Z : State) (a0 : Array Value) (hw : ∀ d ∈ tables_1, d.before a0 Z = true) (s1 b1 : Addr) (k e0 e1 : Int32) (cs : Int32) (fm : Value) (h0 : Heap) (n0 : Nat) (Z0 : n0 ≤ h0.size) (hEL : EW Z a0 own_EL) (own_wS : ∀ a ∈ Bundle.stringAtoms, a.before a0 Z = true) (E_s1 : Exa Z h0 s1 "java/lang/String") (F_s1_coder : Fld Z h0 s1 "java/lang/String" "coder" "B" (.int k)) (F_s1_value : Fld Z h0 s1 "java/lang/String" "value" "[B" (.ref b1)) (V_b1 : own_Ar Z h0 b1 .byte (own_by k [e0, e1])) (SS : own_ST Z h0 cs fm) (hcs : ¬ (cs = (0 : Int32))) (hfm : fm.isRef = true) (hok : own_ok k [e0, e1]) (hlen : ([e0, e1] : List Int32).length < 64) :
    own_MS l Z own_EL (⟨"com/example/paretolio/paretolio/RecordReader", "quote", "(Ljava/lang/String;)Ljava/lang/String;"⟩ : MethodName) prog_11_method_10_code 4 (some (.object "java/lang/String")) [] (⟨8, 9, 130, 117⟩ : Room) #[(.ref s1)] h0 n0 (fun v h => ∃ x5 x6 : Addr, v = some (.ref x5) ∧ Keep h0 h [] ∧ h0.size ≤ x5 ∧ h0.size ≤ x6 ∧ x6 ≠ x5 ∧ Exa Z h x5 "java/lang/String" ∧ Fld Z h x5 "java/lang/String" "value" "[B" (.ref x6) ∧ Fld Z h x5 "java/lang/String" "coder" "B" (.int 0) ∧ own_Ar Z h x6 .byte (List.map own_lo [39, (own_sh e0), (own_sh e1), 39]) ∧ ([39, (own_sh e0), (own_sh e1), 39] : List Int32).length = 4) := by
  refine own_MS.of pl50 ?_
  intro p e s m below meth c S0 vm0 k0 hx hby hml hown hnm hret hlk hZ hS hk HC A00
  have H : own_H p c _ := ⟨hx, hby⟩
  have A0 := A00.cast (f' := mkF m 0 #[.val (.ref s1), .unset, .unset, .unset] []) (by first | (simp [entryFrame, mkF, argsToLocals, Value.category, maxLocals]; done) | rfl)
  have KK : Keep h0 h0 ([] : List Addr) := Keep.refl _ _
  obtain ⟨h1, E2, E_x1, D_x1, A3⟩ := A0.newO hx hZ hown (hb hby dm5_0) (oW hw 31 rfl) (oW hw 32 rfl) (oW hw 33 rfl) (by decide) (by decide)
  obtain ⟨x1, gx1⟩ : ∃ z, z = h0.size := ⟨_, rfl⟩
  rw [← gx1] at E_x1 D_x1 A3
  have ne_s1_x1 : s1 ≠ x1 := by rw [gx1]; exact Nat.ne_of_lt E_s1.lt
  have ne_b1_x1 : b1 ≠ x1 := by rw [gx1]; exact Nat.ne_of_lt V_b1.lt
  have g_x1 : n0 ≤ x1 := by rw [gx1]; exact Z0
  have sz_x1 : h0.size ≤ x1 := by rw [gx1]; exact KK.1
  have E_s1 := E_s1.ext E2
  have F_s1_coder := F_s1_coder.ext E2
  have F_s1_value := F_s1_value.ext E2
  have V_b1 := V_b1.ext E2
  have SS := SS.ext E2
  have Z0 := Nat.le_trans Z0 E2.1
  have KK : Keep h0 h1 [] := KK.ext E2
  have HC := HC.trans (CHr.ext E2 HC.1)
  have hk := Nat.le_trans hk E2.1
  have F_x1_coder : Fld Z h1 x1 "java/lang/AbstractStringBuilder" "coder" "B" (.int 0) := D_x1 (Or.inl (oW hw 59 rfl)) (ty := .byte) (by decide)
  have F_x1_value : Fld Z h1 x1 "java/lang/AbstractStringBuilder" "value" "[B" .null := D_x1 (Or.inl (oW hw 61 rfl)) (ty := (.array .byte)) (by decide)
  have F_x1_count : Fld Z h1 x1 "java/lang/AbstractStringBuilder" "count" "I" (.int 0) := D_x1 (Or.inl (oW hw 77 rfl)) (ty := .int) (by decide)
  have A7 := A3.du H dm5_3 rfl rfl
  obtain ⟨x2, x3, vmA6, kA6, h4, E5, E_x2, F_x2_coder, F_x2_value, V_x3, ns_x2, hS, hk, hZ, hown, HCs, hLA6, A6⟩ := A7.ldcS hx hZ hown (hb hby dm5_4) (oW hw 34 rfl) own_wS hS hk hEL (by simp +decide [own_EL]) (CHr.refl HC.1) (vs := [(.int 39)]) (z := (1 : Int32)) ⟨by decide, by decide⟩ (by decide) (by decide) (n := 4) (by decide) (by decide) (by decide) (by decide)
  have HC := HC.trans HCs
  have E_s1 := E_s1.ext E5
  have F_s1_coder := F_s1_coder.ext E5
  have F_s1_value := F_s1_value.ext E5
  have V_b1 := V_b1.ext E5
  have SS := SS.ext E5
  have E_x1 := E_x1.ext E5
  have F_x1_coder := F_x1_coder.ext E5
  have F_x1_value := F_x1_value.ext E5
  have F_x1_count := F_x1_count.ext E5
  have Z0 := Nat.le_trans Z0 E5.1
  have KK : Keep h0 h4 [] := KK.ext E5
  have SX_x1 : Safe Z own_EL _ h4 x1 := Safe.exa hZ.alike E_x1 (by decide) (by decide)
  have ne_x1_x2 : x1 ≠ x2 := (ns_x2 _ SX_x1).1
  have ne_x2_x1 := Ne.symm ne_x1_x2
  have ne_x1_x3 : x1 ≠ x3 := (ns_x2 _ SX_x1).2
  have ne_x3_x1 := Ne.symm ne_x1_x3
  have V_x3 : own_Ar Z h4 x3 .byte (List.map own_lo [39]) := V_x3
  obtain ⟨vA8, hA8, ⟨x4, rfl, KA8, zz_x4, P_F_x1_coder, P_F_x1_value, P_F_x1_count, P_V_x4, hl_x4⟩, A8⟩ := A6.cI (own_c22 l Z a0 hw x1 x2 x3 _ cs h4 n0 Z0 E_x1 F_x1_coder F_x1_value F_x1_count E_x2 F_x2_coder F_x2_value V_x3 SS.1 rfl hcs ne_x2_x1 ne_x3_x1 g_x1) H hZ hown dm5_6 (oW hw 35 rfl) (kI25 hw) hml rfl rfl [(.ref x1)] rfl rfl
  have ne_s1_x4 : s1 ≠ x4 := Nat.ne_of_lt (Nat.lt_of_lt_of_le E_s1.lt zz_x4)
  have ne_b1_x4 : b1 ≠ x4 := Nat.ne_of_lt (Nat.lt_of_lt_of_le V_b1.lt zz_x4)
  have ne_x1_x4 : x1 ≠ x4 := Nat.ne_of_lt (Nat.lt_of_lt_of_le E_x1.lt zz_x4)
  have ne_x4_x1 := Ne.symm ne_x1_x4
  have g_x4 : n0 ≤ x4 := Nat.le_trans Z0 zz_x4
  have sz_x4 : h0.size ≤ x4 := Nat.le_trans KK.1 zz_x4
  have SX_x1 : Safe Z own_EL _ h4 x1 := Safe.exa hZ.alike E_x1 (by decide) (by decide)
  have hsA : ∀ x ∈ ([x1] : List Addr), Safe Z own_EL vmA6 h4 x := (allS SX_x1 all0)
  have SX_x4 := Safe.keep KA8 hsA HC.1 (Safe.new zz_x4)
  have HC := HC.trans (CHr.keep KA8 hsA HC.1)
  have hk := Nat.le_trans hk KA8.1
  have SS := SS.kp KA8 (allS (P := fun x => ∀ cell : Cell, h4[x]? = some cell → cell.vm.isStatics = false) E_x1.nostat all0)
  have E_s1 := E_s1.keep KA8
  have F_s1_coder := F_s1_coder.keep KA8 (ninS ne_s1_x1 nin0)
  have F_s1_value := F_s1_value.keep KA8 (ninS ne_s1_x1 nin0)
  have V_b1 := V_b1.keep KA8 (ninS ne_b1_x1 nin0)
  have E_x1 := E_x1.keep KA8
  have Z0 := Nat.le_trans Z0 KA8.1
  have KK : Keep h0 hA8 [] := KK.trans KA8 (allS (P := fun x => x ∈ ([] : List Addr) ∨ h0.size ≤ x) (Or.inr sz_x1) all0)
  have F_x1_coder : Fld Z hA8 x1 "java/lang/AbstractStringBuilder" "coder" "B" (.int 0) := P_F_x1_coder
  have F_x1_value : Fld Z hA8 x1 "java/lang/AbstractStringBuilder" "value" "[B" (.ref x4) := P_F_x1_value
  have F_x1_count : Fld Z hA8 x1 "java/lang/AbstractStringBuilder" "count" "I" (.int 1) := P_F_x1_count
  have V_x4 : own_Ar Z hA8 x4 .byte (List.map own_lo [39, 0, 0, 0, 0, 0, 0, 0, 0, 0, 0, 0, 0, 0, 0, 0, 0]) := P_V_x4
  have hl_x4 : ([39, 0, 0, 0, 0, 0, 0, 0, 0, 0, 0, 0, 0, 0, 0, 0, 0] : List Int32).length = 17 := rfl
  have A10 := A8.c0 |>.aM H dm5_9 rfl rfl #[.val (.ref s1), .val (.ref x1), .unset, .unset] rfl |>.ic H dm5_10 rfl 0 rfl |>.iM H dm5_11 rfl #[.val (.ref s1), .val (.ref x1), .val (.int 0), .unset] rfl
  obtain ⟨hA9, KA9, P_F_x1_coder, P_F_x1_value, P_F_x1_count, P_V_x4, hl_x4, A9⟩ := own_t17f l Z a0 hw (s.setVm vmA6) s1 b1 x1 x4 k cs 2 2 _ fm n0 _ e0 hA8 Z0 E_s1 F_s1_coder F_s1_value V_b1 SS E_x1 F_x1_coder F_x1_value F_x1_count V_x4 rfl hcs ne_b1_x1 ne_b1_x4 ne_s1_x1 ne_s1_x4 ne_x1_x4 ne_x4_x1 g_x1 g_x4 hfm hok hlen rfl (own_c64 l Z a0 hw) (by decide) rfl (by decide) hx hby hml hown hZ A10
  have SX_x1 : Safe Z own_EL _ hA8 x1 := Safe.exa hZ.alike E_x1 (by decide) (by decide)
  have hsA : ∀ x ∈ ([x1, x4] : List Addr), Safe Z own_EL vmA6 hA8 x := (allS SX_x1 (allS SX_x4 all0))
  have SX_x4 := Safe.keep KA9 hsA HC.1 SX_x4
  have HC := HC.trans (CHr.keep KA9 hsA HC.1)
  have hk := Nat.le_trans hk KA9.1
  have SS := SS.kp KA9 (allS (P := fun x => ∀ cell : Cell, hA8[x]? = some cell → cell.vm.isStatics = false) E_x1.nostat (allS (P := fun x => ∀ cell : Cell, hA8[x]? = some cell → cell.vm.isStatics = false) V_x4.nostat all0))
  have E_s1 := E_s1.keep KA9
  have F_s1_coder := F_s1_coder.keep KA9 (ninS ne_s1_x1 (ninS ne_s1_x4 nin0))
  have F_s1_value := F_s1_value.keep KA9 (ninS ne_s1_x1 (ninS ne_s1_x4 nin0))
  have V_b1 := V_b1.keep KA9 (ninS ne_b1_x1 (ninS ne_b1_x4 nin0))
  have E_x1 := E_x1.keep KA9
  have Z0 := Nat.le_trans Z0 KA9.1
  have KK : Keep h0 hA9 [] := KK.trans KA9 (allS (P := fun x => x ∈ ([] : List Addr) ∨ h0.size ≤ x) (Or.inr sz_x1) (allS (P := fun x => x ∈ ([] : List Addr) ∨ h0.size ≤ x) (Or.inr sz_x4) all0))
  have F_x1_coder : Fld Z hA9 x1 "java/lang/AbstractStringBuilder" "coder" "B" (.int 0) := P_F_x1_coder
  have F_x1_value : Fld Z hA9 x1 "java/lang/AbstractStringBuilder" "value" "[B" (.ref x4) := P_F_x1_value
  have F_x1_count : Fld Z hA9 x1 "java/lang/AbstractStringBuilder" "count" "I" (.int 2) := P_F_x1_count
  have V_x4 : own_Ar Z hA9 x4 .byte (List.map own_lo [39, (own_sh e0), 0, 0, 0, 0, 0, 0, 0, 0, 0, 0, 0, 0, 0, 0, 0]) := P_V_x4
  have hl_x4 : ([39, (own_sh e0), 0, 0, 0, 0, 0, 0, 0, 0, 0, 0, 0, 0, 0, 0, 0] : List Int32).length = 17 := rfl
  have A11 : own_R p l e _ _ m _ below meth c S0 n0 hA9 4 29 (mkF m 12 #[.val (.ref s1), .val (.ref x1), .val (.int 1), .val (.int e0)] []) := A9
  obtain ⟨cA12, hA12, KA12, P_F_x1_coder, P_F_x1_value, P_F_x1_count, P_V_x4, hl_x4, A12⟩ := own_lp17 l Z a0 hw (s.setVm vmA6) s1 b1 x1 x4 k cs 2 2 _ fm n0 2 rfl (by show (2 : Nat) ≤ 2; decide) hcs ne_b1_x1 ne_b1_x4 ne_s1_x1 ne_s1_x4 ne_x1_x4 ne_x4_x1 g_x1 g_x4 hfm hok hlen rfl (own_c64 l Z a0 hw) hx hby hml hown hZ 1 1 _ e0 hA9 (by decide) (by decide) Z0 SS E_s1 F_s1_coder F_s1_value V_b1 E_x1 F_x1_coder F_x1_value F_x1_count V_x4 rfl A11
  have SX_x1 : Safe Z own_EL _ hA9 x1 := Safe.exa hZ.alike E_x1 (by decide) (by decide)
  have hsA : ∀ x ∈ ([x1, x4] : List Addr), Safe Z own_EL vmA6 hA9 x := (allS SX_x1 (allS SX_x4 all0))
  have SX_x4 := Safe.keep KA12 hsA HC.1 SX_x4
  have HC := HC.trans (CHr.keep KA12 hsA HC.1)
  have hk := Nat.le_trans hk KA12.1
  have SS := SS.kp KA12 (allS (P := fun x => ∀ cell : Cell, hA9[x]? = some cell → cell.vm.isStatics = false) E_x1.nostat (allS (P := fun x => ∀ cell : Cell, hA9[x]? = some cell → cell.vm.isStatics = false) V_x4.nostat all0))
  have E_s1 := E_s1.keep KA12
  have F_s1_coder := F_s1_coder.keep KA12 (ninS ne_s1_x1 (ninS ne_s1_x4 nin0))
  have F_s1_value := F_s1_value.keep KA12 (ninS ne_s1_x1 (ninS ne_s1_x4 nin0))
  have V_b1 := V_b1.keep KA12 (ninS ne_b1_x1 (ninS ne_b1_x4 nin0))
  have E_x1 := E_x1.keep KA12
  have Z0 := Nat.le_trans Z0 KA12.1
  have KK : Keep h0 hA12 [] := KK.trans KA12 (allS (P := fun x => x ∈ ([] : List Addr) ∨ h0.size ≤ x) (Or.inr sz_x1) (allS (P := fun x => x ∈ ([] : List Addr) ∨ h0.size ≤ x) (Or.inr sz_x4) all0))
  have F_x1_coder : Fld Z hA12 x1 "java/lang/AbstractStringBuilder" "coder" "B" (.int 0) := P_F_x1_coder
  have F_x1_value : Fld Z hA12 x1 "java/lang/AbstractStringBuilder" "value" "[B" (.ref x4) := P_F_x1_value
  have F_x1_count : Fld Z hA12 x1 "java/lang/AbstractStringBuilder" "count" "I" (.int 3) := P_F_x1_count
  have V_x4 : own_Ar Z hA12 x4 .byte (List.map own_lo [39, (own_sh e0), (own_sh e1), 0, 0, 0, 0, 0, 0, 0, 0, 0, 0, 0, 0, 0, 0]) := P_V_x4
  have hl_x4 : ([39, (own_sh e0), (own_sh e1), 0, 0, 0, 0, 0, 0, 0, 0, 0, 0, 0, 0, 0, 0] : List Int32).length = 17 := rfl
  have A13 : own_R p l e _ _ m _ below meth c S0 n0 hA12 4 29 (mkF m 12 #[.val (.ref s1), .val (.ref x1), .val (.int 2), .val (.int cA12)] []) := A12
  have A15 := A13.iN H dm5_12 rfl rfl |>.aN H dm5_13 rfl rfl rfl
  obtain ⟨vA14, hA14, ⟨rfl, rfl⟩, A14⟩ := A15.cV (own_len l Z a0 hw s1 b1 cs k 2 _ hA12 n0 Z0 SS.1 hcs E_s1 F_s1_coder F_s1_value V_b1 hok hlen rfl) E_s1 H hZ hown dm5_14 (oW hw 103 rfl) (kV17 hw) hml rfl rfl [(.int 2)] rfl rfl
  have A17 := A14.cl |>.bp H dm5_17 rfl 24 rfl
  obtain ⟨vA16, hA16, ⟨rfl, rfl⟩, A16⟩ := A17.cS (own_c64 l Z a0 hw hA12 n0 Z0) H hZ hown dm5_19 (oW hw 104 rfl) (kS26 hw) hml rfl rfl [(.int 2)] rfl rfl
  have A19 := A16.cl |>.cy H dm5_22 rfl rfl 60 (by decide) (by decide) |>.aN H dm5_60 rfl rfl rfl
  obtain ⟨vA18, hA18, ⟨rfl, rfl⟩, A18⟩ := A19.cV (own_len l Z a0 hw s1 b1 cs k 2 _ hA12 n0 Z0 SS.1 hcs E_s1 F_s1_coder F_s1_value V_b1 hok hlen rfl) E_s1 H hZ hown dm5_61 (oW hw 103 rfl) (kV17 hw) hml rfl rfl [] rfl rfl
  have A21 := A18.cl |>.bp H dm5_64 rfl 24 rfl |>.cy H dm5_66 rfl rfl 76 (by decide) (by decide) |>.aN H dm5_76 rfl rfl rfl |>.bp H dm5_77 rfl 39 rfl
  obtain ⟨vA20, hA20, ⟨rfl, KA20, P_F_x1_coder, P_F_x1_value, P_F_x1_count, P_V_x4, hl_x4⟩, A20⟩ := A21.cV (own_c34 l Z a0 hw x1 x4 (3 : Int32) _ cs hA12 n0 Z0 E_x1 F_x1_coder F_x1_value F_x1_count V_x4 SS.1 rfl hcs (by decide) (by decide) (by decide) ne_x1_x4 ne_x4_x1 g_x1 g_x4) E_x1 H hZ hown dm5_79 (oW hw 108 rfl) (kV29 hw) hml rfl rfl [] rfl rfl
  have SX_x1 : Safe Z own_EL _ hA12 x1 := Safe.exa hZ.alike E_x1 (by decide) (by decide)
  have hsA : ∀ x ∈ ([x1, x4] : List Addr), Safe Z own_EL vmA6 hA12 x := (allS SX_x1 (allS SX_x4 all0))
  have HC := HC.trans (CHr.keep KA20 hsA HC.1)
  have hk := Nat.le_trans hk KA20.1
  have SS := SS.kp KA20 (allS (P := fun x => ∀ cell : Cell, hA12[x]? = some cell → cell.vm.isStatics = false) E_x1.nostat (allS (P := fun x => ∀ cell : Cell, hA12[x]? = some cell → cell.vm.isStatics = false) V_x4.nostat all0))
  have E_x1 := E_x1.keep KA20
  have Z0 := Nat.le_trans Z0 KA20.1
  have KK : Keep h0 hA20 [] := KK.trans KA20 (allS (P := fun x => x ∈ ([] : List Addr) ∨ h0.size ≤ x) (Or.inr sz_x1) (allS (P := fun x => x ∈ ([] : List Addr) ∨ h0.size ≤ x) (Or.inr sz_x4) all0))
  have F_x1_coder : Fld Z hA20 x1 "java/lang/AbstractStringBuilder" "coder" "B" (.int 0) := P_F_x1_coder
  have F_x1_value : Fld Z hA20 x1 "java/lang/AbstractStringBuilder" "value" "[B" (.ref x4) := P_F_x1_value
  have F_x1_count : Fld Z hA20 x1 "java/lang/AbstractStringBuilder" "count" "I" (.int 4) := P_F_x1_count
  have V_x4 : own_Ar Z hA20 x4 .byte (List.map own_lo [39, (own_sh e0), (own_sh e1), 39, 0, 0, 0, 0, 0, 0, 0, 0, 0, 0, 0, 0, 0]) := P_V_x4
  have A23 := A20.cl
  obtain ⟨vA22, hA22, ⟨x5, x6, rfl, KA22, zz_x5, zz_x6, ne_x6_x5, P_E_x5, P_F_x5_value, P_F_x5_coder, P_V_x6, hl_x6⟩, A22⟩ := A23.cV (own_c54 l Z a0 hw x1 x4 (4 : Int32) _ cs hA20 n0 Z0 E_x1 F_x1_coder F_x1_value F_x1_count V_x4 SS.1 rfl hcs (by decide) (by decide) (by decide) (by decide) (by decide)) E_x1 H hZ hown dm5_82 (oW hw 126 rfl) (kV37 hw) hml rfl rfl [] rfl rfl
  have sz_x5 : h0.size ≤ x5 := Nat.le_trans KK.1 zz_x5
  have sz_x6 : h0.size ≤ x6 := Nat.le_trans KK.1 zz_x6
  have hsA : ∀ x ∈ ([] : List Addr), Safe Z own_EL vmA6 hA20 x := all0
  have HC := HC.trans (CHr.keep KA22 hsA HC.1)
  have hk := Nat.le_trans hk KA22.1
  have KK : Keep h0 hA22 [] := KK.trans KA22 all0
  have E_x5 : Exa Z hA22 x5 "java/lang/String" := P_E_x5
  have F_x5_value : Fld Z hA22 x5 "java/lang/String" "value" "[B" (.ref x6) := P_F_x5_value
  have F_x5_coder : Fld Z hA22 x5 "java/lang/String" "coder" "B" (.int 0) := P_F_x5_coder
  have V_x6 : own_Ar Z hA22 x6 .byte (List.map own_lo [39, (own_sh e0), (own_sh e1), 39]) := P_V_x6
  have hl_x6 : ([39, (own_sh e0), (own_sh e1), 39] : List Int32).length = 4 := rfl
  have A24 := A22.cl
  exact A24.retSS hx hlk hZ hS hk hEL HC hret (hb hby dm5_85) rfl (Or.inr (Or.inr (Or.inr (Or.inr ⟨rfl, rfl, rfl⟩)))) (by decide) (by decide) ⟨x5, x6, rfl, KK, sz_x5, sz_x6, ne_x6_x5, E_x5, F_x5_value, F_x5_coder, V_x6, hl_x6⟩
theorem own_q3 (l : Launch) (Z : State) (a0 : Array Value) (hw : ∀ d ∈ tables_1, d.before a0 Z = true) (s1 b1 : Addr) (k e0 e1 e2 : Int32) (cs : Int32) (fm : Value) (h0 : Heap) (n0 : Nat) (Z0 : n0 ≤ h0.size) (hEL : EW Z a0 own_EL) (own_wS : ∀ a ∈ Bundle.stringAtoms, a.before a0 Z = true) (E_s1 : Exa Z h0 s1 "java/lang/String") (F_s1_coder : Fld Z h0 s1 "java/lang/String" "coder" "B" (.int k)) (F_s1_value : Fld Z h0 s1 "java/lang/String" "value" "[B" (.ref b1)) (V_b1 : own_Ar Z h0 b1 .byte (own_by k [e0, e1, e2])) (SS : own_ST Z h0 cs fm) (hcs : ¬ (cs = (0 : Int32))) (hfm : fm.isRef = true) (hok : own_ok k [e0, e1, e2]) (hlen : ([e0, e1, e2] : List Int32).length < 64) :
    own_MS l Z own_EL (⟨"com/example/paretolio/paretolio/RecordReader", "quote", "(Ljava/lang/String;)Ljava/lang/String;"⟩ : MethodName) prog_11_method_10_code 4 (some (.object "java/lang/String")) [] (⟨8, 9, 130, 117⟩ : Room) #[(.ref s1)] h0 n0 (fun v h => ∃ x5 x6 : Addr, v = some (.ref x5) ∧ Keep h0 h [] ∧ h0.size ≤ x5 ∧ h0.size ≤ x6 ∧ x6 ≠ x5 ∧ Exa Z h x5 "java/lang/String" ∧ Fld Z h x5 "java/lang/String" "value" "[B" (.ref x6) ∧ Fld Z h x5 "java/lang/String" "coder" "B" (.int 0) ∧ own_Ar Z h x6 .byte (List.map own_lo [39, (own_sh e0), (own_sh e1), (own_sh e2), 39]) ∧ ([39, (own_sh e0), (own_sh e1), (own_sh e2), 39] : List Int32).length = 5) := by
  refine own_MS.of pl50 ?_
  intro p e s m below meth c S0 vm0 k0 hx hby hml hown hnm hret hlk hZ hS hk HC A00
  have H : own_H p c _ := ⟨hx, hby⟩
  have A0 := A00.cast (f' := mkF m 0 #[.val (.ref s1), .unset, .unset, .unset] []) (by first | (simp [entryFrame, mkF, argsToLocals, Value.category, maxLocals]; done) | rfl)
  have KK : Keep h0 h0 ([] : List Addr) := Keep.refl _ _
  obtain ⟨h1, E2, E_x1, D_x1, A3⟩ := A0.newO hx hZ hown (hb hby dm5_0) (oW hw 31 rfl) (oW hw 32 rfl) (oW hw 33 rfl) (by decide) (by decide)
  obtain ⟨x1, gx1⟩ : ∃ z, z = h0.size := ⟨_, rfl⟩
  rw [← gx1] at E_x1 D_x1 A3
  have ne_s1_x1 : s1 ≠ x1 := by rw [gx1]; exact Nat.ne_of_lt E_s1.lt
  have ne_b1_x1 : b1 ≠ x1 := by rw [gx1]; exact Nat.ne_of_lt V_b1.lt
  have g_x1 : n0 ≤ x1 := by rw [gx1]; exact Z0
  have sz_x1 : h0.size ≤ x1 := by rw [gx1]; exact KK.1
  have E_s1 := E_s1.ext E2
  have F_s1_coder := F_s1_coder.ext E2
  have F_s1_value := F_s1_value.ext E2
  have V_b1 := V_b1.ext E2
  have SS := SS.ext E2
  have Z0 := Nat.le_trans Z0 E2.1
  have KK : Keep h0 h1 [] := KK.ext E2
  have HC := HC.trans (CHr.ext E2 HC.1)
  have hk := Nat.le_trans hk E2.1
  have F_x1_coder : Fld Z h1 x1 "java/lang/AbstractStringBuilder" "coder" "B" (.int 0) := D_x1 (Or.inl (oW hw 59 rfl)) (ty := .byte) (by decide)
  have F_x1_value : Fld Z h1 x1 "java/lang/AbstractStringBuilder" "value" "[B" .null := D_x1 (Or.inl (oW hw 61 rfl)) (ty := (.array .byte)) (by decide)
  have F_x1_count : Fld Z h1 x1 "java/lang/AbstractStringBuilder" "count" "I" (.int 0) := D_x1 (Or.inl (oW hw 77 rfl)) (ty := .int) (by decide)
  have A7 := A3.du H dm5_3 rfl rfl
  obtain ⟨x2, x3, vmA6, kA6, h4, E5, E_x2, F_x2_coder, F_x2_value, V_x3, ns_x2, hS, hk, hZ, hown, HCs, hLA6, A6⟩ := A7.ldcS hx hZ hown (hb hby dm5_4) (oW hw 34 rfl) own_wS hS hk hEL (by simp +decide [own_EL]) (CHr.refl HC.1) (vs := [(.int 39)]) (z := (1 : Int32)) ⟨by decide, by decide⟩ (by decide) (by decide) (n := 4) (by decide) (by decide) (by decide) (by decide)
  have HC := HC.trans HCs
  have E_s1 := E_s1.ext E5
  have F_s1_coder := F_s1_coder.ext E5
  have F_s1_value := F_s1_value.ext E5
  have V_b1 := V_b1.ext E5
  have SS := SS.ext E5
  have E_x1 := E_x1.ext E5
  have F_x1_coder := F_x1_coder.ext E5
  have F_x1_value := F_x1_value.ext E5
  have F_x1_count := F_x1_count.ext E5
  have Z0 := Nat.le_trans Z0 E5.1
  have KK : Keep h0 h4 [] := KK.ext E5
  have SX_x1 : Safe Z own_EL _ h4 x1 := Safe.exa hZ.alike E_x1 (by decide) (by decide)
  have ne_x1_x2 : x1 ≠ x2 := (ns_x2 _ SX_x1).1
  have ne_x2_x1 := Ne.symm ne_x1_x2
  have ne_x1_x3 : x1 ≠ x3 := (ns_x2 _ SX_x1).2
  have ne_x3_x1 := Ne.symm ne_x1_x3
  have V_x3 : own_Ar Z h4 x3 .byte (List.map own_lo [39]) := V_x3
  obtain ⟨vA8, hA8, ⟨x4, rfl, KA8, zz_x4, P_F_x1_coder, P_F_x1_value, P_F_x1_count, P_V_x4, hl_x4⟩, A8⟩ := A6.cI (own_c22 l Z a0 hw x1 x2 x3 _ cs h4 n0 Z0 E_x1 F_x1_coder F_x1_value F_x1_count E_x2 F_x2_coder F_x2_value V_x3 SS.1 rfl hcs ne_x2_x1 ne_x3_x1 g_x1) H hZ hown dm5_6 (oW hw 35 rfl) (kI25 hw) hml rfl rfl [(.ref x1)] rfl rfl
  have ne_s1_x4 : s1 ≠ x4 := Nat.ne_of_lt (Nat.lt_of_lt_of_le E_s1.lt zz_x4)
  have ne_b1_x4 : b1 ≠ x4 := Nat.ne_of_lt (Nat.lt_of_lt_of_le V_b1.lt zz_x4)
  have ne_x1_x4 : x1 ≠ x4 := Nat.ne_of_lt (Nat.lt_of_lt_of_le E_x1.lt zz_x4)
  have ne_x4_x1 := Ne.symm ne_x1_x4
  have g_x4 : n0 ≤ x4 := Nat.le_trans Z0 zz_x4
  have sz_x4 : h0.size ≤ x4 := Nat.le_trans KK.1 zz_x4
  have SX_x1 : Safe Z own_EL _ h4 x1 := Safe.exa hZ.alike E_x1 (by decide) (by decide)
  have hsA : ∀ x ∈ ([x1] : List Addr), Safe Z own_EL vmA6 h4 x := (allS SX_x1 all0)
  have SX_x4 := Safe.keep KA8 hsA HC.1 (Safe.new zz_x4)
  have HC := HC.trans (CHr.keep KA8 hsA HC.1)
  have hk := Nat.le_trans hk KA8.1
  have SS := SS.kp KA8 (allS (P := fun x => ∀ cell : Cell, h4[x]? = some cell → cell.vm.isStatics = false) E_x1.nostat all0)
  have E_s1 := E_s1.keep KA8
  have F_s1_coder := F_s1_coder.keep KA8 (ninS ne_s1_x1 nin0)
  have F_s1_value := F_s1_value.keep KA8 (ninS ne_s1_x1 nin0)
  have V_b1 := V_b1.keep KA8 (ninS ne_b1_x1 nin0)
  have E_x1 := E_x1.keep KA8
  have Z0 := Nat.le_trans Z0 KA8.1
  have KK : Keep h0 hA8 [] := KK.trans KA8 (allS (P := fun x => x ∈ ([] : List Addr) ∨ h0.size ≤ x) (Or.inr sz_x1) all0)
  have F_x1_coder : Fld Z hA8 x1 "java/lang/AbstractStringBuilder" "coder" "B" (.int 0) := P_F_x1_coder
  have F_x1_value : Fld Z hA8 x1 "java/lang/AbstractStringBuilder" "value" "[B" (.ref x4) := P_F_x1_value
  have F_x1_count : Fld Z hA8 x1 "java/lang/AbstractStringBuilder" "count" "I" (.int 1) := P_F_x1_count
  have V_x4 : own_Ar Z hA8 x4 .byte (List.map own_lo [39, 0, 0, 0, 0, 0, 0, 0, 0, 0, 0, 0, 0, 0, 0, 0, 0]) := P_V_x4
  have hl_x4 : ([39, 0, 0, 0, 0, 0, 0, 0, 0, 0, 0, 0, 0, 0, 0, 0, 0] : List Int32).length = 17 := rfl
  have A10 := A8.c0 |>.aM H dm5_9 rfl rfl #[.val (.ref s1), .val (.ref x1), .unset, .unset] rfl |>.ic H dm5_10 rfl 0 rfl |>.iM H dm5_11 rfl #[.val (.ref s1), .val (.ref x1), .val (.int 0), .unset] rfl
  obtain ⟨hA9, KA9, P_F_x1_coder, P_F_x1_value, P_F_x1_count, P_V_x4, hl_x4, A9⟩ := own_t17f l Z a0 hw (s.setVm vmA6) s1 b1 x1 x4 k cs 3 3 _ fm n0 _ e0 hA8 Z0 E_s1 F_s1_coder F_s1_value V_b1 SS E_x1 F_x1_coder F_x1_value F_x1_count V_x4 rfl hcs ne_b1_x1 ne_b1_x4 ne_s1_x1 ne_s1_x4 ne_x1_x4 ne_x4_x1 g_x1 g_x4 hfm hok hlen rfl (own_c66 l Z a0 hw) (by decide) rfl (by decide) hx hby hml hown hZ A10
  have SX_x1 : Safe Z own_EL _ hA8 x1 := Safe.exa hZ.alike E_x1 (by decide) (by decide)
  have hsA : ∀ x ∈ ([x1, x4] : List Addr), Safe Z own_EL vmA6 hA8 x := (allS SX_x1 (allS SX_x4 all0))
  have SX_x4 := Safe.keep KA9 hsA HC.1 SX_x4
  have HC := HC.trans (CHr.keep KA9 hsA HC.1)
  have hk := Nat.le_trans hk KA9.1
  have SS := SS.kp KA9 (allS (P := fun x => ∀ cell : Cell, hA8[x]? = some cell → cell.vm.isStatics = false) E_x1.nostat (allS (P := fun x => ∀ cell : Cell, hA8[x]? = some cell → cell.vm.isStatics = false) V_x4.nostat all0))
  have E_s1 := E_s1.keep KA9
  have F_s1_coder := F_s1_coder.keep KA9 (ninS ne_s1_x1 (ninS ne_s1_x4 nin0))
  have F_s1_value := F_s1_value.keep KA9 (ninS ne_s1_x1 (ninS ne_s1_x4 nin0))
  have V_b1 := V_b1.keep KA9 (ninS ne_b1_x1 (ninS ne_b1_x4 nin0))
  have E_x1 := E_x1.keep KA9
  have Z0 := Nat.le_trans Z0 KA9.1
  have KK : Keep h0 hA9 [] := KK.trans KA9 (allS (P := fun x => x ∈ ([] : List Addr) ∨ h0.size ≤ x) (Or.inr sz_x1) (allS (P := fun x => x ∈ ([] : List Addr) ∨ h0.size ≤ x) (Or.inr sz_x4) all0))
  have F_x1_coder : Fld Z hA9 x1 "java/lang/AbstractStringBuilder" "coder" "B" (.int 0) := P_F_x1_coder
  have F_x1_value : Fld Z hA9 x1 "java/lang/AbstractStringBuilder" "value" "[B" (.ref x4) := P_F_x1_value
  have F_x1_count : Fld Z hA9 x1 "java/lang/AbstractStringBuilder" "count" "I" (.int 2) := P_F_x1_count
  have V_x4 : own_Ar Z hA9 x4 .byte (List.map own_lo [39, (own_sh e0), 0, 0, 0, 0, 0, 0, 0, 0, 0, 0, 0, 0, 0, 0, 0]) := P_V_x4
  have hl_x4 : ([39, (own_sh e0), 0, 0, 0, 0, 0, 0, 0, 0, 0, 0, 0, 0, 0, 0, 0] : List Int32).length = 17 := rfl
  have A11 : own_R p l e _ _ m _ below meth c S0 n0 hA9 4 29 (mkF m 12 #[.val (.ref s1), .val (.ref x1), .val (.int 1), .val (.int e0)] []) := A9
  obtain ⟨cA12, hA12, KA12, P_F_x1_coder, P_F_x1_value, P_F_x1_count, P_V_x4, hl_x4, A12⟩ := own_lp17 l Z a0 hw (s.setVm vmA6) s1 b1 x1 x4 k cs 3 3 _ fm n0 3 rfl (by show (3 : Nat) ≤ 3; decide) hcs ne_b1_x1 ne_b1_x4 ne_s1_x1 ne_s1_x4 ne_x1_x4 ne_x4_x1 g_x1 g_x4 hfm hok hlen rfl (own_c66 l Z a0 hw) hx hby hml hown hZ 2 1 _ e0 hA9 (by decide) (by decide) Z0 SS E_s1 F_s1_coder F_s1_value V_b1 E_x1 F_x1_coder F_x1_value F_x1_count V_x4 rfl A11
  have SX_x1 : Safe Z own_EL _ hA9 x1 := Safe.exa hZ.alike E_x1 (by decide) (by decide)
  have hsA : ∀ x ∈ ([x1, x4] : List Addr), Safe Z own_EL vmA6 hA9 x := (allS SX_x1 (allS SX_x4 all0))
  have SX_x4 := Safe.keep KA12 hsA HC.1 SX_x4
  have HC := HC.trans (CHr.keep KA12 hsA HC.1)
  have hk := Nat.le_trans hk KA12.1
  have SS := SS.kp KA12 (allS (P := fun x => ∀ cell : Cell, hA9[x]? = some cell → cell.vm.isStatics = false) E_x1.nostat (allS (P := fun x => ∀ cell : Cell, hA9[x]? = some cell → cell.vm.isStatics = false) V_x4.nostat all0))
  have E_s1 := E_s1.keep KA12
  have F_s1_coder := F_s1_coder.keep KA12 (ninS ne_s1_x1 (ninS ne_s1_x4 nin0))
  have F_s1_value := F_s1_value.keep KA12 (ninS ne_s1_x1 (ninS ne_s1_x4 nin0))
  have V_b1 := V_b1.keep KA12 (ninS ne_b1_x1 (ninS ne_b1_x4 nin0))
  have E_x1 := E_x1.keep KA12
  have Z0 := Nat.le_trans Z0 KA12.1
  have KK : Keep h0 hA12 [] := KK.trans KA12 (allS (P := fun x => x ∈ ([] : List Addr) ∨ h0.size ≤ x) (Or.inr sz_x1) (allS (P := fun x => x ∈ ([] : List Addr) ∨ h0.size ≤ x) (Or.inr sz_x4) all0))
  have F_x1_coder : Fld Z hA12 x1 "java/lang/AbstractStringBuilder" "coder" "B" (.int 0) := P_F_x1_coder
  have F_x1_value : Fld Z hA12 x1 "java/lang/AbstractStringBuilder" "value" "[B" (.ref x4) := P_F_x1_value
  have F_x1_count : Fld Z hA12 x1 "java/lang/AbstractStringBuilder" "count" "I" (.int 4) := P_F_x1_count
  have V_x4 : own_Ar Z hA12 x4 .byte (List.map own_lo [39, (own_sh e0), (own_sh e1), (own_sh e2), 0, 0, 0, 0, 0, 0, 0, 0, 0, 0, 0, 0, 0]) := P_V_x4
  have hl_x4 : ([39, (own_sh e0), (own_sh e1), (own_sh e2), 0, 0, 0, 0, 0, 0, 0, 0, 0, 0, 0, 0, 0] : List Int32).length = 17 := rfl
  have A13 : own_R p l e _ _ m _ below meth c S0 n0 hA12 4 29 (mkF m 12 #[.val (.ref s1), .val (.ref x1), .val (.int 3), .val (.int cA12)] []) := A12
  have A15 := A13.iN H dm5_12 rfl rfl |>.aN H dm5_13 rfl rfl rfl
  obtain ⟨vA14, hA14, ⟨rfl, rfl⟩, A14⟩ := A15.cV (own_len l Z a0 hw s1 b1 cs k 3 _ hA12 n0 Z0 SS.1 hcs E_s1 F_s1_coder F_s1_value V_b1 hok hlen rfl) E_s1 H hZ hown dm5_14 (oW hw 103 rfl) (kV17 hw) hml rfl rfl [(.int 3)] rfl rfl
  have A17 := A14.cl |>.bp H dm5_17 rfl 24 rfl
  obtain ⟨vA16, hA16, ⟨rfl, rfl⟩, A16⟩ := A17.cS (own_c66 l Z a0 hw hA12 n0 Z0) H hZ hown dm5_19 (oW hw 104 rfl) (kS26 hw) hml rfl rfl [(.int 3)] rfl rfl
  have A19 := A16.cl |>.cy H dm5_22 rfl rfl 60 (by decide) (by decide) |>.aN H dm5_60 rfl rfl rfl
  obtain ⟨vA18, hA18, ⟨rfl, rfl⟩, A18⟩ := A19.cV (own_len l Z a0 hw s1 b1 cs k 3 _ hA12 n0 Z0 SS.1 hcs E_s1 F_s1_coder F_s1_value V_b1 hok hlen rfl) E_s1 H hZ hown dm5_61 (oW hw 103 rfl) (kV17 hw) hml rfl rfl [] rfl rfl
  have A21 := A18.cl |>.bp H dm5_64 rfl 24 rfl |>.cy H dm5_66 rfl rfl 76 (by decide) (by decide) |>.aN H dm5_76 rfl rfl rfl |>.bp H dm5_77 rfl 39 rfl
  obtain ⟨vA20, hA20, ⟨rfl, KA20, P_F_x1_coder, P_F_x1_value, P_F_x1_count, P_V_x4, hl_x4⟩, A20⟩ := A21.cV (own_c34 l Z a0 hw x1 x4 (4 : Int32) _ cs hA12 n0 Z0 E_x1 F_x1_coder F_x1_value F_x1_count V_x4 SS.1 rfl hcs (by decide) (by decide) (by decide) ne_x1_x4 ne_x4_x1 g_x1 g_x4) E_x1 H hZ hown dm5_79 (oW hw 108 rfl) (kV29 hw) hml rfl rfl [] rfl rfl
  have SX_x1 : Safe Z own_EL _ hA12 x1 := Safe.exa hZ.alike E_x1 (by decide) (by decide)
  have hsA : ∀ x ∈ ([x1, x4] : List Addr), Safe Z own_EL vmA6 hA12 x := (allS SX_x1 (allS SX_x4 all0))
  have HC := HC.trans (CHr.keep KA20 hsA HC.1)
  have hk := Nat.le_trans hk KA20.1
  have SS := SS.kp KA20 (allS (P := fun x => ∀ cell : Cell, hA12[x]? = some cell → cell.vm.isStatics = false) E_x1.nostat (allS (P := fun x => ∀ cell : Cell, hA12[x]? = some cell → cell.vm.isStatics = false) V_x4.nostat all0))
  have E_x1 := E_x1.keep KA20
  have Z0 := Nat.le_trans Z0 KA20.1
  have KK : Keep h0 hA20 [] := KK.trans KA20 (allS (P := fun x => x ∈ ([] : List Addr) ∨ h0.size ≤ x) (Or.inr sz_x1) (allS (P := fun x => x ∈ ([] : List Addr) ∨ h0.size ≤ x) (Or.inr sz_x4) all0))
  have F_x1_coder : Fld Z hA20 x1 "java/lang/AbstractStringBuilder" "coder" "B" (.int 0) := P_F_x1_coder
  have F_x1_value : Fld Z hA20 x1 "java/lang/AbstractStringBuilder" "value" "[B" (.ref x4) := P_F_x1_value
  have F_x1_count : Fld Z hA20 x1 "java/lang/AbstractStringBuilder" "count" "I" (.int 5) := P_F_x1_count
  have V_x4 : own_Ar Z hA20 x4 .byte (List.map own_lo [39, (own_sh e0), (own_sh e1), (own_sh e2), 39, 0, 0, 0, 0, 0, 0, 0, 0, 0, 0, 0, 0]) := P_V_x4
  have A23 := A20.cl
  obtain ⟨vA22, hA22, ⟨x5, x6, rfl, KA22, zz_x5, zz_x6, ne_x6_x5, P_E_x5, P_F_x5_value, P_F_x5_coder, P_V_x6, hl_x6⟩, A22⟩ := A23.cV (own_c54 l Z a0 hw x1 x4 (5 : Int32) _ cs hA20 n0 Z0 E_x1 F_x1_coder F_x1_value F_x1_count V_x4 SS.1 rfl hcs (by decide) (by decide) (by decide) (by decide) (by decide)) E_x1 H hZ hown dm5_82 (oW hw 126 rfl) (kV37 hw) hml rfl rfl [] rfl rfl
  have sz_x5 : h0.size ≤ x5 := Nat.le_trans KK.1 zz_x5
  have sz_x6 : h0.size ≤ x6 := Nat.le_trans KK.1 zz_x6
  have hsA : ∀ x ∈ ([] : List Addr), Safe Z own_EL vmA6 hA20 x := all0
  have HC := HC.trans (CHr.keep KA22 hsA HC.1)
  have hk := Nat.le_trans hk KA22.1
  have KK : Keep h0 hA22 [] := KK.trans KA22 all0
  have E_x5 : Exa Z hA22 x5 "java/lang/String" := P_E_x5
  have F_x5_value : Fld Z hA22 x5 "java/lang/String" "value" "[B" (.ref x6) := P_F_x5_value
  have F_x5_coder : Fld Z hA22 x5 "java/lang/String" "coder" "B" (.int 0) := P_F_x5_coder
  have V_x6 : own_Ar Z hA22 x6 .byte (List.map own_lo [39, (own_sh e0), (own_sh e1), (own_sh e2), 39]) := P_V_x6
  have hl_x6 : ([39, (own_sh e0), (own_sh e1), (own_sh e2), 39] : List Int32).length = 5 := rfl
  have A24 := A22.cl
  exact A24.retSS hx hlk hZ hS hk hEL HC hret (hb hby dm5_85) rfl (Or.inr (Or.inr (Or.inr (Or.inr ⟨rfl, rfl, rfl⟩)))) (by decide) (by decide) ⟨x5, x6, rfl, KK, sz_x5, sz_x6, ne_x6_x5, E_x5, F_x5_value, F_x5_coder, V_x6, hl_x6⟩
theorem own_q23 (l : Launch) (Z : State) (a0 : Array Value) (hw : ∀ d ∈ tables_1, d.before a0 Z = true) (s1 b1 : Addr) (k e0 e1 e2 e3 e4 e5 e6 e7 e8 e9 e10 e11 e12 e13 e14 e15 e16 e17 e18 e19 e20 e21 e22 : Int32) (cs : Int32) (fm : Value) (h0 : Heap) (n0 : Nat) (Z0 : n0 ≤ h0.size) (hEL : EW Z a0 own_EL) (own_wS : ∀ a ∈ Bundle.stringAtoms, a.before a0 Z = true) (E_s1 : Exa Z h0 s1 "java/lang/String") (F_s1_coder : Fld Z h0 s1 "java/lang/String" "coder" "B" (.int k)) (F_s1_value : Fld Z h0 s1 "java/lang/String" "value" "[B" (.ref b1)) (V_b1 : own_Ar Z h0 b1 .byte (own_by k [e0, e1, e2, e3, e4, e5, e6, e7, e8, e9, e10, e11, e12, e13, e14, e15, e16, e17, e18, e19, e20, e21, e22])) (SS : own_ST Z h0 cs fm) (hcs : ¬ (cs = (0 : Int32))) (hfm : fm.isRef = true) (hok : own_ok k [e0, e1, e2, e3, e4, e5, e6, e7, e8, e9, e10, e11, e12, e13, e14, e15, e16, e17, e18, e19, e20, e21, e22]) (hlen : ([e0, e1, e2, e3, e4, e5, e6, e7, e8, e9, e10, e11, e12, e13, e14, e15, e16, e17, e18, e19, e20, e21, e22] : List Int32).length < 64) :
    own_MS l Z own_EL (⟨"com/example/paretolio/paretolio/RecordReader", "quote", "(Ljava/lang/String;)Ljava/lang/String;"⟩ : MethodName) prog_11_method_10_code 4 (some (.object "java/lang/String")) [] (⟨8, 9, 130, 117⟩ : Room) #[(.ref s1)] h0 n0 (fun v h => ∃ x6 x7 : Addr, v = some (.ref x6) ∧ Keep h0 h [] ∧ h0.size ≤ x6 ∧ h0.size ≤ x7 ∧ x7 ≠ x6 ∧ Exa Z h x6 "java/lang/String" ∧ Fld Z h x6 "java/lang/String" "value" "[B" (.ref x7) ∧ Fld Z h x6 "java/lang/String" "coder" "B" (.int 0) ∧ own_Ar Z h x7 .byte (List.map own_lo [39, (own_sh e0), (own_sh e1), (own_sh e2), (own_sh e3), (own_sh e4), (own_sh e5), (own_sh e6), (own_sh e7), (own_sh e8), (own_sh e9), (own_sh e10), (own_sh e11), (own_sh e12), (own_sh e13), (own_sh e14), (own_sh e15), (own_sh e16), (own_sh e17), (own_sh e18), (own_sh e19), (own_sh e20), (own_sh e21), (own_sh e22), 39]) ∧ ([39, (own_sh e0), (own_sh e1), (own_sh e2), (own_sh e3), (own_sh e4), (own_sh e5), (own_sh e6), (own_sh e7), (own_sh e8), (own_sh e9), (own_sh e10), (own_sh e11), (own_sh e12), (own_sh e13), (own_sh e14), (own_sh e15), (own_sh e16), (own_sh e17), (own_sh e18), (own_sh e19), (own_sh e20), (own_sh e21), (own_sh e22), 39] : List Int32).length = 25) := by
  refine own_MS.of pl50 ?_
  intro p e s m below meth c S0 vm0 k0 hx hby hml hown hnm hret hlk hZ hS hk HC A00
  have H : own_H p c _ := ⟨hx, hby⟩
  have A0 := A00.cast (f' := mkF m 0 #[.val (.ref s1), .unset, .unset, .unset] []) (by first | (simp [entryFrame, mkF, argsToLocals, Value.category, maxLocals]; done) | rfl)
  have KK : Keep h0 h0 ([] : List Addr) := Keep.refl _ _
  obtain ⟨h1, E2, E_x1, D_x1, A3⟩ := A0.newO hx hZ hown (hb hby dm5_0) (oW hw 31 rfl) (oW hw 32 rfl) (oW hw 33 rfl) (by decide) (by decide)
  obtain ⟨x1, gx1⟩ : ∃ z, z = h0.size := ⟨_, rfl⟩
  rw [← gx1] at E_x1 D_x1 A3
  have ne_s1_x1 : s1 ≠ x1 := by rw [gx1]; exact Nat.ne_of_lt E_s1.lt
  have ne_b1_x1 : b1 ≠ x1 := by rw [gx1]; exact Nat.ne_of_lt V_b1.lt
  have g_x1 : n0 ≤ x1 := by rw [gx1]; exact Z0
  have sz_x1 : h0.size ≤ x1 := by rw [gx1]; exact KK.1
  have E_s1 := E_s1.ext E2
  have F_s1_coder := F_s1_coder.ext E2
  have F_s1_value := F_s1_value.ext E2
  have V_b1 := V_b1.ext E2
  have SS := SS.ext E2
  have Z0 := Nat.le_trans Z0 E2.1
  have KK : Keep h0 h1 [] := KK.ext E2
  have HC := HC.trans (CHr.ext E2 HC.1)
  have hk := Nat.le_trans hk E2.1
  have F_x1_coder : Fld Z h1 x1 "java/lang/AbstractStringBuilder" "coder" "B" (.int 0) := D_x1 (Or.inl (oW hw 59 rfl)) (ty := .byte) (by decide)
  have F_x1_value : Fld Z h1 x1 "java/lang/AbstractStringBuilder" "value" "[B" .null := D_x1 (Or.inl (oW hw 61 rfl)) (ty := (.array .byte)) (by decide)
  have F_x1_count : Fld Z h1 x1 "java/lang/AbstractStringBuilder" "count" "I" (.int 0) := D_x1 (Or.inl (oW hw 77 rfl)) (ty := .int) (by decide)
  have A7 := A3.du H dm5_3 rfl rfl
  obtain ⟨x2, x3, vmA6, kA6, h4, E5, E_x2, F_x2_coder, F_x2_value, V_x3, ns_x2, hS, hk, hZ, hown, HCs, hLA6, A6⟩ := A7.ldcS hx hZ hown (hb hby dm5_4) (oW hw 34 rfl) own_wS hS hk hEL (by simp +decide [own_EL]) (CHr.refl HC.1) (vs := [(.int 39)]) (z := (1 : Int32)) ⟨by decide, by decide⟩ (by decide) (by decide) (n := 4) (by decide) (by decide) (by decide) (by decide)
  have HC := HC.trans HCs
  have E_s1 := E_s1.ext E5
  have F_s1_coder := F_s1_coder.ext E5
  have F_s1_value := F_s1_value.ext E5
  have V_b1 := V_b1.ext E5
  have SS := SS.ext E5
  have E_x1 := E_x1.ext E5
  have F_x1_coder := F_x1_coder.ext E5
  have F_x1_value := F_x1_value.ext E5
  have F_x1_count := F_x1_count.ext E5
  have Z0 := Nat.le_trans Z0 E5.1
  have KK : Keep h0 h4 [] := KK.ext E5
  have SX_x1 : Safe Z own_EL _ h4 x1 := Safe.exa hZ.alike E_x1 (by decide) (by decide)
  have ne_x1_x2 : x1 ≠ x2 := (ns_x2 _ SX_x1).1
  have ne_x2_x1 := Ne.symm ne_x1_x2
  have ne_x1_x3 : x1 ≠ x3 := (ns_x2 _ SX_x1).2
  have ne_x3_x1 := Ne.symm ne_x1_x3
  have V_x3 : own_Ar Z h4 x3 .byte (List.map own_lo [39]) := V_x3
  obtain ⟨vA8, hA8, ⟨x4, rfl, KA8, zz_x4, P_F_x1_coder, P_F_x1_value, P_F_x1_count, P_V_x4, hl_x4⟩, A8⟩ := A6.cI (own_c22 l Z a0 hw x1 x2 x3 _ cs h4 n0 Z0 E_x1 F_x1_coder F_x1_value F_x1_count E_x2 F_x2_coder F_x2_value V_x3 SS.1 rfl hcs ne_x2_x1 ne_x3_x1 g_x1) H hZ hown dm5_6 (oW hw 35 rfl) (kI25 hw) hml rfl rfl [(.ref x1)] rfl rfl
  have ne_s1_x4 : s1 ≠ x4 := Nat.ne_of_lt (Nat.lt_of_lt_of_le E_s1.lt zz_x4)
  have ne_b1_x4 : b1 ≠ x4 := Nat.ne_of_lt (Nat.lt_of_lt_of_le V_b1.lt zz_x4)
  have ne_x1_x4 : x1 ≠ x4 := Nat.ne_of_lt (Nat.lt_of_lt_of_le E_x1.lt zz_x4)
  have ne_x4_x1 := Ne.symm ne_x1_x4
  have g_x4 : n0 ≤ x4 := Nat.le_trans Z0 zz_x4
  have sz_x4 : h0.size ≤ x4 := Nat.le_trans KK.1 zz_x4
  have SX_x1 : Safe Z own_EL _ h4 x1 := Safe.exa hZ.alike E_x1 (by decide) (by decide)
  have hsA : ∀ x ∈ ([x1] : List Addr), Safe Z own_EL vmA6 h4 x := (allS SX_x1 all0)
  have SX_x4 := Safe.keep KA8 hsA HC.1 (Safe.new zz_x4)
  have HC := HC.trans (CHr.keep KA8 hsA HC.1)
  have hk := Nat.le_trans hk KA8.1
  have SS := SS.kp KA8 (allS (P := fun x => ∀ cell : Cell, h4[x]? = some cell → cell.vm.isStatics = false) E_x1.nostat all0)
  have E_s1 := E_s1.keep KA8
  have F_s1_coder := F_s1_coder.keep KA8 (ninS ne_s1_x1 nin0)
  have F_s1_value := F_s1_value.keep KA8 (ninS ne_s1_x1 nin0)
  have V_b1 := V_b1.keep KA8 (ninS ne_b1_x1 nin0)
  have E_x1 := E_x1.keep KA8
  have Z0 := Nat.le_trans Z0 KA8.1
  have KK : Keep h0 hA8 [] := KK.trans KA8 (allS (P := fun x => x ∈ ([] : List Addr) ∨ h0.size ≤ x) (Or.inr sz_x1) all0)
  have F_x1_coder : Fld Z hA8 x1 "java/lang/AbstractStringBuilder" "coder" "B" (.int 0) := P_F_x1_coder
  have F_x1_value : Fld Z hA8 x1 "java/lang/AbstractStringBuilder" "value" "[B" (.ref x4) := P_F_x1_value
  have F_x1_count : Fld Z hA8 x1 "java/lang/AbstractStringBuilder" "count" "I" (.int 1) := P_F_x1_count
  have V_x4 : own_Ar Z hA8 x4 .byte (List.map own_lo [39, 0, 0, 0, 0, 0, 0, 0, 0, 0, 0, 0, 0, 0, 0, 0, 0]) := P_V_x4
  have hl_x4 : ([39, 0, 0, 0, 0, 0, 0, 0, 0, 0, 0, 0, 0, 0, 0, 0, 0] : List Int32).length = 17 := rfl
  have A10 := A8.c0 |>.aM H dm5_9 rfl rfl #[.val (.ref s1), .val (.ref x1), .unset, .unset] rfl |>.ic H dm5_10 rfl 0 rfl |>.iM H dm5_11 rfl #[.val (.ref s1), .val (.ref x1), .val (.int 0), .unset] rfl
  obtain ⟨hA9, KA9, P_F_x1_coder, P_F_x1_value, P_F_x1_count, P_V_x4, hl_x4, A9⟩ := own_t17f l Z a0 hw (s.setVm vmA6) s1 b1 x1 x4 k cs 23 23 _ fm n0 _ e0 hA8 Z0 E_s1 F_s1_coder F_s1_value V_b1 SS E_x1 F_x1_coder F_x1_value F_x1_count V_x4 rfl hcs ne_b1_x1 ne_b1_x4 ne_s1_x1 ne_s1_x4 ne_x1_x4 ne_x4_x1 g_x1 g_x4 hfm hok hlen rfl (own_c68 l Z a0 hw) (by decide) rfl (by decide) hx hby hml hown hZ A10
  have SX_x1 : Safe Z own_EL _ hA8 x1 := Safe.exa hZ.alike E_x1 (by decide) (by decide)
  have hsA : ∀ x ∈ ([x1, x4] : List Addr), Safe Z own_EL vmA6 hA8 x := (allS SX_x1 (allS SX_x4 all0))
  have SX_x4 := Safe.keep KA9 hsA HC.1 SX_x4
  have HC := HC.trans (CHr.keep KA9 hsA HC.1)
  have hk := Nat.le_trans hk KA9.1
  have SS := SS.kp KA9 (allS (P := fun x => ∀ cell : Cell, hA8[x]? = some cell → cell.vm.isStatics = false) E_x1.nostat (allS (P := fun x => ∀ cell : Cell, hA8[x]? = some cell → cell.vm.isStatics = false) V_x4.nostat all0))
  have E_s1 := E_s1.keep KA9
  have F_s1_coder := F_s1_coder.keep KA9 (ninS ne_s1_x1 (ninS ne_s1_x4 nin0))
  have F_s1_value := F_s1_value.keep KA9 (ninS ne_s1_x1 (ninS ne_s1_x4 nin0))
  have V_b1 := V_b1.keep KA9 (ninS ne_b1_x1 (ninS ne_b1_x4 nin0))
  have E_x1 := E_x1.keep KA9
  have Z0 := Nat.le_trans Z0 KA9.1
  have KK : Keep h0 hA9 [] := KK.trans KA9 (allS (P := fun x => x ∈ ([] : List Addr) ∨ h0.size ≤ x) (Or.inr sz_x1) (allS (P := fun x => x ∈ ([] : List Addr) ∨ h0.size ≤ x) (Or.inr sz_x4) all0))
  have F_x1_coder : Fld Z hA9 x1 "java/lang/AbstractStringBuilder" "coder" "B" (.int 0) := P_F_x1_coder
  have F_x1_value : Fld Z hA9 x1 "java/lang/AbstractStringBuilder" "value" "[B" (.ref x4) := P_F_x1_value
  have F_x1_count : Fld Z hA9 x1 "java/lang/AbstractStringBuilder" "count" "I" (.int 2) := P_F_x1_count
  have V_x4 : own_Ar Z hA9 x4 .byte (List.map own_lo [39, (own_sh e0), 0, 0, 0, 0, 0, 0, 0, 0, 0, 0, 0, 0, 0, 0, 0]) := P_V_x4
  have hl_x4 : ([39, (own_sh e0), 0, 0, 0, 0, 0, 0, 0, 0, 0, 0, 0, 0, 0, 0, 0] : List Int32).length = 17 := rfl
  have A11 : own_R p l e _ _ m _ below meth c S0 n0 hA9 4 29 (mkF m 12 #[.val (.ref s1), .val (.ref x1), .val (.int 1), .val (.int e0)] []) := A9
  obtain ⟨cA12, hA12, KA12, P_F_x1_coder, P_F_x1_value, P_F_x1_count, P_V_x4, hl_x4, A12⟩ := own_lp17 l Z a0 hw (s.setVm vmA6) s1 b1 x1 x4 k cs 23 23 _ fm n0 23 rfl (by show (23 : Nat) ≤ 23; decide) hcs ne_b1_x1 ne_b1_x4 ne_s1_x1 ne_s1_x4 ne_x1_x4 ne_x4_x1 g_x1 g_x4 hfm hok hlen rfl (own_c68 l Z a0 hw) hx hby hml hown hZ 15 1 _ e0 hA9 (by decide) (by decide) Z0 SS E_s1 F_s1_coder F_s1_value V_b1 E_x1 F_x1_coder F_x1_value F_x1_count V_x4 rfl A11
  have SX_x1 : Safe Z own_EL _ hA9 x1 := Safe.exa hZ.alike E_x1 (by decide) (by decide)
  have hsA : ∀ x ∈ ([x1, x4] : List Addr), Safe Z own_EL vmA6 hA9 x := (allS SX_x1 (allS SX_x4 all0))
  have HC := HC.trans (CHr.keep KA12 hsA HC.1)
  have hk := Nat.le_trans hk KA12.1
  have SS := SS.kp KA12 (allS (P := fun x => ∀ cell : Cell, hA9[x]? = some cell → cell.vm.isStatics = false) E_x1.nostat (allS (P := fun x => ∀ cell : Cell, hA9[x]? = some cell → cell.vm.isStatics = false) V_x4.nostat all0))
  have E_s1 := E_s1.keep KA12
  have F_s1_coder := F_s1_coder.keep KA12 (ninS ne_s1_x1 (ninS ne_s1_x4 nin0))
  have F_s1_value := F_s1_value.keep KA12 (ninS ne_s1_x1 (ninS ne_s1_x4 nin0))
  have V_b1 := V_b1.keep KA12 (ninS ne_b1_x1 (ninS ne_b1_x4 nin0))
  have E_x1 := E_x1.keep KA12
  have Z0 := Nat.le_trans Z0 KA12.1
  have KK : Keep h0 hA12 [] := KK.trans KA12 (allS (P := fun x => x ∈ ([] : List Addr) ∨ h0.size ≤ x) (Or.inr sz_x1) (allS (P := fun x => x ∈ ([] : List Addr) ∨ h0.size ≤ x) (Or.inr sz_x4) all0))
  have F_x1_coder : Fld Z hA12 x1 "java/lang/AbstractStringBuilder" "coder" "B" (.int 0) := P_F_x1_coder
  have F_x1_value : Fld Z hA12 x1 "java/lang/AbstractStringBuilder" "value" "[B" (.ref x4) := P_F_x1_value
  have F_x1_count : Fld Z hA12 x1 "java/lang/AbstractStringBuilder" "count" "I" (.int 17) := P_F_x1_count
  have V_x4 : own_Ar Z hA12 x4 .byte (List.map own_lo [39, (own_sh e0), (own_sh e1), (own_sh e2), (own_sh e3), (own_sh e4), (own_sh e5), (own_sh e6), (own_sh e7), (own_sh e8), (own_sh e9), (own_sh e10), (own_sh e11), (own_sh e12), (own_sh e13), (own_sh e14), (own_sh e15)]) := P_V_x4
  have A13 : own_R p l e _ _ m _ below meth c S0 n0 hA12 4 29 (mkF m 12 #[.val (.ref s1), .val (.ref x1), .val (.int 16), .val (.int cA12)] []) := A12
  obtain ⟨x5, hA14, KA14, zz_x5, P_F_x1_coder, P_F_x1_value, P_F_x1_count, P_V_x5, hl_x5, A14⟩ := own_t17g l Z a0 hw (s.setVm vmA6) s1 b1 x1 x4 k cs 23 23 _ fm n0 _ cA12 e16 hA12 Z0 E_s1 F_s1_coder F_s1_value V_b1 SS E_x1 F_x1_coder F_x1_value F_x1_count V_x4 rfl hcs ne_b1_x1 ne_s1_x1 ne_x4_x1 g_x1 hfm hok hlen rfl (own_c68 l Z a0 hw) (by decide) rfl (by decide) hx hby hml hown hZ A13
  have ne_s1_x5 : s1 ≠ x5 := Nat.ne_of_lt (Nat.lt_of_lt_of_le E_s1.lt zz_x5)
  have ne_b1_x5 : b1 ≠ x5 := Nat.ne_of_lt (Nat.lt_of_lt_of_le V_b1.lt zz_x5)
  have ne_x1_x5 : x1 ≠ x5 := Nat.ne_of_lt (Nat.lt_of_lt_of_le E_x1.lt zz_x5)
  have ne_x5_x1 := Ne.symm ne_x1_x5
  have g_x5 : n0 ≤ x5 := Nat.le_trans Z0 zz_x5
  have sz_x5 : h0.size ≤ x5 := Nat.le_trans KK.1 zz_x5
  have SX_x1 : Safe Z own_EL _ hA12 x1 := Safe.exa hZ.alike E_x1 (by decide) (by decide)
  have hsA : ∀ x ∈ ([x1] : List Addr), Safe Z own_EL vmA6 hA12 x := (allS SX_x1 all0)
  have SX_x5 := Safe.keep KA14 hsA HC.1 (Safe.new zz_x5)
  have HC := HC.trans (CHr.keep KA14 hsA HC.1)
  have hk := Nat.le_trans hk KA14.1
  have SS := SS.kp KA14 (allS (P := fun x => ∀ cell : Cell, hA12[x]? = some cell → cell.vm.isStatics = false) E_x1.nostat all0)
  have E_s1 := E_s1.keep KA14
  have F_s1_coder := F_s1_coder.keep KA14 (ninS ne_s1_x1 nin0)
  have F_s1_value := F_s1_value.keep KA14 (ninS ne_s1_x1 nin0)
  have V_b1 := V_b1.keep KA14 (ninS ne_b1_x1 nin0)
  have E_x1 := E_x1.keep KA14
  have Z0 := Nat.le_trans Z0 KA14.1
  have KK : Keep h0 hA14 [] := KK.trans KA14 (allS (P := fun x => x ∈ ([] : List Addr) ∨ h0.size ≤ x) (Or.inr sz_x1) all0)
  have F_x1_coder : Fld Z hA14 x1 "java/lang/AbstractStringBuilder" "coder" "B" (.int 0) := P_F_x1_coder
  have F_x1_value : Fld Z hA14 x1 "java/lang/AbstractStringBuilder" "value" "[B" (.ref x5) := P_F_x1_value
  have F_x1_count : Fld Z hA14 x1 "java/lang/AbstractStringBuilder" "count" "I" (.int 18) := P_F_x1_count
  have V_x5 : own_Ar Z hA14 x5 .byte (List.map own_lo [39, (own_sh e0), (own_sh e1), (own_sh e2), (own_sh e3), (own_sh e4), (own_sh e5), (own_sh e6), (own_sh e7), (own_sh e8), (own_sh e9), (own_sh e10), (own_sh e11), (own_sh e12), (own_sh e13), (own_sh e14), (own_sh e15), (own_sh e16), 0, 0, 0, 0, 0, 0, 0, 0, 0, 0, 0, 0, 0, 0, 0, 0, 0, 0]) := P_V_x5
  have hl_x5 : ([39, (own_sh e0), (own_sh e1), (own_sh e2), (own_sh e3), (own_sh e4), (own_sh e5), (own_sh e6), (own_sh e7), (own_sh e8), (own_sh e9), (own_sh e10), (own_sh e11), (own_sh e12), (own_sh e13), (own_sh e14), (own_sh e15), (own_sh e16), 0, 0, 0, 0, 0, 0, 0, 0, 0, 0, 0, 0, 0, 0, 0, 0, 0, 0] : List Int32).length = 36 := rfl
  have A15 : own_R p l e _ _ m _ below meth c S0 n0 hA14 5 65 (mkF m 12 #[.val (.ref s1), .val (.ref x1), .val (.int 17), .val (.int e16)] []) := A14
  obtain ⟨cA16, hA16, KA16, P_F_x1_coder, P_F_x1_value, P_F_x1_count, P_V_x5, hl_x5, A16⟩ := own_lp36 l Z a0 hw (s.setVm vmA6) s1 b1 x1 x5 k cs 23 23 _ fm n0 23 rfl (by show (23 : Nat) ≤ 23; decide) hcs ne_b1_x1 ne_b1_x5 ne_s1_x1 ne_s1_x5 ne_x1_x5 ne_x5_x1 g_x1 g_x5 hfm hok hlen rfl (own_c68 l Z a0 hw) hx hby hml hown hZ 6 17 _ e16 hA14 (by decide) (by decide) Z0 SS E_s1 F_s1_coder F_s1_value V_b1 E_x1 F_x1_coder F_x1_value F_x1_count V_x5 rfl A15
  have SX_x1 : Safe Z own_EL _ hA14 x1 := Safe.exa hZ.alike E_x1 (by decide) (by decide)
  have hsA : ∀ x ∈ ([x1, x5] : List Addr), Safe Z own_EL vmA6 hA14 x := (allS SX_x1 (allS SX_x5 all0))
  have SX_x5 := Safe.keep KA16 hsA HC.1 SX_x5
  have HC := HC.trans (CHr.keep KA16 hsA HC.1)
  have hk := Nat.le_trans hk KA16.1
  have SS := SS.kp KA16 (allS (P := fun x => ∀ cell : Cell, hA14[x]? = some cell → cell.vm.isStatics = false) E_x1.nostat (allS (P := fun x => ∀ cell : Cell, hA14[x]? = some cell → cell.vm.isStatics = false) V_x5.nostat all0))
  have E_s1 := E_s1.keep KA16
  have F_s1_coder := F_s1_coder.keep KA16 (ninS ne_s1_x1 (ninS ne_s1_x5 nin0))
  have F_s1_value := F_s1_value.keep KA16 (ninS ne_s1_x1 (ninS ne_s1_x5 nin0))
  have V_b1 := V_b1.keep KA16 (ninS ne_b1_x1 (ninS ne_b1_x5 nin0))
  have E_x1 := E_x1.keep KA16
  have Z0 := Nat.le_trans Z0 KA16.1
  have KK : Keep h0 hA16 [] := KK.trans KA16 (allS (P := fun x => x ∈ ([] : List Addr) ∨ h0.size ≤ x) (Or.inr sz_x1) (allS (P := fun x => x ∈ ([] : List Addr) ∨ h0.size ≤ x) (Or.inr sz_x5) all0))
  have F_x1_coder : Fld Z hA16 x1 "java/lang/AbstractStringBuilder" "coder" "B" (.int 0) := P_F_x1_coder
  have F_x1_value : Fld Z hA16 x1 "java/lang/AbstractStringBuilder" "value" "[B" (.ref x5) := P_F_x1_value
  have F_x1_count : Fld Z hA16 x1 "java/lang/AbstractStringBuilder" "count" "I" (.int 24) := P_F_x1_count
  have V_x5 : own_Ar Z hA16 x5 .byte (List.map own_lo [39, (own_sh e0), (own_sh e1), (own_sh e2), (own_sh e3), (own_sh e4), (own_sh e5), (own_sh e6), (own_sh e7), (own_sh e8), (own_sh e9), (own_sh e10), (own_sh e11), (own_sh e12), (own_sh e13), (own_sh e14), (own_sh e15), (own_sh e16), (own_sh e17), (own_sh e18), (own_sh e19), (own_sh e20), (own_sh e21), (own_sh e22), 0, 0, 0, 0, 0, 0, 0, 0, 0, 0, 0, 0]) := P_V_x5
  have hl_x5 : ([39, (own_sh e0), (own_sh e1), (own_sh e2), (own_sh e3), (own_sh e4), (own_sh e5), (own_sh e6), (own_sh e7), (own_sh e8), (own_sh e9), (own_sh e10), (own_sh e11), (own_sh e12), (own_sh e13), (own_sh e14), (own_sh e15), (own_sh e16), (own_sh e17), (own_sh e18), (own_sh e19), (own_sh e20), (own_sh e21), (own_sh e22), 0, 0, 0, 0, 0, 0, 0, 0, 0, 0, 0, 0] : List Int32).length = 36 := rfl
  have A17 : own_R p l e _ _ m _ below meth c S0 n0 hA16 5 65 (mkF m 12 #[.val (.ref s1), .val (.ref x1), .val (.int 23), .val (.int cA16)] []) := A16
  have A19 := A17.iN H dm5_12 rfl rfl |>.aN H dm5_13 rfl rfl rfl
  obtain ⟨vA18, hA18, ⟨rfl, rfl⟩, A18⟩ := A19.cV (own_len l Z a0 hw s1 b1 cs k 23 _ hA16 n0 Z0 SS.1 hcs E_s1 F_s1_coder F_s1_value V_b1 hok hlen rfl) E_s1 H hZ hown dm5_14 (oW hw 103 rfl) (kV17 hw) hml rfl rfl [(.int 23)] rfl rfl
  have A21 := A18.cl |>.bp H dm5_17 rfl 24 rfl
  obtain ⟨vA20, hA20, ⟨rfl, rfl⟩, A20⟩ := A21.cS (own_c68 l Z a0 hw hA16 n0 Z0) H hZ hown dm5_19 (oW hw 104 rfl) (kS26 hw) hml rfl rfl [(.int 23)] rfl rfl
  have A23 := A20.cl |>.cy H dm5_22 rfl rfl 60 (by decide) (by decide) |>.aN H dm5_60 rfl rfl rfl
  obtain ⟨vA22, hA22, ⟨rfl, rfl⟩, A22⟩ := A23.cV (own_len l Z a0 hw s1 b1 cs k 23 _ hA16 n0 Z0 SS.1 hcs E_s1 F_s1_coder F_s1_value V_b1 hok hlen rfl) E_s1 H hZ hown dm5_61 (oW hw 103 rfl) (kV17 hw) hml rfl rfl [] rfl rfl
  have A25 := A22.cl |>.bp H dm5_64 rfl 24 rfl |>.cy H dm5_66 rfl rfl 76 (by decide) (by decide) |>.aN H dm5_76 rfl rfl rfl |>.bp H dm5_77 rfl 39 rfl
  obtain ⟨vA24, hA24, ⟨rfl, KA24, P_F_x1_coder, P_F_x1_value, P_F_x1_count, P_V_x5, hl_x5⟩, A24⟩ := A25.cV (own_c90 l Z a0 hw x1 x5 (39 : Int32) (24 : Int32) _ cs hA16 n0 Z0 E_x1 F_x1_coder F_x1_value F_x1_count V_x5 SS.1 rfl hcs (by decide) (by decide) (by decide) (by decide) ne_x1_x5 ne_x5_x1 g_x1 g_x5) E_x1 H hZ hown dm5_79 (oW hw 108 rfl) (kV29 hw) hml rfl rfl [] rfl rfl
  have SX_x1 : Safe Z own_EL _ hA16 x1 := Safe.exa hZ.alike E_x1 (by decide) (by decide)
  have hsA : ∀ x ∈ ([x1, x5] : List Addr), Safe Z own_EL vmA6 hA16 x := (allS SX_x1 (allS SX_x5 all0))
  have HC := HC.trans (CHr.keep KA24 hsA HC.1)
  have hk := Nat.le_trans hk KA24.1
  have SS := SS.kp KA24 (allS (P := fun x => ∀ cell : Cell, hA16[x]? = some cell → cell.vm.isStatics = false) E_x1.nostat (allS (P := fun x => ∀ cell : Cell, hA16[x]? = some cell → cell.vm.isStatics = false) V_x5.nostat all0))
  have E_x1 := E_x1.keep KA24
  have Z0 := Nat.le_trans Z0 KA24.1
  have KK : Keep h0 hA24 [] := KK.trans KA24 (allS (P := fun x => x ∈ ([] : List Addr) ∨ h0.size ≤ x) (Or.inr sz_x1) (allS (P := fun x => x ∈ ([] : List Addr) ∨ h0.size ≤ x) (Or.inr sz_x5) all0))
  have F_x1_coder : Fld Z hA24 x1 "java/lang/AbstractStringBuilder" "coder" "B" (.int 0) := P_F_x1_coder
  have F_x1_value : Fld Z hA24 x1 "java/lang/AbstractStringBuilder" "value" "[B" (.ref x5) := P_F_x1_value
  have F_x1_count : Fld Z hA24 x1 "java/lang/AbstractStringBuilder" "count" "I" (.int 25) := P_F_x1_count
  have V_x5 : own_Ar Z hA24 x5 .byte (List.map own_lo [39, (own_sh e0), (own_sh e1), (own_sh e2), (own_sh e3), (own_sh e4), (own_sh e5), (own_sh e6), (own_sh e7), (own_sh e8), (own_sh e9), (own_sh e10), (own_sh e11), (own_sh e12), (own_sh e13), (own_sh e14), (own_sh e15), (own_sh e16), (own_sh e17), (own_sh e18), (own_sh e19), (own_sh e20), (own_sh e21), (own_sh e22), 39, 0, 0, 0, 0, 0, 0, 0, 0, 0, 0, 0]) := P_V_x5
  have A27 := A24.cl
  obtain ⟨vA26, hA26, ⟨x6, x7, rfl, KA26, zz_x6, zz_x7, ne_x7_x6, P_E_x6, P_F_x6_value, P_F_x6_coder, P_V_x7, hl_x7⟩, A26⟩ := A27.cV (own_c102 l Z a0 hw x1 x5 (25 : Int32) _ cs hA24 n0 Z0 E_x1 F_x1_coder F_x1_value F_x1_count V_x5 SS.1 rfl hcs (by decide) (by decide) (by decide) (by decide) (by decide)) E_x1 H hZ hown dm5_82 (oW hw 126 rfl) (kV37 hw) hml rfl rfl [] rfl rfl
  have sz_x6 : h0.size ≤ x6 := Nat.le_trans KK.1 zz_x6
  have sz_x7 : h0.size ≤ x7 := Nat.le_trans KK.1 zz_x7
  have hsA : ∀ x ∈ ([] : List Addr), Safe Z own_EL vmA6 hA24 x := all0
  have HC := HC.trans (CHr.keep KA26 hsA HC.1)
  have hk := Nat.le_trans hk KA26.1
  have KK : Keep h0 hA26 [] := KK.trans KA26 all0
  have E_x6 : Exa Z hA26 x6 "java/lang/String" := P_E_x6
  have F_x6_value : Fld Z hA26 x6 "java/lang/String" "value" "[B" (.ref x7) := P_F_x6_value
  have F_x6_coder : Fld Z hA26 x6 "java/lang/String" "coder" "B" (.int 0) := P_F_x6_coder
  have V_x7 : own_Ar Z hA26 x7 .byte (List.map own_lo [39, (own_sh e0), (own_sh e1), (own_sh e2), (own_sh e3), (own_sh e4), (own_sh e5), (own_sh e6), (own_sh e7), (own_sh e8), (own_sh e9), (own_sh e10), (own_sh e11), (own_sh e12), (own_sh e13), (own_sh e14), (own_sh e15), (own_sh e16), (own_sh e17), (own_sh e18), (own_sh e19), (own_sh e20), (own_sh e21), (own_sh e22), 39]) := P_V_x7
  have hl_x7 : ([39, (own_sh e0), (own_sh e1), (own_sh e2), (own_sh e3), (own_sh e4), (own_sh e5), (own_sh e6), (own_sh e7), (own_sh e8), (own_sh e9), (own_sh e10), (own_sh e11), (own_sh e12), (own_sh e13), (own_sh e14), (own_sh e15), (own_sh e16), (own_sh e17), (own_sh e18), (own_sh e19), (own_sh e20), (own_sh e21), (own_sh e22), 39] : List Int32).length = 25 := rfl
  have A28 := A26.cl
  exact A28.retSS hx hlk hZ hS hk hEL HC hret (hb hby dm5_85) rfl (Or.inr (Or.inr (Or.inr (Or.inr ⟨rfl, rfl, rfl⟩)))) (by decide) (by decide) ⟨x6, x7, rfl, KK, sz_x6, sz_x7, ne_x7_x6, E_x6, F_x6_value, F_x6_coder, V_x7, hl_x7⟩
theorem own_q24 (l : Launch) (Z : State) (a0 : Array Value) (hw : ∀ d ∈ tables_1, d.before a0 Z = true) (s1 b1 : Addr) (k e0 e1 e2 e3 e4 e5 e6 e7 e8 e9 e10 e11 e12 e13 e14 e15 e16 e17 e18 e19 e20 e21 e22 e23 : Int32) (cs : Int32) (fm : Value) (h0 : Heap) (n0 : Nat) (Z0 : n0 ≤ h0.size) (hEL : EW Z a0 own_EL) (own_wS : ∀ a ∈ Bundle.stringAtoms, a.before a0 Z = true) (E_s1 : Exa Z h0 s1 "java/lang/String") (F_s1_coder : Fld Z h0 s1 "java/lang/String" "coder" "B" (.int k)) (F_s1_value : Fld Z h0 s1 "java/lang/String" "value" "[B" (.ref b1)) (V_b1 : own_Ar Z h0 b1 .byte (own_by k [e0, e1, e2, e3, e4, e5, e6, e7, e8, e9, e10, e11, e12, e13, e14, e15, e16, e17, e18, e19, e20, e21, e22, e23])) (SS : own_ST Z h0 cs fm) (hcs : ¬ (cs = (0 : Int32))) (hfm : fm.isRef = true) (hok : own_ok k [e0, e1, e2, e3, e4, e5, e6, e7, e8, e9, e10, e11, e12, e13, e14, e15, e16, e17, e18, e19, e20, e21, e22, e23]) (hlen : ([e0, e1, e2, e3, e4, e5, e6, e7, e8, e9, e10, e11, e12, e13, e14, e15, e16, e17, e18, e19, e20, e21, e22, e23] : List Int32).length < 64) :
    own_MS l Z own_EL (⟨"com/example/paretolio/paretolio/RecordReader", "quote", "(Ljava/lang/String;)Ljava/lang/String;"⟩ : MethodName) prog_11_method_10_code 4 (some (.object "java/lang/String")) [] (⟨8, 9, 130, 117⟩ : Room) #[(.ref s1)] h0 n0 (fun v h => ∃ x6 x7 : Addr, v = some (.ref x6) ∧ Keep h0 h [] ∧ h0.size ≤ x6 ∧ h0.size ≤ x7 ∧ x7 ≠ x6 ∧ Exa Z h x6 "java/lang/String" ∧ Fld Z h x6 "java/lang/String" "value" "[B" (.ref x7) ∧ Fld Z h x6 "java/lang/String" "coder" "B" (.int 0) ∧ own_Ar Z h x7 .byte (List.map own_lo [39, (own_sh e0), (own_sh e1), (own_sh e2), (own_sh e3), (own_sh e4), (own_sh e5), (own_sh e6), (own_sh e7), (own_sh e8), (own_sh e9), (own_sh e10), (own_sh e11), (own_sh e12), (own_sh e13), (own_sh e14), (own_sh e15), (own_sh e16), (own_sh e17), (own_sh e18), (own_sh e19), (own_sh e20), (own_sh e21), (own_sh e22), (own_sh e23), 39]) ∧ ([39, (own_sh e0), (own_sh e1), (own_sh e2), (own_sh e3), (own_sh e4), (own_sh e5), (own_sh e6), (own_sh e7), (own_sh e8), (own_sh e9), (own_sh e10), (own_sh e11), (own_sh e12), (own_sh e13), (own_sh e14), (own_sh e15), (own_sh e16), (own_sh e17), (own_sh e18), (own_sh e19), (own_sh e20), (own_sh e21), (own_sh e22), (own_sh e23), 39] : List Int32).length = 26) := by
  refine own_MS.of pl50 ?_
  intro p e s m below meth c S0 vm0 k0 hx hby hml hown hnm hret hlk hZ hS hk HC A00
  have H : own_H p c _ := ⟨hx, hby⟩
  have A0 := A00.cast (f' := mkF m 0 #[.val (.ref s1), .unset, .unset, .unset] []) (by first | (simp [entryFrame, mkF, argsToLocals, Value.category, maxLocals]; done) | rfl)
  have KK : Keep h0 h0 ([] : List Addr) := Keep.refl _ _
  obtain ⟨h1, E2, E_x1, D_x1, A3⟩ := A0.newO hx hZ hown (hb hby dm5_0) (oW hw 31 rfl) (oW hw 32 rfl) (oW hw 33 rfl) (by decide) (by decide)
  obtain ⟨x1, gx1⟩ : ∃ z, z = h0.size := ⟨_, rfl⟩
  rw [← gx1] at E_x1 D_x1 A3
  have ne_s1_x1 : s1 ≠ x1 := by rw [gx1]; exact Nat.ne_of_lt E_s1.lt
  have ne_b1_x1 : b1 ≠ x1 := by rw [gx1]; exact Nat.ne_of_lt V_b1.lt
  have g_x1 : n0 ≤ x1 := by rw [gx1]; exact Z0
  have sz_x1 : h0.size ≤ x1 := by rw [gx1]; exact KK.1
  have E_s1 := E_s1.ext E2
  have F_s1_coder := F_s1_coder.ext E2
  have F_s1_value := F_s1_value.ext E2
  have V_b1 := V_b1.ext E2
  have SS := SS.ext E2
  have Z0 := Nat.le_trans Z0 E2.1
  have KK : Keep h0 h1 [] := KK.ext E2
  have HC := HC.trans (CHr.ext E2 HC.1)
  have hk := Nat.le_trans hk E2.1
  have F_x1_coder : Fld Z h1 x1 "java/lang/AbstractStringBuilder" "coder" "B" (.int 0) := D_x1 (Or.inl (oW hw 59 rfl)) (ty := .byte) (by decide)
  have F_x1_value : Fld Z h1 x1 "java/lang/AbstractStringBuilder" "value" "[B" .null := D_x1 (Or.inl (oW hw 61 rfl)) (ty := (.array .byte)) (by decide)
  have F_x1_count : Fld Z h1 x1 "java/lang/AbstractStringBuilder" "count" "I" (.int 0) := D_x1 (Or.inl (oW hw 77 rfl)) (ty := .int) (by decide)
  have A7 := A3.du H dm5_3 rfl rfl
  obtain ⟨x2, x3, vmA6, kA6, h4, E5, E_x2, F_x2_coder, F_x2_value, V_x3, ns_x2, hS, hk, hZ, hown, HCs, hLA6, A6⟩ := A7.ldcS hx hZ hown (hb hby dm5_4) (oW hw 34 rfl) own_wS hS hk hEL (by simp +decide [own_EL]) (CHr.refl HC.1) (vs := [(.int 39)]) (z := (1 : Int32)) ⟨by decide, by decide⟩ (by decide) (by decide) (n := 4) (by decide) (by decide) (by decide) (by decide)
  have HC := HC.trans HCs
  have E_s1 := E_s1.ext E5
  have F_s1_coder := F_s1_coder.ext E5
  have F_s1_value := F_s1_value.ext E5
  have V_b1 := V_b1.ext E5
  have SS := SS.ext E5
  have E_x1 := E_x1.ext E5
  have F_x1_coder := F_x1_coder.ext E5
  have F_x1_value := F_x1_value.ext E5
  have F_x1_count := F_x1_count.ext E5
  have Z0 := Nat.le_trans Z0 E5.1
  have KK : Keep h0 h4 [] := KK.ext E5
  have SX_x1 : Safe Z own_EL _ h4 x1 := Safe.exa hZ.alike E_x1 (by decide) (by decide)
  have ne_x1_x2 : x1 ≠ x2 := (ns_x2 _ SX_x1).1
  have ne_x2_x1 := Ne.symm ne_x1_x2
  have ne_x1_x3 : x1 ≠ x3 := (ns_x2 _ SX_x1).2
  have ne_x3_x1 := Ne.symm ne_x1_x3
  have V_x3 : own_Ar Z h4 x3 .byte (List.map own_lo [39]) := V_x3
  obtain ⟨vA8, hA8, ⟨x4, rfl, KA8, zz_x4, P_F_x1_coder, P_F_x1_value, P_F_x1_count, P_V_x4, hl_x4⟩, A8⟩ := A6.cI (own_c22 l Z a0 hw x1 x2 x3 _ cs h4 n0 Z0 E_x1 F_x1_coder F_x1_value F_x1_count E_x2 F_x2_coder F_x2_value V_x3 SS.1 rfl hcs ne_x2_x1 ne_x3_x1 g_x1) H hZ hown dm5_6 (oW hw 35 rfl) (kI25 hw) hml rfl rfl [(.ref x1)] rfl rfl
  have ne_s1_x4 : s1 ≠ x4 := Nat.ne_of_lt (Nat.lt_of_lt_of_le E_s1.lt zz_x4)
  have ne_b1_x4 : b1 ≠ x4 := Nat.ne_of_lt (Nat.lt_of_lt_of_le V_b1.lt zz_x4)
  have ne_x1_x4 : x1 ≠ x4 := Nat.ne_of_lt (Nat.lt_of_lt_of_le E_x1.lt zz_x4)
  have ne_x4_x1 := Ne.symm ne_x1_x4
  have g_x4 : n0 ≤ x4 := Nat.le_trans Z0 zz_x4
  have sz_x4 : h0.size ≤ x4 := Nat.le_trans KK.1 zz_x4
  have SX_x1 : Safe Z own_EL _ h4 x1 := Safe.exa hZ.alike E_x1 (by decide) (by decide)
  have hsA : ∀ x ∈ ([x1] : List Addr), Safe Z own_EL vmA6 h4 x := (allS SX_x1 all0)
  have SX_x4 := Safe.keep KA8 hsA HC.1 (Safe.new zz_x4)
  have HC := HC.trans (CHr.keep KA8 hsA HC.1)
  have hk := Nat.le_trans hk KA8.1
  have SS := SS.kp KA8 (allS (P := fun x => ∀ cell : Cell, h4[x]? = some cell → cell.vm.isStatics = false) E_x1.nostat all0)
  have E_s1 := E_s1.keep KA8
  have F_s1_coder := F_s1_coder.keep KA8 (ninS ne_s1_x1 nin0)
  have F_s1_value := F_s1_value.keep KA8 (ninS ne_s1_x1 nin0)
  have V_b1 := V_b1.keep KA8 (ninS ne_b1_x1 nin0)
  have E_x1 := E_x1.keep KA8
  have Z0 := Nat.le_trans Z0 KA8.1
  have KK : Keep h0 hA8 [] := KK.trans KA8 (allS (P := fun x => x ∈ ([] : List Addr) ∨ h0.size ≤ x) (Or.inr sz_x1) all0)
  have F_x1_coder : Fld Z hA8 x1 "java/lang/AbstractStringBuilder" "coder" "B" (.int 0) := P_F_x1_coder
  have F_x1_value : Fld Z hA8 x1 "java/lang/AbstractStringBuilder" "value" "[B" (.ref x4) := P_F_x1_value
  have F_x1_count : Fld Z hA8 x1 "java/lang/AbstractStringBuilder" "count" "I" (.int 1) := P_F_x1_count
  have V_x4 : own_Ar Z hA8 x4 .byte (List.map own_lo [39, 0, 0, 0, 0, 0, 0, 0, 0, 0, 0, 0, 0, 0, 0, 0, 0]) := P_V_x4
  have hl_x4 : ([39, 0, 0, 0, 0, 0, 0, 0, 0, 0, 0, 0, 0, 0, 0, 0, 0] : List Int32).length = 17 := rfl
  have A10 := A8.c0 |>.aM H dm5_9 rfl rfl #[.val (.ref s1), .val (.ref x1), .unset, .unset] rfl |>.ic H dm5_10 rfl 0 rfl |>.iM H dm5_11 rfl #[.val (.ref s1), .val (.ref x1), .val (.int 0), .unset] rfl
  obtain ⟨hA9, KA9, P_F_x1_coder, P_F_x1_value, P_F_x1_count, P_V_x4, hl_x4, A9⟩ := own_t17f l Z a0 hw (s.setVm vmA6) s1 b1 x1 x4 k cs 24 24 _ fm n0 _ e0 hA8 Z0 E_s1 F_s1_coder F_s1_value V_b1 SS E_x1 F_x1_coder F_x1_value F_x1_count V_x4 rfl hcs ne_b1_x1 ne_b1_x4 ne_s1_x1 ne_s1_x4 ne_x1_x4 ne_x4_x1 g_x1 g_x4 hfm hok hlen rfl (own_c104 l Z a0 hw) (by decide) rfl (by decide) hx hby hml hown hZ A10
  have SX_x1 : Safe Z own_EL _ hA8 x1 := Safe.exa hZ.alike E_x1 (by decide) (by decide)
  have hsA : ∀ x ∈ ([x1, x4] : List Addr), Safe Z own_EL vmA6 hA8 x := (allS SX_x1 (allS SX_x4 all0))
  have SX_x4 := Safe.keep KA9 hsA HC.1 SX_x4
  have HC := HC.trans (CHr.keep KA9 hsA HC.1)
  have hk := Nat.le_trans hk KA9.1
  have SS := SS.kp KA9 (allS (P := fun x => ∀ cell : Cell, hA8[x]? = some cell → cell.vm.isStatics = false) E_x1.nostat (allS (P := fun x => ∀ cell : Cell, hA8[x]? = some cell → cell.vm.isStatics = false) V_x4.nostat all0))
  have E_s1 := E_s1.keep KA9
  have F_s1_coder := F_s1_coder.keep KA9 (ninS ne_s1_x1 (ninS ne_s1_x4 nin0))
  have F_s1_value := F_s1_value.keep KA9 (ninS ne_s1_x1 (ninS ne_s1_x4 nin0))
  have V_b1 := V_b1.keep KA9 (ninS ne_b1_x1 (ninS ne_b1_x4 nin0))
  have E_x1 := E_x1.keep KA9
  have Z0 := Nat.le_trans Z0 KA9.1
  have KK : Keep h0 hA9 [] := KK.trans KA9 (allS (P := fun x => x ∈ ([] : List Addr) ∨ h0.size ≤ x) (Or.inr sz_x1) (allS (P := fun x => x ∈ ([] : List Addr) ∨ h0.size ≤ x) (Or.inr sz_x4) all0))
  have F_x1_coder : Fld Z hA9 x1 "java/lang/AbstractStringBuilder" "coder" "B" (.int 0) := P_F_x1_coder
  have F_x1_value : Fld Z hA9 x1 "java/lang/AbstractStringBuilder" "value" "[B" (.ref x4) := P_F_x1_value
  have F_x1_count : Fld Z hA9 x1 "java/lang/AbstractStringBuilder" "count" "I" (.int 2) := P_F_x1_count
  have V_x4 : own_Ar Z hA9 x4 .byte (List.map own_lo [39, (own_sh e0), 0, 0, 0, 0, 0, 0, 0, 0, 0, 0, 0, 0, 0, 0, 0]) := P_V_x4
  have hl_x4 : ([39, (own_sh e0), 0, 0, 0, 0, 0, 0, 0, 0, 0, 0, 0, 0, 0, 0, 0] : List Int32).length = 17 := rfl
  have A11 : own_R p l e _ _ m _ below meth c S0 n0 hA9 4 29 (mkF m 12 #[.val (.ref s1), .val (.ref x1), .val (.int 1), .val (.int e0)] []) := A9
  obtain ⟨cA12, hA12, KA12, P_F_x1_coder, P_F_x1_value, P_F_x1_count, P_V_x4, hl_x4, A12⟩ := own_lp17 l Z a0 hw (s.setVm vmA6) s1 b1 x1 x4 k cs 24 24 _ fm n0 24 rfl (by show (24 : Nat) ≤ 24; decide) hcs ne_b1_x1 ne_b1_x4 ne_s1_x1 ne_s1_x4 ne_x1_x4 ne_x4_x1 g_x1 g_x4 hfm hok hlen rfl (own_c104 l Z a0 hw) hx hby hml hown hZ 15 1 _ e0 hA9 (by decide) (by decide) Z0 SS E_s1 F_s1_coder F_s1_value V_b1 E_x1 F_x1_coder F_x1_value F_x1_count V_x4 rfl A11
  have SX_x1 : Safe Z own_EL _ hA9 x1 := Safe.exa hZ.alike E_x1 (by decide) (by decide)
  have hsA : ∀ x ∈ ([x1, x4] : List Addr), Safe Z own_EL vmA6 hA9 x := (allS SX_x1 (allS SX_x4 all0))
  have HC := HC.trans (CHr.keep KA12 hsA HC.1)
  have hk := Nat.le_trans hk KA12.1
  have SS := SS.kp KA12 (allS (P := fun x => ∀ cell : Cell, hA9[x]? = some cell → cell.vm.isStatics = false) E_x1.nostat (allS (P := fun x => ∀ cell : Cell, hA9[x]? = some cell → cell.vm.isStatics = false) V_x4.nostat all0))
  have E_s1 := E_s1.keep KA12
  have F_s1_coder := F_s1_coder.keep KA12 (ninS ne_s1_x1 (ninS ne_s1_x4 nin0))
  have F_s1_value := F_s1_value.keep KA12 (ninS ne_s1_x1 (ninS ne_s1_x4 nin0))
  have V_b1 := V_b1.keep KA12 (ninS ne_b1_x1 (ninS ne_b1_x4 nin0))
  have E_x1 := E_x1.keep KA12
  have Z0 := Nat.le_trans Z0 KA12.1
  have KK : Keep h0 hA12 [] := KK.trans KA12 (allS (P := fun x => x ∈ ([] : List Addr) ∨ h0.size ≤ x) (Or.inr sz_x1) (allS (P := fun x => x ∈ ([] : List Addr) ∨ h0.size ≤ x) (Or.inr sz_x4) all0))
  have F_x1_coder : Fld Z hA12 x1 "java/lang/AbstractStringBuilder" "coder" "B" (.int 0) := P_F_x1_coder
  have F_x1_value : Fld Z hA12 x1 "java/lang/AbstractStringBuilder" "value" "[B" (.ref x4) := P_F_x1_value
  have F_x1_count : Fld Z hA12 x1 "java/lang/AbstractStringBuilder" "count" "I" (.int 17) := P_F_x1_count
  have V_x4 : own_Ar Z hA12 x4 .byte (List.map own_lo [39, (own_sh e0), (own_sh e1), (own_sh e2), (own_sh e3), (own_sh e4), (own_sh e5), (own_sh e6), (own_sh e7), (own_sh e8), (own_sh e9), (own_sh e10), (own_sh e11), (own_sh e12), (own_sh e13), (own_sh e14), (own_sh e15)]) := P_V_x4
  have A13 : own_R p l e _ _ m _ below meth c S0 n0 hA12 4 29 (mkF m 12 #[.val (.ref s1), .val (.ref x1), .val (.int 16), .val (.int cA12)] []) := A12
  obtain ⟨x5, hA14, KA14, zz_x5, P_F_x1_coder, P_F_x1_value, P_F_x1_count, P_V_x5, hl_x5, A14⟩ := own_t17g l Z a0 hw (s.setVm vmA6) s1 b1 x1 x4 k cs 24 24 _ fm n0 _ cA12 e16 hA12 Z0 E_s1 F_s1_coder F_s1_value V_b1 SS E_x1 F_x1_coder F_x1_value F_x1_count V_x4 rfl hcs ne_b1_x1 ne_s1_x1 ne_x4_x1 g_x1 hfm hok hlen rfl (own_c104 l Z a0 hw) (by decide) rfl (by decide) hx hby hml hown hZ A13
  have ne_s1_x5 : s1 ≠ x5 := Nat.ne_of_lt (Nat.lt_of_lt_of_le E_s1.lt zz_x5)
  have ne_b1_x5 : b1 ≠ x5 := Nat.ne_of_lt (Nat.lt_of_lt_of_le V_b1.lt zz_x5)
  have ne_x1_x5 : x1 ≠ x5 := Nat.ne_of_lt (Nat.lt_of_lt_of_le E_x1.lt zz_x5)
  have ne_x5_x1 := Ne.symm ne_x1_x5
  have g_x5 : n0 ≤ x5 := Nat.le_trans Z0 zz_x5
  have sz_x5 : h0.size ≤ x5 := Nat.le_trans KK.1 zz_x5
  have SX_x1 : Safe Z own_EL _ hA12 x1 := Safe.exa hZ.alike E_x1 (by decide) (by decide)
  have hsA : ∀ x ∈ ([x1] : List Addr), Safe Z own_EL vmA6 hA12 x := (allS SX_x1 all0)
  have SX_x5 := Safe.keep KA14 hsA HC.1 (Safe.new zz_x5)
  have HC := HC.trans (CHr.keep KA14 hsA HC.1)
  have hk := Nat.le_trans hk KA14.1
  have SS := SS.kp KA14 (allS (P := fun x => ∀ cell : Cell, hA12[x]? = some cell → cell.vm.isStatics = false) E_x1.nostat all0)
  have E_s1 := E_s1.keep KA14
  have F_s1_coder := F_s1_coder.keep KA14 (ninS ne_s1_x1 nin0)
  have F_s1_value := F_s1_value.keep KA14 (ninS ne_s1_x1 nin0)
  have V_b1 := V_b1.keep KA14 (ninS ne_b1_x1 nin0)
  have E_x1 := E_x1.keep KA14
  have Z0 := Nat.le_trans Z0 KA14.1
  have KK : Keep h0 hA14 [] := KK.trans KA14 (allS (P := fun x => x ∈ ([] : List Addr) ∨ h0.size ≤ x) (Or.inr sz_x1) all0)
  have F_x1_coder : Fld Z hA14 x1 "java/lang/AbstractStringBuilder" "coder" "B" (.int 0) := P_F_x1_coder
  have F_x1_value : Fld Z hA14 x1 "java/lang/AbstractStringBuilder" "value" "[B" (.ref x5) := P_F_x1_value
  have F_x1_count : Fld Z hA14 x1 "java/lang/AbstractStringBuilder" "count" "I" (.int 18) := P_F_x1_count
  have V_x5 : own_Ar Z hA14 x5 .byte (List.map own_lo [39, (own_sh e0), (own_sh e1), (own_sh e2), (own_sh e3), (own_sh e4), (own_sh e5), (own_sh e6), (own_sh e7), (own_sh e8), (own_sh e9), (own_sh e10), (own_sh e11), (own_sh e12), (own_sh e13), (own_sh e14), (own_sh e15), (own_sh e16), 0, 0, 0, 0, 0, 0, 0, 0, 0, 0, 0, 0, 0, 0, 0, 0, 0, 0]) := P_V_x5
  have hl_x5 : ([39, (own_sh e0), (own_sh e1), (own_sh e2), (own_sh e3), (own_sh e4), (own_sh e5), (own_sh e6), (own_sh e7), (own_sh e8), (own_sh e9), (own_sh e10), (own_sh e11), (own_sh e12), (own_sh e13), (own_sh e14), (own_sh e15), (own_sh e16), 0, 0, 0, 0, 0, 0, 0, 0, 0, 0, 0, 0, 0, 0, 0, 0, 0, 0] : List Int32).length = 36 := rfl
  have A15 : own_R p l e _ _ m _ below meth c S0 n0 hA14 5 65 (mkF m 12 #[.val (.ref s1), .val (.ref x1), .val (.int 17), .val (.int e16)] []) := A14
  obtain ⟨cA16, hA16, KA16, P_F_x1_coder, P_F_x1_value, P_F_x1_count, P_V_x5, hl_x5, A16⟩ := own_lp36 l Z a0 hw (s.setVm vmA6) s1 b1 x1 x5 k cs 24 24 _ fm n0 24 rfl (by show (24 : Nat) ≤ 24; decide) hcs ne_b1_x1 ne_b1_x5 ne_s1_x1 ne_s1_x5 ne_x1_x5 ne_x5_x1 g_x1 g_x5 hfm hok hlen rfl (own_c104 l Z a0 hw) hx hby hml hown hZ 7 17 _ e16 hA14 (by decide) (by decide) Z0 SS E_s1 F_s1_coder F_s1_value V_b1 E_x1 F_x1_coder F_x1_value F_x1_count V_x5 rfl A15
  have SX_x1 : Safe Z own_EL _ hA14 x1 := Safe.exa hZ.alike E_x1 (by decide) (by decide)
  have hsA : ∀ x ∈ ([x1, x5] : List Addr), Safe Z own_EL vmA6 hA14 x := (allS SX_x1 (allS SX_x5 all0))
  have SX_x5 := Safe.keep KA16 hsA HC.1 SX_x5
  have HC := HC.trans (CHr.keep KA16 hsA HC.1)
  have hk := Nat.le_trans hk KA16.1
  have SS := SS.kp KA16 (allS (P := fun x => ∀ cell : Cell, hA14[x]? = some cell → cell.vm.isStatics = false) E_x1.nostat (allS (P := fun x => ∀ cell : Cell, hA14[x]? = some cell → cell.vm.isStatics = false) V_x5.nostat all0))
  have E_s1 := E_s1.keep KA16
  have F_s1_coder := F_s1_coder.keep KA16 (ninS ne_s1_x1 (ninS ne_s1_x5 nin0))
  have F_s1_value := F_s1_value.keep KA16 (ninS ne_s1_x1 (ninS ne_s1_x5 nin0))
  have V_b1 := V_b1.keep KA16 (ninS ne_b1_x1 (ninS ne_b1_x5 nin0))
  have E_x1 := E_x1.keep KA16
  have Z0 := Nat.le_trans Z0 KA16.1
  have KK : Keep h0 hA16 [] := KK.trans KA16 (allS (P := fun x => x ∈ ([] : List Addr) ∨ h0.size ≤ x) (Or.inr sz_x1) (allS (P := fun x => x ∈ ([] : List Addr) ∨ h0.size ≤ x) (Or.inr sz_x5) all0))
  have F_x1_coder : Fld Z hA16 x1 "java/lang/AbstractStringBuilder" "coder" "B" (.int 0) := P_F_x1_coder
  have F_x1_value : Fld Z hA16 x1 "java/lang/AbstractStringBuilder" "value" "[B" (.ref x5) := P_F_x1_value
  have F_x1_count : Fld Z hA16 x1 "java/lang/AbstractStringBuilder" "count" "I" (.int 25) := P_F_x1_count
  have V_x5 : own_Ar Z hA16 x5 .byte (List.map own_lo [39, (own_sh e0), (own_sh e1), (own_sh e2), (own_sh e3), (own_sh e4), (own_sh e5), (own_sh e6), (own_sh e7), (own_sh e8), (own_sh e9), (own_sh e10), (own_sh e11), (own_sh e12), (own_sh e13), (own_sh e14), (own_sh e15), (own_sh e16), (own_sh e17), (own_sh e18), (own_sh e19), (own_sh e20), (own_sh e21), (own_sh e22), (own_sh e23), 0, 0, 0, 0, 0, 0, 0, 0, 0, 0, 0]) := P_V_x5
  have hl_x5 : ([39, (own_sh e0), (own_sh e1), (own_sh e2), (own_sh e3), (own_sh e4), (own_sh e5), (own_sh e6), (own_sh e7), (own_sh e8), (own_sh e9), (own_sh e10), (own_sh e11), (own_sh e12), (own_sh e13), (own_sh e14), (own_sh e15), (own_sh e16), (own_sh e17), (own_sh e18), (own_sh e19), (own_sh e20), (own_sh e21), (own_sh e22), (own_sh e23), 0, 0, 0, 0, 0, 0, 0, 0, 0, 0, 0] : List Int32).length = 36 := rfl
  have A17 : own_R p l e _ _ m _ below meth c S0 n0 hA16 5 65 (mkF m 12 #[.val (.ref s1), .val (.ref x1), .val (.int 24), .val (.int cA16)] []) := A16
  have A19 := A17.iN H dm5_12 rfl rfl |>.aN H dm5_13 rfl rfl rfl
  obtain ⟨vA18, hA18, ⟨rfl, rfl⟩, A18⟩ := A19.cV (own_len l Z a0 hw s1 b1 cs k 24 _ hA16 n0 Z0 SS.1 hcs E_s1 F_s1_coder F_s1_value V_b1 hok hlen rfl) E_s1 H hZ hown dm5_14 (oW hw 103 rfl) (kV17 hw) hml rfl rfl [(.int 24)] rfl rfl
  have A21 := A18.cl |>.bp H dm5_17 rfl 24 rfl
  obtain ⟨vA20, hA20, ⟨rfl, rfl⟩, A20⟩ := A21.cS (own_c104 l Z a0 hw hA16 n0 Z0) H hZ hown dm5_19 (oW hw 104 rfl) (kS26 hw) hml rfl rfl [(.int 24)] rfl rfl
  have A23 := A20.cl |>.cy H dm5_22 rfl rfl 60 (by decide) (by decide) |>.aN H dm5_60 rfl rfl rfl
  obtain ⟨vA22, hA22, ⟨rfl, rfl⟩, A22⟩ := A23.cV (own_len l Z a0 hw s1 b1 cs k 24 _ hA16 n0 Z0 SS.1 hcs E_s1 F_s1_coder F_s1_value V_b1 hok hlen rfl) E_s1 H hZ hown dm5_61 (oW hw 103 rfl) (kV17 hw) hml rfl rfl [] rfl rfl
  have A25 := A22.cl |>.bp H dm5_64 rfl 24 rfl |>.cy H dm5_66 rfl rfl 76 (by decide) (by decide) |>.aN H dm5_76 rfl rfl rfl |>.bp H dm5_77 rfl 39 rfl
  obtain ⟨vA24, hA24, ⟨rfl, KA24, P_F_x1_coder, P_F_x1_value, P_F_x1_count, P_V_x5, hl_x5⟩, A24⟩ := A25.cV (own_c90 l Z a0 hw x1 x5 (39 : Int32) (25 : Int32) _ cs hA16 n0 Z0 E_x1 F_x1_coder F_x1_value F_x1_count V_x5 SS.1 rfl hcs (by decide) (by decide) (by decide) (by decide) ne_x1_x5 ne_x5_x1 g_x1 g_x5) E_x1 H hZ hown dm5_79 (oW hw 108 rfl) (kV29 hw) hml rfl rfl [] rfl rfl
  have SX_x1 : Safe Z own_EL _ hA16 x1 := Safe.exa hZ.alike E_x1 (by decide) (by decide)
  have hsA : ∀ x ∈ ([x1, x5] : List Addr), Safe Z own_EL vmA6 hA16 x := (allS SX_x1 (allS SX_x5 all0))
  have HC := HC.trans (CHr.keep KA24 hsA HC.1)
  have hk := Nat.le_trans hk KA24.1
  have SS := SS.kp KA24 (allS (P := fun x => ∀ cell : Cell, hA16[x]? = some cell → cell.vm.isStatics = false) E_x1.nostat (allS (P := fun x => ∀ cell : Cell, hA16[x]? = some cell → cell.vm.isStatics = false) V_x5.nostat all0))
  have E_x1 := E_x1.keep KA24
  have Z0 := Nat.le_trans Z0 KA24.1
  have KK : Keep h0 hA24 [] := KK.trans KA24 (allS (P := fun x => x ∈ ([] : List Addr) ∨ h0.size ≤ x) (Or.inr sz_x1) (allS (P := fun x => x ∈ ([] : List Addr) ∨ h0.size ≤ x) (Or.inr sz_x5) all0))
  have F_x1_coder : Fld Z hA24 x1 "java/lang/AbstractStringBuilder" "coder" "B" (.int 0) := P_F_x1_coder
  have F_x1_value : Fld Z hA24 x1 "java/lang/AbstractStringBuilder" "value" "[B" (.ref x5) := P_F_x1_value
  have F_x1_count : Fld Z hA24 x1 "java/lang/AbstractStringBuilder" "count" "I" (.int 26) := P_F_x1_count
  have V_x5 : own_Ar Z hA24 x5 .byte (List.map own_lo [39, (own_sh e0), (own_sh e1), (own_sh e2), (own_sh e3), (own_sh e4), (own_sh e5), (own_sh e6), (own_sh e7), (own_sh e8), (own_sh e9), (own_sh e10), (own_sh e11), (own_sh e12), (own_sh e13), (own_sh e14), (own_sh e15), (own_sh e16), (own_sh e17), (own_sh e18), (own_sh e19), (own_sh e20), (own_sh e21), (own_sh e22), (own_sh e23), 39, 0, 0, 0, 0, 0, 0, 0, 0, 0, 0]) := P_V_x5
  have A27 := A24.cl
  obtain ⟨vA26, hA26, ⟨x6, x7, rfl, KA26, zz_x6, zz_x7, ne_x7_x6, P_E_x6, P_F_x6_value, P_F_x6_coder, P_V_x7, hl_x7⟩, A26⟩ := A27.cV (own_c102 l Z a0 hw x1 x5 (26 : Int32) _ cs hA24 n0 Z0 E_x1 F_x1_coder F_x1_value F_x1_count V_x5 SS.1 rfl hcs (by decide) (by decide) (by decide) (by decide) (by decide)) E_x1 H hZ hown dm5_82 (oW hw 126 rfl) (kV37 hw) hml rfl rfl [] rfl rfl
  have sz_x6 : h0.size ≤ x6 := Nat.le_trans KK.1 zz_x6
  have sz_x7 : h0.size ≤ x7 := Nat.le_trans KK.1 zz_x7
  have hsA : ∀ x ∈ ([] : List Addr), Safe Z own_EL vmA6 hA24 x := all0
  have HC := HC.trans (CHr.keep KA26 hsA HC.1)
  have hk := Nat.le_trans hk KA26.1
  have KK : Keep h0 hA26 [] := KK.trans KA26 all0
  have E_x6 : Exa Z hA26 x6 "java/lang/String" := P_E_x6
  have F_x6_value : Fld Z hA26 x6 "java/lang/String" "value" "[B" (.ref x7) := P_F_x6_value
  have F_x6_coder : Fld Z hA26 x6 "java/lang/String" "coder" "B" (.int 0) := P_F_x6_coder
  have V_x7 : own_Ar Z hA26 x7 .byte (List.map own_lo [39, (own_sh e0), (own_sh e1), (own_sh e2), (own_sh e3), (own_sh e4), (own_sh e5), (own_sh e6), (own_sh e7), (own_sh e8), (own_sh e9), (own_sh e10), (own_sh e11), (own_sh e12), (own_sh e13), (own_sh e14), (own_sh e15), (own_sh e16), (own_sh e17), (own_sh e18), (own_sh e19), (own_sh e20), (own_sh e21), (own_sh e22), (own_sh e23), 39]) := P_V_x7
  have hl_x7 : ([39, (own_sh e0), (own_sh e1), (own_sh e2), (own_sh e3), (own_sh e4), (own_sh e5), (own_sh e6), (own_sh e7), (own_sh e8), (own_sh e9), (own_sh e10), (own_sh e11), (own_sh e12), (own_sh e13), (own_sh e14), (own_sh e15), (own_sh e16), (own_sh e17), (own_sh e18), (own_sh e19), (own_sh e20), (own_sh e21), (own_sh e22), (own_sh e23), 39] : List Int32).length = 26 := rfl
  have A28 := A26.cl
  exact A28.retSS hx hlk hZ hS hk hEL HC hret (hb hby dm5_85) rfl (Or.inr (Or.inr (Or.inr (Or.inr ⟨rfl, rfl, rfl⟩)))) (by decide) (by decide) ⟨x6, x7, rfl, KK, sz_x6, sz_x7, ne_x7_x6, E_x6, F_x6_value, F_x6_coder, V_x7, hl_x7⟩
theorem own_q25 (l : Launch) (Z : State) (a0 : Array Value) (hw : ∀ d ∈ tables_1, d.before a0 Z = true) (s1 b1 : Addr) (k e0 e1 e2 e3 e4 e5 e6 e7 e8 e9 e10 e11 e12 e13 e14 e15 e16 e17 e18 e19 e20 e21 e22 e23 e24 : Int32) (cs : Int32) (fm : Value) (h0 : Heap) (n0 : Nat) (Z0 : n0 ≤ h0.size) (hEL : EW Z a0 own_EL) (own_wS : ∀ a ∈ Bundle.stringAtoms, a.before a0 Z = true) (E_s1 : Exa Z h0 s1 "java/lang/String") (F_s1_coder : Fld Z h0 s1 "java/lang/String" "coder" "B" (.int k)) (F_s1_value : Fld Z h0 s1 "java/lang/String" "value" "[B" (.ref b1)) (V_b1 : own_Ar Z h0 b1 .byte (own_by k [e0, e1, e2, e3, e4, e5, e6, e7, e8, e9, e10, e11, e12, e13, e14, e15, e16, e17, e18, e19, e20, e21, e22, e23, e24])) (SS : own_ST Z h0 cs fm) (hcs : ¬ (cs = (0 : Int32))) (hfm : fm.isRef = true) (hok : own_ok k [e0, e1, e2, e3, e4, e5, e6, e7, e8, e9, e10, e11, e12, e13, e14, e15, e16, e17, e18, e19, e20, e21, e22, e23, e24]) (hlen : ([e0, e1, e2, e3, e4, e5, e6, e7, e8, e9, e10, e11, e12, e13, e14, e15, e16, e17, e18, e19, e20, e21, e22, e23, e24] : List Int32).length < 64) :
    own_MS l Z own_EL (⟨"com/example/paretolio/paretolio/RecordReader", "quote", "(Ljava/lang/String;)Ljava/lang/String;"⟩ : MethodName) prog_11_method_10_code 4 (some (.object "java/lang/String")) [] (⟨8, 9, 130, 117⟩ : Room) #[(.ref s1)] h0 n0 (fun v h => ∃ x8 x9 : Addr, v = some (.ref x8) ∧ Keep h0 h [] ∧ h0.size ≤ x8 ∧ h0.size ≤ x9 ∧ x9 ≠ x8 ∧ Exa Z h x8 "java/lang/String" ∧ Fld Z h x8 "java/lang/String" "value" "[B" (.ref x9) ∧ Fld Z h x8 "java/lang/String" "coder" "B" (.int 0) ∧ own_Ar Z h x9 .byte (List.map own_lo [39, (own_sh e0), (own_sh e1), (own_sh e2), (own_sh e3), (own_sh e4), (own_sh e5), (own_sh e6), (own_sh e7), (own_sh e8), (own_sh e9), (own_sh e10), (own_sh e11), (own_sh e12), (own_sh e13), (own_sh e14), (own_sh e15), (own_sh e16), (own_sh e17), (own_sh e18), (own_sh e19), (own_sh e20), (own_sh e21), (own_sh e22), (own_sh e23), 46, 46, 46, 39]) ∧ ([39, (own_sh e0), (own_sh e1), (own_sh e2), (own_sh e3), (own_sh e4), (own_sh e5), (own_sh e6), (own_sh e7), (own_sh e8), (own_sh e9), (own_sh e10), (own_sh e11), (own_sh e12), (own_sh e13), (own_sh e14), (own_sh e15), (own_sh e16), (own_sh e17), (own_sh e18), (own_sh e19), (own_sh e20), (own_sh e21), (own_sh e22), (own_sh e23), 46, 46, 46, 39] : List Int32).length = 29) := by
  refine own_MS.of pl50 ?_
  intro p e s m below meth c S0 vm0 k0 hx hby hml hown hnm hret hlk hZ hS hk HC A00
  have H : own_H p c _ := ⟨hx, hby⟩
  have A0 := A00.cast (f' := mkF m 0 #[.val (.ref s1), .unset, .unset, .unset] []) (by first | (simp [entryFrame, mkF, argsToLocals, Value.category, maxLocals]; done) | rfl)
  have KK : Keep h0 h0 ([] : List Addr) := Keep.refl _ _
  obtain ⟨h1, E2, E_x1, D_x1, A3⟩ := A0.newO hx hZ hown (hb hby dm5_0) (oW hw 31 rfl) (oW hw 32 rfl) (oW hw 33 rfl) (by decide) (by decide)
  obtain ⟨x1, gx1⟩ : ∃ z, z = h0.size := ⟨_, rfl⟩
  rw [← gx1] at E_x1 D_x1 A3
  have ne_s1_x1 : s1 ≠ x1 := by rw [gx1]; exact Nat.ne_of_lt E_s1.lt
  have ne_b1_x1 : b1 ≠ x1 := by rw [gx1]; exact Nat.ne_of_lt V_b1.lt
  have g_x1 : n0 ≤ x1 := by rw [gx1]; exact Z0
  have sz_x1 : h0.size ≤ x1 := by rw [gx1]; exact KK.1
  have E_s1 := E_s1.ext E2
  have F_s1_coder := F_s1_coder.ext E2
  have F_s1_value := F_s1_value.ext E2
  have V_b1 := V_b1.ext E2
  have SS := SS.ext E2
  have Z0 := Nat.le_trans Z0 E2.1
  have KK : Keep h0 h1 [] := KK.ext E2
  have HC := HC.trans (CHr.ext E2 HC.1)
  have hk := Nat.le_trans hk E2.1
  have F_x1_coder : Fld Z h1 x1 "java/lang/AbstractStringBuilder" "coder" "B" (.int 0) := D_x1 (Or.inl (oW hw 59 rfl)) (ty := .byte) (by decide)
  have F_x1_value : Fld Z h1 x1 "java/lang/AbstractStringBuilder" "value" "[B" .null := D_x1 (Or.inl (oW hw 61 rfl)) (ty := (.array .byte)) (by decide)
  have F_x1_count : Fld Z h1 x1 "java/lang/AbstractStringBuilder" "count" "I" (.int 0) := D_x1 (Or.inl (oW hw 77 rfl)) (ty := .int) (by decide)
  have A7 := A3.du H dm5_3 rfl rfl
  obtain ⟨x2, x3, vmA6, kA6, h4, E5, E_x2, F_x2_coder, F_x2_value, V_x3, ns_x2, hS, hk, hZ, hown, HCs, hLA6, A6⟩ := A7.ldcS hx hZ hown (hb hby dm5_4) (oW hw 34 rfl) own_wS hS hk hEL (by simp +decide [own_EL]) (CHr.refl HC.1) (vs := [(.int 39)]) (z := (1 : Int32)) ⟨by decide, by decide⟩ (by decide) (by decide) (n := 4) (by decide) (by decide) (by decide) (by decide)
  have HC := HC.trans HCs
  have E_s1 := E_s1.ext E5
  have F_s1_coder := F_s1_coder.ext E5
  have F_s1_value := F_s1_value.ext E5
  have V_b1 := V_b1.ext E5
  have SS := SS.ext E5
  have E_x1 := E_x1.ext E5
  have F_x1_coder := F_x1_coder.ext E5
  have F_x1_value := F_x1_value.ext E5
  have F_x1_count := F_x1_count.ext E5
  have Z0 := Nat.le_trans Z0 E5.1
  have KK : Keep h0 h4 [] := KK.ext E5
  have SX_x1 : Safe Z own_EL _ h4 x1 := Safe.exa hZ.alike E_x1 (by decide) (by decide)
  have ne_x1_x2 : x1 ≠ x2 := (ns_x2 _ SX_x1).1
  have ne_x2_x1 := Ne.symm ne_x1_x2
  have ne_x1_x3 : x1 ≠ x3 := (ns_x2 _ SX_x1).2
  have ne_x3_x1 := Ne.symm ne_x1_x3
  have V_x3 : own_Ar Z h4 x3 .byte (List.map own_lo [39]) := V_x3
  obtain ⟨vA8, hA8, ⟨x4, rfl, KA8, zz_x4, P_F_x1_coder, P_F_x1_value, P_F_x1_count, P_V_x4, hl_x4⟩, A8⟩ := A6.cI (own_c22 l Z a0 hw x1 x2 x3 _ cs h4 n0 Z0 E_x1 F_x1_coder F_x1_value F_x1_count E_x2 F_x2_coder F_x2_value V_x3 SS.1 rfl hcs ne_x2_x1 ne_x3_x1 g_x1) H hZ hown dm5_6 (oW hw 35 rfl) (kI25 hw) hml rfl rfl [(.ref x1)] rfl rfl
  have ne_s1_x4 : s1 ≠ x4 := Nat.ne_of_lt (Nat.lt_of_lt_of_le E_s1.lt zz_x4)
  have ne_b1_x4 : b1 ≠ x4 := Nat.ne_of_lt (Nat.lt_of_lt_of_le V_b1.lt zz_x4)
  have ne_x1_x4 : x1 ≠ x4 := Nat.ne_of_lt (Nat.lt_of_lt_of_le E_x1.lt zz_x4)
  have ne_x4_x1 := Ne.symm ne_x1_x4
  have g_x4 : n0 ≤ x4 := Nat.le_trans Z0 zz_x4
  have sz_x4 : h0.size ≤ x4 := Nat.le_trans KK.1 zz_x4
  have SX_x1 : Safe Z own_EL _ h4 x1 := Safe.exa hZ.alike E_x1 (by decide) (by decide)
  have hsA : ∀ x ∈ ([x1] : List Addr), Safe Z own_EL vmA6 h4 x := (allS SX_x1 all0)
  have SX_x4 := Safe.keep KA8 hsA HC.1 (Safe.new zz_x4)
  have HC := HC.trans (CHr.keep KA8 hsA HC.1)
  have hk := Nat.le_trans hk KA8.1
  have SS := SS.kp KA8 (allS (P := fun x => ∀ cell : Cell, h4[x]? = some cell → cell.vm.isStatics = false) E_x1.nostat all0)
  have E_s1 := E_s1.keep KA8
  have F_s1_coder := F_s1_coder.keep KA8 (ninS ne_s1_x1 nin0)
  have F_s1_value := F_s1_value.keep KA8 (ninS ne_s1_x1 nin0)
  have V_b1 := V_b1.keep KA8 (ninS ne_b1_x1 nin0)
  have E_x1 := E_x1.keep KA8
  have Z0 := Nat.le_trans Z0 KA8.1
  have KK : Keep h0 hA8 [] := KK.trans KA8 (allS (P := fun x => x ∈ ([] : List Addr) ∨ h0.size ≤ x) (Or.inr sz_x1) all0)
  have F_x1_coder : Fld Z hA8 x1 "java/lang/AbstractStringBuilder" "coder" "B" (.int 0) := P_F_x1_coder
  have F_x1_value : Fld Z hA8 x1 "java/lang/AbstractStringBuilder" "value" "[B" (.ref x4) := P_F_x1_value
  have F_x1_count : Fld Z hA8 x1 "java/lang/AbstractStringBuilder" "count" "I" (.int 1) := P_F_x1_count
  have V_x4 : own_Ar Z hA8 x4 .byte (List.map own_lo [39, 0, 0, 0, 0, 0, 0, 0, 0, 0, 0, 0, 0, 0, 0, 0, 0]) := P_V_x4
  have hl_x4 : ([39, 0, 0, 0, 0, 0, 0, 0, 0, 0, 0, 0, 0, 0, 0, 0, 0] : List Int32).length = 17 := rfl
  have A10 := A8.c0 |>.aM H dm5_9 rfl rfl #[.val (.ref s1), .val (.ref x1), .unset, .unset] rfl |>.ic H dm5_10 rfl 0 rfl |>.iM H dm5_11 rfl #[.val (.ref s1), .val (.ref x1), .val (.int 0), .unset] rfl
  obtain ⟨hA9, KA9, P_F_x1_coder, P_F_x1_value, P_F_x1_count, P_V_x4, hl_x4, A9⟩ := own_t17f l Z a0 hw (s.setVm vmA6) s1 b1 x1 x4 k cs 25 24 _ fm n0 _ e0 hA8 Z0 E_s1 F_s1_coder F_s1_value V_b1 SS E_x1 F_x1_coder F_x1_value F_x1_count V_x4 rfl hcs ne_b1_x1 ne_b1_x4 ne_s1_x1 ne_s1_x4 ne_x1_x4 ne_x4_x1 g_x1 g_x4 hfm hok hlen rfl (own_c106 l Z a0 hw) (by decide) rfl (by decide) hx hby hml hown hZ A10
  have SX_x1 : Safe Z own_EL _ hA8 x1 := Safe.exa hZ.alike E_x1 (by decide) (by decide)
  have hsA : ∀ x ∈ ([x1, x4] : List Addr), Safe Z own_EL vmA6 hA8 x := (allS SX_x1 (allS SX_x4 all0))
  have SX_x4 := Safe.keep KA9 hsA HC.1 SX_x4
  have HC := HC.trans (CHr.keep KA9 hsA HC.1)
  have hk := Nat.le_trans hk KA9.1
  have SS := SS.kp KA9 (allS (P := fun x => ∀ cell : Cell, hA8[x]? = some cell → cell.vm.isStatics = false) E_x1.nostat (allS (P := fun x => ∀ cell : Cell, hA8[x]? = some cell → cell.vm.isStatics = false) V_x4.nostat all0))
  have E_s1 := E_s1.keep KA9
  have F_s1_coder := F_s1_coder.keep KA9 (ninS ne_s1_x1 (ninS ne_s1_x4 nin0))
  have F_s1_value := F_s1_value.keep KA9 (ninS ne_s1_x1 (ninS ne_s1_x4 nin0))
  have V_b1 := V_b1.keep KA9 (ninS ne_b1_x1 (ninS ne_b1_x4 nin0))
  have E_x1 := E_x1.keep KA9
  have Z0 := Nat.le_trans Z0 KA9.1
  have KK : Keep h0 hA9 [] := KK.trans KA9 (allS (P := fun x => x ∈ ([] : List Addr) ∨ h0.size ≤ x) (Or.inr sz_x1) (allS (P := fun x => x ∈ ([] : List Addr) ∨ h0.size ≤ x) (Or.inr sz_x4) all0))
  have F_x1_coder : Fld Z hA9 x1 "java/lang/AbstractStringBuilder" "coder" "B" (.int 0) := P_F_x1_coder
  have F_x1_value : Fld Z hA9 x1 "java/lang/AbstractStringBuilder" "value" "[B" (.ref x4) := P_F_x1_value
  have F_x1_count : Fld Z hA9 x1 "java/lang/AbstractStringBuilder" "count" "I" (.int 2) := P_F_x1_count
  have V_x4 : own_Ar Z hA9 x4 .byte (List.map own_lo [39, (own_sh e0), 0, 0, 0, 0, 0, 0, 0, 0, 0, 0, 0, 0, 0, 0, 0]) := P_V_x4
  have hl_x4 : ([39, (own_sh e0), 0, 0, 0, 0, 0, 0, 0, 0, 0, 0, 0, 0, 0, 0, 0] : List Int32).length = 17 := rfl
  have A11 : own_R p l e _ _ m _ below meth c S0 n0 hA9 4 29 (mkF m 12 #[.val (.ref s1), .val (.ref x1), .val (.int 1), .val (.int e0)] []) := A9
  obtain ⟨cA12, hA12, KA12, P_F_x1_coder, P_F_x1_value, P_F_x1_count, P_V_x4, hl_x4, A12⟩ := own_lp17 l Z a0 hw (s.setVm vmA6) s1 b1 x1 x4 k cs 25 24 _ fm n0 24 rfl (by show (24 : Nat) ≤ 25; decide) hcs ne_b1_x1 ne_b1_x4 ne_s1_x1 ne_s1_x4 ne_x1_x4 ne_x4_x1 g_x1 g_x4 hfm hok hlen rfl (own_c106 l Z a0 hw) hx hby hml hown hZ 15 1 _ e0 hA9 (by decide) (by decide) Z0 SS E_s1 F_s1_coder F_s1_value V_b1 E_x1 F_x1_coder F_x1_value F_x1_count V_x4 rfl A11
  have SX_x1 : Safe Z own_EL _ hA9 x1 := Safe.exa hZ.alike E_x1 (by decide) (by decide)
  have hsA : ∀ x ∈ ([x1, x4] : List Addr), Safe Z own_EL vmA6 hA9 x := (allS SX_x1 (allS SX_x4 all0))
  have HC := HC.trans (CHr.keep KA12 hsA HC.1)
  have hk := Nat.le_trans hk KA12.1
  have SS := SS.kp KA12 (allS (P := fun x => ∀ cell : Cell, hA9[x]? = some cell → cell.vm.isStatics = false) E_x1.nostat (allS (P := fun x => ∀ cell : Cell, hA9[x]? = some cell → cell.vm.isStatics = false) V_x4.nostat all0))
  have E_s1 := E_s1.keep KA12
  have F_s1_coder := F_s1_coder.keep KA12 (ninS ne_s1_x1 (ninS ne_s1_x4 nin0))
  have F_s1_value := F_s1_value.keep KA12 (ninS ne_s1_x1 (ninS ne_s1_x4 nin0))
  have V_b1 := V_b1.keep KA12 (ninS ne_b1_x1 (ninS ne_b1_x4 nin0))
  have E_x1 := E_x1.keep KA12
  have Z0 := Nat.le_trans Z0 KA12.1
  have KK : Keep h0 hA12 [] := KK.trans KA12 (allS (P := fun x => x ∈ ([] : List Addr) ∨ h0.size ≤ x) (Or.inr sz_x1) (allS (P := fun x => x ∈ ([] : List Addr) ∨ h0.size ≤ x) (Or.inr sz_x4) all0))
  have F_x1_coder : Fld Z hA12 x1 "java/lang/AbstractStringBuilder" "coder" "B" (.int 0) := P_F_x1_coder
  have F_x1_value : Fld Z hA12 x1 "java/lang/AbstractStringBuilder" "value" "[B" (.ref x4) := P_F_x1_value
  have F_x1_count : Fld Z hA12 x1 "java/lang/AbstractStringBuilder" "count" "I" (.int 17) := P_F_x1_count
  have V_x4 : own_Ar Z hA12 x4 .byte (List.map own_lo [39, (own_sh e0), (own_sh e1), (own_sh e2), (own_sh e3), (own_sh e4), (own_sh e5), (own_sh e6), (own_sh e7), (own_sh e8), (own_sh e9), (own_sh e10), (own_sh e11), (own_sh e12), (own_sh e13), (own_sh e14), (own_sh e15)]) := P_V_x4
  have A13 : own_R p l e _ _ m _ below meth c S0 n0 hA12 4 29 (mkF m 12 #[.val (.ref s1), .val (.ref x1), .val (.int 16), .val (.int cA12)] []) := A12
  obtain ⟨x5, hA14, KA14, zz_x5, P_F_x1_coder, P_F_x1_value, P_F_x1_count, P_V_x5, hl_x5, A14⟩ := own_t17g l Z a0 hw (s.setVm vmA6) s1 b1 x1 x4 k cs 25 24 _ fm n0 _ cA12 e16 hA12 Z0 E_s1 F_s1_coder F_s1_value V_b1 SS E_x1 F_x1_coder F_x1_value F_x1_count V_x4 rfl hcs ne_b1_x1 ne_s1_x1 ne_x4_x1 g_x1 hfm hok hlen rfl (own_c106 l Z a0 hw) (by decide) rfl (by decide) hx hby hml hown hZ A13
  have ne_s1_x5 : s1 ≠ x5 := Nat.ne_of_lt (Nat.lt_of_lt_of_le E_s1.lt zz_x5)
  have ne_b1_x5 : b1 ≠ x5 := Nat.ne_of_lt (Nat.lt_of_lt_of_le V_b1.lt zz_x5)
  have ne_x1_x5 : x1 ≠ x5 := Nat.ne_of_lt (Nat.lt_of_lt_of_le E_x1.lt zz_x5)
  have ne_x5_x1 := Ne.symm ne_x1_x5
  have g_x5 : n0 ≤ x5 := Nat.le_trans Z0 zz_x5
  have sz_x5 : h0.size ≤ x5 := Nat.le_trans KK.1 zz_x5
  have SX_x1 : Safe Z own_EL _ hA12 x1 := Safe.exa hZ.alike E_x1 (by decide) (by decide)
  have hsA : ∀ x ∈ ([x1] : List Addr), Safe Z own_EL vmA6 hA12 x := (allS SX_x1 all0)
  have SX_x5 := Safe.keep KA14 hsA HC.1 (Safe.new zz_x5)
  have HC := HC.trans (CHr.keep KA14 hsA HC.1)
  have hk := Nat.le_trans hk KA14.1
  have SS := SS.kp KA14 (allS (P := fun x => ∀ cell : Cell, hA12[x]? = some cell → cell.vm.isStatics = false) E_x1.nostat all0)
  have E_s1 := E_s1.keep KA14
  have F_s1_coder := F_s1_coder.keep KA14 (ninS ne_s1_x1 nin0)
  have F_s1_value := F_s1_value.keep KA14 (ninS ne_s1_x1 nin0)
  have V_b1 := V_b1.keep KA14 (ninS ne_b1_x1 nin0)
  have E_x1 := E_x1.keep KA14
  have Z0 := Nat.le_trans Z0 KA14.1
  have KK : Keep h0 hA14 [] := KK.trans KA14 (allS (P := fun x => x ∈ ([] : List Addr) ∨ h0.size ≤ x) (Or.inr sz_x1) all0)
  have F_x1_coder : Fld Z hA14 x1 "java/lang/AbstractStringBuilder" "coder" "B" (.int 0) := P_F_x1_coder
  have F_x1_value : Fld Z hA14 x1 "java/lang/AbstractStringBuilder" "value" "[B" (.ref x5) := P_F_x1_value
  have F_x1_count : Fld Z hA14 x1 "java/lang/AbstractStringBuilder" "count" "I" (.int 18) := P_F_x1_count
  have V_x5 : own_Ar Z hA14 x5 .byte (List.map own_lo [39, (own_sh e0), (own_sh e1), (own_sh e2), (own_sh e3), (own_sh e4), (own_sh e5), (own_sh e6), (own_sh e7), (own_sh e8), (own_sh e9), (own_sh e10), (own_sh e11), (own_sh e12), (own_sh e13), (own_sh e14), (own_sh e15), (own_sh e16), 0, 0, 0, 0, 0, 0, 0, 0, 0, 0, 0, 0, 0, 0, 0, 0, 0, 0]) := P_V_x5
  have hl_x5 : ([39, (own_sh e0), (own_sh e1), (own_sh e2), (own_sh e3), (own_sh e4), (own_sh e5), (own_sh e6), (own_sh e7), (own_sh e8), (own_sh e9), (own_sh e10), (own_sh e11), (own_sh e12), (own_sh e13), (own_sh e14), (own_sh e15), (own_sh e16), 0, 0, 0, 0, 0, 0, 0, 0, 0, 0, 0, 0, 0, 0, 0, 0, 0, 0] : List Int32).length = 36 := rfl
  have A15 : own_R p l e _ _ m _ below meth c S0 n0 hA14 5 65 (mkF m 12 #[.val (.ref s1), .val (.ref x1), .val (.int 17), .val (.int e16)] []) := A14
  obtain ⟨cA16, hA16, KA16, P_F_x1_coder, P_F_x1_value, P_F_x1_count, P_V_x5, hl_x5, A16⟩ := own_lp36 l Z a0 hw (s.setVm vmA6) s1 b1 x1 x5 k cs 25 24 _ fm n0 24 rfl (by show (24 : Nat) ≤ 25; decide) hcs ne_b1_x1 ne_b1_x5 ne_s1_x1 ne_s1_x5 ne_x1_x5 ne_x5_x1 g_x1 g_x5 hfm hok hlen rfl (own_c106 l Z a0 hw) hx hby hml hown hZ 7 17 _ e16 hA14 (by decide) (by decide) Z0 SS E_s1 F_s1_coder F_s1_value V_b1 E_x1 F_x1_coder F_x1_value F_x1_count V_x5 rfl A15
  have SX_x1 : Safe Z own_EL _ hA14 x1 := Safe.exa hZ.alike E_x1 (by decide) (by decide)
  have hsA : ∀ x ∈ ([x1, x5] : List Addr), Safe Z own_EL vmA6 hA14 x := (allS SX_x1 (allS SX_x5 all0))
  have SX_x5 := Safe.keep KA16 hsA HC.1 SX_x5
  have HC := HC.trans (CHr.keep KA16 hsA HC.1)
  have hk := Nat.le_trans hk KA16.1
  have SS := SS.kp KA16 (allS (P := fun x => ∀ cell : Cell, hA14[x]? = some cell → cell.vm.isStatics = false) E_x1.nostat (allS (P := fun x => ∀ cell : Cell, hA14[x]? = some cell → cell.vm.isStatics = false) V_x5.nostat all0))
  have E_s1 := E_s1.keep KA16
  have F_s1_coder := F_s1_coder.keep KA16 (ninS ne_s1_x1 (ninS ne_s1_x5 nin0))
  have F_s1_value := F_s1_value.keep KA16 (ninS ne_s1_x1 (ninS ne_s1_x5 nin0))
  have V_b1 := V_b1.keep KA16 (ninS ne_b1_x1 (ninS ne_b1_x5 nin0))
  have E_x1 := E_x1.keep KA16
  have Z0 := Nat.le_trans Z0 KA16.1
  have KK : Keep h0 hA16 [] := KK.trans KA16 (allS (P := fun x => x ∈ ([] : List Addr) ∨ h0.size ≤ x) (Or.inr sz_x1) (allS (P := fun x => x ∈ ([] : List Addr) ∨ h0.size ≤ x) (Or.inr sz_x5) all0))
  have F_x1_coder : Fld Z hA16 x1 "java/lang/AbstractStringBuilder" "coder" "B" (.int 0) := P_F_x1_coder
  have F_x1_value : Fld Z hA16 x1 "java/lang/AbstractStringBuilder" "value" "[B" (.ref x5) := P_F_x1_value
  have F_x1_count : Fld Z hA16 x1 "java/lang/AbstractStringBuilder" "count" "I" (.int 25) := P_F_x1_count
  have V_x5 : own_Ar Z hA16 x5 .byte (List.map own_lo [39, (own_sh e0), (own_sh e1), (own_sh e2), (own_sh e3), (own_sh e4), (own_sh e5), (own_sh e6), (own_sh e7), (own_sh e8), (own_sh e9), (own_sh e10), (own_sh e11), (own_sh e12), (own_sh e13), (own_sh e14), (own_sh e15), (own_sh e16), (own_sh e17), (own_sh e18), (own_sh e19), (own_sh e20), (own_sh e21), (own_sh e22), (own_sh e23), 0, 0, 0, 0, 0, 0, 0, 0, 0, 0, 0]) := P_V_x5
  have hl_x5 : ([39, (own_sh e0), (own_sh e1), (own_sh e2), (own_sh e3), (own_sh e4), (own_sh e5), (own_sh e6), (own_sh e7), (own_sh e8), (own_sh e9), (own_sh e10), (own_sh e11), (own_sh e12), (own_sh e13), (own_sh e14), (own_sh e15), (own_sh e16), (own_sh e17), (own_sh e18), (own_sh e19), (own_sh e20), (own_sh e21), (own_sh e22), (own_sh e23), 0, 0, 0, 0, 0, 0, 0, 0, 0, 0, 0] : List Int32).length = 36 := rfl
  have A17 : own_R p l e _ _ m _ below meth c S0 n0 hA16 5 65 (mkF m 12 #[.val (.ref s1), .val (.ref x1), .val (.int 24), .val (.int cA16)] []) := A16
  have A19 := A17.iN H dm5_12 rfl rfl |>.aN H dm5_13 rfl rfl rfl
  obtain ⟨vA18, hA18, ⟨rfl, rfl⟩, A18⟩ := A19.cV (own_len l Z a0 hw s1 b1 cs k 25 _ hA16 n0 Z0 SS.1 hcs E_s1 F_s1_coder F_s1_value V_b1 hok hlen rfl) E_s1 H hZ hown dm5_14 (oW hw 103 rfl) (kV17 hw) hml rfl rfl [(.int 24)] rfl rfl
  have A21 := A18.cl |>.bp H dm5_17 rfl 24 rfl
  obtain ⟨vA20, hA20, ⟨rfl, rfl⟩, A20⟩ := A21.cS (own_c106 l Z a0 hw hA16 n0 Z0) H hZ hown dm5_19 (oW hw 104 rfl) (kS26 hw) hml rfl rfl [(.int 24)] rfl rfl
  have A23 := A20.cl |>.cy H dm5_22 rfl rfl 60 (by decide) (by decide) |>.aN H dm5_60 rfl rfl rfl
  obtain ⟨vA22, hA22, ⟨rfl, rfl⟩, A22⟩ := A23.cV (own_len l Z a0 hw s1 b1 cs k 25 _ hA16 n0 Z0 SS.1 hcs E_s1 F_s1_coder F_s1_value V_b1 hok hlen rfl) E_s1 H hZ hown dm5_61 (oW hw 103 rfl) (kV17 hw) hml rfl rfl [] rfl rfl
  have A27 := A22.cl |>.bp H dm5_64 rfl 24 rfl |>.cn H dm5_66 rfl rfl |>.aN H dm5_69 rfl rfl rfl
  obtain ⟨x6, x7, vmA26, kA26, h24, E25, E_x6, F_x6_coder, F_x6_value, V_x7, ns_x6, hS, hk, hZ, hown, HCs, hLA26, A26⟩ := A27.ldcS hx hZ hown (hb hby dm5_70) (oW hw 250 rfl) own_wS hS hk hEL (by simp +decide [own_EL]) (CHr.refl HC.1) (vs := [(.int 46), (.int 46), (.int 46)]) (z := (3 : Int32)) ⟨by decide, by decide⟩ (by decide) (by decide) (n := 12) (by decide) (by decide) (by decide) (by decide)
  have SX_x5 := HCs.safe V_x5.lt SX_x5
  have HC := HC.trans HCs
  have SS := SS.ext E25
  have E_x1 := E_x1.ext E25
  have F_x1_coder := F_x1_coder.ext E25
  have F_x1_value := F_x1_value.ext E25
  have F_x1_count := F_x1_count.ext E25
  have V_x5 := V_x5.ext E25
  have Z0 := Nat.le_trans Z0 E25.1
  have KK : Keep h0 h24 [] := KK.ext E25
  have SX_x1 : Safe Z own_EL _ h24 x1 := Safe.exa hZ.alike E_x1 (by decide) (by decide)
  have ne_x1_x6 : x1 ≠ x6 := (ns_x6 _ SX_x1).1
  have ne_x6_x1 := Ne.symm ne_x1_x6
  have ne_x1_x7 : x1 ≠ x7 := (ns_x6 _ SX_x1).2
  have ne_x7_x1 := Ne.symm ne_x1_x7
  have ne_x5_x6 : x5 ≠ x6 := (ns_x6 _ SX_x5).1
  have ne_x6_x5 := Ne.symm ne_x5_x6
  have ne_x5_x7 : x5 ≠ x7 := (ns_x6 _ SX_x5).2
  have ne_x7_x5 := Ne.symm ne_x5_x7
  have V_x7 : own_Ar Z h24 x7 .byte (List.map own_lo [46, 46, 46]) := V_x7
  obtain ⟨vA28, hA28, ⟨rfl, KA28, P_F_x1_coder, P_F_x1_value, P_F_x1_count, P_V_x5, hl_x5⟩, A28⟩ := A26.cV (own_c116 l Z a0 hw x1 x6 x5 x7 _ _ cs h24 n0 Z0 E_x1 F_x1_coder F_x1_value F_x1_count E_x6 F_x6_coder F_x6_value V_x5 V_x7 SS.1 rfl rfl hcs ne_x1_x5 ne_x6_x1 ne_x6_x5 ne_x5_x1 ne_x7_x1 ne_x7_x5 g_x1 g_x5) E_x1 H hZ hown dm5_72 (oW hw 251 rfl) (kV22 hw) hml rfl rfl [] rfl rfl
  have SX_x1 : Safe Z own_EL _ h24 x1 := Safe.exa hZ.alike E_x1 (by decide) (by decide)
  have hsA : ∀ x ∈ ([x1, x5] : List Addr), Safe Z own_EL vmA26 h24 x := (allS SX_x1 (allS SX_x5 all0))
  have SX_x5 := Safe.keep KA28 hsA HC.1 SX_x5
  have HC := HC.trans (CHr.keep KA28 hsA HC.1)
  have hk := Nat.le_trans hk KA28.1
  have SS := SS.kp KA28 (allS (P := fun x => ∀ cell : Cell, h24[x]? = some cell → cell.vm.isStatics = false) E_x1.nostat (allS (P := fun x => ∀ cell : Cell, h24[x]? = some cell → cell.vm.isStatics = false) V_x5.nostat all0))
  have E_x1 := E_x1.keep KA28
  have Z0 := Nat.le_trans Z0 KA28.1
  have KK : Keep h0 hA28 [] := KK.trans KA28 (allS (P := fun x => x ∈ ([] : List Addr) ∨ h0.size ≤ x) (Or.inr sz_x1) (allS (P := fun x => x ∈ ([] : List Addr) ∨ h0.size ≤ x) (Or.inr sz_x5) all0))
  have F_x1_coder : Fld Z hA28 x1 "java/lang/AbstractStringBuilder" "coder" "B" (.int 0) := P_F_x1_coder
  have F_x1_value : Fld Z hA28 x1 "java/lang/AbstractStringBuilder" "value" "[B" (.ref x5) := P_F_x1_value
  have F_x1_count : Fld Z hA28 x1 "java/lang/AbstractStringBuilder" "count" "I" (.int 28) := P_F_x1_count
  have V_x5 : own_Ar Z hA28 x5 .byte (List.map own_lo [39, (own_sh e0), (own_sh e1), (own_sh e2), (own_sh e3), (own_sh e4), (own_sh e5), (own_sh e6), (own_sh e7), (own_sh e8), (own_sh e9), (own_sh e10), (own_sh e11), (own_sh e12), (own_sh e13), (own_sh e14), (own_sh e15), (own_sh e16), (own_sh e17), (own_sh e18), (own_sh e19), (own_sh e20), (own_sh e21), (own_sh e22), (own_sh e23), 46, 46, 46, 0, 0, 0, 0, 0, 0, 0, 0]) := P_V_x5
  have hl_x5 : ([39, (own_sh e0), (own_sh e1), (own_sh e2), (own_sh e3), (own_sh e4), (own_sh e5), (own_sh e6), (own_sh e7), (own_sh e8), (own_sh e9), (own_sh e10), (own_sh e11), (own_sh e12), (own_sh e13), (own_sh e14), (own_sh e15), (own_sh e16), (own_sh e17), (own_sh e18), (own_sh e19), (own_sh e20), (own_sh e21), (own_sh e22), (own_sh e23), 46, 46, 46, 0, 0, 0, 0, 0, 0, 0, 0] : List Int32).length = 36 := rfl
  have A30 := A28.cl |>.po H dm5_75 rfl rfl |>.aN H dm5_76 rfl rfl rfl |>.bp H dm5_77 rfl 39 rfl
  obtain ⟨vA29, hA29, ⟨rfl, KA29, P_F_x1_coder, P_F_x1_value, P_F_x1_count, P_V_x5, hl_x5⟩, A29⟩ := A30.cV (own_c90 l Z a0 hw x1 x5 (39 : Int32) (28 : Int32) _ cs hA28 n0 Z0 E_x1 F_x1_coder F_x1_value F_x1_count V_x5 SS.1 rfl hcs (by decide) (by decide) (by decide) (by decide) ne_x1_x5 ne_x5_x1 g_x1 g_x5) E_x1 H hZ hown dm5_79 (oW hw 108 rfl) (kV29 hw) hml rfl rfl [] rfl rfl
  have SX_x1 : Safe Z own_EL _ hA28 x1 := Safe.exa hZ.alike E_x1 (by decide) (by decide)
  have hsA : ∀ x ∈ ([x1, x5] : List Addr), Safe Z own_EL vmA26 hA28 x := (allS SX_x1 (allS SX_x5 all0))
  have HC := HC.trans (CHr.keep KA29 hsA HC.1)
  have hk := Nat.le_trans hk KA29.1
  have SS := SS.kp KA29 (allS (P := fun x => ∀ cell : Cell, hA28[x]? = some cell → cell.vm.isStatics = false) E_x1.nostat (allS (P := fun x => ∀ cell : Cell, hA28[x]? = some cell → cell.vm.isStatics = false) V_x5.nostat all0))
  have E_x1 := E_x1.keep KA29
  have Z0 := Nat.le_trans Z0 KA29.1
  have KK : Keep h0 hA29 [] := KK.trans KA29 (allS (P := fun x => x ∈ ([] : List Addr) ∨ h0.size ≤ x) (Or.inr sz_x1) (allS (P := fun x => x ∈ ([] : List Addr) ∨ h0.size ≤ x) (Or.inr sz_x5) all0))
  have F_x1_coder : Fld Z hA29 x1 "java/lang/AbstractStringBuilder" "coder" "B" (.int 0) := P_F_x1_coder
  have F_x1_value : Fld Z hA29 x1 "java/lang/AbstractStringBuilder" "value" "[B" (.ref x5) := P_F_x1_value
  have F_x1_count : Fld Z hA29 x1 "java/lang/AbstractStringBuilder" "count" "I" (.int 29) := P_F_x1_count
  have V_x5 : own_Ar Z hA29 x5 .byte (List.map own_lo [39, (own_sh e0), (own_sh e1), (own_sh e2), (own_sh e3), (own_sh e4), (own_sh e5), (own_sh e6), (own_sh e7), (own_sh e8), (own_sh e9), (own_sh e10), (own_sh e11), (own_sh e12), (own_sh e13), (own_sh e14), (own_sh e15), (own_sh e16), (own_sh e17), (own_sh e18), (own_sh e19), (own_sh e20), (own_sh e21), (own_sh e22), (own_sh e23), 46, 46, 46, 39, 0, 0, 0, 0, 0, 0, 0]) := P_V_x5
  have A32 := A29.cl
  obtain ⟨vA31, hA31, ⟨x8, x9, rfl, KA31, zz_x8, zz_x9, ne_x9_x8, P_E_x8, P_F_x8_value, P_F_x8_coder, P_V_x9, hl_x9⟩, A31⟩ := A32.cV (own_c102 l Z a0 hw x1 x5 (29 : Int32) _ cs hA29 n0 Z0 E_x1 F_x1_coder F_x1_value F_x1_count V_x5 SS.1 rfl hcs (by decide) (by decide) (by decide) (by decide) (by decide)) E_x1 H hZ hown dm5_82 (oW hw 126 rfl) (kV37 hw) hml rfl rfl [] rfl rfl
  have sz_x8 : h0.size ≤ x8 := Nat.le_trans KK.1 zz_x8
  have sz_x9 : h0.size ≤ x9 := Nat.le_trans KK.1 zz_x9
  have hsA : ∀ x ∈ ([] : List Addr), Safe Z own_EL vmA26 hA29 x := all0
  have HC := HC.trans (CHr.keep KA31 hsA HC.1)
  have hk := Nat.le_trans hk KA31.1
  have KK : Keep h0 hA31 [] := KK.trans KA31 all0
  have E_x8 : Exa Z hA31 x8 "java/lang/String" := P_E_x8
  have F_x8_value : Fld Z hA31 x8 "java/lang/String" "value" "[B" (.ref x9) := P_F_x8_value
  have F_x8_coder : Fld Z hA31 x8 "java/lang/String" "coder" "B" (.int 0) := P_F_x8_coder
  have V_x9 : own_Ar Z hA31 x9 .byte (List.map own_lo [39, (own_sh e0), (own_sh e1), (own_sh e2), (own_sh e3), (own_sh e4), (own_sh e5), (own_sh e6), (own_sh e7), (own_sh e8), (own_sh e9), (own_sh e10), (own_sh e11), (own_sh e12), (own_sh e13), (own_sh e14), (own_sh e15), (own_sh e16), (own_sh e17), (own_sh e18), (own_sh e19), (own_sh e20), (own_sh e21), (own_sh e22), (own_sh e23), 46, 46, 46, 39]) := P_V_x9
  have hl_x9 : ([39, (own_sh e0), (own_sh e1), (own_sh e2), (own_sh e3), (own_sh e4), (own_sh e5), (own_sh e6), (own_sh e7), (own_sh e8), (own_sh e9), (own_sh e10), (own_sh e11), (own_sh e12), (own_sh e13), (own_sh e14), (own_sh e15), (own_sh e16), (own_sh e17), (own_sh e18), (own_sh e19), (own_sh e20), (own_sh e21), (own_sh e22), (own_sh e23), 46, 46, 46, 39] : List Int32).length = 29 := rfl
  have A33 := A31.cl
  exact A33.retSS hx hlk hZ hS hk hEL HC hret (hb hby dm5_85) rfl (Or.inr (Or.inr (Or.inr (Or.inr ⟨rfl, rfl, rfl⟩)))) (by decide) (by decide) ⟨x8, x9, rfl, KK, sz_x8, sz_x9, ne_x9_x8, E_x8, F_x8_value, F_x8_coder, V_x9, hl_x9⟩
theorem own_q26 (l : Launch) (Z : State) (a0 : Array Value) (hw : ∀ d ∈ tables_1, d.before a0 Z = true) (s1 b1 : Addr) (k e0 e1 e2 e3 e4 e5 e6 e7 e8 e9 e10 e11 e12 e13 e14 e15 e16 e17 e18 e19 e20 e21 e22 e23 e24 e25 : Int32) (cs : Int32) (fm : Value) (h0 : Heap) (n0 : Nat) (Z0 : n0 ≤ h0.size) (hEL : EW Z a0 own_EL) (own_wS : ∀ a ∈ Bundle.stringAtoms, a.before a0 Z = true) (E_s1 : Exa Z h0 s1 "java/lang/String") (F_s1_coder : Fld Z h0 s1 "java/lang/String" "coder" "B" (.int k)) (F_s1_value : Fld Z h0 s1 "java/lang/String" "value" "[B" (.ref b1)) (V_b1 : own_Ar Z h0 b1 .byte (own_by k [e0, e1, e2, e3, e4, e5, e6, e7, e8, e9, e10, e11, e12, e13, e14, e15, e16, e17, e18, e19, e20, e21, e22, e23, e24, e25])) (SS : own_ST Z h0 cs fm) (hcs : ¬ (cs = (0 : Int32))) (hfm : fm.isRef = true) (hok : own_ok k [e0, e1, e2, e3, e4, e5, e6, e7, e8, e9, e10, e11, e12, e13, e14, e15, e16, e17, e18, e19, e20, e21, e22, e23, e24, e25]) (hlen : ([e0, e1, e2, e3, e4, e5, e6, e7, e8, e9, e10, e11, e12, e13, e14, e15, e16, e17, e18, e19, e20, e21, e22, e23, e24, e25] : List Int32).length < 64) :
    own_MS l Z own_EL (⟨"com/example/paretolio/paretolio/RecordReader", "quote", "(Ljava/lang/String;)Ljava/lang/String;"⟩ : MethodName) prog_11_method_10_code 4 (some (.object "java/lang/String")) [] (⟨8, 9, 130, 117⟩ : Room) #[(.ref s1)] h0 n0 (fun v h => ∃ x8 x9 : Addr, v = some (.ref x8) ∧ Keep h0 h [] ∧ h0.size ≤ x8 ∧ h0.size ≤ x9 ∧ x9 ≠ x8 ∧ Exa Z h x8 "java/lang/String" ∧ Fld Z h x8 "java/lang/String" "value" "[B" (.ref x9) ∧ Fld Z h x8 "java/lang/String" "coder" "B" (.int 0) ∧ own_Ar Z h x9 .byte (List.map own_lo [39, (own_sh e0), (own_sh e1), (own_sh e2), (own_sh e3), (own_sh e4), (own_sh e5), (own_sh e6), (own_sh e7), (own_sh e8), (own_sh e9), (own_sh e10), (own_sh e11), (own_sh e12), (own_sh e13), (own_sh e14), (own_sh e15), (own_sh e16), (own_sh e17), (own_sh e18), (own_sh e19), (own_sh e20), (own_sh e21), (own_sh e22), (own_sh e23), 46, 46, 46, 39]) ∧ ([39, (own_sh e0), (own_sh e1), (own_sh e2), (own_sh e3), (own_sh e4), (own_sh e5), (own_sh e6), (own_sh e7), (own_sh e8), (own_sh e9), (own_sh e10), (own_sh e11), (own_sh e12), (own_sh e13), (own_sh e14), (own_sh e15), (own_sh e16), (own_sh e17), (own_sh e18), (own_sh e19), (own_sh e20), (own_sh e21), (own_sh e22), (own_sh e23), 46, 46, 46, 39] : List Int32).length = 29) := by
  refine own_MS.of pl50 ?_
  intro p e s m below meth c S0 vm0 k0 hx hby hml hown hnm hret hlk hZ hS hk HC A00
  have H : own_H p c _ := ⟨hx, hby⟩
  have A0 := A00.cast (f' := mkF m 0 #[.val (.ref s1), .unset, .unset, .unset] []) (by first | (simp [entryFrame, mkF, argsToLocals, Value.category, maxLocals]; done) | rfl)
  have KK : Keep h0 h0 ([] : List Addr) := Keep.refl _ _
  obtain ⟨h1, E2, E_x1, D_x1, A3⟩ := A0.newO hx hZ hown (hb hby dm5_0) (oW hw 31 rfl) (oW hw 32 rfl) (oW hw 33 rfl) (by decide) (by decide)
  obtain ⟨x1, gx1⟩ : ∃ z, z = h0.size := ⟨_, rfl⟩
  rw [← gx1] at E_x1 D_x1 A3
  have ne_s1_x1 : s1 ≠ x1 := by rw [gx1]; exact Nat.ne_of_lt E_s1.lt
  have ne_b1_x1 : b1 ≠ x1 := by rw [gx1]; exact Nat.ne_of_lt V_b1.lt
  have g_x1 : n0 ≤ x1 := by rw [gx1]; exact Z0
  have sz_x1 : h0.size ≤ x1 := by rw [gx1]; exact KK.1
  have E_s1 := E_s1.ext E2
  have F_s1_coder := F_s1_coder.ext E2
  have F_s1_value := F_s1_value.ext E2
  have V_b1 := V_b1.ext E2
  have SS := SS.ext E2
  have Z0 := Nat.le_trans Z0 E2.1
  have KK : Keep h0 h1 [] := KK.ext E2
  have HC := HC.trans (CHr.ext E2 HC.1)
  have hk := Nat.le_trans hk E2.1
  have F_x1_coder : Fld Z h1 x1 "java/lang/AbstractStringBuilder" "coder" "B" (.int 0) := D_x1 (Or.inl (oW hw 59 rfl)) (ty := .byte) (by decide)
  have F_x1_value : Fld Z h1 x1 "java/lang/AbstractStringBuilder" "value" "[B" .null := D_x1 (Or.inl (oW hw 61 rfl)) (ty := (.array .byte)) (by decide)
  have F_x1_count : Fld Z h1 x1 "java/lang/AbstractStringBuilder" "count" "I" (.int 0) := D_x1 (Or.inl (oW hw 77 rfl)) (ty := .int) (by decide)
  have A7 := A3.du H dm5_3 rfl rfl
  obtain ⟨x2, x3, vmA6, kA6, h4, E5, E_x2, F_x2_coder, F_x2_value, V_x3, ns_x2, hS, hk, hZ, hown, HCs, hLA6, A6⟩ := A7.ldcS hx hZ hown (hb hby dm5_4) (oW hw 34 rfl) own_wS hS hk hEL (by simp +decide [own_EL]) (CHr.refl HC.1) (vs := [(.int 39)]) (z := (1 : Int32)) ⟨by decide, by decide⟩ (by decide) (by decide) (n := 4) (by decide) (by decide) (by decide) (by decide)
  have HC := HC.trans HCs
  have E_s1 := E_s1.ext E5
  have F_s1_coder := F_s1_coder.ext E5
  have F_s1_value := F_s1_value.ext E5
  have V_b1 := V_b1.ext E5
  have SS := SS.ext E5
  have E_x1 := E_x1.ext E5
  have F_x1_coder := F_x1_coder.ext E5
  have F_x1_value := F_x1_value.ext E5
  have F_x1_count := F_x1_count.ext E5
  have Z0 := Nat.le_trans Z0 E5.1
  have KK : Keep h0 h4 [] := KK.ext E5
  have SX_x1 : Safe Z own_EL _ h4 x1 := Safe.exa hZ.alike E_x1 (by decide) (by decide)
  have ne_x1_x2 : x1 ≠ x2 := (ns_x2 _ SX_x1).1
  have ne_x2_x1 := Ne.symm ne_x1_x2
  have ne_x1_x3 : x1 ≠ x3 := (ns_x2 _ SX_x1).2
  have ne_x3_x1 := Ne.symm ne_x1_x3
  have V_x3 : own_Ar Z h4 x3 .byte (List.map own_lo [39]) := V_x3
  obtain ⟨vA8, hA8, ⟨x4, rfl, KA8, zz_x4, P_F_x1_coder, P_F_x1_value, P_F_x1_count, P_V_x4, hl_x4⟩, A8⟩ := A6.cI (own_c22 l Z a0 hw x1 x2 x3 _ cs h4 n0 Z0 E_x1 F_x1_coder F_x1_value F_x1_count E_x2 F_x2_coder F_x2_value V_x3 SS.1 rfl hcs ne_x2_x1 ne_x3_x1 g_x1) H hZ hown dm5_6 (oW hw 35 rfl) (kI25 hw) hml rfl rfl [(.ref x1)] rfl rfl
  have ne_s1_x4 : s1 ≠ x4 := Nat.ne_of_lt (Nat.lt_of_lt_of_le E_s1.lt zz_x4)
  have ne_b1_x4 : b1 ≠ x4 := Nat.ne_of_lt (Nat.lt_of_lt_of_le V_b1.lt zz_x4)
  have ne_x1_x4 : x1 ≠ x4 := Nat.ne_of_lt (Nat.lt_of_lt_of_le E_x1.lt zz_x4)
  have ne_x4_x1 := Ne.symm ne_x1_x4
  have g_x4 : n0 ≤ x4 := Nat.le_trans Z0 zz_x4
  have sz_x4 : h0.size ≤ x4 := Nat.le_trans KK.1 zz_x4
  have SX_x1 : Safe Z own_EL _ h4 x1 := Safe.exa hZ.alike E_x1 (by decide) (by decide)
  have hsA : ∀ x ∈ ([x1] : List Addr), Safe Z own_EL vmA6 h4 x := (allS SX_x1 all0)
  have SX_x4 := Safe.keep KA8 hsA HC.1 (Safe.new zz_x4)
  have HC := HC.trans (CHr.keep KA8 hsA HC.1)
  have hk := Nat.le_trans hk KA8.1
  have SS := SS.kp KA8 (allS (P := fun x => ∀ cell : Cell, h4[x]? = some cell → cell.vm.isStatics = false) E_x1.nostat all0)
  have E_s1 := E_s1.keep KA8
  have F_s1_coder := F_s1_coder.keep KA8 (ninS ne_s1_x1 nin0)
  have F_s1_value := F_s1_value.keep KA8 (ninS ne_s1_x1 nin0)
  have V_b1 := V_b1.keep KA8 (ninS ne_b1_x1 nin0)
  have E_x1 := E_x1.keep KA8
  have Z0 := Nat.le_trans Z0 KA8.1
  have KK : Keep h0 hA8 [] := KK.trans KA8 (allS (P := fun x => x ∈ ([] : List Addr) ∨ h0.size ≤ x) (Or.inr sz_x1) all0)
  have F_x1_coder : Fld Z hA8 x1 "java/lang/AbstractStringBuilder" "coder" "B" (.int 0) := P_F_x1_coder
  have F_x1_value : Fld Z hA8 x1 "java/lang/AbstractStringBuilder" "value" "[B" (.ref x4) := P_F_x1_value
  have F_x1_count : Fld Z hA8 x1 "java/lang/AbstractStringBuilder" "count" "I" (.int 1) := P_F_x1_count
  have V_x4 : own_Ar Z hA8 x4 .byte (List.map own_lo [39, 0, 0, 0, 0, 0, 0, 0, 0, 0, 0, 0, 0, 0, 0, 0, 0]) := P_V_x4
  have hl_x4 : ([39, 0, 0, 0, 0, 0, 0, 0, 0, 0, 0, 0, 0, 0, 0, 0, 0] : List Int32).length = 17 := rfl
  have A10 := A8.c0 |>.aM H dm5_9 rfl rfl #[.val (.ref s1), .val (.ref x1), .unset, .unset] rfl |>.ic H dm5_10 rfl 0 rfl |>.iM H dm5_11 rfl #[.val (.ref s1), .val (.ref x1), .val (.int 0), .unset] rfl
  obtain ⟨hA9, KA9, P_F_x1_coder, P_F_x1_value, P_F_x1_count, P_V_x4, hl_x4, A9⟩ := own_t17f l Z a0 hw (s.setVm vmA6) s1 b1 x1 x4 k cs 26 24 _ fm n0 _ e0 hA8 Z0 E_s1 F_s1_coder F_s1_value V_b1 SS E_x1 F_x1_coder F_x1_value F_x1_count V_x4 rfl hcs ne_b1_x1 ne_b1_x4 ne_s1_x1 ne_s1_x4 ne_x1_x4 ne_x4_x1 g_x1 g_x4 hfm hok hlen rfl (own_c118 l Z a0 hw) (by decide) rfl (by decide) hx hby hml hown hZ A10
  have SX_x1 : Safe Z own_EL _ hA8 x1 := Safe.exa hZ.alike E_x1 (by decide) (by decide)
  have hsA : ∀ x ∈ ([x1, x4] : List Addr), Safe Z own_EL vmA6 hA8 x := (allS SX_x1 (allS SX_x4 all0))
  have SX_x4 := Safe.keep KA9 hsA HC.1 SX_x4
  have HC := HC.trans (CHr.keep KA9 hsA HC.1)
  have hk := Nat.le_trans hk KA9.1
  have SS := SS.kp KA9 (allS (P := fun x => ∀ cell : Cell, hA8[x]? = some cell → cell.vm.isStatics = false) E_x1.nostat (allS (P := fun x => ∀ cell : Cell, hA8[x]? = some cell → cell.vm.isStatics = false) V_x4.nostat all0))
  have E_s1 := E_s1.keep KA9
  have F_s1_coder := F_s1_coder.keep KA9 (ninS ne_s1_x1 (ninS ne_s1_x4 nin0))
  have F_s1_value := F_s1_value.keep KA9 (ninS ne_s1_x1 (ninS ne_s1_x4 nin0))
  have V_b1 := V_b1.keep KA9 (ninS ne_b1_x1 (ninS ne_b1_x4 nin0))
  have E_x1 := E_x1.keep KA9
  have Z0 := Nat.le_trans Z0 KA9.1
  have KK : Keep h0 hA9 [] := KK.trans KA9 (allS (P := fun x => x ∈ ([] : List Addr) ∨ h0.size ≤ x) (Or.inr sz_x1) (allS (P := fun x => x ∈ ([] : List Addr) ∨ h0.size ≤ x) (Or.inr sz_x4) all0))
  have F_x1_coder : Fld Z hA9 x1 "java/lang/AbstractStringBuilder" "coder" "B" (.int 0) := P_F_x1_coder
  have F_x1_value : Fld Z hA9 x1 "java/lang/AbstractStringBuilder" "value" "[B" (.ref x4) := P_F_x1_value
  have F_x1_count : Fld Z hA9 x1 "java/lang/AbstractStringBuilder" "count" "I" (.int 2) := P_F_x1_count
  have V_x4 : own_Ar Z hA9 x4 .byte (List.map own_lo [39, (own_sh e0), 0, 0, 0, 0, 0, 0, 0, 0, 0, 0, 0, 0, 0, 0, 0]) := P_V_x4
  have hl_x4 : ([39, (own_sh e0), 0, 0, 0, 0, 0, 0, 0, 0, 0, 0, 0, 0, 0, 0, 0] : List Int32).length = 17 := rfl
  have A11 : own_R p l e _ _ m _ below meth c S0 n0 hA9 4 29 (mkF m 12 #[.val (.ref s1), .val (.ref x1), .val (.int 1), .val (.int e0)] []) := A9
  obtain ⟨cA12, hA12, KA12, P_F_x1_coder, P_F_x1_value, P_F_x1_count, P_V_x4, hl_x4, A12⟩ := own_lp17 l Z a0 hw (s.setVm vmA6) s1 b1 x1 x4 k cs 26 24 _ fm n0 24 rfl (by show (24 : Nat) ≤ 26; decide) hcs ne_b1_x1 ne_b1_x4 ne_s1_x1 ne_s1_x4 ne_x1_x4 ne_x4_x1 g_x1 g_x4 hfm hok hlen rfl (own_c118 l Z a0 hw) hx hby hml hown hZ 15 1 _ e0 hA9 (by decide) (by decide) Z0 SS E_s1 F_s1_coder F_s1_value V_b1 E_x1 F_x1_coder F_x1_value F_x1_count V_x4 rfl A11
  have SX_x1 : Safe Z own_EL _ hA9 x1 := Safe.exa hZ.alike E_x1 (by decide) (by decide)
  have hsA : ∀ x ∈ ([x1, x4] : List Addr), Safe Z own_EL vmA6 hA9 x := (allS SX_x1 (allS SX_x4 all0))
  have HC := HC.trans (CHr.keep KA12 hsA HC.1)
  have hk := Nat.le_trans hk KA12.1
  have SS := SS.kp KA12 (allS (P := fun x => ∀ cell : Cell, hA9[x]? = some cell → cell.vm.isStatics = false) E_x1.nostat (allS (P := fun x => ∀ cell : Cell, hA9[x]? = some cell → cell.vm.isStatics = false) V_x4.nostat all0))
  have E_s1 := E_s1.keep KA12
  have F_s1_coder := F_s1_coder.keep KA12 (ninS ne_s1_x1 (ninS ne_s1_x4 nin0))
  have F_s1_value := F_s1_value.keep KA12 (ninS ne_s1_x1 (ninS ne_s1_x4 nin0))
  have V_b1 := V_b1.keep KA12 (ninS ne_b1_x1 (ninS ne_b1_x4 nin0))
  have E_x1 := E_x1.keep KA12
  have Z0 := Nat.le_trans Z0 KA12.1
  have KK : Keep h0 hA12 [] := KK.trans KA12 (allS (P := fun x => x ∈ ([] : List Addr) ∨ h0.size ≤ x) (Or.inr sz_x1) (allS (P := fun x => x ∈ ([] : List Addr) ∨ h0.size ≤ x) (Or.inr sz_x4) all0))
  have F_x1_coder : Fld Z hA12 x1 "java/lang/AbstractStringBuilder" "coder" "B" (.int 0) := P_F_x1_coder
  have F_x1_value : Fld Z hA12 x1 "java/lang/AbstractStringBuilder" "value" "[B" (.ref x4) := P_F_x1_value
  have F_x1_count : Fld Z hA12 x1 "java/lang/AbstractStringBuilder" "count" "I" (.int 17) := P_F_x1_count
  have V_x4 : own_Ar Z hA12 x4 .byte (List.map own_lo [39, (own_sh e0), (own_sh e1), (own_sh e2), (own_sh e3), (own_sh e4), (own_sh e5), (own_sh e6), (own_sh e7), (own_sh e8), (own_sh e9), (own_sh e10), (own_sh e11), (own_sh e12), (own_sh e13), (own_sh e14), (own_sh e15)]) := P_V_x4
  have A13 : own_R p l e _ _ m _ below meth c S0 n0 hA12 4 29 (mkF m 12 #[.val (.ref s1), .val (.ref x1), .val (.int 16), .val (.int cA12)] []) := A12
  obtain ⟨x5, hA14, KA14, zz_x5, P_F_x1_coder, P_F_x1_value, P_F_x1_count, P_V_x5, hl_x5, A14⟩ := own_t17g l Z a0 hw (s.setVm vmA6) s1 b1 x1 x4 k cs 26 24 _ fm n0 _ cA12 e16 hA12 Z0 E_s1 F_s1_coder F_s1_value V_b1 SS E_x1 F_x1_coder F_x1_value F_x1_count V_x4 rfl hcs ne_b1_x1 ne_s1_x1 ne_x4_x1 g_x1 hfm hok hlen rfl (own_c118 l Z a0 hw) (by decide) rfl (by decide) hx hby hml hown hZ A13
  have ne_s1_x5 : s1 ≠ x5 := Nat.ne_of_lt (Nat.lt_of_lt_of_le E_s1.lt zz_x5)
  have ne_b1_x5 : b1 ≠ x5 := Nat.ne_of_lt (Nat.lt_of_lt_of_le V_b1.lt zz_x5)
  have ne_x1_x5 : x1 ≠ x5 := Nat.ne_of_lt (Nat.lt_of_lt_of_le E_x1.lt zz_x5)
  have ne_x5_x1 := Ne.symm ne_x1_x5
  have g_x5 : n0 ≤ x5 := Nat.le_trans Z0 zz_x5
  have sz_x5 : h0.size ≤ x5 := Nat.le_trans KK.1 zz_x5
  have SX_x1 : Safe Z own_EL _ hA12 x1 := Safe.exa hZ.alike E_x1 (by decide) (by decide)
  have hsA : ∀ x ∈ ([x1] : List Addr), Safe Z own_EL vmA6 hA12 x := (allS SX_x1 all0)
  have SX_x5 := Safe.keep KA14 hsA HC.1 (Safe.new zz_x5)
  have HC := HC.trans (CHr.keep KA14 hsA HC.1)
  have hk := Nat.le_trans hk KA14.1
  have SS := SS.kp KA14 (allS (P := fun x => ∀ cell : Cell, hA12[x]? = some cell → cell.vm.isStatics = false) E_x1.nostat all0)
  have E_s1 := E_s1.keep KA14
  have F_s1_coder := F_s1_coder.keep KA14 (ninS ne_s1_x1 nin0)
  have F_s1_value := F_s1_value.keep KA14 (ninS ne_s1_x1 nin0)
  have V_b1 := V_b1.keep KA14 (ninS ne_b1_x1 nin0)
  have E_x1 := E_x1.keep KA14
  have Z0 := Nat.le_trans Z0 KA14.1
  have KK : Keep h0 hA14 [] := KK.trans KA14 (allS (P := fun x => x ∈ ([] : List Addr) ∨ h0.size ≤ x) (Or.inr sz_x1) all0)
  have F_x1_coder : Fld Z hA14 x1 "java/lang/AbstractStringBuilder" "coder" "B" (.int 0) := P_F_x1_coder
  have F_x1_value : Fld Z hA14 x1 "java/lang/AbstractStringBuilder" "value" "[B" (.ref x5) := P_F_x1_value
  have F_x1_count : Fld Z hA14 x1 "java/lang/AbstractStringBuilder" "count" "I" (.int 18) := P_F_x1_count
  have V_x5 : own_Ar Z hA14 x5 .byte (List.map own_lo [39, (own_sh e0), (own_sh e1), (own_sh e2), (own_sh e3), (own_sh e4), (own_sh e5), (own_sh e6), (own_sh e7), (own_sh e8), (own_sh e9), (own_sh e10), (own_sh e11), (own_sh e12), (own_sh e13), (own_sh e14), (own_sh e15), (own_sh e16), 0, 0, 0, 0, 0, 0, 0, 0, 0, 0, 0, 0, 0, 0, 0, 0, 0, 0]) := P_V_x5
  have hl_x5 : ([39, (own_sh e0), (own_sh e1), (own_sh e2), (own_sh e3), (own_sh e4), (own_sh e5), (own_sh e6), (own_sh e7), (own_sh e8), (own_sh e9), (own_sh e10), (own_sh e11), (own_sh e12), (own_sh e13), (own_sh e14), (own_sh e15), (own_sh e16), 0, 0, 0, 0, 0, 0, 0, 0, 0, 0, 0, 0, 0, 0, 0, 0, 0, 0] : List Int32).length = 36 := rfl
  have A15 : own_R p l e _ _ m _ below meth c S0 n0 hA14 5 65 (mkF m 12 #[.val (.ref s1), .val (.ref x1), .val (.int 17), .val (.int e16)] []) := A14
  obtain ⟨cA16, hA16, KA16, P_F_x1_coder, P_F_x1_value, P_F_x1_count, P_V_x5, hl_x5, A16⟩ := own_lp36 l Z a0 hw (s.setVm vmA6) s1 b1 x1 x5 k cs 26 24 _ fm n0 24 rfl (by show (24 : Nat) ≤ 26; decide) hcs ne_b1_x1 ne_b1_x5 ne_s1_x1 ne_s1_x5 ne_x1_x5 ne_x5_x1 g_x1 g_x5 hfm hok hlen rfl (own_c118 l Z a0 hw) hx hby hml hown hZ 7 17 _ e16 hA14 (by decide) (by decide) Z0 SS E_s1 F_s1_coder F_s1_value V_b1 E_x1 F_x1_coder F_x1_value F_x1_count V_x5 rfl A15
  have SX_x1 : Safe Z own_EL _ hA14 x1 := Safe.exa hZ.alike E_x1 (by decide) (by decide)
  have hsA : ∀ x ∈ ([x1, x5] : List Addr), Safe Z own_EL vmA6 hA14 x := (allS SX_x1 (allS SX_x5 all0))
  have SX_x5 := Safe.keep KA16 hsA HC.1 SX_x5
  have HC := HC.trans (CHr.keep KA16 hsA HC.1)
  have hk := Nat.le_trans hk KA16.1
  have SS := SS.kp KA16 (allS (P := fun x => ∀ cell : Cell, hA14[x]? = some cell → cell.vm.isStatics = false) E_x1.nostat (allS (P := fun x => ∀ cell : Cell, hA14[x]? = some cell → cell.vm.isStatics = false) V_x5.nostat all0))
  have E_s1 := E_s1.keep KA16
  have F_s1_coder := F_s1_coder.keep KA16 (ninS ne_s1_x1 (ninS ne_s1_x5 nin0))
  have F_s1_value := F_s1_value.keep KA16 (ninS ne_s1_x1 (ninS ne_s1_x5 nin0))
  have V_b1 := V_b1.keep KA16 (ninS ne_b1_x1 (ninS ne_b1_x5 nin0))
  have E_x1 := E_x1.keep KA16
  have Z0 := Nat.le_trans Z0 KA16.1
  have KK : Keep h0 hA16 [] := KK.trans KA16 (allS (P := fun x => x ∈ ([] : List Addr) ∨ h0.size ≤ x) (Or.inr sz_x1) (allS (P := fun x => x ∈ ([] : List Addr) ∨ h0.size ≤ x) (Or.inr sz_x5) all0))
  have F_x1_coder : Fld Z hA16 x1 "java/lang/AbstractStringBuilder" "coder" "B" (.int 0) := P_F_x1_coder
  have F_x1_value : Fld Z hA16 x1 "java/lang/AbstractStringBuilder" "value" "[B" (.ref x5) := P_F_x1_value
  have F_x1_count : Fld Z hA16 x1 "java/lang/AbstractStringBuilder" "count" "I" (.int 25) := P_F_x1_count
  have V_x5 : own_Ar Z hA16 x5 .byte (List.map own_lo [39, (own_sh e0), (own_sh e1), (own_sh e2), (own_sh e3), (own_sh e4), (own_sh e5), (own_sh e6), (own_sh e7), (own_sh e8), (own_sh e9), (own_sh e10), (own_sh e11), (own_sh e12), (own_sh e13), (own_sh e14), (own_sh e15), (own_sh e16), (own_sh e17), (own_sh e18), (own_sh e19), (own_sh e20), (own_sh e21), (own_sh e22), (own_sh e23), 0, 0, 0, 0, 0, 0, 0, 0, 0, 0, 0]) := P_V_x5
  have hl_x5 : ([39, (own_sh e0), (own_sh e1), (own_sh e2), (own_sh e3), (own_sh e4), (own_sh e5), (own_sh e6), (own_sh e7), (own_sh e8), (own_sh e9), (own_sh e10), (own_sh e11), (own_sh e12), (own_sh e13), (own_sh e14), (own_sh e15), (own_sh e16), (own_sh e17), (own_sh e18), (own_sh e19), (own_sh e20), (own_sh e21), (own_sh e22), (own_sh e23), 0, 0, 0, 0, 0, 0, 0, 0, 0, 0, 0] : List Int32).length = 36 := rfl
  have A17 : own_R p l e _ _ m _ below meth c S0 n0 hA16 5 65 (mkF m 12 #[.val (.ref s1), .val (.ref x1), .val (.int 24), .val (.int cA16)] []) := A16
  have A19 := A17.iN H dm5_12 rfl rfl |>.aN H dm5_13 rfl rfl rfl
  obtain ⟨vA18, hA18, ⟨rfl, rfl⟩, A18⟩ := A19.cV (own_len l Z a0 hw s1 b1 cs k 26 _ hA16 n0 Z0 SS.1 hcs E_s1 F_s1_coder F_s1_value V_b1 hok hlen rfl) E_s1 H hZ hown dm5_14 (oW hw 103 rfl) (kV17 hw) hml rfl rfl [(.int 24)] rfl rfl
  have A21 := A18.cl |>.bp H dm5_17 rfl 24 rfl
  obtain ⟨vA20, hA20, ⟨rfl, rfl⟩, A20⟩ := A21.cS (own_c118 l Z a0 hw hA16 n0 Z0) H hZ hown dm5_19 (oW hw 104 rfl) (kS26 hw) hml rfl rfl [(.int 24)] rfl rfl
  have A23 := A20.cl |>.cy H dm5_22 rfl rfl 60 (by decide) (by decide) |>.aN H dm5_60 rfl rfl rfl
  obtain ⟨vA22, hA22, ⟨rfl, rfl⟩, A22⟩ := A23.cV (own_len l Z a0 hw s1 b1 cs k 26 _ hA16 n0 Z0 SS.1 hcs E_s1 F_s1_coder F_s1_value V_b1 hok hlen rfl) E_s1 H hZ hown dm5_61 (oW hw 103 rfl) (kV17 hw) hml rfl rfl [] rfl rfl
  have A27 := A22.cl |>.bp H dm5_64 rfl 24 rfl |>.cn H dm5_66 rfl rfl |>.aN H dm5_69 rfl rfl rfl
  obtain ⟨x6, x7, vmA26, kA26, h24, E25, E_x6, F_x6_coder, F_x6_value, V_x7, ns_x6, hS, hk, hZ, hown, HCs, hLA26, A26⟩ := A27.ldcS hx hZ hown (hb hby dm5_70) (oW hw 250 rfl) own_wS hS hk hEL (by simp +decide [own_EL]) (CHr.refl HC.1) (vs := [(.int 46), (.int 46), (.int 46)]) (z := (3 : Int32)) ⟨by decide, by decide⟩ (by decide) (by decide) (n := 12) (by decide) (by decide) (by decide) (by decide)
  have SX_x5 := HCs.safe V_x5.lt SX_x5
  have HC := HC.trans HCs
  have SS := SS.ext E25
  have E_x1 := E_x1.ext E25
  have F_x1_coder := F_x1_coder.ext E25
  have F_x1_value := F_x1_value.ext E25
  have F_x1_count := F_x1_count.ext E25
  have V_x5 := V_x5.ext E25
  have Z0 := Nat.le_trans Z0 E25.1
  have KK : Keep h0 h24 [] := KK.ext E25
  have SX_x1 : Safe Z own_EL _ h24 x1 := Safe.exa hZ.alike E_x1 (by decide) (by decide)
  have ne_x1_x6 : x1 ≠ x6 := (ns_x6 _ SX_x1).1
  have ne_x6_x1 := Ne.symm ne_x1_x6
  have ne_x1_x7 : x1 ≠ x7 := (ns_x6 _ SX_x1).2
  have ne_x7_x1 := Ne.symm ne_x1_x7
  have ne_x5_x6 : x5 ≠ x6 := (ns_x6 _ SX_x5).1
  have ne_x6_x5 := Ne.symm ne_x5_x6
  have ne_x5_x7 : x5 ≠ x7 := (ns_x6 _ SX_x5).2
  have ne_x7_x5 := Ne.symm ne_x5_x7
  have V_x7 : own_Ar Z h24 x7 .byte (List.map own_lo [46, 46, 46]) := V_x7
  obtain ⟨vA28, hA28, ⟨rfl, KA28, P_F_x1_coder, P_F_x1_value, P_F_x1_count, P_V_x5, hl_x5⟩, A28⟩ := A26.cV (own_c116 l Z a0 hw x1 x6 x5 x7 _ _ cs h24 n0 Z0 E_x1 F_x1_coder F_x1_value F_x1_count E_x6 F_x6_coder F_x6_value V_x5 V_x7 SS.1 rfl rfl hcs ne_x1_x5 ne_x6_x1 ne_x6_x5 ne_x5_x1 ne_x7_x1 ne_x7_x5 g_x1 g_x5) E_x1 H hZ hown dm5_72 (oW hw 251 rfl) (kV22 hw) hml rfl rfl [] rfl rfl
  have SX_x1 : Safe Z own_EL _ h24 x1 := Safe.exa hZ.alike E_x1 (by decide) (by decide)
  have hsA : ∀ x ∈ ([x1, x5] : List Addr), Safe Z own_EL vmA26 h24 x := (allS SX_x1 (allS SX_x5 all0))
  have SX_x5 := Safe.keep KA28 hsA HC.1 SX_x5
  have HC := HC.trans (CHr.keep KA28 hsA HC.1)
  have hk := Nat.le_trans hk KA28.1
  have SS := SS.kp KA28 (allS (P := fun x => ∀ cell : Cell, h24[x]? = some cell → cell.vm.isStatics = false) E_x1.nostat (allS (P := fun x => ∀ cell : Cell, h24[x]? = some cell → cell.vm.isStatics = false) V_x5.nostat all0))
  have E_x1 := E_x1.keep KA28
  have Z0 := Nat.le_trans Z0 KA28.1
  have KK : Keep h0 hA28 [] := KK.trans KA28 (allS (P := fun x => x ∈ ([] : List Addr) ∨ h0.size ≤ x) (Or.inr sz_x1) (allS (P := fun x => x ∈ ([] : List Addr) ∨ h0.size ≤ x) (Or.inr sz_x5) all0))
  have F_x1_coder : Fld Z hA28 x1 "java/lang/AbstractStringBuilder" "coder" "B" (.int 0) := P_F_x1_coder
  have F_x1_value : Fld Z hA28 x1 "java/lang/AbstractStringBuilder" "value" "[B" (.ref x5) := P_F_x1_value
  have F_x1_count : Fld Z hA28 x1 "java/lang/AbstractStringBuilder" "count" "I" (.int 28) := P_F_x1_count
  have V_x5 : own_Ar Z hA28 x5 .byte (List.map own_lo [39, (own_sh e0), (own_sh e1), (own_sh e2), (own_sh e3), (own_sh e4), (own_sh e5), (own_sh e6), (own_sh e7), (own_sh e8), (own_sh e9), (own_sh e10), (own_sh e11), (own_sh e12), (own_sh e13), (own_sh e14), (own_sh e15), (own_sh e16), (own_sh e17), (own_sh e18), (own_sh e19), (own_sh e20), (own_sh e21), (own_sh e22), (own_sh e23), 46, 46, 46, 0, 0, 0, 0, 0, 0, 0, 0]) := P_V_x5
  have hl_x5 : ([39, (own_sh e0), (own_sh e1), (own_sh e2), (own_sh e3), (own_sh e4), (own_sh e5), (own_sh e6), (own_sh e7), (own_sh e8), (own_sh e9), (own_sh e10), (own_sh e11), (own_sh e12), (own_sh e13), (own_sh e14), (own_sh e15), (own_sh e16), (own_sh e17), (own_sh e18), (own_sh e19), (own_sh e20), (own_sh e21), (own_sh e22), (own_sh e23), 46, 46, 46, 0, 0, 0, 0, 0, 0, 0, 0] : List Int32).length = 36 := rfl
  have A30 := A28.cl |>.po H dm5_75 rfl rfl |>.aN H dm5_76 rfl rfl rfl |>.bp H dm5_77 rfl 39 rfl
  obtain ⟨vA29, hA29, ⟨rfl, KA29, P_F_x1_coder, P_F_x1_value, P_F_x1_count, P_V_x5, hl_x5⟩, A29⟩ := A30.cV (own_c90 l Z a0 hw x1 x5 (39 : Int32) (28 : Int32) _ cs hA28 n0 Z0 E_x1 F_x1_coder F_x1_value F_x1_count V_x5 SS.1 rfl hcs (by decide) (by decide) (by decide) (by decide) ne_x1_x5 ne_x5_x1 g_x1 g_x5) E_x1 H hZ hown dm5_79 (oW hw 108 rfl) (kV29 hw) hml rfl rfl [] rfl rfl
  have SX_x1 : Safe Z own_EL _ hA28 x1 := Safe.exa hZ.alike E_x1 (by decide) (by decide)
  have hsA : ∀ x ∈ ([x1, x5] : List Addr), Safe Z own_EL vmA26 hA28 x := (allS SX_x1 (allS SX_x5 all0))
  have HC := HC.trans (CHr.keep KA29 hsA HC.1)
  have hk := Nat.le_trans hk KA29.1
  have SS := SS.kp KA29 (allS (P := fun x => ∀ cell : Cell, hA28[x]? = some cell → cell.vm.isStatics = false) E_x1.nostat (allS (P := fun x => ∀ cell : Cell, hA28[x]? = some cell → cell.vm.isStatics = false) V_x5.nostat all0))
  have E_x1 := E_x1.keep KA29
  have Z0 := Nat.le_trans Z0 KA29.1
  have KK : Keep h0 hA29 [] := KK.trans KA29 (allS (P := fun x => x ∈ ([] : List Addr) ∨ h0.size ≤ x) (Or.inr sz_x1) (allS (P := fun x => x ∈ ([] : List Addr) ∨ h0.size ≤ x) (Or.inr sz_x5) all0))
  have F_x1_coder : Fld Z hA29 x1 "java/lang/AbstractStringBuilder" "coder" "B" (.int 0) := P_F_x1_coder
  have F_x1_value : Fld Z hA29 x1 "java/lang/AbstractStringBuilder" "value" "[B" (.ref x5) := P_F_x1_value
  have F_x1_count : Fld Z hA29 x1 "java/lang/AbstractStringBuilder" "count" "I" (.int 29) := P_F_x1_count
  have V_x5 : own_Ar Z hA29 x5 .byte (List.map own_lo [39, (own_sh e0), (own_sh e1), (own_sh e2), (own_sh e3), (own_sh e4), (own_sh e5), (own_sh e6), (own_sh e7), (own_sh e8), (own_sh e9), (own_sh e10), (own_sh e11), (own_sh e12), (own_sh e13), (own_sh e14), (own_sh e15), (own_sh e16), (own_sh e17), (own_sh e18), (own_sh e19), (own_sh e20), (own_sh e21), (own_sh e22), (own_sh e23), 46, 46, 46, 39, 0, 0, 0, 0, 0, 0, 0]) := P_V_x5
  have A32 := A29.cl
  obtain ⟨vA31, hA31, ⟨x8, x9, rfl, KA31, zz_x8, zz_x9, ne_x9_x8, P_E_x8, P_F_x8_value, P_F_x8_coder, P_V_x9, hl_x9⟩, A31⟩ := A32.cV (own_c102 l Z a0 hw x1 x5 (29 : Int32) _ cs hA29 n0 Z0 E_x1 F_x1_coder F_x1_value F_x1_count V_x5 SS.1 rfl hcs (by decide) (by decide) (by decide) (by decide) (by decide)) E_x1 H hZ hown dm5_82 (oW hw 126 rfl) (kV37 hw) hml rfl rfl [] rfl rfl
  have sz_x8 : h0.size ≤ x8 := Nat.le_trans KK.1 zz_x8
  have sz_x9 : h0.size ≤ x9 := Nat.le_trans KK.1 zz_x9
  have hsA : ∀ x ∈ ([] : List Addr), Safe Z own_EL vmA26 hA29 x := all0
  have HC := HC.trans (CHr.keep KA31 hsA HC.1)
  have hk := Nat.le_trans hk KA31.1
  have KK : Keep h0 hA31 [] := KK.trans KA31 all0
  have E_x8 : Exa Z hA31 x8 "java/lang/String" := P_E_x8
  have F_x8_value : Fld Z hA31 x8 "java/lang/String" "value" "[B" (.ref x9) := P_F_x8_value
  have F_x8_coder : Fld Z hA31 x8 "java/lang/String" "coder" "B" (.int 0) := P_F_x8_coder
  have V_x9 : own_Ar Z hA31 x9 .byte (List.map own_lo [39, (own_sh e0), (own_sh e1), (own_sh e2), (own_sh e3), (own_sh e4), (own_sh e5), (own_sh e6), (own_sh e7), (own_sh e8), (own_sh e9), (own_sh e10), (own_sh e11), (own_sh e12), (own_sh e13), (own_sh e14), (own_sh e15), (own_sh e16), (own_sh e17), (own_sh e18), (own_sh e19), (own_sh e20), (own_sh e21), (own_sh e22), (own_sh e23), 46, 46, 46, 39]) := P_V_x9
  have hl_x9 : ([39, (own_sh e0), (own_sh e1), (own_sh e2), (own_sh e3), (own_sh e4), (own_sh e5), (own_sh e6), (own_sh e7), (own_sh e8), (own_sh e9), (own_sh e10), (own_sh e11), (own_sh e12), (own_sh e13), (own_sh e14), (own_sh e15), (own_sh e16), (own_sh e17), (own_sh e18), (own_sh e19), (own_sh e20), (own_sh e21), (own_sh e22), (own_sh e23), 46, 46, 46, 39] : List Int32).length = 29 := rfl
  have A33 := A31.cl
  exact A33.retSS hx hlk hZ hS hk hEL HC hret (hb hby dm5_85) rfl (Or.inr (Or.inr (Or.inr (Or.inr ⟨rfl, rfl, rfl⟩)))) (by decide) (by decide) ⟨x8, x9, rfl, KK, sz_x8, sz_x9, ne_x9_x8, E_x8, F_x8_value, F_x8_coder, V_x9, hl_x9⟩
theorem own_law0 (l : Launch) (Z : State) (a0 : Array Value) (hw : ∀ d ∈ tables_1, d.before a0 Z = true) (i0 i1 i2 i3 i4 : Int32) (cs : Int32) (fm : Value) (h0 : Heap) (n0 : Nat) (Z0 : n0 ≤ h0.size) (hEL : EW Z a0 own_EL) (own_wS : ∀ a ∈ Bundle.stringAtoms, a.before a0 Z = true) (SS : own_ST Z h0 cs fm) (hcs : ¬ (cs = (0 : Int32))) (hfm : fm.isRef = true) (hk8 : (i0 &&& (7 : Int32)) = (0 : Int32)) :
    own_MS l Z own_EL x code maxLocals ret tables_1 room_1 #[(.int i0), (.int i1), (.int i2), (.int i3), (.int i4)] h0 n0 (fun v h => v = some (.int 1) ∧ True) := by
  refine own_MS.of (plainFor_of_name (by first | (simp [plainName, overriddenIn]; done) | decide +kernel)) ?_
  intro p e s m below meth c S0 vm0 k0 hx hby hml hown hnm hret hlk hZ hS hk HC A00
  have H : own_H p c _ := ⟨hx, hby⟩
  have A0 := A00.cast (f' := mkF m 0 #[.val (.int i0), .val (.int i1), .val (.int i2), .val (.int i3), .val (.int i4), .unset, .unset, .unset, .unset, .unset, .unset, .unset, .unset, .unset, .unset] []) (by first | (simp [entryFrame, mkF, argsToLocals, Value.category, maxLocals]; done) | rfl)
  have A1 := A0.iN H dm0_0 rfl rfl |>.bp H dm0_1 rfl 7 rfl |>.nd H dm0_3 rfl _ rfl
  rw [hk8] at A1
  have A3 := A1.iS H dm0_4 rfl #[.val (.int i0), .val (.int i1), .val (.int i2), .val (.int i3), .val (.int i4), .val (.int 0), .unset, .unset, .unset, .unset, .unset, .unset, .unset, .unset, .unset] rfl |>.iL H dm0_6 rfl rfl |>.ic H dm0_8 rfl 4 rfl |>.cn H dm0_9 rfl rfl |>.iL H dm0_12 rfl rfl |>.gt H dm0_14 rfl 22 (by decide) (by decide) |>.iS H dm0_22 rfl #[.val (.int i0), .val (.int i1), .val (.int i2), .val (.int i3), .val (.int i4), .val (.int 0), .val (.int 0), .unset, .unset, .unset, .unset, .unset, .unset, .unset, .unset] rfl |>.iL H dm0_24 rfl rfl
  obtain ⟨vA2, hA2, ⟨x1, rfl, KA2, zz_x1, P_V_x1⟩, A2⟩ := A3.cS (own_c120 l Z a0 hw h0 n0 Z0) H hZ hown dm0_26 (oW hw 0 rfl) (kS44 hw) hml rfl rfl [] rfl rfl
  have hsA : ∀ x ∈ ([] : List Addr), Safe Z own_EL vm0 h0 x := all0
  have HC := HC.trans (CHr.keep KA2 hsA HC.1)
  have hk := Nat.le_trans hk KA2.1
  have SS := SS.kp KA2 all0
  have Z0 := Nat.le_trans Z0 KA2.1
  have V_x1 : own_Ar Z hA2 x1 .char [] := P_V_x1
  have A4 := A2.cl |>.aS H dm0_29 rfl rfl #[.val (.int i0), .val (.int i1), .val (.int i2), .val (.int i3), .val (.int i4), .val (.int 0), .val (.int 0), .val (.ref x1), .unset, .unset, .unset, .unset, .unset, .unset, .unset] rfl |>.iN H dm0_31 rfl rfl
  have A5 := A4.ldcI hx hZ hown (hb hby dm0_32) (oW hw 5 rfl)
  have A6 := A5.nd H dm0_34 rfl _ rfl |>.ch H dm0_35 rfl _ rfl
  rw [own_cC (own_and16 i1).1 (own_and16 i1).2] at A6
  obtain ⟨c0, hc0⟩ : ∃ zq_, zq_ = (i1 &&& (65535 : Int32)) := ⟨_, rfl⟩
  rw [← hc0] at A6
  have hc0a : ¬ (c0 < (0 : Int32)) := hc0 ▸ (own_and16 i1).1
  have hc0b : ¬ ((65535 : Int32) < c0) := hc0 ▸ (own_and16 i1).2
  have A7 := A6.iS H dm0_36 rfl #[.val (.int i0), .val (.int i1), .val (.int i2), .val (.int i3), .val (.int i4), .val (.int 0), .val (.int 0), .val (.ref x1), .val (.int c0), .unset, .unset, .unset, .unset, .unset, .unset] rfl |>.iN H dm0_38 rfl rfl
  have A8 := A7.ldcI hx hZ hown (hb hby dm0_39) (oW hw 5 rfl)
  have A9 := A8.nd H dm0_41 rfl _ rfl |>.ch H dm0_42 rfl _ rfl
  rw [own_cC (own_and16 i2).1 (own_and16 i2).2] at A9
  obtain ⟨c1, hc1⟩ : ∃ zq_, zq_ = (i2 &&& (65535 : Int32)) := ⟨_, rfl⟩
  rw [← hc1] at A9
  have hc1a : ¬ (c1 < (0 : Int32)) := hc1 ▸ (own_and16 i2).1
  have hc1b : ¬ ((65535 : Int32) < c1) := hc1 ▸ (own_and16 i2).2
  have A10 := A9.iS H dm0_43 rfl #[.val (.int i0), .val (.int i1), .val (.int i2), .val (.int i3), .val (.int i4), .val (.int 0), .val (.int 0), .val (.ref x1), .val (.int c0), .val (.int c1), .unset, .unset, .unset, .unset, .unset] rfl |>.iN H dm0_45 rfl rfl
  have A11 := A10.ldcI hx hZ hown (hb hby dm0_46) (oW hw 5 rfl)
  have A12 := A11.nd H dm0_48 rfl _ rfl |>.ch H dm0_49 rfl _ rfl
  rw [own_cC (own_and16 i3).1 (own_and16 i3).2] at A12
  obtain ⟨c2, hc2⟩ : ∃ zq_, zq_ = (i3 &&& (65535 : Int32)) := ⟨_, rfl⟩
  rw [← hc2] at A12
  have hc2a : ¬ (c2 < (0 : Int32)) := hc2 ▸ (own_and16 i3).1
  have hc2b : ¬ ((65535 : Int32) < c2) := hc2 ▸ (own_and16 i3).2
  have A13 := A12.iS H dm0_50 rfl #[.val (.int i0), .val (.int i1), .val (.int i2), .val (.int i3), .val (.int i4), .val (.int 0), .val (.int 0), .val (.ref x1), .val (.int c0), .val (.int c1), .val (.int c2), .unset, .unset, .unset, .unset] rfl |>.iL H dm0_52 rfl rfl
  have A14 := A13.ldcI hx hZ hown (hb hby dm0_54) (oW hw 5 rfl)
  have A15 := A14.nd H dm0_56 rfl _ rfl |>.ch H dm0_57 rfl _ rfl
  rw [own_cC (own_and16 i4).1 (own_and16 i4).2] at A15
  obtain ⟨c3, hc3⟩ : ∃ zq_, zq_ = (i4 &&& (65535 : Int32)) := ⟨_, rfl⟩
  rw [← hc3] at A15
  have hc3a : ¬ (c3 < (0 : Int32)) := hc3 ▸ (own_and16 i4).1
  have hc3b : ¬ ((65535 : Int32) < c3) := hc3 ▸ (own_and16 i4).2
  have A16 := A15.iS H dm0_58 rfl #[.val (.int i0), .val (.int i1), .val (.int i2), .val (.int i3), .val (.int i4), .val (.int 0), .val (.int 0), .val (.ref x1), .val (.int c0), .val (.int c1), .val (.int c2), .val (.int c3), .unset, .unset, .unset] rfl |>.iL H dm0_60 rfl rfl |>.ic H dm0_62 rfl 1 rfl |>.cy H dm0_63 rfl rfl 72 (by decide) (by decide) |>.iL H dm0_72 rfl rfl |>.ic H dm0_74 rfl 2 rfl |>.cy H dm0_75 rfl rfl 84 (by decide) (by decide) |>.iL H dm0_84 rfl rfl |>.ic H dm0_86 rfl 3 rfl |>.cy H dm0_87 rfl rfl 99 (by decide) (by decide) |>.iL H dm0_99 rfl rfl |>.bp H dm0_101 rfl 25 rfl
  have A20 := A16.cy H dm0_103 rfl rfl 113 (by decide) (by decide)
  obtain ⟨h17, E18, E_x2, D_x2, A19⟩ := A20.newO hx hZ hown (hb hby dm0_113) (oW hw 6 rfl) (oW hw 7 rfl) (oW hw 8 rfl) (by decide) (by decide)
  obtain ⟨x2, gx2⟩ : ∃ z, z = hA2.size := ⟨_, rfl⟩
  rw [← gx2] at E_x2 D_x2 A19
  have ne_x1_x2 : x1 ≠ x2 := by rw [gx2]; exact Nat.ne_of_lt V_x1.lt
  have g_x2 : n0 ≤ x2 := by rw [gx2]; exact Z0
  have SS := SS.ext E18
  have V_x1 := V_x1.ext E18
  have Z0 := Nat.le_trans Z0 E18.1
  have HC := HC.trans (CHr.ext E18 HC.1)
  have hk := Nat.le_trans hk E18.1
  have F_x2_value : Fld Z h17 x2 "java/lang/String" "value" "[B" .null := D_x2 (Or.inr (oW hw 21 rfl)) (ty := (.array .byte)) (by decide)
  have F_x2_coder : Fld Z h17 x2 "java/lang/String" "coder" "B" (.int 0) := D_x2 (Or.inr (oW hw 22 rfl)) (ty := .byte) (by decide)
  have A22 := A19.du H dm0_116 rfl rfl |>.aL H dm0_117 rfl rfl rfl
  obtain ⟨vA21, vmA21, kA21, hA21, ⟨x3, rfl, KA21, ne_x3_x2, P_F_x2_value, P_F_x2_coder, P_V_x3, hl_x3⟩, hS, hk, hZ, hown, HCs, hgA21, hwA21, A21⟩ := A22.callIS (b := x2) (own_c124 l Z a0 hw x2 x1 h17 n0 Z0 hEL own_wS E_x2 F_x2_value F_x2_coder V_x1 ne_x1_x2 g_x2) hx hZ hown (hb hby dm0_119) rfl (oW hw 9 rfl) (oW hw 10 rfl) (oW hw 11 rfl) (oW hw 8 rfl) hS hk hEL (CHr.refl HC.1) ⟨by decide, by decide⟩ (lenOf pd__28_5bC_29V rfl) (argsL := [(.ref x1)]) (rest := [(.ref x2)]) rfl rfl (by rw [hml]; rfl) (W := 1) (Nat.le_of_eq rfl) (by decide) (by decide) (by decide) (by decide)
  have HC := HC.trans HCs
  have SS := SS.kp KA21 (allS (P := fun x => ∀ cell : Cell, h17[x]? = some cell → cell.vm.isStatics = false) E_x2.nostat all0)
  have E_x2 := E_x2.keep KA21
  have Z0 := Nat.le_trans Z0 KA21.1
  have F_x2_value : Fld Z hA21 x2 "java/lang/String" "value" "[B" (.ref x3) := P_F_x2_value
  have F_x2_coder : Fld Z hA21 x2 "java/lang/String" "coder" "B" (.int 0) := P_F_x2_coder
  have V_x3 : own_Ar Z hA21 x3 .byte (List.map own_lo ([] : List Int32)) := P_V_x3
  have V_x3 : own_Ar Z hA21 x3 .byte (own_by (0 : Int32) ([] : List Int32)) := by rw [own_by, if_pos rfl]; exact V_x3
  have hok : own_ok (0 : Int32) ([] : List Int32) := Or.inl ⟨rfl, own_aN⟩
  have A24 := A21.c0
  obtain ⟨vA23, vmA23, kA23, hA23, ⟨x4, x5, rfl, KA23, zz_x4, zz_x5, ne_x5_x4, P_E_x4, P_F_x4_value, P_F_x4_coder, P_V_x5, hl_x5⟩, hS, hk, hZ, hown, HCs, hgA23, hwA23, A23⟩ := A24.callSS (own_q0 l Z a0 hw x2 x3 (0 : Int32) cs fm hA21 n0 Z0 hEL own_wS E_x2 F_x2_coder F_x2_value V_x3 SS hcs hfm hok (by show (0 : Nat) < 64; decide)) hx hZ hown (hb hby dm0_122) (oW hw 27 rfl) (oW hw 28 rfl) (oW hw 29 rfl) (oW hw 30 rfl) hS hk hEL (CHr.refl HC.1) ⟨by decide, by decide⟩ (lenOf pd__28Ljava_2flang_2fString_3b_29Ljava_2flang_2fString_3b rfl) (argsL := [(.ref x2)]) (rest := []) rfl rfl (by rw [hml]; rfl) (W := 0) (Nat.le_of_eq rfl) (by decide) (by decide) (by decide) (by decide)
  have HC := HC.trans HCs
  have SS := SS.kp KA23 all0
  have Z0 := Nat.le_trans Z0 KA23.1
  have E_x4 : Exa Z hA23 x4 "java/lang/String" := P_E_x4
  have F_x4_value : Fld Z hA23 x4 "java/lang/String" "value" "[B" (.ref x5) := P_F_x4_value
  have F_x4_coder : Fld Z hA23 x4 "java/lang/String" "coder" "B" (.int 0) := P_F_x4_coder
  have V_x5 : own_Ar Z hA23 x5 .byte (List.map own_lo [39, 39]) := P_V_x5
  have VR : own_Ar Z hA23 x5 .byte (own_by (0 : Int32) [39, 39]) := by rw [own_by, if_pos rfl]; exact V_x5
  have hokR : own_ok (0 : Int32) [39, 39] := Or.inl ⟨rfl, own_aS (P := own_b8) ⟨by decide, by decide⟩ (own_aS (P := own_b8) ⟨by decide, by decide⟩ (own_aN))⟩
  have A26 := A23.cl |>.aS H dm0_125 rfl rfl #[.val (.int i0), .val (.int i1), .val (.int i2), .val (.int i3), .val (.int i4), .val (.int 0), .val (.int 0), .val (.ref x1), .val (.int c0), .val (.int c1), .val (.int c2), .val (.int c3), .val (.ref x4), .unset, .unset] rfl |>.iL H dm0_127 rfl rfl |>.bp H dm0_129 rfl 24 rfl
  obtain ⟨vA25, hA25, ⟨rfl, rfl⟩, A25⟩ := A26.cS (own_c24 l Z a0 hw hA23 n0 Z0) H hZ hown dm0_131 (oW hw 164 rfl) (kS26 hw) hml rfl rfl [] rfl rfl
  have A28 := A25.cl |>.iS H dm0_134 rfl #[.val (.int i0), .val (.int i1), .val (.int i2), .val (.int i3), .val (.int i4), .val (.int 0), .val (.int 0), .val (.ref x1), .val (.int c0), .val (.int c1), .val (.int c2), .val (.int c3), .val (.ref x4), .val (.int 0), .unset] rfl |>.iL H dm0_136 rfl rfl |>.ic H dm0_138 rfl 2 rfl |>.ad H dm0_139 rfl 2 rfl |>.iL H dm0_140 rfl rfl |>.bp H dm0_142 rfl 24 rfl |>.cy H dm0_144 rfl rfl 151 (by decide) (by decide) |>.ic H dm0_151 rfl 0 rfl |>.ad H dm0_152 rfl 2 rfl |>.iS H dm0_153 rfl #[.val (.int i0), .val (.int i1), .val (.int i2), .val (.int i3), .val (.int i4), .val (.int 0), .val (.int 0), .val (.ref x1), .val (.int c0), .val (.int c1), .val (.int c2), .val (.int c3), .val (.ref x4), .val (.int 0), .val (.int 2)] rfl |>.aL H dm0_155 rfl rfl rfl
  obtain ⟨vA27, hA27, ⟨rfl, rfl⟩, A27⟩ := A28.cV (own_len l Z a0 hw x4 x5 cs 0 2 _ hA23 n0 Z0 SS.1 hcs E_x4 F_x4_coder F_x4_value VR hokR (by show (2 : Nat) < 64; decide) rfl) E_x4 H hZ hown dm0_157 (oW hw 165 rfl) (kV17 hw) hml rfl rfl [] rfl rfl
  have q29 : ((2 : Int32) = (2 : Int32)) := rfl
  have A31 := A27.cl |>.iL H dm0_160 rfl rfl |>.cy H dm0_162 rfl ((teq q29).1) 167 (by decide) (by decide) |>.aL H dm0_167 rfl rfl rfl |>.ic H dm0_169 rfl 0 rfl
  obtain ⟨vA30, hA30, ⟨rfl, rfl⟩, A30⟩ := A31.cV (own_ch l Z a0 hw x4 x5 cs 0 0 39 _ fm hA23 n0 Z0 SS.1 hcs E_x4 F_x4_coder F_x4_value VR hokR (by show (2 : Nat) < 64; decide) hfm SS.2.1 SS.2.2.1 SS.2.2.2.1 SS.2.2.2.2 (by decide) rfl) E_x4 H hZ hown dm0_170 (oW hw 166 rfl) (kV38 hw) hml rfl rfl [] rfl rfl
  have q32 : ((39 : Int32) = (39 : Int32)) := rfl
  have A34 := A30.cl |>.bp H dm0_173 rfl 39 rfl |>.cn H dm0_175 rfl ((teq q32).2) |>.aL H dm0_178 rfl rfl rfl |>.iL H dm0_180 rfl rfl |>.ic H dm0_182 rfl 1 rfl |>.sb H dm0_183 rfl 1 rfl
  obtain ⟨vA33, hA33, ⟨rfl, rfl⟩, A33⟩ := A34.cV (own_ch l Z a0 hw x4 x5 cs 0 1 39 _ fm hA23 n0 Z0 SS.1 hcs E_x4 F_x4_coder F_x4_value VR hokR (by show (2 : Nat) < 64; decide) hfm SS.2.1 SS.2.2.1 SS.2.2.2.1 SS.2.2.2.2 (by decide) rfl) E_x4 H hZ hown dm0_184 (oW hw 166 rfl) (kV38 hw) hml rfl rfl [] rfl rfl
  have A36 := A33.cl |>.bp H dm0_187 rfl 39 rfl |>.cy H dm0_189 rfl ((teq q32).1) 194 (by decide) (by decide) |>.iL H dm0_194 rfl rfl |>.bp H dm0_196 rfl 24 rfl |>.cy H dm0_198 rfl rfl 245 (by decide) (by decide) |>.aL H dm0_245 rfl rfl rfl |>.aL H dm0_247 rfl rfl rfl |>.ic H dm0_249 rfl 0 rfl |>.iL H dm0_250 rfl rfl
  obtain ⟨vA35, hA35, ⟨rfl, rfl⟩, A35⟩ := A36.cS (own_atN l Z a0 hw x4 x1 0 0 hA23 n0 Z0 (by decide)) H hZ hown dm0_252 (oW hw 187 rfl) (kS45 hw) hml rfl rfl [] rfl rfl
  have A38 := A35.cl |>.fn H dm0_255 rfl rfl |>.aL H dm0_258 rfl rfl rfl |>.aL H dm0_260 rfl rfl rfl |>.ic H dm0_262 rfl 1 rfl |>.iL H dm0_263 rfl rfl
  obtain ⟨vA37, hA37, ⟨rfl, rfl⟩, A37⟩ := A38.cS (own_atN l Z a0 hw x4 x1 1 0 hA23 n0 Z0 (by decide)) H hZ hown dm0_265 (oW hw 187 rfl) (kS45 hw) hml rfl rfl [] rfl rfl
  have A40 := A37.cl |>.fn H dm0_268 rfl rfl |>.aL H dm0_271 rfl rfl rfl |>.aL H dm0_273 rfl rfl rfl |>.ic H dm0_275 rfl 2 rfl |>.iL H dm0_276 rfl rfl
  obtain ⟨vA39, hA39, ⟨rfl, rfl⟩, A39⟩ := A40.cS (own_atN l Z a0 hw x4 x1 2 0 hA23 n0 Z0 (by decide)) H hZ hown dm0_278 (oW hw 187 rfl) (kS45 hw) hml rfl rfl [] rfl rfl
  have A42 := A39.cl |>.fn H dm0_281 rfl rfl |>.aL H dm0_284 rfl rfl rfl |>.aL H dm0_286 rfl rfl rfl |>.bp H dm0_288 rfl 12 rfl |>.iL H dm0_290 rfl rfl
  obtain ⟨vA41, hA41, ⟨rfl, rfl⟩, A41⟩ := A42.cS (own_atN l Z a0 hw x4 x1 12 0 hA23 n0 Z0 (by decide)) H hZ hown dm0_292 (oW hw 187 rfl) (kS45 hw) hml rfl rfl [] rfl rfl
  have A44 := A41.cl |>.fn H dm0_295 rfl rfl |>.aL H dm0_298 rfl rfl rfl |>.aL H dm0_300 rfl rfl rfl |>.bp H dm0_302 rfl 22 rfl |>.iL H dm0_304 rfl rfl
  obtain ⟨vA43, hA43, ⟨rfl, rfl⟩, A43⟩ := A44.cS (own_atN l Z a0 hw x4 x1 22 0 hA23 n0 Z0 (by decide)) H hZ hown dm0_306 (oW hw 187 rfl) (kS45 hw) hml rfl rfl [] rfl rfl
  have A46 := A43.cl |>.fn H dm0_309 rfl rfl |>.aL H dm0_312 rfl rfl rfl |>.aL H dm0_314 rfl rfl rfl |>.bp H dm0_316 rfl 23 rfl |>.iL H dm0_318 rfl rfl
  obtain ⟨vA45, hA45, ⟨rfl, rfl⟩, A45⟩ := A46.cS (own_atN l Z a0 hw x4 x1 23 0 hA23 n0 Z0 (by decide)) H hZ hown dm0_320 (oW hw 187 rfl) (kS45 hw) hml rfl rfl [] rfl rfl
  have A47 := A45.cl |>.fn H dm0_323 rfl rfl |>.ic H dm0_326 rfl 1 rfl |>.gt H dm0_327 rfl 331 (by decide) (by decide)
  exact A47.retSS hx hlk hZ hS hk hEL HC hret (hb hby dm0_331) rfl (Or.inl ⟨rfl, by simp, _, rfl⟩) (by decide) (by decide) ⟨rfl, trivial⟩
theorem own_law1 (l : Launch) (Z : State) (a0 : Array Value) (hw : ∀ d ∈ tables_1, d.before a0 Z = true) (i0 i1 i2 i3 i4 : Int32) (cs : Int32) (fm : Value) (h0 : Heap) (n0 : Nat) (Z0 : n0 ≤ h0.size) (hEL : EW Z a0 own_EL) (own_wS : ∀ a ∈ Bundle.stringAtoms, a.before a0 Z = true) (SS : own_ST Z h0 cs fm) (hcs : ¬ (cs = (0 : Int32))) (hfm : fm.isRef = true) (hk8 : (i0 &&& (7 : Int32)) = (1 : Int32)) :
    own_MS l Z own_EL x code maxLocals ret tables_1 room_1 #[(.int i0), (.int i1), (.int i2), (.int i3), (.int i4)] h0 n0 (fun v h => v = some (.int 1) ∧ True) := by
  refine own_MS.of (plainFor_of_name (by first | (simp [plainName, overriddenIn]; done) | decide +kernel)) ?_
  intro p e s m below meth c S0 vm0 k0 hx hby hml hown hnm hret hlk hZ hS hk HC A00
  have H : own_H p c _ := ⟨hx, hby⟩
  have A0 := A00.cast (f' := mkF m 0 #[.val (.int i0), .val (.int i1), .val (.int i2), .val (.int i3), .val (.int i4), .unset, .unset, .unset, .unset, .unset, .unset, .unset, .unset, .unset, .unset] []) (by first | (simp [entryFrame, mkF, argsToLocals, Value.category, maxLocals]; done) | rfl)
  have A1 := A0.iN H dm0_0 rfl rfl |>.bp H dm0_1 rfl 7 rfl |>.nd H dm0_3 rfl _ rfl
  rw [hk8] at A1
  have A3 := A1.iS H dm0_4 rfl #[.val (.int i0), .val (.int i1), .val (.int i2), .val (.int i3), .val (.int i4), .val (.int 1), .unset, .unset, .unset, .unset, .unset, .unset, .unset, .unset, .unset] rfl |>.iL H dm0_6 rfl rfl |>.ic H dm0_8 rfl 4 rfl |>.cn H dm0_9 rfl rfl |>.iL H dm0_12 rfl rfl |>.gt H dm0_14 rfl 22 (by decide) (by decide) |>.iS H dm0_22 rfl #[.val (.int i0), .val (.int i1), .val (.int i2), .val (.int i3), .val (.int i4), .val (.int 1), .val (.int 1), .unset, .unset, .unset, .unset, .unset, .unset, .unset, .unset] rfl |>.iL H dm0_24 rfl rfl
  obtain ⟨vA2, hA2, ⟨x1, rfl, KA2, zz_x1, P_V_x1⟩, A2⟩ := A3.cS (own_c126 l Z a0 hw h0 n0 Z0) H hZ hown dm0_26 (oW hw 0 rfl) (kS44 hw) hml rfl rfl [] rfl rfl
  have g_x1 : n0 ≤ x1 := Nat.le_trans Z0 zz_x1
  have hsA : ∀ x ∈ ([] : List Addr), Safe Z own_EL vm0 h0 x := all0
  have HC := HC.trans (CHr.keep KA2 hsA HC.1)
  have hk := Nat.le_trans hk KA2.1
  have SS := SS.kp KA2 all0
  have Z0 := Nat.le_trans Z0 KA2.1
  have V_x1 : own_Ar Z hA2 x1 .char [(.int 0)] := P_V_x1
  have A4 := A2.cl |>.aS H dm0_29 rfl rfl #[.val (.int i0), .val (.int i1), .val (.int i2), .val (.int i3), .val (.int i4), .val (.int 1), .val (.int 1), .val (.ref x1), .unset, .unset, .unset, .unset, .unset, .unset, .unset] rfl |>.iN H dm0_31 rfl rfl
  have A5 := A4.ldcI hx hZ hown (hb hby dm0_32) (oW hw 5 rfl)
  have A6 := A5.nd H dm0_34 rfl _ rfl |>.ch H dm0_35 rfl _ rfl
  rw [own_cC (own_and16 i1).1 (own_and16 i1).2] at A6
  obtain ⟨c0, hc0⟩ : ∃ zq_, zq_ = (i1 &&& (65535 : Int32)) := ⟨_, rfl⟩
  rw [← hc0] at A6
  have hc0a : ¬ (c0 < (0 : Int32)) := hc0 ▸ (own_and16 i1).1
  have hc0b : ¬ ((65535 : Int32) < c0) := hc0 ▸ (own_and16 i1).2
  have A7 := A6.iS H dm0_36 rfl #[.val (.int i0), .val (.int i1), .val (.int i2), .val (.int i3), .val (.int i4), .val (.int 1), .val (.int 1), .val (.ref x1), .val (.int c0), .unset, .unset, .unset, .unset, .unset, .unset] rfl |>.iN H dm0_38 rfl rfl
  have A8 := A7.ldcI hx hZ hown (hb hby dm0_39) (oW hw 5 rfl)
  have A9 := A8.nd H dm0_41 rfl _ rfl |>.ch H dm0_42 rfl _ rfl
  rw [own_cC (own_and16 i2).1 (own_and16 i2).2] at A9
  obtain ⟨c1, hc1⟩ : ∃ zq_, zq_ = (i2 &&& (65535 : Int32)) := ⟨_, rfl⟩
  rw [← hc1] at A9
  have hc1a : ¬ (c1 < (0 : Int32)) := hc1 ▸ (own_and16 i2).1
  have hc1b : ¬ ((65535 : Int32) < c1) := hc1 ▸ (own_and16 i2).2
  have A10 := A9.iS H dm0_43 rfl #[.val (.int i0), .val (.int i1), .val (.int i2), .val (.int i3), .val (.int i4), .val (.int 1), .val (.int 1), .val (.ref x1), .val (.int c0), .val (.int c1), .unset, .unset, .unset, .unset, .unset] rfl |>.iN H dm0_45 rfl rfl
  have A11 := A10.ldcI hx hZ hown (hb hby dm0_46) (oW hw 5 rfl)
  have A12 := A11.nd H dm0_48 rfl _ rfl |>.ch H dm0_49 rfl _ rfl
  rw [own_cC (own_and16 i3).1 (own_and16 i3).2] at A12
  obtain ⟨c2, hc2⟩ : ∃ zq_, zq_ = (i3 &&& (65535 : Int32)) := ⟨_, rfl⟩
  rw [← hc2] at A12
  have hc2a : ¬ (c2 < (0 : Int32)) := hc2 ▸ (own_and16 i3).1
  have hc2b : ¬ ((65535 : Int32) < c2) := hc2 ▸ (own_and16 i3).2
  have A13 := A12.iS H dm0_50 rfl #[.val (.int i0), .val (.int i1), .val (.int i2), .val (.int i3), .val (.int i4), .val (.int 1), .val (.int 1), .val (.ref x1), .val (.int c0), .val (.int c1), .val (.int c2), .unset, .unset, .unset, .unset] rfl |>.iL H dm0_52 rfl rfl
  have A14 := A13.ldcI hx hZ hown (hb hby dm0_54) (oW hw 5 rfl)
  have A15 := A14.nd H dm0_56 rfl _ rfl |>.ch H dm0_57 rfl _ rfl
  rw [own_cC (own_and16 i4).1 (own_and16 i4).2] at A15
  obtain ⟨c3, hc3⟩ : ∃ zq_, zq_ = (i4 &&& (65535 : Int32)) := ⟨_, rfl⟩
  rw [← hc3] at A15
  have hc3a : ¬ (c3 < (0 : Int32)) := hc3 ▸ (own_and16 i4).1
  have hc3b : ¬ ((65535 : Int32) < c3) := hc3 ▸ (own_and16 i4).2
  have SX_x1 : Safe Z own_EL _ hA2 x1 := own_Ar.safe hZ.alike V_x1 (by decide)
  have A19 := A15.iS H dm0_58 rfl #[.val (.int i0), .val (.int i1), .val (.int i2), .val (.int i3), .val (.int i4), .val (.int 1), .val (.int 1), .val (.ref x1), .val (.int c0), .val (.int c1), .val (.int c2), .val (.int c3), .unset, .unset, .unset] rfl |>.iL H dm0_60 rfl rfl |>.ic H dm0_62 rfl 1 rfl |>.cn H dm0_63 rfl rfl |>.aL H dm0_66 rfl rfl rfl |>.ic H dm0_68 rfl 0 rfl |>.iL H dm0_69 rfl rfl
  obtain ⟨h16, W17, A18⟩ := A19.stC hx hZ (hb hby dm0_71) V_x1 (by decide) (by simp +decide) g_x1
  have SS := SS.wr W17
  have V_x1 : own_Ar Z h16 x1 .char [(.int (nar .char c0))] := V_x1.same W17
  have Z0 : n0 ≤ h16.size := by rw [W17.size]; exact Z0
  have hk := (by rw [W17.size]; exact hk : _ ≤ h16.size)
  have HC := HC.trans (CHr.wr W17 SX_x1 HC.1)
  rw [show nar .char c0 = c0 from own_cC hc0a hc0b] at V_x1
  have V_x1 : own_Ar Z h16 x1 .char [(.int c0)] := V_x1
  have A23 := A18.iL H dm0_72 rfl rfl |>.ic H dm0_74 rfl 2 rfl |>.cy H dm0_75 rfl rfl 84 (by decide) (by decide) |>.iL H dm0_84 rfl rfl |>.ic H dm0_86 rfl 3 rfl |>.cy H dm0_87 rfl rfl 99 (by decide) (by decide) |>.iL H dm0_99 rfl rfl |>.bp H dm0_101 rfl 25 rfl |>.cy H dm0_103 rfl rfl 113 (by decide) (by decide)
  obtain ⟨h20, E21, E_x2, D_x2, A22⟩ := A23.newO hx hZ hown (hb hby dm0_113) (oW hw 6 rfl) (oW hw 7 rfl) (oW hw 8 rfl) (by decide) (by decide)
  obtain ⟨x2, gx2⟩ : ∃ z, z = h16.size := ⟨_, rfl⟩
  rw [← gx2] at E_x2 D_x2 A22
  have ne_x1_x2 : x1 ≠ x2 := by rw [gx2]; exact Nat.ne_of_lt V_x1.lt
  have g_x2 : n0 ≤ x2 := by rw [gx2]; exact Z0
  have SS := SS.ext E21
  have V_x1 := V_x1.ext E21
  have Z0 := Nat.le_trans Z0 E21.1
  have HC := HC.trans (CHr.ext E21 HC.1)
  have hk := Nat.le_trans hk E21.1
  have F_x2_value : Fld Z h20 x2 "java/lang/String" "value" "[B" .null := D_x2 (Or.inr (oW hw 21 rfl)) (ty := (.array .byte)) (by decide)
  have F_x2_coder : Fld Z h20 x2 "java/lang/String" "coder" "B" (.int 0) := D_x2 (Or.inr (oW hw 22 rfl)) (ty := .byte) (by decide)
  have SX_x2 : Safe Z own_EL vm0 h20 x2 := own_safeNull hZ.alike E_x2 F_x2_value
  have hch : ∀ z ∈ ([c0] : List Int32), own_b16 z := own_aS (P := own_b16) ⟨hc0a, hc0b⟩ (own_aN)
  have A25 := A22.du H dm0_116 rfl rfl |>.aL H dm0_117 rfl rfl rfl
  obtain ⟨vA24, hA24, ⟨x3, k, rfl, KI, zz_x3, PC_, PV_, PB_, hok⟩, A24⟩ := A25.cI (own_in1 l Z a0 hw x2 x1 1 cs [c0] h20 n0 Z0 E_x2 F_x2_coder F_x2_value g_x2 V_x1 rfl (by show (1 : Nat) < 64; decide) (by show (1 : Nat) ≤ 32; decide) (by show 0 < (1 : Nat); decide) hch SS.1 hcs SS.2.2.1 SS.2.2.2.1 SS.2.2.2.2) H hZ hown dm0_119 (oW hw 9 rfl) (kI46 hw) hml rfl rfl [(.ref x2)] rfl rfl
  have hsA : ∀ x ∈ ([x2] : List Addr), Safe Z own_EL vm0 h20 x := (allS SX_x2 all0)
  have HC := HC.trans (CHr.keep KI hsA HC.1)
  have hk := Nat.le_trans hk KI.1
  have SS := SS.kp KI (allS (P := fun x => ∀ cell : Cell, h20[x]? = some cell → cell.vm.isStatics = false) E_x2.nostat all0)
  have V_x1 := V_x1.keep KI (ninS ne_x1_x2 nin0)
  have E_x2 := E_x2.keep KI
  have Z0 := Nat.le_trans Z0 KI.1
  have F_x2_coder : Fld Z hA24 x2 "java/lang/String" "coder" "B" (.int k) := PC_
  have F_x2_value : Fld Z hA24 x2 "java/lang/String" "value" "[B" (.ref x3) := PV_
  have V_x3 : own_Ar Z hA24 x3 .byte (own_by k [c0]) := PB_
  have A27 := A24.c0
  obtain ⟨vA26, vmA26, kA26, hA26, ⟨x4, x5, rfl, KA26, zz_x4, zz_x5, ne_x5_x4, P_E_x4, P_F_x4_value, P_F_x4_coder, P_V_x5, hl_x5⟩, hS, hk, hZ, hown, HCs, hgA26, hwA26, A26⟩ := A27.callSS (own_q1 l Z a0 hw x2 x3 k c0 cs fm hA24 n0 Z0 hEL own_wS E_x2 F_x2_coder F_x2_value V_x3 SS hcs hfm hok (by show (1 : Nat) < 64; decide)) hx hZ hown (hb hby dm0_122) (oW hw 27 rfl) (oW hw 28 rfl) (oW hw 29 rfl) (oW hw 30 rfl) hS hk hEL (CHr.refl HC.1) ⟨by decide, by decide⟩ (lenOf pd__28Ljava_2flang_2fString_3b_29Ljava_2flang_2fString_3b rfl) (argsL := [(.ref x2)]) (rest := []) rfl rfl (by rw [hml]; rfl) (W := 0) (Nat.le_of_eq rfl) (by decide) (by decide) (by decide) (by decide)
  have HC := HC.trans HCs
  have SS := SS.kp KA26 all0
  have V_x1 := V_x1.keep KA26 nin0
  have Z0 := Nat.le_trans Z0 KA26.1
  have E_x4 : Exa Z hA26 x4 "java/lang/String" := P_E_x4
  have F_x4_value : Fld Z hA26 x4 "java/lang/String" "value" "[B" (.ref x5) := P_F_x4_value
  have F_x4_coder : Fld Z hA26 x4 "java/lang/String" "coder" "B" (.int 0) := P_F_x4_coder
  have V_x5 : own_Ar Z hA26 x5 .byte (List.map own_lo [39, (own_sh c0), 39]) := P_V_x5
  have VR : own_Ar Z hA26 x5 .byte (own_by (0 : Int32) [39, (own_sh c0), 39]) := by rw [own_by, if_pos rfl]; exact V_x5
  have hokR : own_ok (0 : Int32) [39, (own_sh c0), 39] := Or.inl ⟨rfl, own_aS (P := own_b8) ⟨by decide, by decide⟩ (own_aS (P := own_b8) own_s8 (own_aS (P := own_b8) ⟨by decide, by decide⟩ (own_aN)))⟩
  have A29 := A26.cl |>.aS H dm0_125 rfl rfl #[.val (.int i0), .val (.int i1), .val (.int i2), .val (.int i3), .val (.int i4), .val (.int 1), .val (.int 1), .val (.ref x1), .val (.int c0), .val (.int c1), .val (.int c2), .val (.int c3), .val (.ref x4), .unset, .unset] rfl |>.iL H dm0_127 rfl rfl |>.bp H dm0_129 rfl 24 rfl
  obtain ⟨vA28, hA28, ⟨rfl, rfl⟩, A28⟩ := A29.cS (own_c62 l Z a0 hw hA26 n0 Z0) H hZ hown dm0_131 (oW hw 164 rfl) (kS26 hw) hml rfl rfl [] rfl rfl
  have A31 := A28.cl |>.iS H dm0_134 rfl #[.val (.int i0), .val (.int i1), .val (.int i2), .val (.int i3), .val (.int i4), .val (.int 1), .val (.int 1), .val (.ref x1), .val (.int c0), .val (.int c1), .val (.int c2), .val (.int c3), .val (.ref x4), .val (.int 1), .unset] rfl |>.iL H dm0_136 rfl rfl |>.ic H dm0_138 rfl 2 rfl |>.ad H dm0_139 rfl 3 rfl |>.iL H dm0_140 rfl rfl |>.bp H dm0_142 rfl 24 rfl |>.cy H dm0_144 rfl rfl 151 (by decide) (by decide) |>.ic H dm0_151 rfl 0 rfl |>.ad H dm0_152 rfl 3 rfl |>.iS H dm0_153 rfl #[.val (.int i0), .val (.int i1), .val (.int i2), .val (.int i3), .val (.int i4), .val (.int 1), .val (.int 1), .val (.ref x1), .val (.int c0), .val (.int c1), .val (.int c2), .val (.int c3), .val (.ref x4), .val (.int 1), .val (.int 3)] rfl |>.aL H dm0_155 rfl rfl rfl
  obtain ⟨vA30, hA30, ⟨rfl, rfl⟩, A30⟩ := A31.cV (own_len l Z a0 hw x4 x5 cs 0 3 _ hA26 n0 Z0 SS.1 hcs E_x4 F_x4_coder F_x4_value VR hokR (by show (3 : Nat) < 64; decide) rfl) E_x4 H hZ hown dm0_157 (oW hw 165 rfl) (kV17 hw) hml rfl rfl [] rfl rfl
  have q32 : ((3 : Int32) = (3 : Int32)) := rfl
  have A34 := A30.cl |>.iL H dm0_160 rfl rfl |>.cy H dm0_162 rfl ((teq q32).1) 167 (by decide) (by decide) |>.aL H dm0_167 rfl rfl rfl |>.ic H dm0_169 rfl 0 rfl
  obtain ⟨vA33, hA33, ⟨rfl, rfl⟩, A33⟩ := A34.cV (own_ch l Z a0 hw x4 x5 cs 0 0 39 _ fm hA26 n0 Z0 SS.1 hcs E_x4 F_x4_coder F_x4_value VR hokR (by show (3 : Nat) < 64; decide) hfm SS.2.1 SS.2.2.1 SS.2.2.2.1 SS.2.2.2.2 (by decide) rfl) E_x4 H hZ hown dm0_170 (oW hw 166 rfl) (kV38 hw) hml rfl rfl [] rfl rfl
  have q35 : ((39 : Int32) = (39 : Int32)) := rfl
  have A37 := A33.cl |>.bp H dm0_173 rfl 39 rfl |>.cn H dm0_175 rfl ((teq q35).2) |>.aL H dm0_178 rfl rfl rfl |>.iL H dm0_180 rfl rfl |>.ic H dm0_182 rfl 1 rfl |>.sb H dm0_183 rfl 2 rfl
  obtain ⟨vA36, hA36, ⟨rfl, rfl⟩, A36⟩ := A37.cV (own_ch l Z a0 hw x4 x5 cs 0 2 39 _ fm hA26 n0 Z0 SS.1 hcs E_x4 F_x4_coder F_x4_value VR hokR (by show (3 : Nat) < 64; decide) hfm SS.2.1 SS.2.2.1 SS.2.2.2.1 SS.2.2.2.2 (by decide) rfl) E_x4 H hZ hown dm0_184 (oW hw 166 rfl) (kV38 hw) hml rfl rfl [] rfl rfl
  have A39 := A36.cl |>.bp H dm0_187 rfl 39 rfl |>.cy H dm0_189 rfl ((teq q35).1) 194 (by decide) (by decide) |>.iL H dm0_194 rfl rfl |>.bp H dm0_196 rfl 24 rfl |>.cy H dm0_198 rfl rfl 245 (by decide) (by decide) |>.aL H dm0_245 rfl rfl rfl |>.aL H dm0_247 rfl rfl rfl |>.ic H dm0_249 rfl 0 rfl |>.iL H dm0_250 rfl rfl
  obtain ⟨vA38, hA38, ⟨rfl, rfl⟩, A38⟩ := A39.cS (own_atY l Z a0 hw x4 x5 x1 cs 0 1 c0 _ _ fm hA26 n0 Z0 (by decide) SS.1 hcs E_x4 F_x4_coder F_x4_value VR hokR (by show (3 : Nat) < 64; decide) hfm SS.2.1 SS.2.2.1 SS.2.2.2.1 SS.2.2.2.2 V_x1 (by decide) (by decide) rfl rfl hc0a hc0b) H hZ hown dm0_252 (oW hw 187 rfl) (kS45 hw) hml rfl rfl [] rfl rfl
  have A41 := A38.cl |>.fn H dm0_255 rfl rfl |>.aL H dm0_258 rfl rfl rfl |>.aL H dm0_260 rfl rfl rfl |>.ic H dm0_262 rfl 1 rfl |>.iL H dm0_263 rfl rfl
  obtain ⟨vA40, hA40, ⟨rfl, rfl⟩, A40⟩ := A41.cS (own_atN l Z a0 hw x4 x1 1 1 hA26 n0 Z0 (by decide)) H hZ hown dm0_265 (oW hw 187 rfl) (kS45 hw) hml rfl rfl [] rfl rfl
  have A43 := A40.cl |>.fn H dm0_268 rfl rfl |>.aL H dm0_271 rfl rfl rfl |>.aL H dm0_273 rfl rfl rfl |>.ic H dm0_275 rfl 2 rfl |>.iL H dm0_276 rfl rfl
  obtain ⟨vA42, hA42, ⟨rfl, rfl⟩, A42⟩ := A43.cS (own_atN l Z a0 hw x4 x1 2 1 hA26 n0 Z0 (by decide)) H hZ hown dm0_278 (oW hw 187 rfl) (kS45 hw) hml rfl rfl [] rfl rfl
  have A45 := A42.cl |>.fn H dm0_281 rfl rfl |>.aL H dm0_284 rfl rfl rfl |>.aL H dm0_286 rfl rfl rfl |>.bp H dm0_288 rfl 12 rfl |>.iL H dm0_290 rfl rfl
  obtain ⟨vA44, hA44, ⟨rfl, rfl⟩, A44⟩ := A45.cS (own_atN l Z a0 hw x4 x1 12 1 hA26 n0 Z0 (by decide)) H hZ hown dm0_292 (oW hw 187 rfl) (kS45 hw) hml rfl rfl [] rfl rfl
  have A47 := A44.cl |>.fn H dm0_295 rfl rfl |>.aL H dm0_298 rfl rfl rfl |>.aL H dm0_300 rfl rfl rfl |>.bp H dm0_302 rfl 22 rfl |>.iL H dm0_304 rfl rfl
  obtain ⟨vA46, hA46, ⟨rfl, rfl⟩, A46⟩ := A47.cS (own_atN l Z a0 hw x4 x1 22 1 hA26 n0 Z0 (by decide)) H hZ hown dm0_306 (oW hw 187 rfl) (kS45 hw) hml rfl rfl [] rfl rfl
  have A49 := A46.cl |>.fn H dm0_309 rfl rfl |>.aL H dm0_312 rfl rfl rfl |>.aL H dm0_314 rfl rfl rfl |>.bp H dm0_316 rfl 23 rfl |>.iL H dm0_318 rfl rfl
  obtain ⟨vA48, hA48, ⟨rfl, rfl⟩, A48⟩ := A49.cS (own_atN l Z a0 hw x4 x1 23 1 hA26 n0 Z0 (by decide)) H hZ hown dm0_320 (oW hw 187 rfl) (kS45 hw) hml rfl rfl [] rfl rfl
  have A50 := A48.cl |>.fn H dm0_323 rfl rfl |>.ic H dm0_326 rfl 1 rfl |>.gt H dm0_327 rfl 331 (by decide) (by decide)
  exact A50.retSS hx hlk hZ hS hk hEL HC hret (hb hby dm0_331) rfl (Or.inl ⟨rfl, by simp, _, rfl⟩) (by decide) (by decide) ⟨rfl, trivial⟩
theorem own_law2 (l : Launch) (Z : State) (a0 : Array Value) (hw : ∀ d ∈ tables_1, d.before a0 Z = true) (i0 i1 i2 i3 i4 : Int32) (cs : Int32) (fm : Value) (h0 : Heap) (n0 : Nat) (Z0 : n0 ≤ h0.size) (hEL : EW Z a0 own_EL) (own_wS : ∀ a ∈ Bundle.stringAtoms, a.before a0 Z = true) (SS : own_ST Z h0 cs fm) (hcs : ¬ (cs = (0 : Int32))) (hfm : fm.isRef = true) (hk8 : (i0 &&& (7 : Int32)) = (2 : Int32)) :
    own_MS l Z own_EL x code maxLocals ret tables_1 room_1 #[(.int i0), (.int i1), (.int i2), (.int i3), (.int i4)] h0 n0 (fun v h => v = some (.int 1) ∧ True) := by
  refine own_MS.of (plainFor_of_name (by first | (simp [plainName, overriddenIn]; done) | decide +kernel)) ?_
  intro p e s m below meth c S0 vm0 k0 hx hby hml hown hnm hret hlk hZ hS hk HC A00
  have H : own_H p c _ := ⟨hx, hby⟩
  have A0 := A00.cast (f' := mkF m 0 #[.val (.int i0), .val (.int i1), .val (.int i2), .val (.int i3), .val (.int i4), .unset, .unset, .unset, .unset, .unset, .unset, .unset, .unset, .unset, .unset] []) (by first | (simp [entryFrame, mkF, argsToLocals, Value.category, maxLocals]; done) | rfl)
  have A1 := A0.iN H dm0_0 rfl rfl |>.bp H dm0_1 rfl 7 rfl |>.nd H dm0_3 rfl _ rfl
  rw [hk8] at A1
  have A3 := A1.iS H dm0_4 rfl #[.val (.int i0), .val (.int i1), .val (.int i2), .val (.int i3), .val (.int i4), .val (.int 2), .unset, .unset, .unset, .unset, .unset, .unset, .unset, .unset, .unset] rfl |>.iL H dm0_6 rfl rfl |>.ic H dm0_8 rfl 4 rfl |>.cn H dm0_9 rfl rfl |>.iL H dm0_12 rfl rfl |>.gt H dm0_14 rfl 22 (by decide) (by decide) |>.iS H dm0_22 rfl #[.val (.int i0), .val (.int i1), .val (.int i2), .val (.int i3), .val (.int i4), .val (.int 2), .val (.int 2), .unset, .unset, .unset, .unset, .unset, .unset, .unset, .unset] rfl |>.iL H dm0_24 rfl rfl
  obtain ⟨vA2, hA2, ⟨x1, rfl, KA2, zz_x1, P_V_x1⟩, A2⟩ := A3.cS (own_c128 l Z a0 hw h0 n0 Z0) H hZ hown dm0_26 (oW hw 0 rfl) (kS44 hw) hml rfl rfl [] rfl rfl
  have g_x1 : n0 ≤ x1 := Nat.le_trans Z0 zz_x1
  have hsA : ∀ x ∈ ([] : List Addr), Safe Z own_EL vm0 h0 x := all0
  have HC := HC.trans (CHr.keep KA2 hsA HC.1)
  have hk := Nat.le_trans hk KA2.1
  have SS := SS.kp KA2 all0
  have Z0 := Nat.le_trans Z0 KA2.1
  have V_x1 : own_Ar Z hA2 x1 .char [(.int 0), (.int 0)] := P_V_x1
  have A4 := A2.cl |>.aS H dm0_29 rfl rfl #[.val (.int i0), .val (.int i1), .val (.int i2), .val (.int i3), .val (.int i4), .val (.int 2), .val (.int 2), .val (.ref x1), .unset, .unset, .unset, .unset, .unset, .unset, .unset] rfl |>.iN H dm0_31 rfl rfl
  have A5 := A4.ldcI hx hZ hown (hb hby dm0_32) (oW hw 5 rfl)
  have A6 := A5.nd H dm0_34 rfl _ rfl |>.ch H dm0_35 rfl _ rfl
  rw [own_cC (own_and16 i1).1 (own_and16 i1).2] at A6
  obtain ⟨c0, hc0⟩ : ∃ zq_, zq_ = (i1 &&& (65535 : Int32)) := ⟨_, rfl⟩
  rw [← hc0] at A6
  have hc0a : ¬ (c0 < (0 : Int32)) := hc0 ▸ (own_and16 i1).1
  have hc0b : ¬ ((65535 : Int32) < c0) := hc0 ▸ (own_and16 i1).2
  have A7 := A6.iS H dm0_36 rfl #[.val (.int i0), .val (.int i1), .val (.int i2), .val (.int i3), .val (.int i4), .val (.int 2), .val (.int 2), .val (.ref x1), .val (.int c0), .unset, .unset, .unset, .unset, .unset, .unset] rfl |>.iN H dm0_38 rfl rfl
  have A8 := A7.ldcI hx hZ hown (hb hby dm0_39) (oW hw 5 rfl)
  have A9 := A8.nd H dm0_41 rfl _ rfl |>.ch H dm0_42 rfl _ rfl
  rw [own_cC (own_and16 i2).1 (own_and16 i2).2] at A9
  obtain ⟨c1, hc1⟩ : ∃ zq_, zq_ = (i2 &&& (65535 : Int32)) := ⟨_, rfl⟩
  rw [← hc1] at A9
  have hc1a : ¬ (c1 < (0 : Int32)) := hc1 ▸ (own_and16 i2).1
  have hc1b : ¬ ((65535 : Int32) < c1) := hc1 ▸ (own_and16 i2).2
  have A10 := A9.iS H dm0_43 rfl #[.val (.int i0), .val (.int i1), .val (.int i2), .val (.int i3), .val (.int i4), .val (.int 2), .val (.int 2), .val (.ref x1), .val (.int c0), .val (.int c1), .unset, .unset, .unset, .unset, .unset] rfl |>.iN H dm0_45 rfl rfl
  have A11 := A10.ldcI hx hZ hown (hb hby dm0_46) (oW hw 5 rfl)
  have A12 := A11.nd H dm0_48 rfl _ rfl |>.ch H dm0_49 rfl _ rfl
  rw [own_cC (own_and16 i3).1 (own_and16 i3).2] at A12
  obtain ⟨c2, hc2⟩ : ∃ zq_, zq_ = (i3 &&& (65535 : Int32)) := ⟨_, rfl⟩
  rw [← hc2] at A12
  have hc2a : ¬ (c2 < (0 : Int32)) := hc2 ▸ (own_and16 i3).1
  have hc2b : ¬ ((65535 : Int32) < c2) := hc2 ▸ (own_and16 i3).2
  have A13 := A12.iS H dm0_50 rfl #[.val (.int i0), .val (.int i1), .val (.int i2), .val (.int i3), .val (.int i4), .val (.int 2), .val (.int 2), .val (.ref x1), .val (.int c0), .val (.int c1), .val (.int c2), .unset, .unset, .unset, .unset] rfl |>.iL H dm0_52 rfl rfl
  have A14 := A13.ldcI hx hZ hown (hb hby dm0_54) (oW hw 5 rfl)
  have A15 := A14.nd H dm0_56 rfl _ rfl |>.ch H dm0_57 rfl _ rfl
  rw [own_cC (own_and16 i4).1 (own_and16 i4).2] at A15
  obtain ⟨c3, hc3⟩ : ∃ zq_, zq_ = (i4 &&& (65535 : Int32)) := ⟨_, rfl⟩
  rw [← hc3] at A15
  have hc3a : ¬ (c3 < (0 : Int32)) := hc3 ▸ (own_and16 i4).1
  have hc3b : ¬ ((65535 : Int32) < c3) := hc3 ▸ (own_and16 i4).2
  have SX_x1 : Safe Z own_EL _ hA2 x1 := own_Ar.safe hZ.alike V_x1 (by decide)
  have A19 := A15.iS H dm0_58 rfl #[.val (.int i0), .val (.int i1), .val (.int i2), .val (.int i3), .val (.int i4), .val (.int 2), .val (.int 2), .val (.ref x1), .val (.int c0), .val (.int c1), .val (.int c2), .val (.int c3), .unset, .unset, .unset] rfl |>.iL H dm0_60 rfl rfl |>.ic H dm0_62 rfl 1 rfl |>.cn H dm0_63 rfl rfl |>.aL H dm0_66 rfl rfl rfl |>.ic H dm0_68 rfl 0 rfl |>.iL H dm0_69 rfl rfl
  obtain ⟨h16, W17, A18⟩ := A19.stC hx hZ (hb hby dm0_71) V_x1 (by decide) (by simp +decide) g_x1
  have SS := SS.wr W17
  have V_x1 : own_Ar Z h16 x1 .char [(.int (nar .char c0)), (.int 0)] := V_x1.same W17
  have Z0 : n0 ≤ h16.size := by rw [W17.size]; exact Z0
  have hk := (by rw [W17.size]; exact hk : _ ≤ h16.size)
  have HC := HC.trans (CHr.wr W17 SX_x1 HC.1)
  rw [show nar .char c0 = c0 from own_cC hc0a hc0b] at V_x1
  have V_x1 : own_Ar Z h16 x1 .char [(.int c0), (.int 0)] := V_x1
  have SX_x1 : Safe Z own_EL _ h16 x1 := own_Ar.safe hZ.alike V_x1 (by decide)
  have A23 := A18.iL H dm0_72 rfl rfl |>.ic H dm0_74 rfl 2 rfl |>.cn H dm0_75 rfl rfl |>.aL H dm0_78 rfl rfl rfl |>.ic H dm0_80 rfl 1 rfl |>.iL H dm0_81 rfl rfl
  obtain ⟨h20, W21, A22⟩ := A23.stC hx hZ (hb hby dm0_83) V_x1 (by decide) (by simp +decide) g_x1
  have SS := SS.wr W21
  have V_x1 : own_Ar Z h20 x1 .char [(.int c0), (.int (nar .char c1))] := V_x1.same W21
  have Z0 : n0 ≤ h20.size := by rw [W21.size]; exact Z0
  have hk := (by rw [W21.size]; exact hk : _ ≤ h20.size)
  have HC := HC.trans (CHr.wr W21 SX_x1 HC.1)
  rw [show nar .char c1 = c1 from own_cC hc1a hc1b] at V_x1
  have V_x1 : own_Ar Z h20 x1 .char [(.int c0), (.int c1)] := V_x1
  have A27 := A22.iL H dm0_84 rfl rfl |>.ic H dm0_86 rfl 3 rfl |>.cy H dm0_87 rfl rfl 99 (by decide) (by decide) |>.iL H dm0_99 rfl rfl |>.bp H dm0_101 rfl 25 rfl |>.cy H dm0_103 rfl rfl 113 (by decide) (by decide)
  obtain ⟨h24, E25, E_x2, D_x2, A26⟩ := A27.newO hx hZ hown (hb hby dm0_113) (oW hw 6 rfl) (oW hw 7 rfl) (oW hw 8 rfl) (by decide) (by decide)
  obtain ⟨x2, gx2⟩ : ∃ z, z = h20.size := ⟨_, rfl⟩
  rw [← gx2] at E_x2 D_x2 A26
  have ne_x1_x2 : x1 ≠ x2 := by rw [gx2]; exact Nat.ne_of_lt V_x1.lt
  have g_x2 : n0 ≤ x2 := by rw [gx2]; exact Z0
  have SS := SS.ext E25
  have V_x1 := V_x1.ext E25
  have Z0 := Nat.le_trans Z0 E25.1
  have HC := HC.trans (CHr.ext E25 HC.1)
  have hk := Nat.le_trans hk E25.1
  have F_x2_value : Fld Z h24 x2 "java/lang/String" "value" "[B" .null := D_x2 (Or.inr (oW hw 21 rfl)) (ty := (.array .byte)) (by decide)
  have F_x2_coder : Fld Z h24 x2 "java/lang/String" "coder" "B" (.int 0) := D_x2 (Or.inr (oW hw 22 rfl)) (ty := .byte) (by decide)
  have SX_x2 : Safe Z own_EL vm0 h24 x2 := own_safeNull hZ.alike E_x2 F_x2_value
  have hch : ∀ z ∈ ([c0, c1] : List Int32), own_b16 z := own_aS (P := own_b16) ⟨hc0a, hc0b⟩ (own_aS (P := own_b16) ⟨hc1a, hc1b⟩ (own_aN))
  have A29 := A26.du H dm0_116 rfl rfl |>.aL H dm0_117 rfl rfl rfl
  obtain ⟨vA28, hA28, ⟨x3, k, rfl, KI, zz_x3, PC_, PV_, PB_, hok⟩, A28⟩ := A29.cI (own_in1 l Z a0 hw x2 x1 2 cs [c0, c1] h24 n0 Z0 E_x2 F_x2_coder F_x2_value g_x2 V_x1 rfl (by show (2 : Nat) < 64; decide) (by show (2 : Nat) ≤ 32; decide) (by show 0 < (2 : Nat); decide) hch SS.1 hcs SS.2.2.1 SS.2.2.2.1 SS.2.2.2.2) H hZ hown dm0_119 (oW hw 9 rfl) (kI46 hw) hml rfl rfl [(.ref x2)] rfl rfl
  have hsA : ∀ x ∈ ([x2] : List Addr), Safe Z own_EL vm0 h24 x := (allS SX_x2 all0)
  have HC := HC.trans (CHr.keep KI hsA HC.1)
  have hk := Nat.le_trans hk KI.1
  have SS := SS.kp KI (allS (P := fun x => ∀ cell : Cell, h24[x]? = some cell → cell.vm.isStatics = false) E_x2.nostat all0)
  have V_x1 := V_x1.keep KI (ninS ne_x1_x2 nin0)
  have E_x2 := E_x2.keep KI
  have Z0 := Nat.le_trans Z0 KI.1
  have F_x2_coder : Fld Z hA28 x2 "java/lang/String" "coder" "B" (.int k) := PC_
  have F_x2_value : Fld Z hA28 x2 "java/lang/String" "value" "[B" (.ref x3) := PV_
  have V_x3 : own_Ar Z hA28 x3 .byte (own_by k [c0, c1]) := PB_
  have A31 := A28.c0
  obtain ⟨vA30, vmA30, kA30, hA30, ⟨x4, x5, rfl, KA30, zz_x4, zz_x5, ne_x5_x4, P_E_x4, P_F_x4_value, P_F_x4_coder, P_V_x5, hl_x5⟩, hS, hk, hZ, hown, HCs, hgA30, hwA30, A30⟩ := A31.callSS (own_q2 l Z a0 hw x2 x3 k c0 c1 cs fm hA28 n0 Z0 hEL own_wS E_x2 F_x2_coder F_x2_value V_x3 SS hcs hfm hok (by show (2 : Nat) < 64; decide)) hx hZ hown (hb hby dm0_122) (oW hw 27 rfl) (oW hw 28 rfl) (oW hw 29 rfl) (oW hw 30 rfl) hS hk hEL (CHr.refl HC.1) ⟨by decide, by decide⟩ (lenOf pd__28Ljava_2flang_2fString_3b_29Ljava_2flang_2fString_3b rfl) (argsL := [(.ref x2)]) (rest := []) rfl rfl (by rw [hml]; rfl) (W := 0) (Nat.le_of_eq rfl) (by decide) (by decide) (by decide) (by decide)
  have HC := HC.trans HCs
  have SS := SS.kp KA30 all0
  have V_x1 := V_x1.keep KA30 nin0
  have Z0 := Nat.le_trans Z0 KA30.1
  have E_x4 : Exa Z hA30 x4 "java/lang/String" := P_E_x4
  have F_x4_value : Fld Z hA30 x4 "java/lang/String" "value" "[B" (.ref x5) := P_F_x4_value
  have F_x4_coder : Fld Z hA30 x4 "java/lang/String" "coder" "B" (.int 0) := P_F_x4_coder
  have V_x5 : own_Ar Z hA30 x5 .byte (List.map own_lo [39, (own_sh c0), (own_sh c1), 39]) := P_V_x5
  have VR : own_Ar Z hA30 x5 .byte (own_by (0 : Int32) [39, (own_sh c0), (own_sh c1), 39]) := by rw [own_by, if_pos rfl]; exact V_x5
  have hokR : own_ok (0 : Int32) [39, (own_sh c0), (own_sh c1), 39] := Or.inl ⟨rfl, own_aS (P := own_b8) ⟨by decide, by decide⟩ (own_aS (P := own_b8) own_s8 (own_aS (P := own_b8) own_s8 (own_aS (P := own_b8) ⟨by decide, by decide⟩ (own_aN))))⟩
  have A33 := A30.cl |>.aS H dm0_125 rfl rfl #[.val (.int i0), .val (.int i1), .val (.int i2), .val (.int i3), .val (.int i4), .val (.int 2), .val (.int 2), .val (.ref x1), .val (.int c0), .val (.int c1), .val (.int c2), .val (.int c3), .val (.ref x4), .unset, .unset] rfl |>.iL H dm0_127 rfl rfl |>.bp H dm0_129 rfl 24 rfl
  obtain ⟨vA32, hA32, ⟨rfl, rfl⟩, A32⟩ := A33.cS (own_c64 l Z a0 hw hA30 n0 Z0) H hZ hown dm0_131 (oW hw 164 rfl) (kS26 hw) hml rfl rfl [] rfl rfl
  have A35 := A32.cl |>.iS H dm0_134 rfl #[.val (.int i0), .val (.int i1), .val (.int i2), .val (.int i3), .val (.int i4), .val (.int 2), .val (.int 2), .val (.ref x1), .val (.int c0), .val (.int c1), .val (.int c2), .val (.int c3), .val (.ref x4), .val (.int 2), .unset] rfl |>.iL H dm0_136 rfl rfl |>.ic H dm0_138 rfl 2 rfl |>.ad H dm0_139 rfl 4 rfl |>.iL H dm0_140 rfl rfl |>.bp H dm0_142 rfl 24 rfl |>.cy H dm0_144 rfl rfl 151 (by decide) (by decide) |>.ic H dm0_151 rfl 0 rfl |>.ad H dm0_152 rfl 4 rfl |>.iS H dm0_153 rfl #[.val (.int i0), .val (.int i1), .val (.int i2), .val (.int i3), .val (.int i4), .val (.int 2), .val (.int 2), .val (.ref x1), .val (.int c0), .val (.int c1), .val (.int c2), .val (.int c3), .val (.ref x4), .val (.int 2), .val (.int 4)] rfl |>.aL H dm0_155 rfl rfl rfl
  obtain ⟨vA34, hA34, ⟨rfl, rfl⟩, A34⟩ := A35.cV (own_len l Z a0 hw x4 x5 cs 0 4 _ hA30 n0 Z0 SS.1 hcs E_x4 F_x4_coder F_x4_value VR hokR (by show (4 : Nat) < 64; decide) rfl) E_x4 H hZ hown dm0_157 (oW hw 165 rfl) (kV17 hw) hml rfl rfl [] rfl rfl
  have q36 : ((4 : Int32) = (4 : Int32)) := rfl
  have A38 := A34.cl |>.iL H dm0_160 rfl rfl |>.cy H dm0_162 rfl ((teq q36).1) 167 (by decide) (by decide) |>.aL H dm0_167 rfl rfl rfl |>.ic H dm0_169 rfl 0 rfl
  obtain ⟨vA37, hA37, ⟨rfl, rfl⟩, A37⟩ := A38.cV (own_ch l Z a0 hw x4 x5 cs 0 0 39 _ fm hA30 n0 Z0 SS.1 hcs E_x4 F_x4_coder F_x4_value VR hokR (by show (4 : Nat) < 64; decide) hfm SS.2.1 SS.2.2.1 SS.2.2.2.1 SS.2.2.2.2 (by decide) rfl) E_x4 H hZ hown dm0_170 (oW hw 166 rfl) (kV38 hw) hml rfl rfl [] rfl rfl
  have q39 : ((39 : Int32) = (39 : Int32)) := rfl
  have A41 := A37.cl |>.bp H dm0_173 rfl 39 rfl |>.cn H dm0_175 rfl ((teq q39).2) |>.aL H dm0_178 rfl rfl rfl |>.iL H dm0_180 rfl rfl |>.ic H dm0_182 rfl 1 rfl |>.sb H dm0_183 rfl 3 rfl
  obtain ⟨vA40, hA40, ⟨rfl, rfl⟩, A40⟩ := A41.cV (own_ch l Z a0 hw x4 x5 cs 0 3 39 _ fm hA30 n0 Z0 SS.1 hcs E_x4 F_x4_coder F_x4_value VR hokR (by show (4 : Nat) < 64; decide) hfm SS.2.1 SS.2.2.1 SS.2.2.2.1 SS.2.2.2.2 (by decide) rfl) E_x4 H hZ hown dm0_184 (oW hw 166 rfl) (kV38 hw) hml rfl rfl [] rfl rfl
  have A43 := A40.cl |>.bp H dm0_187 rfl 39 rfl |>.cy H dm0_189 rfl ((teq q39).1) 194 (by decide) (by decide) |>.iL H dm0_194 rfl rfl |>.bp H dm0_196 rfl 24 rfl |>.cy H dm0_198 rfl rfl 245 (by decide) (by decide) |>.aL H dm0_245 rfl rfl rfl |>.aL H dm0_247 rfl rfl rfl |>.ic H dm0_249 rfl 0 rfl |>.iL H dm0_250 rfl rfl
  obtain ⟨vA42, hA42, ⟨rfl, rfl⟩, A42⟩ := A43.cS (own_atY l Z a0 hw x4 x5 x1 cs 0 2 c0 _ _ fm hA30 n0 Z0 (by decide) SS.1 hcs E_x4 F_x4_coder F_x4_value VR hokR (by show (4 : Nat) < 64; decide) hfm SS.2.1 SS.2.2.1 SS.2.2.2.1 SS.2.2.2.2 V_x1 (by decide) (by decide) rfl rfl hc0a hc0b) H hZ hown dm0_252 (oW hw 187 rfl) (kS45 hw) hml rfl rfl [] rfl rfl
  have A45 := A42.cl |>.fn H dm0_255 rfl rfl |>.aL H dm0_258 rfl rfl rfl |>.aL H dm0_260 rfl rfl rfl |>.ic H dm0_262 rfl 1 rfl |>.iL H dm0_263 rfl rfl
  obtain ⟨vA44, hA44, ⟨rfl, rfl⟩, A44⟩ := A45.cS (own_atY l Z a0 hw x4 x5 x1 cs 1 2 c1 _ _ fm hA30 n0 Z0 (by decide) SS.1 hcs E_x4 F_x4_coder F_x4_value VR hokR (by show (4 : Nat) < 64; decide) hfm SS.2.1 SS.2.2.1 SS.2.2.2.1 SS.2.2.2.2 V_x1 (by decide) (by decide) rfl rfl hc1a hc1b) H hZ hown dm0_265 (oW hw 187 rfl) (kS45 hw) hml rfl rfl [] rfl rfl
  have A47 := A44.cl |>.fn H dm0_268 rfl rfl |>.aL H dm0_271 rfl rfl rfl |>.aL H dm0_273 rfl rfl rfl |>.ic H dm0_275 rfl 2 rfl |>.iL H dm0_276 rfl rfl
  obtain ⟨vA46, hA46, ⟨rfl, rfl⟩, A46⟩ := A47.cS (own_atN l Z a0 hw x4 x1 2 2 hA30 n0 Z0 (by decide)) H hZ hown dm0_278 (oW hw 187 rfl) (kS45 hw) hml rfl rfl [] rfl rfl
  have A49 := A46.cl |>.fn H dm0_281 rfl rfl |>.aL H dm0_284 rfl rfl rfl |>.aL H dm0_286 rfl rfl rfl |>.bp H dm0_288 rfl 12 rfl |>.iL H dm0_290 rfl rfl
  obtain ⟨vA48, hA48, ⟨rfl, rfl⟩, A48⟩ := A49.cS (own_atN l Z a0 hw x4 x1 12 2 hA30 n0 Z0 (by decide)) H hZ hown dm0_292 (oW hw 187 rfl) (kS45 hw) hml rfl rfl [] rfl rfl
  have A51 := A48.cl |>.fn H dm0_295 rfl rfl |>.aL H dm0_298 rfl rfl rfl |>.aL H dm0_300 rfl rfl rfl |>.bp H dm0_302 rfl 22 rfl |>.iL H dm0_304 rfl rfl
  obtain ⟨vA50, hA50, ⟨rfl, rfl⟩, A50⟩ := A51.cS (own_atN l Z a0 hw x4 x1 22 2 hA30 n0 Z0 (by decide)) H hZ hown dm0_306 (oW hw 187 rfl) (kS45 hw) hml rfl rfl [] rfl rfl
  have A53 := A50.cl |>.fn H dm0_309 rfl rfl |>.aL H dm0_312 rfl rfl rfl |>.aL H dm0_314 rfl rfl rfl |>.bp H dm0_316 rfl 23 rfl |>.iL H dm0_318 rfl rfl
  obtain ⟨vA52, hA52, ⟨rfl, rfl⟩, A52⟩ := A53.cS (own_atN l Z a0 hw x4 x1 23 2 hA30 n0 Z0 (by decide)) H hZ hown dm0_320 (oW hw 187 rfl) (kS45 hw) hml rfl rfl [] rfl rfl
  have A54 := A52.cl |>.fn H dm0_323 rfl rfl |>.ic H dm0_326 rfl 1 rfl |>.gt H dm0_327 rfl 331 (by decide) (by decide)
  exact A54.retSS hx hlk hZ hS hk hEL HC hret (hb hby dm0_331) rfl (Or.inl ⟨rfl, by simp, _, rfl⟩) (by decide) (by decide) ⟨rfl, trivial⟩
theorem own_law3 (l : Launch) (Z : State) (a0 : Array Value) (hw : ∀ d ∈ tables_1, d.before a0 Z = true) (i0 i1 i2 i3 i4 : Int32) (cs : Int32) (fm : Value) (h0 : Heap) (n0 : Nat) (Z0 : n0 ≤ h0.size) (hEL : EW Z a0 own_EL) (own_wS : ∀ a ∈ Bundle.stringAtoms, a.before a0 Z = true) (SS : own_ST Z h0 cs fm) (hcs : ¬ (cs = (0 : Int32))) (hfm : fm.isRef = true) (hk8 : (i0 &&& (7 : Int32)) = (3 : Int32)) :
    own_MS l Z own_EL x code maxLocals ret tables_1 room_1 #[(.int i0), (.int i1), (.int i2), (.int i3), (.int i4)] h0 n0 (fun v h => v = some (.int 1) ∧ True) := by
  refine own_MS.of (plainFor_of_name (by first | (simp [plainName, overriddenIn]; done) | decide +kernel)) ?_
  intro p e s m below meth c S0 vm0 k0 hx hby hml hown hnm hret hlk hZ hS hk HC A00
  have H : own_H p c _ := ⟨hx, hby⟩
  have A0 := A00.cast (f' := mkF m 0 #[.val (.int i0), .val (.int i1), .val (.int i2), .val (.int i3), .val (.int i4), .unset, .unset, .unset, .unset, .unset, .unset, .unset, .unset, .unset, .unset] []) (by first | (simp [entryFrame, mkF, argsToLocals, Value.category, maxLocals]; done) | rfl)
  have A1 := A0.iN H dm0_0 rfl rfl |>.bp H dm0_1 rfl 7 rfl |>.nd H dm0_3 rfl _ rfl
  rw [hk8] at A1
  have A3 := A1.iS H dm0_4 rfl #[.val (.int i0), .val (.int i1), .val (.int i2), .val (.int i3), .val (.int i4), .val (.int 3), .unset, .unset, .unset, .unset, .unset, .unset, .unset, .unset, .unset] rfl |>.iL H dm0_6 rfl rfl |>.ic H dm0_8 rfl 4 rfl |>.cn H dm0_9 rfl rfl |>.iL H dm0_12 rfl rfl |>.gt H dm0_14 rfl 22 (by decide) (by decide) |>.iS H dm0_22 rfl #[.val (.int i0), .val (.int i1), .val (.int i2), .val (.int i3), .val (.int i4), .val (.int 3), .val (.int 3), .unset, .unset, .unset, .unset, .unset, .unset, .unset, .unset] rfl |>.iL H dm0_24 rfl rfl
  obtain ⟨vA2, hA2, ⟨x1, rfl, KA2, zz_x1, P_V_x1⟩, A2⟩ := A3.cS (own_c130 l Z a0 hw h0 n0 Z0) H hZ hown dm0_26 (oW hw 0 rfl) (kS44 hw) hml rfl rfl [] rfl rfl
  have g_x1 : n0 ≤ x1 := Nat.le_trans Z0 zz_x1
  have hsA : ∀ x ∈ ([] : List Addr), Safe Z own_EL vm0 h0 x := all0
  have HC := HC.trans (CHr.keep KA2 hsA HC.1)
  have hk := Nat.le_trans hk KA2.1
  have SS := SS.kp KA2 all0
  have Z0 := Nat.le_trans Z0 KA2.1
  have V_x1 : own_Ar Z hA2 x1 .char [(.int 0), (.int 0), (.int 0)] := P_V_x1
  have A4 := A2.cl |>.aS H dm0_29 rfl rfl #[.val (.int i0), .val (.int i1), .val (.int i2), .val (.int i3), .val (.int i4), .val (.int 3), .val (.int 3), .val (.ref x1), .unset, .unset, .unset, .unset, .unset, .unset, .unset] rfl |>.iN H dm0_31 rfl rfl
  have A5 := A4.ldcI hx hZ hown (hb hby dm0_32) (oW hw 5 rfl)
  have A6 := A5.nd H dm0_34 rfl _ rfl |>.ch H dm0_35 rfl _ rfl
  rw [own_cC (own_and16 i1).1 (own_and16 i1).2] at A6
  obtain ⟨c0, hc0⟩ : ∃ zq_, zq_ = (i1 &&& (65535 : Int32)) := ⟨_, rfl⟩
  rw [← hc0] at A6
  have hc0a : ¬ (c0 < (0 : Int32)) := hc0 ▸ (own_and16 i1).1
  have hc0b : ¬ ((65535 : Int32) < c0) := hc0 ▸ (own_and16 i1).2
  have A7 := A6.iS H dm0_36 rfl #[.val (.int i0), .val (.int i1), .val (.int i2), .val (.int i3), .val (.int i4), .val (.int 3), .val (.int 3), .val (.ref x1), .val (.int c0), .unset, .unset, .unset, .unset, .unset, .unset] rfl |>.iN H dm0_38 rfl rfl
  have A8 := A7.ldcI hx hZ hown (hb hby dm0_39) (oW hw 5 rfl)
  have A9 := A8.nd H dm0_41 rfl _ rfl |>.ch H dm0_42 rfl _ rfl
  rw [own_cC (own_and16 i2).1 (own_and16 i2).2] at A9
  obtain ⟨c1, hc1⟩ : ∃ zq_, zq_ = (i2 &&& (65535 : Int32)) := ⟨_, rfl⟩
  rw [← hc1] at A9
  have hc1a : ¬ (c1 < (0 : Int32)) := hc1 ▸ (own_and16 i2).1
  have hc1b : ¬ ((65535 : Int32) < c1) := hc1 ▸ (own_and16 i2).2
  have A10 := A9.iS H dm0_43 rfl #[.val (.int i0), .val (.int i1), .val (.int i2), .val (.int i3), .val (.int i4), .val (.int 3), .val (.int 3), .val (.ref x1), .val (.int c0), .val (.int c1), .unset, .unset, .unset, .unset, .unset] rfl |>.iN H dm0_45 rfl rfl
  have A11 := A10.ldcI hx hZ hown (hb hby dm0_46) (oW hw 5 rfl)
  have A12 := A11.nd H dm0_48 rfl _ rfl |>.ch H dm0_49 rfl _ rfl
  rw [own_cC (own_and16 i3).1 (own_and16 i3).2] at A12
  obtain ⟨c2, hc2⟩ : ∃ zq_, zq_ = (i3 &&& (65535 : Int32)) := ⟨_, rfl⟩
  rw [← hc2] at A12
  have hc2a : ¬ (c2 < (0 : Int32)) := hc2 ▸ (own_and16 i3).1
  have hc2b : ¬ ((65535 : Int32) < c2) := hc2 ▸ (own_and16 i3).2
  have A13 := A12.iS H dm0_50 rfl #[.val (.int i0), .val (.int i1), .val (.int i2), .val (.int i3), .val (.int i4), .val (.int 3), .val (.int 3), .val (.ref x1), .val (.int c0), .val (.int c1), .val (.int c2), .unset, .unset, .unset, .unset] rfl |>.iL H dm0_52 rfl rfl
  have A14 := A13.ldcI hx hZ hown (hb hby dm0_54) (oW hw 5 rfl)
  have A15 := A14.nd H dm0_56 rfl _ rfl |>.ch H dm0_57 rfl _ rfl
  rw [own_cC (own_and16 i4).1 (own_and16 i4).2] at A15
  obtain ⟨c3, hc3⟩ : ∃ zq_, zq_ = (i4 &&& (65535 : Int32)) := ⟨_, rfl⟩
  rw [← hc3] at A15
  have hc3a : ¬ (c3 < (0 : Int32)) := hc3 ▸ (own_and16 i4).1
  have hc3b : ¬ ((65535 : Int32) < c3) := hc3 ▸ (own_and16 i4).2
  have SX_x1 : Safe Z own_EL _ hA2 x1 := own_Ar.safe hZ.alike V_x1 (by decide)
  have A19 := A15.iS H dm0_58 rfl #[.val (.int i0), .val (.int i1), .val (.int i2), .val (.int i3), .val (.int i4), .val (.int 3), .val (.int 3), .val (.ref x1), .val (.int c0), .val (.int c1), .val (.int c2), .val (.int c3), .unset, .unset, .unset] rfl |>.iL H dm0_60 rfl rfl |>.ic H dm0_62 rfl 1 rfl |>.cn H dm0_63 rfl rfl |>.aL H dm0_66 rfl rfl rfl |>.ic H dm0_68 rfl 0 rfl |>.iL H dm0_69 rfl rfl
  obtain ⟨h16, W17, A18⟩ := A19.stC hx hZ (hb hby dm0_71) V_x1 (by decide) (by simp +decide) g_x1
  have SS := SS.wr W17
  have V_x1 : own_Ar Z h16 x1 .char [(.int (nar .char c0)), (.int 0), (.int 0)] := V_x1.same W17
  have Z0 : n0 ≤ h16.size := by rw [W17.size]; exact Z0
  have hk := (by rw [W17.size]; exact hk : _ ≤ h16.size)
  have HC := HC.trans (CHr.wr W17 SX_x1 HC.1)
  rw [show nar .char c0 = c0 from own_cC hc0a hc0b] at V_x1
  have V_x1 : own_Ar Z h16 x1 .char [(.int c0), (.int 0), (.int 0)] := V_x1
  have SX_x1 : Safe Z own_EL _ h16 x1 := own_Ar.safe hZ.alike V_x1 (by decide)
  have A23 := A18.iL H dm0_72 rfl rfl |>.ic H dm0_74 rfl 2 rfl |>.cn H dm0_75 rfl rfl |>.aL H dm0_78 rfl rfl rfl |>.ic H dm0_80 rfl 1 rfl |>.iL H dm0_81 rfl rfl
  obtain ⟨h20, W21, A22⟩ := A23.stC hx hZ (hb hby dm0_83) V_x1 (by decide) (by simp +decide) g_x1
  have SS := SS.wr W21
  have V_x1 : own_Ar Z h20 x1 .char [(.int c0), (.int (nar .char c1)), (.int 0)] := V_x1.same W21
  have Z0 : n0 ≤ h20.size := by rw [W21.size]; exact Z0
  have hk := (by rw [W21.size]; exact hk : _ ≤ h20.size)
  have HC := HC.trans (CHr.wr W21 SX_x1 HC.1)
  rw [show nar .char c1 = c1 from own_cC hc1a hc1b] at V_x1
  have V_x1 : own_Ar Z h20 x1 .char [(.int c0), (.int c1), (.int 0)] := V_x1
  have SX_x1 : Safe Z own_EL _ h20 x1 := own_Ar.safe hZ.alike V_x1 (by decide)
  have A27 := A22.iL H dm0_84 rfl rfl |>.ic H dm0_86 rfl 3 rfl |>.cn H dm0_87 rfl rfl |>.aL H dm0_90 rfl rfl rfl |>.iL H dm0_92 rfl rfl |>.ic H dm0_94 rfl 1 rfl |>.sb H dm0_95 rfl 2 rfl |>.iL H dm0_96 rfl rfl
  obtain ⟨h24, W25, A26⟩ := A27.stC hx hZ (hb hby dm0_98) V_x1 (by decide) (by simp +decide) g_x1
  have SS := SS.wr W25
  have V_x1 : own_Ar Z h24 x1 .char [(.int c0), (.int c1), (.int (nar .char c2))] := V_x1.same W25
  have Z0 : n0 ≤ h24.size := by rw [W25.size]; exact Z0
  have hk := (by rw [W25.size]; exact hk : _ ≤ h24.size)
  have HC := HC.trans (CHr.wr W25 SX_x1 HC.1)
  rw [show nar .char c2 = c2 from own_cC hc2a hc2b] at V_x1
  have V_x1 : own_Ar Z h24 x1 .char [(.int c0), (.int c1), (.int c2)] := V_x1
  have A31 := A26.iL H dm0_99 rfl rfl |>.bp H dm0_101 rfl 25 rfl |>.cy H dm0_103 rfl rfl 113 (by decide) (by decide)
  obtain ⟨h28, E29, E_x2, D_x2, A30⟩ := A31.newO hx hZ hown (hb hby dm0_113) (oW hw 6 rfl) (oW hw 7 rfl) (oW hw 8 rfl) (by decide) (by decide)
  obtain ⟨x2, gx2⟩ : ∃ z, z = h24.size := ⟨_, rfl⟩
  rw [← gx2] at E_x2 D_x2 A30
  have ne_x1_x2 : x1 ≠ x2 := by rw [gx2]; exact Nat.ne_of_lt V_x1.lt
  have g_x2 : n0 ≤ x2 := by rw [gx2]; exact Z0
  have SS := SS.ext E29
  have V_x1 := V_x1.ext E29
  have Z0 := Nat.le_trans Z0 E29.1
  have HC := HC.trans (CHr.ext E29 HC.1)
  have hk := Nat.le_trans hk E29.1
  have F_x2_value : Fld Z h28 x2 "java/lang/String" "value" "[B" .null := D_x2 (Or.inr (oW hw 21 rfl)) (ty := (.array .byte)) (by decide)
  have F_x2_coder : Fld Z h28 x2 "java/lang/String" "coder" "B" (.int 0) := D_x2 (Or.inr (oW hw 22 rfl)) (ty := .byte) (by decide)
  have SX_x2 : Safe Z own_EL vm0 h28 x2 := own_safeNull hZ.alike E_x2 F_x2_value
  have hch : ∀ z ∈ ([c0, c1, c2] : List Int32), own_b16 z := own_aS (P := own_b16) ⟨hc0a, hc0b⟩ (own_aS (P := own_b16) ⟨hc1a, hc1b⟩ (own_aS (P := own_b16) ⟨hc2a, hc2b⟩ (own_aN)))
  have A33 := A30.du H dm0_116 rfl rfl |>.aL H dm0_117 rfl rfl rfl
  obtain ⟨vA32, hA32, ⟨x3, k, rfl, KI, zz_x3, PC_, PV_, PB_, hok⟩, A32⟩ := A33.cI (own_in1 l Z a0 hw x2 x1 3 cs [c0, c1, c2] h28 n0 Z0 E_x2 F_x2_coder F_x2_value g_x2 V_x1 rfl (by show (3 : Nat) < 64; decide) (by show (3 : Nat) ≤ 32; decide) (by show 0 < (3 : Nat); decide) hch SS.1 hcs SS.2.2.1 SS.2.2.2.1 SS.2.2.2.2) H hZ hown dm0_119 (oW hw 9 rfl) (kI46 hw) hml rfl rfl [(.ref x2)] rfl rfl
  have hsA : ∀ x ∈ ([x2] : List Addr), Safe Z own_EL vm0 h28 x := (allS SX_x2 all0)
  have HC := HC.trans (CHr.keep KI hsA HC.1)
  have hk := Nat.le_trans hk KI.1
  have SS := SS.kp KI (allS (P := fun x => ∀ cell : Cell, h28[x]? = some cell → cell.vm.isStatics = false) E_x2.nostat all0)
  have V_x1 := V_x1.keep KI (ninS ne_x1_x2 nin0)
  have E_x2 := E_x2.keep KI
  have Z0 := Nat.le_trans Z0 KI.1
  have F_x2_coder : Fld Z hA32 x2 "java/lang/String" "coder" "B" (.int k) := PC_
  have F_x2_value : Fld Z hA32 x2 "java/lang/String" "value" "[B" (.ref x3) := PV_
  have V_x3 : own_Ar Z hA32 x3 .byte (own_by k [c0, c1, c2]) := PB_
  have A35 := A32.c0
  obtain ⟨vA34, vmA34, kA34, hA34, ⟨x4, x5, rfl, KA34, zz_x4, zz_x5, ne_x5_x4, P_E_x4, P_F_x4_value, P_F_x4_coder, P_V_x5, hl_x5⟩, hS, hk, hZ, hown, HCs, hgA34, hwA34, A34⟩ := A35.callSS (own_q3 l Z a0 hw x2 x3 k c0 c1 c2 cs fm hA32 n0 Z0 hEL own_wS E_x2 F_x2_coder F_x2_value V_x3 SS hcs hfm hok (by show (3 : Nat) < 64; decide)) hx hZ hown (hb hby dm0_122) (oW hw 27 rfl) (oW hw 28 rfl) (oW hw 29 rfl) (oW hw 30 rfl) hS hk hEL (CHr.refl HC.1) ⟨by decide, by decide⟩ (lenOf pd__28Ljava_2flang_2fString_3b_29Ljava_2flang_2fString_3b rfl) (argsL := [(.ref x2)]) (rest := []) rfl rfl (by rw [hml]; rfl) (W := 0) (Nat.le_of_eq rfl) (by decide) (by decide) (by decide) (by decide)
  have HC := HC.trans HCs
  have SS := SS.kp KA34 all0
  have V_x1 := V_x1.keep KA34 nin0
  have Z0 := Nat.le_trans Z0 KA34.1
  have E_x4 : Exa Z hA34 x4 "java/lang/String" := P_E_x4
  have F_x4_value : Fld Z hA34 x4 "java/lang/String" "value" "[B" (.ref x5) := P_F_x4_value
  have F_x4_coder : Fld Z hA34 x4 "java/lang/String" "coder" "B" (.int 0) := P_F_x4_coder
  have V_x5 : own_Ar Z hA34 x5 .byte (List.map own_lo [39, (own_sh c0), (own_sh c1), (own_sh c2), 39]) := P_V_x5
  have VR : own_Ar Z hA34 x5 .byte (own_by (0 : Int32) [39, (own_sh c0), (own_sh c1), (own_sh c2), 39]) := by rw [own_by, if_pos rfl]; exact V_x5
  have hokR : own_ok (0 : Int32) [39, (own_sh c0), (own_sh c1), (own_sh c2), 39] := Or.inl ⟨rfl, own_aS (P := own_b8) ⟨by decide, by decide⟩ (own_aS (P := own_b8) own_s8 (own_aS (P := own_b8) own_s8 (own_aS (P := own_b8) own_s8 (own_aS (P := own_b8) ⟨by decide, by decide⟩ (own_aN)))))⟩
  have A37 := A34.cl |>.aS H dm0_125 rfl rfl #[.val (.int i0), .val (.int i1), .val (.int i2), .val (.int i3), .val (.int i4), .val (.int 3), .val (.int 3), .val (.ref x1), .val (.int c0), .val (.int c1), .val (.int c2), .val (.int c3), .val (.ref x4), .unset, .unset] rfl |>.iL H dm0_127 rfl rfl |>.bp H dm0_129 rfl 24 rfl
  obtain ⟨vA36, hA36, ⟨rfl, rfl⟩, A36⟩ := A37.cS (own_c66 l Z a0 hw hA34 n0 Z0) H hZ hown dm0_131 (oW hw 164 rfl) (kS26 hw) hml rfl rfl [] rfl rfl
  have A39 := A36.cl |>.iS H dm0_134 rfl #[.val (.int i0), .val (.int i1), .val (.int i2), .val (.int i3), .val (.int i4), .val (.int 3), .val (.int 3), .val (.ref x1), .val (.int c0), .val (.int c1), .val (.int c2), .val (.int c3), .val (.ref x4), .val (.int 3), .unset] rfl |>.iL H dm0_136 rfl rfl |>.ic H dm0_138 rfl 2 rfl |>.ad H dm0_139 rfl 5 rfl |>.iL H dm0_140 rfl rfl |>.bp H dm0_142 rfl 24 rfl |>.cy H dm0_144 rfl rfl 151 (by decide) (by decide) |>.ic H dm0_151 rfl 0 rfl |>.ad H dm0_152 rfl 5 rfl |>.iS H dm0_153 rfl #[.val (.int i0), .val (.int i1), .val (.int i2), .val (.int i3), .val (.int i4), .val (.int 3), .val (.int 3), .val (.ref x1), .val (.int c0), .val (.int c1), .val (.int c2), .val (.int c3), .val (.ref x4), .val (.int 3), .val (.int 5)] rfl |>.aL H dm0_155 rfl rfl rfl
  obtain ⟨vA38, hA38, ⟨rfl, rfl⟩, A38⟩ := A39.cV (own_len l Z a0 hw x4 x5 cs 0 5 _ hA34 n0 Z0 SS.1 hcs E_x4 F_x4_coder F_x4_value VR hokR (by show (5 : Nat) < 64; decide) rfl) E_x4 H hZ hown dm0_157 (oW hw 165 rfl) (kV17 hw) hml rfl rfl [] rfl rfl
  have q40 : ((5 : Int32) = (5 : Int32)) := rfl
  have A42 := A38.cl |>.iL H dm0_160 rfl rfl |>.cy H dm0_162 rfl ((teq q40).1) 167 (by decide) (by decide) |>.aL H dm0_167 rfl rfl rfl |>.ic H dm0_169 rfl 0 rfl
  obtain ⟨vA41, hA41, ⟨rfl, rfl⟩, A41⟩ := A42.cV (own_ch l Z a0 hw x4 x5 cs 0 0 39 _ fm hA34 n0 Z0 SS.1 hcs E_x4 F_x4_coder F_x4_value VR hokR (by show (5 : Nat) < 64; decide) hfm SS.2.1 SS.2.2.1 SS.2.2.2.1 SS.2.2.2.2 (by decide) rfl) E_x4 H hZ hown dm0_170 (oW hw 166 rfl) (kV38 hw) hml rfl rfl [] rfl rfl
  have q43 : ((39 : Int32) = (39 : Int32)) := rfl
  have A45 := A41.cl |>.bp H dm0_173 rfl 39 rfl |>.cn H dm0_175 rfl ((teq q43).2) |>.aL H dm0_178 rfl rfl rfl |>.iL H dm0_180 rfl rfl |>.ic H dm0_182 rfl 1 rfl |>.sb H dm0_183 rfl 4 rfl
  obtain ⟨vA44, hA44, ⟨rfl, rfl⟩, A44⟩ := A45.cV (own_ch l Z a0 hw x4 x5 cs 0 4 39 _ fm hA34 n0 Z0 SS.1 hcs E_x4 F_x4_coder F_x4_value VR hokR (by show (5 : Nat) < 64; decide) hfm SS.2.1 SS.2.2.1 SS.2.2.2.1 SS.2.2.2.2 (by decide) rfl) E_x4 H hZ hown dm0_184 (oW hw 166 rfl) (kV38 hw) hml rfl rfl [] rfl rfl
  have A47 := A44.cl |>.bp H dm0_187 rfl 39 rfl |>.cy H dm0_189 rfl ((teq q43).1) 194 (by decide) (by decide) |>.iL H dm0_194 rfl rfl |>.bp H dm0_196 rfl 24 rfl |>.cy H dm0_198 rfl rfl 245 (by decide) (by decide) |>.aL H dm0_245 rfl rfl rfl |>.aL H dm0_247 rfl rfl rfl |>.ic H dm0_249 rfl 0 rfl |>.iL H dm0_250 rfl rfl
  obtain ⟨vA46, hA46, ⟨rfl, rfl⟩, A46⟩ := A47.cS (own_atY l Z a0 hw x4 x5 x1 cs 0 3 c0 _ _ fm hA34 n0 Z0 (by decide) SS.1 hcs E_x4 F_x4_coder F_x4_value VR hokR (by show (5 : Nat) < 64; decide) hfm SS.2.1 SS.2.2.1 SS.2.2.2.1 SS.2.2.2.2 V_x1 (by decide) (by decide) rfl rfl hc0a hc0b) H hZ hown dm0_252 (oW hw 187 rfl) (kS45 hw) hml rfl rfl [] rfl rfl
  have A49 := A46.cl |>.fn H dm0_255 rfl rfl |>.aL H dm0_258 rfl rfl rfl |>.aL H dm0_260 rfl rfl rfl |>.ic H dm0_262 rfl 1 rfl |>.iL H dm0_263 rfl rfl
  obtain ⟨vA48, hA48, ⟨rfl, rfl⟩, A48⟩ := A49.cS (own_atY l Z a0 hw x4 x5 x1 cs 1 3 c1 _ _ fm hA34 n0 Z0 (by decide) SS.1 hcs E_x4 F_x4_coder F_x4_value VR hokR (by show (5 : Nat) < 64; decide) hfm SS.2.1 SS.2.2.1 SS.2.2.2.1 SS.2.2.2.2 V_x1 (by decide) (by decide) rfl rfl hc1a hc1b) H hZ hown dm0_265 (oW hw 187 rfl) (kS45 hw) hml rfl rfl [] rfl rfl
  have A51 := A48.cl |>.fn H dm0_268 rfl rfl |>.aL H dm0_271 rfl rfl rfl |>.aL H dm0_273 rfl rfl rfl |>.ic H dm0_275 rfl 2 rfl |>.iL H dm0_276 rfl rfl
  obtain ⟨vA50, hA50, ⟨rfl, rfl⟩, A50⟩ := A51.cS (own_atY l Z a0 hw x4 x5 x1 cs 2 3 c2 _ _ fm hA34 n0 Z0 (by decide) SS.1 hcs E_x4 F_x4_coder F_x4_value VR hokR (by show (5 : Nat) < 64; decide) hfm SS.2.1 SS.2.2.1 SS.2.2.2.1 SS.2.2.2.2 V_x1 (by decide) (by decide) rfl rfl hc2a hc2b) H hZ hown dm0_278 (oW hw 187 rfl) (kS45 hw) hml rfl rfl [] rfl rfl
  have A53 := A50.cl |>.fn H dm0_281 rfl rfl |>.aL H dm0_284 rfl rfl rfl |>.aL H dm0_286 rfl rfl rfl |>.bp H dm0_288 rfl 12 rfl |>.iL H dm0_290 rfl rfl
  obtain ⟨vA52, hA52, ⟨rfl, rfl⟩, A52⟩ := A53.cS (own_atN l Z a0 hw x4 x1 12 3 hA34 n0 Z0 (by decide)) H hZ hown dm0_292 (oW hw 187 rfl) (kS45 hw) hml rfl rfl [] rfl rfl
  have A55 := A52.cl |>.fn H dm0_295 rfl rfl |>.aL H dm0_298 rfl rfl rfl |>.aL H dm0_300 rfl rfl rfl |>.bp H dm0_302 rfl 22 rfl |>.iL H dm0_304 rfl rfl
  obtain ⟨vA54, hA54, ⟨rfl, rfl⟩, A54⟩ := A55.cS (own_atN l Z a0 hw x4 x1 22 3 hA34 n0 Z0 (by decide)) H hZ hown dm0_306 (oW hw 187 rfl) (kS45 hw) hml rfl rfl [] rfl rfl
  have A57 := A54.cl |>.fn H dm0_309 rfl rfl |>.aL H dm0_312 rfl rfl rfl |>.aL H dm0_314 rfl rfl rfl |>.bp H dm0_316 rfl 23 rfl |>.iL H dm0_318 rfl rfl
  obtain ⟨vA56, hA56, ⟨rfl, rfl⟩, A56⟩ := A57.cS (own_atN l Z a0 hw x4 x1 23 3 hA34 n0 Z0 (by decide)) H hZ hown dm0_320 (oW hw 187 rfl) (kS45 hw) hml rfl rfl [] rfl rfl
  have A58 := A56.cl |>.fn H dm0_323 rfl rfl |>.ic H dm0_326 rfl 1 rfl |>.gt H dm0_327 rfl 331 (by decide) (by decide)
  exact A58.retSS hx hlk hZ hS hk hEL HC hret (hb hby dm0_331) rfl (Or.inl ⟨rfl, by simp, _, rfl⟩) (by decide) (by decide) ⟨rfl, trivial⟩
theorem own_law4 (l : Launch) (Z : State) (a0 : Array Value) (hw : ∀ d ∈ tables_1, d.before a0 Z = true) (i0 i1 i2 i3 i4 : Int32) (cs : Int32) (fm : Value) (h0 : Heap) (n0 : Nat) (Z0 : n0 ≤ h0.size) (hEL : EW Z a0 own_EL) (own_wS : ∀ a ∈ Bundle.stringAtoms, a.before a0 Z = true) (SS : own_ST Z h0 cs fm) (hcs : ¬ (cs = (0 : Int32))) (hfm : fm.isRef = true) (hk8 : (i0 &&& (7 : Int32)) = (4 : Int32)) :
    own_MS l Z own_EL x code maxLocals ret tables_1 room_1 #[(.int i0), (.int i1), (.int i2), (.int i3), (.int i4)] h0 n0 (fun v h => v = some (.int 1) ∧ True) := by
  refine own_MS.of (plainFor_of_name (by first | (simp [plainName, overriddenIn]; done) | decide +kernel)) ?_
  intro p e s m below meth c S0 vm0 k0 hx hby hml hown hnm hret hlk hZ hS hk HC A00
  have H : own_H p c _ := ⟨hx, hby⟩
  have A0 := A00.cast (f' := mkF m 0 #[.val (.int i0), .val (.int i1), .val (.int i2), .val (.int i3), .val (.int i4), .unset, .unset, .unset, .unset, .unset, .unset, .unset, .unset, .unset, .unset] []) (by first | (simp [entryFrame, mkF, argsToLocals, Value.category, maxLocals]; done) | rfl)
  have A1 := A0.iN H dm0_0 rfl rfl |>.bp H dm0_1 rfl 7 rfl |>.nd H dm0_3 rfl _ rfl
  rw [hk8] at A1
  have A3 := A1.iS H dm0_4 rfl #[.val (.int i0), .val (.int i1), .val (.int i2), .val (.int i3), .val (.int i4), .val (.int 4), .unset, .unset, .unset, .unset, .unset, .unset, .unset, .unset, .unset] rfl |>.iL H dm0_6 rfl rfl |>.ic H dm0_8 rfl 4 rfl |>.cy H dm0_9 rfl rfl 17 (by decide) (by decide) |>.bp H dm0_17 rfl 19 rfl |>.iL H dm0_19 rfl rfl |>.ad H dm0_21 rfl 23 rfl |>.iS H dm0_22 rfl #[.val (.int i0), .val (.int i1), .val (.int i2), .val (.int i3), .val (.int i4), .val (.int 4), .val (.int 23), .unset, .unset, .unset, .unset, .unset, .unset, .unset, .unset] rfl |>.iL H dm0_24 rfl rfl
  obtain ⟨vA2, hA2, ⟨x1, rfl, KA2, zz_x1, P_V_x1⟩, A2⟩ := A3.cS (own_c132 l Z a0 hw h0 n0 Z0) H hZ hown dm0_26 (oW hw 0 rfl) (kS44 hw) hml rfl rfl [] rfl rfl
  have g_x1 : n0 ≤ x1 := Nat.le_trans Z0 zz_x1
  have hsA : ∀ x ∈ ([] : List Addr), Safe Z own_EL vm0 h0 x := all0
  have HC := HC.trans (CHr.keep KA2 hsA HC.1)
  have hk := Nat.le_trans hk KA2.1
  have SS := SS.kp KA2 all0
  have Z0 := Nat.le_trans Z0 KA2.1
  have V_x1 : own_Ar Z hA2 x1 .char [(.int 0), (.int 0), (.int 0), (.int 0), (.int 0), (.int 0), (.int 0), (.int 0), (.int 0), (.int 0), (.int 0), (.int 0), (.int 0), (.int 0), (.int 0), (.int 0), (.int 0), (.int 0), (.int 0), (.int 0), (.int 0), (.int 0), (.int 0)] := P_V_x1
  have A4 := A2.cl |>.aS H dm0_29 rfl rfl #[.val (.int i0), .val (.int i1), .val (.int i2), .val (.int i3), .val (.int i4), .val (.int 4), .val (.int 23), .val (.ref x1), .unset, .unset, .unset, .unset, .unset, .unset, .unset] rfl |>.iN H dm0_31 rfl rfl
  have A5 := A4.ldcI hx hZ hown (hb hby dm0_32) (oW hw 5 rfl)
  have A6 := A5.nd H dm0_34 rfl _ rfl |>.ch H dm0_35 rfl _ rfl
  rw [own_cC (own_and16 i1).1 (own_and16 i1).2] at A6
  obtain ⟨c0, hc0⟩ : ∃ zq_, zq_ = (i1 &&& (65535 : Int32)) := ⟨_, rfl⟩
  rw [← hc0] at A6
  have hc0a : ¬ (c0 < (0 : Int32)) := hc0 ▸ (own_and16 i1).1
  have hc0b : ¬ ((65535 : Int32) < c0) := hc0 ▸ (own_and16 i1).2
  have A7 := A6.iS H dm0_36 rfl #[.val (.int i0), .val (.int i1), .val (.int i2), .val (.int i3), .val (.int i4), .val (.int 4), .val (.int 23), .val (.ref x1), .val (.int c0), .unset, .unset, .unset, .unset, .unset, .unset] rfl |>.iN H dm0_38 rfl rfl
  have A8 := A7.ldcI hx hZ hown (hb hby dm0_39) (oW hw 5 rfl)
  have A9 := A8.nd H dm0_41 rfl _ rfl |>.ch H dm0_42 rfl _ rfl
  rw [own_cC (own_and16 i2).1 (own_and16 i2).2] at A9
  obtain ⟨c1, hc1⟩ : ∃ zq_, zq_ = (i2 &&& (65535 : Int32)) := ⟨_, rfl⟩
  rw [← hc1] at A9
  have hc1a : ¬ (c1 < (0 : Int32)) := hc1 ▸ (own_and16 i2).1
  have hc1b : ¬ ((65535 : Int32) < c1) := hc1 ▸ (own_and16 i2).2
  have A10 := A9.iS H dm0_43 rfl #[.val (.int i0), .val (.int i1), .val (.int i2), .val (.int i3), .val (.int i4), .val (.int 4), .val (.int 23), .val (.ref x1), .val (.int c0), .val (.int c1), .unset, .unset, .unset, .unset, .unset] rfl |>.iN H dm0_45 rfl rfl
  have A11 := A10.ldcI hx hZ hown (hb hby dm0_46) (oW hw 5 rfl)
  have A12 := A11.nd H dm0_48 rfl _ rfl |>.ch H dm0_49 rfl _ rfl
  rw [own_cC (own_and16 i3).1 (own_and16 i3).2] at A12
  obtain ⟨c2, hc2⟩ : ∃ zq_, zq_ = (i3 &&& (65535 : Int32)) := ⟨_, rfl⟩
  rw [← hc2] at A12
  have hc2a : ¬ (c2 < (0 : Int32)) := hc2 ▸ (own_and16 i3).1
  have hc2b : ¬ ((65535 : Int32) < c2) := hc2 ▸ (own_and16 i3).2
  have A13 := A12.iS H dm0_50 rfl #[.val (.int i0), .val (.int i1), .val (.int i2), .val (.int i3), .val (.int i4), .val (.int 4), .val (.int 23), .val (.ref x1), .val (.int c0), .val (.int c1), .val (.int c2), .unset, .unset, .unset, .unset] rfl |>.iL H dm0_52 rfl rfl
  have A14 := A13.ldcI hx hZ hown (hb hby dm0_54) (oW hw 5 rfl)
  have A15 := A14.nd H dm0_56 rfl _ rfl |>.ch H dm0_57 rfl _ rfl
  rw [own_cC (own_and16 i4).1 (own_and16 i4).2] at A15
  obtain ⟨c3, hc3⟩ : ∃ zq_, zq_ = (i4 &&& (65535 : Int32)) := ⟨_, rfl⟩
  rw [← hc3] at A15
  have hc3a : ¬ (c3 < (0 : Int32)) := hc3 ▸ (own_and16 i4).1
  have hc3b : ¬ ((65535 : Int32) < c3) := hc3 ▸ (own_and16 i4).2
  have SX_x1 : Safe Z own_EL _ hA2 x1 := own_Ar.safe hZ.alike V_x1 (by decide)
  have A19 := A15.iS H dm0_58 rfl #[.val (.int i0), .val (.int i1), .val (.int i2), .val (.int i3), .val (.int i4), .val (.int 4), .val (.int 23), .val (.ref x1), .val (.int c0), .val (.int c1), .val (.int c2), .val (.int c3), .unset, .unset, .unset] rfl |>.iL H dm0_60 rfl rfl |>.ic H dm0_62 rfl 1 rfl |>.cn H dm0_63 rfl rfl |>.aL H dm0_66 rfl rfl rfl |>.ic H dm0_68 rfl 0 rfl |>.iL H dm0_69 rfl rfl
  obtain ⟨h16, W17, A18⟩ := A19.stC hx hZ (hb hby dm0_71) V_x1 (by decide) (by simp +decide) g_x1
  have SS := SS.wr W17
  have V_x1 : own_Ar Z h16 x1 .char [(.int (nar .char c0)), (.int 0), (.int 0), (.int 0), (.int 0), (.int 0), (.int 0), (.int 0), (.int 0), (.int 0), (.int 0), (.int 0), (.int 0), (.int 0), (.int 0), (.int 0), (.int 0), (.int 0), (.int 0), (.int 0), (.int 0), (.int 0), (.int 0)] := V_x1.same W17
  have Z0 : n0 ≤ h16.size := by rw [W17.size]; exact Z0
  have hk := (by rw [W17.size]; exact hk : _ ≤ h16.size)
  have HC := HC.trans (CHr.wr W17 SX_x1 HC.1)
  rw [show nar .char c0 = c0 from own_cC hc0a hc0b] at V_x1
  have V_x1 : own_Ar Z h16 x1 .char [(.int c0), (.int 0), (.int 0), (.int 0), (.int 0), (.int 0), (.int 0), (.int 0), (.int 0), (.int 0), (.int 0), (.int 0), (.int 0), (.int 0), (.int 0), (.int 0), (.int 0), (.int 0), (.int 0), (.int 0), (.int 0), (.int 0), (.int 0)] := V_x1
  have SX_x1 : Safe Z own_EL _ h16 x1 := own_Ar.safe hZ.alike V_x1 (by decide)
  have A23 := A18.iL H dm0_72 rfl rfl |>.ic H dm0_74 rfl 2 rfl |>.cn H dm0_75 rfl rfl |>.aL H dm0_78 rfl rfl rfl |>.ic H dm0_80 rfl 1 rfl |>.iL H dm0_81 rfl rfl
  obtain ⟨h20, W21, A22⟩ := A23.stC hx hZ (hb hby dm0_83) V_x1 (by decide) (by simp +decide) g_x1
  have SS := SS.wr W21
  have V_x1 : own_Ar Z h20 x1 .char [(.int c0), (.int (nar .char c1)), (.int 0), (.int 0), (.int 0), (.int 0), (.int 0), (.int 0), (.int 0), (.int 0), (.int 0), (.int 0), (.int 0), (.int 0), (.int 0), (.int 0), (.int 0), (.int 0), (.int 0), (.int 0), (.int 0), (.int 0), (.int 0)] := V_x1.same W21
  have Z0 : n0 ≤ h20.size := by rw [W21.size]; exact Z0
  have hk := (by rw [W21.size]; exact hk : _ ≤ h20.size)
  have HC := HC.trans (CHr.wr W21 SX_x1 HC.1)
  rw [show nar .char c1 = c1 from own_cC hc1a hc1b] at V_x1
  have V_x1 : own_Ar Z h20 x1 .char [(.int c0), (.int c1), (.int 0), (.int 0), (.int 0), (.int 0), (.int 0), (.int 0), (.int 0), (.int 0), (.int 0), (.int 0), (.int 0), (.int 0), (.int 0), (.int 0), (.int 0), (.int 0), (.int 0), (.int 0), (.int 0), (.int 0), (.int 0)] := V_x1
  have SX_x1 : Safe Z own_EL _ h20 x1 := own_Ar.safe hZ.alike V_x1 (by decide)
  have A27 := A22.iL H dm0_84 rfl rfl |>.ic H dm0_86 rfl 3 rfl |>.cn H dm0_87 rfl rfl |>.aL H dm0_90 rfl rfl rfl |>.iL H dm0_92 rfl rfl |>.ic H dm0_94 rfl 1 rfl |>.sb H dm0_95 rfl 22 rfl |>.iL H dm0_96 rfl rfl
  obtain ⟨h24, W25, A26⟩ := A27.stC hx hZ (hb hby dm0_98) V_x1 (by decide) (by simp +decide) g_x1
  have SS := SS.wr W25
  have V_x1 : own_Ar Z h24 x1 .char [(.int c0), (.int c1), (.int 0), (.int 0), (.int 0), (.int 0), (.int 0), (.int 0), (.int 0), (.int 0), (.int 0), (.int 0), (.int 0), (.int 0), (.int 0), (.int 0), (.int 0), (.int 0), (.int 0), (.int 0), (.int 0), (.int 0), (.int (nar .char c2))] := V_x1.same W25
  have Z0 : n0 ≤ h24.size := by rw [W25.size]; exact Z0
  have hk := (by rw [W25.size]; exact hk : _ ≤ h24.size)
  have HC := HC.trans (CHr.wr W25 SX_x1 HC.1)
  rw [show nar .char c2 = c2 from own_cC hc2a hc2b] at V_x1
  have V_x1 : own_Ar Z h24 x1 .char [(.int c0), (.int c1), (.int 0), (.int 0), (.int 0), (.int 0), (.int 0), (.int 0), (.int 0), (.int 0), (.int 0), (.int 0), (.int 0), (.int 0), (.int 0), (.int 0), (.int 0), (.int 0), (.int 0), (.int 0), (.int 0), (.int 0), (.int c2)] := V_x1
  have A31 := A26.iL H dm0_99 rfl rfl |>.bp H dm0_101 rfl 25 rfl |>.cy H dm0_103 rfl rfl 113 (by decide) (by decide)
  obtain ⟨h28, E29, E_x2, D_x2, A30⟩ := A31.newO hx hZ hown (hb hby dm0_113) (oW hw 6 rfl) (oW hw 7 rfl) (oW hw 8 rfl) (by decide) (by decide)
  obtain ⟨x2, gx2⟩ : ∃ z, z = h24.size := ⟨_, rfl⟩
  rw [← gx2] at E_x2 D_x2 A30
  have ne_x1_x2 : x1 ≠ x2 := by rw [gx2]; exact Nat.ne_of_lt V_x1.lt
  have g_x2 : n0 ≤ x2 := by rw [gx2]; exact Z0
  have SS := SS.ext E29
  have V_x1 := V_x1.ext E29
  have Z0 := Nat.le_trans Z0 E29.1
  have HC := HC.trans (CHr.ext E29 HC.1)
  have hk := Nat.le_trans hk E29.1
  have F_x2_value : Fld Z h28 x2 "java/lang/String" "value" "[B" .null := D_x2 (Or.inr (oW hw 21 rfl)) (ty := (.array .byte)) (by decide)
  have F_x2_coder : Fld Z h28 x2 "java/lang/String" "coder" "B" (.int 0) := D_x2 (Or.inr (oW hw 22 rfl)) (ty := .byte) (by decide)
  have SX_x2 : Safe Z own_EL vm0 h28 x2 := own_safeNull hZ.alike E_x2 F_x2_value
  have hch : ∀ z ∈ ([c0, c1, 0, 0, 0, 0, 0, 0, 0, 0, 0, 0, 0, 0, 0, 0, 0, 0, 0, 0, 0, 0, c2] : List Int32), own_b16 z := own_aS (P := own_b16) ⟨hc0a, hc0b⟩ (own_aS (P := own_b16) ⟨hc1a, hc1b⟩ (own_aS (P := own_b16) own_z16 (own_aS (P := own_b16) own_z16 (own_aS (P := own_b16) own_z16 (own_aS (P := own_b16) own_z16 (own_aS (P := own_b16) own_z16 (own_aS (P := own_b16) own_z16 (own_aS (P := own_b16) own_z16 (own_aS (P := own_b16) own_z16 (own_aS (P := own_b16) own_z16 (own_aS (P := own_b16) own_z16 (own_aS (P := own_b16) own_z16 (own_aS (P := own_b16) own_z16 (own_aS (P := own_b16) own_z16 (own_aS (P := own_b16) own_z16 (own_aS (P := own_b16) own_z16 (own_aS (P := own_b16) own_z16 (own_aS (P := own_b16) own_z16 (own_aS (P := own_b16) own_z16 (own_aS (P := own_b16) own_z16 (own_aS (P := own_b16) own_z16 (own_aS (P := own_b16) ⟨hc2a, hc2b⟩ (own_aN)))))))))))))))))))))))
  have A33 := A30.du H dm0_116 rfl rfl |>.aL H dm0_117 rfl rfl rfl
  obtain ⟨vA32, hA32, ⟨x3, k, rfl, KI, zz_x3, PC_, PV_, PB_, hok⟩, A32⟩ := A33.cI (own_in1 l Z a0 hw x2 x1 23 cs [c0, c1, 0, 0, 0, 0, 0, 0, 0, 0, 0, 0, 0, 0, 0, 0, 0, 0, 0, 0, 0, 0, c2] h28 n0 Z0 E_x2 F_x2_coder F_x2_value g_x2 V_x1 rfl (by show (23 : Nat) < 64; decide) (by show (23 : Nat) ≤ 32; decide) (by show 0 < (23 : Nat); decide) hch SS.1 hcs SS.2.2.1 SS.2.2.2.1 SS.2.2.2.2) H hZ hown dm0_119 (oW hw 9 rfl) (kI46 hw) hml rfl rfl [(.ref x2)] rfl rfl
  have hsA : ∀ x ∈ ([x2] : List Addr), Safe Z own_EL vm0 h28 x := (allS SX_x2 all0)
  have HC := HC.trans (CHr.keep KI hsA HC.1)
  have hk := Nat.le_trans hk KI.1
  have SS := SS.kp KI (allS (P := fun x => ∀ cell : Cell, h28[x]? = some cell → cell.vm.isStatics = false) E_x2.nostat all0)
  have V_x1 := V_x1.keep KI (ninS ne_x1_x2 nin0)
  have E_x2 := E_x2.keep KI
  have Z0 := Nat.le_trans Z0 KI.1
  have F_x2_coder : Fld Z hA32 x2 "java/lang/String" "coder" "B" (.int k) := PC_
  have F_x2_value : Fld Z hA32 x2 "java/lang/String" "value" "[B" (.ref x3) := PV_
  have V_x3 : own_Ar Z hA32 x3 .byte (own_by k [c0, c1, 0, 0, 0, 0, 0, 0, 0, 0, 0, 0, 0, 0, 0, 0, 0, 0, 0, 0, 0, 0, c2]) := PB_
  have A35 := A32.c0
  obtain ⟨vA34, vmA34, kA34, hA34, ⟨x4, x5, rfl, KA34, zz_x4, zz_x5, ne_x5_x4, P_E_x4, P_F_x4_value, P_F_x4_coder, P_V_x5, hl_x5⟩, hS, hk, hZ, hown, HCs, hgA34, hwA34, A34⟩ := A35.callSS (own_q23 l Z a0 hw x2 x3 k c0 c1 (0 : Int32) (0 : Int32) (0 : Int32) (0 : Int32) (0 : Int32) (0 : Int32) (0 : Int32) (0 : Int32) (0 : Int32) (0 : Int32) (0 : Int32) (0 : Int32) (0 : Int32) (0 : Int32) (0 : Int32) (0 : Int32) (0 : Int32) (0 : Int32) (0 : Int32) (0 : Int32) c2 cs fm hA32 n0 Z0 hEL own_wS E_x2 F_x2_coder F_x2_value V_x3 SS hcs hfm hok (by show (23 : Nat) < 64; decide)) hx hZ hown (hb hby dm0_122) (oW hw 27 rfl) (oW hw 28 rfl) (oW hw 29 rfl) (oW hw 30 rfl) hS hk hEL (CHr.refl HC.1) ⟨by decide, by decide⟩ (lenOf pd__28Ljava_2flang_2fString_3b_29Ljava_2flang_2fString_3b rfl) (argsL := [(.ref x2)]) (rest := []) rfl rfl (by rw [hml]; rfl) (W := 0) (Nat.le_of_eq rfl) (by decide) (by decide) (by decide) (by decide)
  have HC := HC.trans HCs
  have SS := SS.kp KA34 all0
  have V_x1 := V_x1.keep KA34 nin0
  have Z0 := Nat.le_trans Z0 KA34.1
  have E_x4 : Exa Z hA34 x4 "java/lang/String" := P_E_x4
  have F_x4_value : Fld Z hA34 x4 "java/lang/String" "value" "[B" (.ref x5) := P_F_x4_value
  have F_x4_coder : Fld Z hA34 x4 "java/lang/String" "coder" "B" (.int 0) := P_F_x4_coder
  have V_x5 : own_Ar Z hA34 x5 .byte (List.map own_lo [39, (own_sh c0), (own_sh c1), (own_sh 0), (own_sh 0), (own_sh 0), (own_sh 0), (own_sh 0), (own_sh 0), (own_sh 0), (own_sh 0), (own_sh 0), (own_sh 0), (own_sh 0), (own_sh 0), (own_sh 0), (own_sh 0), (own_sh 0), (own_sh 0), (own_sh 0), (own_sh 0), (own_sh 0), (own_sh 0), (own_sh c2), 39]) := P_V_x5
  have VR : own_Ar Z hA34 x5 .byte (own_by (0 : Int32) [39, (own_sh c0), (own_sh c1), (own_sh 0), (own_sh 0), (own_sh 0), (own_sh 0), (own_sh 0), (own_sh 0), (own_sh 0), (own_sh 0), (own_sh 0), (own_sh 0), (own_sh 0), (own_sh 0), (own_sh 0), (own_sh 0), (own_sh 0), (own_sh 0), (own_sh 0), (own_sh 0), (own_sh 0), (own_sh 0), (own_sh c2), 39]) := by rw [own_by, if_pos rfl]; exact V_x5
  have hokR : own_ok (0 : Int32) [39, (own_sh c0), (own_sh c1), (own_sh 0), (own_sh 0), (own_sh 0), (own_sh 0), (own_sh 0), (own_sh 0), (own_sh 0), (own_sh 0), (own_sh 0), (own_sh 0), (own_sh 0), (own_sh 0), (own_sh 0), (own_sh 0), (own_sh 0), (own_sh 0), (own_sh 0), (own_sh 0), (own_sh 0), (own_sh 0), (own_sh c2), 39] := Or.inl ⟨rfl, own_aS (P := own_b8) ⟨by decide, by decide⟩ (own_aS (P := own_b8) own_s8 (own_aS (P := own_b8) own_s8 (own_aS (P := own_b8) own_s8 (own_aS (P := own_b8) own_s8 (own_aS (P := own_b8) own_s8 (own_aS (P := own_b8) own_s8 (own_aS (P := own_b8) own_s8 (own_aS (P := own_b8) own_s8 (own_aS (P := own_b8) own_s8 (own_aS (P := own_b8) own_s8 (own_aS (P := own_b8) own_s8 (own_aS (P := own_b8) own_s8 (own_aS (P := own_b8) own_s8 (own_aS (P := own_b8) own_s8 (own_aS (P := own_b8) own_s8 (own_aS (P := own_b8) own_s8 (own_aS (P := own_b8) own_s8 (own_aS (P := own_b8) own_s8 (own_aS (P := own_b8) own_s8 (own_aS (P := own_b8) own_s8 (own_aS (P := own_b8) own_s8 (own_aS (P := own_b8) own_s8 (own_aS (P := own_b8) own_s8 (own_aS (P := own_b8) ⟨by decide, by decide⟩ (own_aN)))))))))))))))))))))))))⟩
  have A37 := A34.cl |>.aS H dm0_125 rfl rfl #[.val (.int i0), .val (.int i1), .val (.int i2), .val (.int i3), .val (.int i4), .val (.int 4), .val (.int 23), .val (.ref x1), .val (.int c0), .val (.int c1), .val (.int c2), .val (.int c3), .val (.ref x4), .unset, .unset] rfl |>.iL H dm0_127 rfl rfl |>.bp H dm0_129 rfl 24 rfl
  obtain ⟨vA36, hA36, ⟨rfl, rfl⟩, A36⟩ := A37.cS (own_c68 l Z a0 hw hA34 n0 Z0) H hZ hown dm0_131 (oW hw 164 rfl) (kS26 hw) hml rfl rfl [] rfl rfl
  have A39 := A36.cl |>.iS H dm0_134 rfl #[.val (.int i0), .val (.int i1), .val (.int i2), .val (.int i3), .val (.int i4), .val (.int 4), .val (.int 23), .val (.ref x1), .val (.int c0), .val (.int c1), .val (.int c2), .val (.int c3), .val (.ref x4), .val (.int 23), .unset] rfl |>.iL H dm0_136 rfl rfl |>.ic H dm0_138 rfl 2 rfl |>.ad H dm0_139 rfl 25 rfl |>.iL H dm0_140 rfl rfl |>.bp H dm0_142 rfl 24 rfl |>.cy H dm0_144 rfl rfl 151 (by decide) (by decide) |>.ic H dm0_151 rfl 0 rfl |>.ad H dm0_152 rfl 25 rfl |>.iS H dm0_153 rfl #[.val (.int i0), .val (.int i1), .val (.int i2), .val (.int i3), .val (.int i4), .val (.int 4), .val (.int 23), .val (.ref x1), .val (.int c0), .val (.int c1), .val (.int c2), .val (.int c3), .val (.ref x4), .val (.int 23), .val (.int 25)] rfl |>.aL H dm0_155 rfl rfl rfl
  obtain ⟨vA38, hA38, ⟨rfl, rfl⟩, A38⟩ := A39.cV (own_len l Z a0 hw x4 x5 cs 0 25 _ hA34 n0 Z0 SS.1 hcs E_x4 F_x4_coder F_x4_value VR hokR (by show (25 : Nat) < 64; decide) rfl) E_x4 H hZ hown dm0_157 (oW hw 165 rfl) (kV17 hw) hml rfl rfl [] rfl rfl
  have q40 : ((25 : Int32) = (25 : Int32)) := rfl
  have A42 := A38.cl |>.iL H dm0_160 rfl rfl |>.cy H dm0_162 rfl ((teq q40).1) 167 (by decide) (by decide) |>.aL H dm0_167 rfl rfl rfl |>.ic H dm0_169 rfl 0 rfl
  obtain ⟨vA41, hA41, ⟨rfl, rfl⟩, A41⟩ := A42.cV (own_ch l Z a0 hw x4 x5 cs 0 0 39 _ fm hA34 n0 Z0 SS.1 hcs E_x4 F_x4_coder F_x4_value VR hokR (by show (25 : Nat) < 64; decide) hfm SS.2.1 SS.2.2.1 SS.2.2.2.1 SS.2.2.2.2 (by decide) rfl) E_x4 H hZ hown dm0_170 (oW hw 166 rfl) (kV38 hw) hml rfl rfl [] rfl rfl
  have q43 : ((39 : Int32) = (39 : Int32)) := rfl
  have A45 := A41.cl |>.bp H dm0_173 rfl 39 rfl |>.cn H dm0_175 rfl ((teq q43).2) |>.aL H dm0_178 rfl rfl rfl |>.iL H dm0_180 rfl rfl |>.ic H dm0_182 rfl 1 rfl |>.sb H dm0_183 rfl 24 rfl
  obtain ⟨vA44, hA44, ⟨rfl, rfl⟩, A44⟩ := A45.cV (own_ch l Z a0 hw x4 x5 cs 0 24 39 _ fm hA34 n0 Z0 SS.1 hcs E_x4 F_x4_coder F_x4_value VR hokR (by show (25 : Nat) < 64; decide) hfm SS.2.1 SS.2.2.1 SS.2.2.2.1 SS.2.2.2.2 (by decide) rfl) E_x4 H hZ hown dm0_184 (oW hw 166 rfl) (kV38 hw) hml rfl rfl [] rfl rfl
  have A47 := A44.cl |>.bp H dm0_187 rfl 39 rfl |>.cy H dm0_189 rfl ((teq q43).1) 194 (by decide) (by decide) |>.iL H dm0_194 rfl rfl |>.bp H dm0_196 rfl 24 rfl |>.cy H dm0_198 rfl rfl 245 (by decide) (by decide) |>.aL H dm0_245 rfl rfl rfl |>.aL H dm0_247 rfl rfl rfl |>.ic H dm0_249 rfl 0 rfl |>.iL H dm0_250 rfl rfl
  obtain ⟨vA46, hA46, ⟨rfl, rfl⟩, A46⟩ := A47.cS (own_atY l Z a0 hw x4 x5 x1 cs 0 23 c0 _ _ fm hA34 n0 Z0 (by decide) SS.1 hcs E_x4 F_x4_coder F_x4_value VR hokR (by show (25 : Nat) < 64; decide) hfm SS.2.1 SS.2.2.1 SS.2.2.2.1 SS.2.2.2.2 V_x1 (by decide) (by decide) rfl rfl hc0a hc0b) H hZ hown dm0_252 (oW hw 187 rfl) (kS45 hw) hml rfl rfl [] rfl rfl
  have A49 := A46.cl |>.fn H dm0_255 rfl rfl |>.aL H dm0_258 rfl rfl rfl |>.aL H dm0_260 rfl rfl rfl |>.ic H dm0_262 rfl 1 rfl |>.iL H dm0_263 rfl rfl
  obtain ⟨vA48, hA48, ⟨rfl, rfl⟩, A48⟩ := A49.cS (own_atY l Z a0 hw x4 x5 x1 cs 1 23 c1 _ _ fm hA34 n0 Z0 (by decide) SS.1 hcs E_x4 F_x4_coder F_x4_value VR hokR (by show (25 : Nat) < 64; decide) hfm SS.2.1 SS.2.2.1 SS.2.2.2.1 SS.2.2.2.2 V_x1 (by decide) (by decide) rfl rfl hc1a hc1b) H hZ hown dm0_265 (oW hw 187 rfl) (kS45 hw) hml rfl rfl [] rfl rfl
  have A51 := A48.cl |>.fn H dm0_268 rfl rfl |>.aL H dm0_271 rfl rfl rfl |>.aL H dm0_273 rfl rfl rfl |>.ic H dm0_275 rfl 2 rfl |>.iL H dm0_276 rfl rfl
  obtain ⟨vA50, hA50, ⟨rfl, rfl⟩, A50⟩ := A51.cS (own_atY l Z a0 hw x4 x5 x1 cs 2 23 0 _ _ fm hA34 n0 Z0 (by decide) SS.1 hcs E_x4 F_x4_coder F_x4_value VR hokR (by show (25 : Nat) < 64; decide) hfm SS.2.1 SS.2.2.1 SS.2.2.2.1 SS.2.2.2.2 V_x1 (by decide) (by decide) rfl rfl (by decide) (by decide)) H hZ hown dm0_278 (oW hw 187 rfl) (kS45 hw) hml rfl rfl [] rfl rfl
  have A53 := A50.cl |>.fn H dm0_281 rfl rfl |>.aL H dm0_284 rfl rfl rfl |>.aL H dm0_286 rfl rfl rfl |>.bp H dm0_288 rfl 12 rfl |>.iL H dm0_290 rfl rfl
  obtain ⟨vA52, hA52, ⟨rfl, rfl⟩, A52⟩ := A53.cS (own_atY l Z a0 hw x4 x5 x1 cs 12 23 0 _ _ fm hA34 n0 Z0 (by decide) SS.1 hcs E_x4 F_x4_coder F_x4_value VR hokR (by show (25 : Nat) < 64; decide) hfm SS.2.1 SS.2.2.1 SS.2.2.2.1 SS.2.2.2.2 V_x1 (by decide) (by decide) rfl rfl (by decide) (by decide)) H hZ hown dm0_292 (oW hw 187 rfl) (kS45 hw) hml rfl rfl [] rfl rfl
  have A55 := A52.cl |>.fn H dm0_295 rfl rfl |>.aL H dm0_298 rfl rfl rfl |>.aL H dm0_300 rfl rfl rfl |>.bp H dm0_302 rfl 22 rfl |>.iL H dm0_304 rfl rfl
  obtain ⟨vA54, hA54, ⟨rfl, rfl⟩, A54⟩ := A55.cS (own_atY l Z a0 hw x4 x5 x1 cs 22 23 c2 _ _ fm hA34 n0 Z0 (by decide) SS.1 hcs E_x4 F_x4_coder F_x4_value VR hokR (by show (25 : Nat) < 64; decide) hfm SS.2.1 SS.2.2.1 SS.2.2.2.1 SS.2.2.2.2 V_x1 (by decide) (by decide) rfl rfl hc2a hc2b) H hZ hown dm0_306 (oW hw 187 rfl) (kS45 hw) hml rfl rfl [] rfl rfl
  have A57 := A54.cl |>.fn H dm0_309 rfl rfl |>.aL H dm0_312 rfl rfl rfl |>.aL H dm0_314 rfl rfl rfl |>.bp H dm0_316 rfl 23 rfl |>.iL H dm0_318 rfl rfl
  obtain ⟨vA56, hA56, ⟨rfl, rfl⟩, A56⟩ := A57.cS (own_atN l Z a0 hw x4 x1 23 23 hA34 n0 Z0 (by decide)) H hZ hown dm0_320 (oW hw 187 rfl) (kS45 hw) hml rfl rfl [] rfl rfl
  have A58 := A56.cl |>.fn H dm0_323 rfl rfl |>.ic H dm0_326 rfl 1 rfl |>.gt H dm0_327 rfl 331 (by decide) (by decide)
  exact A58.retSS hx hlk hZ hS hk hEL HC hret (hb hby dm0_331) rfl (Or.inl ⟨rfl, by simp, _, rfl⟩) (by decide) (by decide) ⟨rfl, trivial⟩
theorem own_law5 (l : Launch) (Z : State) (a0 : Array Value) (hw : ∀ d ∈ tables_1, d.before a0 Z = true) (i0 i1 i2 i3 i4 : Int32) (cs : Int32) (fm : Value) (h0 : Heap) (n0 : Nat) (Z0 : n0 ≤ h0.size) (hEL : EW Z a0 own_EL) (own_wS : ∀ a ∈ Bundle.stringAtoms, a.before a0 Z = true) (SS : own_ST Z h0 cs fm) (hcs : ¬ (cs = (0 : Int32))) (hfm : fm.isRef = true) (hk8 : (i0 &&& (7 : Int32)) = (5 : Int32)) :
    own_MS l Z own_EL x code maxLocals ret tables_1 room_1 #[(.int i0), (.int i1), (.int i2), (.int i3), (.int i4)] h0 n0 (fun v h => v = some (.int 1) ∧ True) := by
  refine own_MS.of (plainFor_of_name (by first | (simp [plainName, overriddenIn]; done) | decide +kernel)) ?_
  intro p e s m below meth c S0 vm0 k0 hx hby hml hown hnm hret hlk hZ hS hk HC A00
  have H : own_H p c _ := ⟨hx, hby⟩
  have A0 := A00.cast (f' := mkF m 0 #[.val (.int i0), .val (.int i1), .val (.int i2), .val (.int i3), .val (.int i4), .unset, .unset, .unset, .unset, .unset, .unset, .unset, .unset, .unset, .unset] []) (by first | (simp [entryFrame, mkF, argsToLocals, Value.category, maxLocals]; done) | rfl)
  have A1 := A0.iN H dm0_0 rfl rfl |>.bp H dm0_1 rfl 7 rfl |>.nd H dm0_3 rfl _ rfl
  rw [hk8] at A1
  have A3 := A1.iS H dm0_4 rfl #[.val (.int i0), .val (.int i1), .val (.int i2), .val (.int i3), .val (.int i4), .val (.int 5), .unset, .unset, .unset, .unset, .unset, .unset, .unset, .unset, .unset] rfl |>.iL H dm0_6 rfl rfl |>.ic H dm0_8 rfl 4 rfl |>.cy H dm0_9 rfl rfl 17 (by decide) (by decide) |>.bp H dm0_17 rfl 19 rfl |>.iL H dm0_19 rfl rfl |>.ad H dm0_21 rfl 24 rfl |>.iS H dm0_22 rfl #[.val (.int i0), .val (.int i1), .val (.int i2), .val (.int i3), .val (.int i4), .val (.int 5), .val (.int 24), .unset, .unset, .unset, .unset, .unset, .unset, .unset, .unset] rfl |>.iL H dm0_24 rfl rfl
  obtain ⟨vA2, hA2, ⟨x1, rfl, KA2, zz_x1, P_V_x1⟩, A2⟩ := A3.cS (own_c134 l Z a0 hw h0 n0 Z0) H hZ hown dm0_26 (oW hw 0 rfl) (kS44 hw) hml rfl rfl [] rfl rfl
  have g_x1 : n0 ≤ x1 := Nat.le_trans Z0 zz_x1
  have hsA : ∀ x ∈ ([] : List Addr), Safe Z own_EL vm0 h0 x := all0
  have HC := HC.trans (CHr.keep KA2 hsA HC.1)
  have hk := Nat.le_trans hk KA2.1
  have SS := SS.kp KA2 all0
  have Z0 := Nat.le_trans Z0 KA2.1
  have V_x1 : own_Ar Z hA2 x1 .char [(.int 0), (.int 0), (.int 0), (.int 0), (.int 0), (.int 0), (.int 0), (.int 0), (.int 0), (.int 0), (.int 0), (.int 0), (.int 0), (.int 0), (.int 0), (.int 0), (.int 0), (.int 0), (.int 0), (.int 0), (.int 0), (.int 0), (.int 0), (.int 0)] := P_V_x1
  have A4 := A2.cl |>.aS H dm0_29 rfl rfl #[.val (.int i0), .val (.int i1), .val (.int i2), .val (.int i3), .val (.int i4), .val (.int 5), .val (.int 24), .val (.ref x1), .unset, .unset, .unset, .unset, .unset, .unset, .unset] rfl |>.iN H dm0_31 rfl rfl
  have A5 := A4.ldcI hx hZ hown (hb hby dm0_32) (oW hw 5 rfl)
  have A6 := A5.nd H dm0_34 rfl _ rfl |>.ch H dm0_35 rfl _ rfl
  rw [own_cC (own_and16 i1).1 (own_and16 i1).2] at A6
  obtain ⟨c0, hc0⟩ : ∃ zq_, zq_ = (i1 &&& (65535 : Int32)) := ⟨_, rfl⟩
  rw [← hc0] at A6
  have hc0a : ¬ (c0 < (0 : Int32)) := hc0 ▸ (own_and16 i1).1
  have hc0b : ¬ ((65535 : Int32) < c0) := hc0 ▸ (own_and16 i1).2
  have A7 := A6.iS H dm0_36 rfl #[.val (.int i0), .val (.int i1), .val (.int i2), .val (.int i3), .val (.int i4), .val (.int 5), .val (.int 24), .val (.ref x1), .val (.int c0), .unset, .unset, .unset, .unset, .unset, .unset] rfl |>.iN H dm0_38 rfl rfl
  have A8 := A7.ldcI hx hZ hown (hb hby dm0_39) (oW hw 5 rfl)
  have A9 := A8.nd H dm0_41 rfl _ rfl |>.ch H dm0_42 rfl _ rfl
  rw [own_cC (own_and16 i2).1 (own_and16 i2).2] at A9
  obtain ⟨c1, hc1⟩ : ∃ zq_, zq_ = (i2 &&& (65535 : Int32)) := ⟨_, rfl⟩
  rw [← hc1] at A9
  have hc1a : ¬ (c1 < (0 : Int32)) := hc1 ▸ (own_and16 i2).1
  have hc1b : ¬ ((65535 : Int32) < c1) := hc1 ▸ (own_and16 i2).2
  have A10 := A9.iS H dm0_43 rfl #[.val (.int i0), .val (.int i1), .val (.int i2), .val (.int i3), .val (.int i4), .val (.int 5), .val (.int 24), .val (.ref x1), .val (.int c0), .val (.int c1), .unset, .unset, .unset, .unset, .unset] rfl |>.iN H dm0_45 rfl rfl
  have A11 := A10.ldcI hx hZ hown (hb hby dm0_46) (oW hw 5 rfl)
  have A12 := A11.nd H dm0_48 rfl _ rfl |>.ch H dm0_49 rfl _ rfl
  rw [own_cC (own_and16 i3).1 (own_and16 i3).2] at A12
  obtain ⟨c2, hc2⟩ : ∃ zq_, zq_ = (i3 &&& (65535 : Int32)) := ⟨_, rfl⟩
  rw [← hc2] at A12
  have hc2a : ¬ (c2 < (0 : Int32)) := hc2 ▸ (own_and16 i3).1
  have hc2b : ¬ ((65535 : Int32) < c2) := hc2 ▸ (own_and16 i3).2
  have A13 := A12.iS H dm0_50 rfl #[.val (.int i0), .val (.int i1), .val (.int i2), .val (.int i3), .val (.int i4), .val (.int 5), .val (.int 24), .val (.ref x1), .val (.int c0), .val (.int c1), .val (.int c2), .unset, .unset, .unset, .unset] rfl |>.iL H dm0_52 rfl rfl
  have A14 := A13.ldcI hx hZ hown (hb hby dm0_54) (oW hw 5 rfl)
  have A15 := A14.nd H dm0_56 rfl _ rfl |>.ch H dm0_57 rfl _ rfl
  rw [own_cC (own_and16 i4).1 (own_and16 i4).2] at A15
  obtain ⟨c3, hc3⟩ : ∃ zq_, zq_ = (i4 &&& (65535 : Int32)) := ⟨_, rfl⟩
  rw [← hc3] at A15
  have hc3a : ¬ (c3 < (0 : Int32)) := hc3 ▸ (own_and16 i4).1
  have hc3b : ¬ ((65535 : Int32) < c3) := hc3 ▸ (own_and16 i4).2
  have SX_x1 : Safe Z own_EL _ hA2 x1 := own_Ar.safe hZ.alike V_x1 (by decide)
  have A19 := A15.iS H dm0_58 rfl #[.val (.int i0), .val (.int i1), .val (.int i2), .val (.int i3), .val (.int i4), .val (.int 5), .val (.int 24), .val (.ref x1), .val (.int c0), .val (.int c1), .val (.int c2), .val (.int c3), .unset, .unset, .unset] rfl |>.iL H dm0_60 rfl rfl |>.ic H dm0_62 rfl 1 rfl |>.cn H dm0_63 rfl rfl |>.aL H dm0_66 rfl rfl rfl |>.ic H dm0_68 rfl 0 rfl |>.iL H dm0_69 rfl rfl
  obtain ⟨h16, W17, A18⟩ := A19.stC hx hZ (hb hby dm0_71) V_x1 (by decide) (by simp +decide) g_x1
  have SS := SS.wr W17
  have V_x1 : own_Ar Z h16 x1 .char [(.int (nar .char c0)), (.int 0), (.int 0), (.int 0), (.int 0), (.int 0), (.int 0), (.int 0), (.int 0), (.int 0), (.int 0), (.int 0), (.int 0), (.int 0), (.int 0), (.int 0), (.int 0), (.int 0), (.int 0), (.int 0), (.int 0), (.int 0), (.int 0), (.int 0)] := V_x1.same W17
  have Z0 : n0 ≤ h16.size := by rw [W17.size]; exact Z0
  have hk := (by rw [W17.size]; exact hk : _ ≤ h16.size)
  have HC := HC.trans (CHr.wr W17 SX_x1 HC.1)
  rw [show nar .char c0 = c0 from own_cC hc0a hc0b] at V_x1
  have V_x1 : own_Ar Z h16 x1 .char [(.int c0), (.int 0), (.int 0), (.int 0), (.int 0), (.int 0), (.int 0), (.int 0), (.int 0), (.int 0), (.int 0), (.int 0), (.int 0), (.int 0), (.int 0), (.int 0), (.int 0), (.int 0), (.int 0), (.int 0), (.int 0), (.int 0), (.int 0), (.int 0)] := V_x1
  have SX_x1 : Safe Z own_EL _ h16 x1 := own_Ar.safe hZ.alike V_x1 (by decide)
  have A23 := A18.iL H dm0_72 rfl rfl |>.ic H dm0_74 rfl 2 rfl |>.cn H dm0_75 rfl rfl |>.aL H dm0_78 rfl rfl rfl |>.ic H dm0_80 rfl 1 rfl |>.iL H dm0_81 rfl rfl
  obtain ⟨h20, W21, A22⟩ := A23.stC hx hZ (hb hby dm0_83) V_x1 (by decide) (by simp +decide) g_x1
  have SS := SS.wr W21
  have V_x1 : own_Ar Z h20 x1 .char [(.int c0), (.int (nar .char c1)), (.int 0), (.int 0), (.int 0), (.int 0), (.int 0), (.int 0), (.int 0), (.int 0), (.int 0), (.int 0), (.int 0), (.int 0), (.int 0), (.int 0), (.int 0), (.int 0), (.int 0), (.int 0), (.int 0), (.int 0), (.int 0), (.int 0)] := V_x1.same W21
  have Z0 : n0 ≤ h20.size := by rw [W21.size]; exact Z0
  have hk := (by rw [W21.size]; exact hk : _ ≤ h20.size)
  have HC := HC.trans (CHr.wr W21 SX_x1 HC.1)
  rw [show nar .char c1 = c1 from own_cC hc1a hc1b] at V_x1
  have V_x1 : own_Ar Z h20 x1 .char [(.int c0), (.int c1), (.int 0), (.int 0), (.int 0), (.int 0), (.int 0), (.int 0), (.int 0), (.int 0), (.int 0), (.int 0), (.int 0), (.int 0), (.int 0), (.int 0), (.int 0), (.int 0), (.int 0), (.int 0), (.int 0), (.int 0), (.int 0), (.int 0)] := V_x1
  have SX_x1 : Safe Z own_EL _ h20 x1 := own_Ar.safe hZ.alike V_x1 (by decide)
  have A27 := A22.iL H dm0_84 rfl rfl |>.ic H dm0_86 rfl 3 rfl |>.cn H dm0_87 rfl rfl |>.aL H dm0_90 rfl rfl rfl |>.iL H dm0_92 rfl rfl |>.ic H dm0_94 rfl 1 rfl |>.sb H dm0_95 rfl 23 rfl |>.iL H dm0_96 rfl rfl
  obtain ⟨h24, W25, A26⟩ := A27.stC hx hZ (hb hby dm0_98) V_x1 (by decide) (by simp +decide) g_x1
  have SS := SS.wr W25
  have V_x1 : own_Ar Z h24 x1 .char [(.int c0), (.int c1), (.int 0), (.int 0), (.int 0), (.int 0), (.int 0), (.int 0), (.int 0), (.int 0), (.int 0), (.int 0), (.int 0), (.int 0), (.int 0), (.int 0), (.int 0), (.int 0), (.int 0), (.int 0), (.int 0), (.int 0), (.int 0), (.int (nar .char c2))] := V_x1.same W25
  have Z0 : n0 ≤ h24.size := by rw [W25.size]; exact Z0
  have hk := (by rw [W25.size]; exact hk : _ ≤ h24.size)
  have HC := HC.trans (CHr.wr W25 SX_x1 HC.1)
  rw [show nar .char c2 = c2 from own_cC hc2a hc2b] at V_x1
  have V_x1 : own_Ar Z h24 x1 .char [(.int c0), (.int c1), (.int 0), (.int 0), (.int 0), (.int 0), (.int 0), (.int 0), (.int 0), (.int 0), (.int 0), (.int 0), (.int 0), (.int 0), (.int 0), (.int 0), (.int 0), (.int 0), (.int 0), (.int 0), (.int 0), (.int 0), (.int 0), (.int c2)] := V_x1
  have A31 := A26.iL H dm0_99 rfl rfl |>.bp H dm0_101 rfl 25 rfl |>.cy H dm0_103 rfl rfl 113 (by decide) (by decide)
  obtain ⟨h28, E29, E_x2, D_x2, A30⟩ := A31.newO hx hZ hown (hb hby dm0_113) (oW hw 6 rfl) (oW hw 7 rfl) (oW hw 8 rfl) (by decide) (by decide)
  obtain ⟨x2, gx2⟩ : ∃ z, z = h24.size := ⟨_, rfl⟩
  rw [← gx2] at E_x2 D_x2 A30
  have ne_x1_x2 : x1 ≠ x2 := by rw [gx2]; exact Nat.ne_of_lt V_x1.lt
  have g_x2 : n0 ≤ x2 := by rw [gx2]; exact Z0
  have SS := SS.ext E29
  have V_x1 := V_x1.ext E29
  have Z0 := Nat.le_trans Z0 E29.1
  have HC := HC.trans (CHr.ext E29 HC.1)
  have hk := Nat.le_trans hk E29.1
  have F_x2_value : Fld Z h28 x2 "java/lang/String" "value" "[B" .null := D_x2 (Or.inr (oW hw 21 rfl)) (ty := (.array .byte)) (by decide)
  have F_x2_coder : Fld Z h28 x2 "java/lang/String" "coder" "B" (.int 0) := D_x2 (Or.inr (oW hw 22 rfl)) (ty := .byte) (by decide)
  have SX_x2 : Safe Z own_EL vm0 h28 x2 := own_safeNull hZ.alike E_x2 F_x2_value
  have hch : ∀ z ∈ ([c0, c1, 0, 0, 0, 0, 0, 0, 0, 0, 0, 0, 0, 0, 0, 0, 0, 0, 0, 0, 0, 0, 0, c2] : List Int32), own_b16 z := own_aS (P := own_b16) ⟨hc0a, hc0b⟩ (own_aS (P := own_b16) ⟨hc1a, hc1b⟩ (own_aS (P := own_b16) own_z16 (own_aS (P := own_b16) own_z16 (own_aS (P := own_b16) own_z16 (own_aS (P := own_b16) own_z16 (own_aS (P := own_b16) own_z16 (own_aS (P := own_b16) own_z16 (own_aS (P := own_b16) own_z16 (own_aS (P := own_b16) own_z16 (own_aS (P := own_b16) own_z16 (own_aS (P := own_b16) own_z16 (own_aS (P := own_b16) own_z16 (own_aS (P := own_b16) own_z16 (own_aS (P := own_b16) own_z16 (own_aS (P := own_b16) own_z16 (own_aS (P := own_b16) own_z16 (own_aS (P := own_b16) own_z16 (own_aS (P := own_b16) own_z16 (own_aS (P := own_b16) own_z16 (own_aS (P := own_b16) own_z16 (own_aS (P := own_b16) own_z16 (own_aS (P := own_b16) own_z16 (own_aS (P := own_b16) ⟨hc2a, hc2b⟩ (own_aN))))))))))))))))))))))))
  have A33 := A30.du H dm0_116 rfl rfl |>.aL H dm0_117 rfl rfl rfl
  obtain ⟨vA32, hA32, ⟨x3, k, rfl, KI, zz_x3, PC_, PV_, PB_, hok⟩, A32⟩ := A33.cI (own_in1 l Z a0 hw x2 x1 24 cs [c0, c1, 0, 0, 0, 0, 0, 0, 0, 0, 0, 0, 0, 0, 0, 0, 0, 0, 0, 0, 0, 0, 0, c2] h28 n0 Z0 E_x2 F_x2_coder F_x2_value g_x2 V_x1 rfl (by show (24 : Nat) < 64; decide) (by show (24 : Nat) ≤ 32; decide) (by show 0 < (24 : Nat); decide) hch SS.1 hcs SS.2.2.1 SS.2.2.2.1 SS.2.2.2.2) H hZ hown dm0_119 (oW hw 9 rfl) (kI46 hw) hml rfl rfl [(.ref x2)] rfl rfl
  have hsA : ∀ x ∈ ([x2] : List Addr), Safe Z own_EL vm0 h28 x := (allS SX_x2 all0)
  have HC := HC.trans (CHr.keep KI hsA HC.1)
  have hk := Nat.le_trans hk KI.1
  have SS := SS.kp KI (allS (P := fun x => ∀ cell : Cell, h28[x]? = some cell → cell.vm.isStatics = false) E_x2.nostat all0)
  have V_x1 := V_x1.keep KI (ninS ne_x1_x2 nin0)
  have E_x2 := E_x2.keep KI
  have Z0 := Nat.le_trans Z0 KI.1
  have F_x2_coder : Fld Z hA32 x2 "java/lang/String" "coder" "B" (.int k) := PC_
  have F_x2_value : Fld Z hA32 x2 "java/lang/String" "value" "[B" (.ref x3) := PV_
  have V_x3 : own_Ar Z hA32 x3 .byte (own_by k [c0, c1, 0, 0, 0, 0, 0, 0, 0, 0, 0, 0, 0, 0, 0, 0, 0, 0, 0, 0, 0, 0, 0, c2]) := PB_
  have A35 := A32.c0
  obtain ⟨vA34, vmA34, kA34, hA34, ⟨x4, x5, rfl, KA34, zz_x4, zz_x5, ne_x5_x4, P_E_x4, P_F_x4_value, P_F_x4_coder, P_V_x5, hl_x5⟩, hS, hk, hZ, hown, HCs, hgA34, hwA34, A34⟩ := A35.callSS (own_q24 l Z a0 hw x2 x3 k c0 c1 (0 : Int32) (0 : Int32) (0 : Int32) (0 : Int32) (0 : Int32) (0 : Int32) (0 : Int32) (0 : Int32) (0 : Int32) (0 : Int32) (0 : Int32) (0 : Int32) (0 : Int32) (0 : Int32) (0 : Int32) (0 : Int32) (0 : Int32) (0 : Int32) (0 : Int32) (0 : Int32) (0 : Int32) c2 cs fm hA32 n0 Z0 hEL own_wS E_x2 F_x2_coder F_x2_value V_x3 SS hcs hfm hok (by show (24 : Nat) < 64; decide)) hx hZ hown (hb hby dm0_122) (oW hw 27 rfl) (oW hw 28 rfl) (oW hw 29 rfl) (oW hw 30 rfl) hS hk hEL (CHr.refl HC.1) ⟨by decide, by decide⟩ (lenOf pd__28Ljava_2flang_2fString_3b_29Ljava_2flang_2fString_3b rfl) (argsL := [(.ref x2)]) (rest := []) rfl rfl (by rw [hml]; rfl) (W := 0) (Nat.le_of_eq rfl) (by decide) (by decide) (by decide) (by decide)
  have HC := HC.trans HCs
  have SS := SS.kp KA34 all0
  have V_x1 := V_x1.keep KA34 nin0
  have Z0 := Nat.le_trans Z0 KA34.1
  have E_x4 : Exa Z hA34 x4 "java/lang/String" := P_E_x4
  have F_x4_value : Fld Z hA34 x4 "java/lang/String" "value" "[B" (.ref x5) := P_F_x4_value
  have F_x4_coder : Fld Z hA34 x4 "java/lang/String" "coder" "B" (.int 0) := P_F_x4_coder
  have V_x5 : own_Ar Z hA34 x5 .byte (List.map own_lo [39, (own_sh c0), (own_sh c1), (own_sh 0), (own_sh 0), (own_sh 0), (own_sh 0), (own_sh 0), (own_sh 0), (own_sh 0), (own_sh 0), (own_sh 0), (own_sh 0), (own_sh 0), (own_sh 0), (own_sh 0), (own_sh 0), (own_sh 0), (own_sh 0), (own_sh 0), (own_sh 0), (own_sh 0), (own_sh 0), (own_sh 0), (own_sh c2), 39]) := P_V_x5
  have VR : own_Ar Z hA34 x5 .byte (own_by (0 : Int32) [39, (own_sh c0), (own_sh c1), (own_sh 0), (own_sh 0), (own_sh 0), (own_sh 0), (own_sh 0), (own_sh 0), (own_sh 0), (own_sh 0), (own_sh 0), (own_sh 0), (own_sh 0), (own_sh 0), (own_sh 0), (own_sh 0), (own_sh 0), (own_sh 0), (own_sh 0), (own_sh 0), (own_sh 0), (own_sh 0), (own_sh 0), (own_sh c2), 39]) := by rw [own_by, if_pos rfl]; exact V_x5
  have hokR : own_ok (0 : Int32) [39, (own_sh c0), (own_sh c1), (own_sh 0), (own_sh 0), (own_sh 0), (own_sh 0), (own_sh 0), (own_sh 0), (own_sh 0), (own_sh 0), (own_sh 0), (own_sh 0), (own_sh 0), (own_sh 0), (own_sh 0), (own_sh 0), (own_sh 0), (own_sh 0), (own_sh 0), (own_sh 0), (own_sh 0), (own_sh 0), (own_sh 0), (own_sh c2), 39] := Or.inl ⟨rfl, own_aS (P := own_b8) ⟨by decide, by decide⟩ (own_aS (P := own_b8) own_s8 (own_aS (P := own_b8) own_s8 (own_aS (P := own_b8) own_s8 (own_aS (P := own_b8) own_s8 (own_aS (P := own_b8) own_s8 (own_aS (P := own_b8) own_s8 (own_aS (P := own_b8) own_s8 (own_aS (P := own_b8) own_s8 (own_aS (P := own_b8) own_s8 (own_aS (P := own_b8) own_s8 (own_aS (P := own_b8) own_s8 (own_aS (P := own_b8) own_s8 (own_aS (P := own_b8) own_s8 (own_aS (P := own_b8) own_s8 (own_aS (P := own_b8) own_s8 (own_aS (P := own_b8) own_s8 (own_aS (P := own_b8) own_s8 (own_aS (P := own_b8) own_s8 (own_aS (P := own_b8) own_s8 (own_aS (P := own_b8) own_s8 (own_aS (P := own_b8) own_s8 (own_aS (P := own_b8) own_s8 (own_aS (P := own_b8) own_s8 (own_aS (P := own_b8) own_s8 (own_aS (P := own_b8) ⟨by decide, by decide⟩ (own_aN))))))))))))))))))))))))))⟩
  have A37 := A34.cl |>.aS H dm0_125 rfl rfl #[.val (.int i0), .val (.int i1), .val (.int i2), .val (.int i3), .val (.int i4), .val (.int 5), .val (.int 24), .val (.ref x1), .val (.int c0), .val (.int c1), .val (.int c2), .val (.int c3), .val (.ref x4), .unset, .unset] rfl |>.iL H dm0_127 rfl rfl |>.bp H dm0_129 rfl 24 rfl
  obtain ⟨vA36, hA36, ⟨rfl, rfl⟩, A36⟩ := A37.cS (own_c104 l Z a0 hw hA34 n0 Z0) H hZ hown dm0_131 (oW hw 164 rfl) (kS26 hw) hml rfl rfl [] rfl rfl
  have A39 := A36.cl |>.iS H dm0_134 rfl #[.val (.int i0), .val (.int i1), .val (.int i2), .val (.int i3), .val (.int i4), .val (.int 5), .val (.int 24), .val (.ref x1), .val (.int c0), .val (.int c1), .val (.int c2), .val (.int c3), .val (.ref x4), .val (.int 24), .unset] rfl |>.iL H dm0_136 rfl rfl |>.ic H dm0_138 rfl 2 rfl |>.ad H dm0_139 rfl 26 rfl |>.iL H dm0_140 rfl rfl |>.bp H dm0_142 rfl 24 rfl |>.cy H dm0_144 rfl rfl 151 (by decide) (by decide) |>.ic H dm0_151 rfl 0 rfl |>.ad H dm0_152 rfl 26 rfl |>.iS H dm0_153 rfl #[.val (.int i0), .val (.int i1), .val (.int i2), .val (.int i3), .val (.int i4), .val (.int 5), .val (.int 24), .val (.ref x1), .val (.int c0), .val (.int c1), .val (.int c2), .val (.int c3), .val (.ref x4), .val (.int 24), .val (.int 26)] rfl |>.aL H dm0_155 rfl rfl rfl
  obtain ⟨vA38, hA38, ⟨rfl, rfl⟩, A38⟩ := A39.cV (own_len l Z a0 hw x4 x5 cs 0 26 _ hA34 n0 Z0 SS.1 hcs E_x4 F_x4_coder F_x4_value VR hokR (by show (26 : Nat) < 64; decide) rfl) E_x4 H hZ hown dm0_157 (oW hw 165 rfl) (kV17 hw) hml rfl rfl [] rfl rfl
  have q40 : ((26 : Int32) = (26 : Int32)) := rfl
  have A42 := A38.cl |>.iL H dm0_160 rfl rfl |>.cy H dm0_162 rfl ((teq q40).1) 167 (by decide) (by decide) |>.aL H dm0_167 rfl rfl rfl |>.ic H dm0_169 rfl 0 rfl
  obtain ⟨vA41, hA41, ⟨rfl, rfl⟩, A41⟩ := A42.cV (own_ch l Z a0 hw x4 x5 cs 0 0 39 _ fm hA34 n0 Z0 SS.1 hcs E_x4 F_x4_coder F_x4_value VR hokR (by show (26 : Nat) < 64; decide) hfm SS.2.1 SS.2.2.1 SS.2.2.2.1 SS.2.2.2.2 (by decide) rfl) E_x4 H hZ hown dm0_170 (oW hw 166 rfl) (kV38 hw) hml rfl rfl [] rfl rfl
  have q43 : ((39 : Int32) = (39 : Int32)) := rfl
  have A45 := A41.cl |>.bp H dm0_173 rfl 39 rfl |>.cn H dm0_175 rfl ((teq q43).2) |>.aL H dm0_178 rfl rfl rfl |>.iL H dm0_180 rfl rfl |>.ic H dm0_182 rfl 1 rfl |>.sb H dm0_183 rfl 25 rfl
  obtain ⟨vA44, hA44, ⟨rfl, rfl⟩, A44⟩ := A45.cV (own_ch l Z a0 hw x4 x5 cs 0 25 39 _ fm hA34 n0 Z0 SS.1 hcs E_x4 F_x4_coder F_x4_value VR hokR (by show (26 : Nat) < 64; decide) hfm SS.2.1 SS.2.2.1 SS.2.2.2.1 SS.2.2.2.2 (by decide) rfl) E_x4 H hZ hown dm0_184 (oW hw 166 rfl) (kV38 hw) hml rfl rfl [] rfl rfl
  have A47 := A44.cl |>.bp H dm0_187 rfl 39 rfl |>.cy H dm0_189 rfl ((teq q43).1) 194 (by decide) (by decide) |>.iL H dm0_194 rfl rfl |>.bp H dm0_196 rfl 24 rfl |>.cy H dm0_198 rfl rfl 245 (by decide) (by decide) |>.aL H dm0_245 rfl rfl rfl |>.aL H dm0_247 rfl rfl rfl |>.ic H dm0_249 rfl 0 rfl |>.iL H dm0_250 rfl rfl
  obtain ⟨vA46, hA46, ⟨rfl, rfl⟩, A46⟩ := A47.cS (own_atY l Z a0 hw x4 x5 x1 cs 0 24 c0 _ _ fm hA34 n0 Z0 (by decide) SS.1 hcs E_x4 F_x4_coder F_x4_value VR hokR (by show (26 : Nat) < 64; decide) hfm SS.2.1 SS.2.2.1 SS.2.2.2.1 SS.2.2.2.2 V_x1 (by decide) (by decide) rfl rfl hc0a hc0b) H hZ hown dm0_252 (oW hw 187 rfl) (kS45 hw) hml rfl rfl [] rfl rfl
  have A49 := A46.cl |>.fn H dm0_255 rfl rfl |>.aL H dm0_258 rfl rfl rfl |>.aL H dm0_260 rfl rfl rfl |>.ic H dm0_262 rfl 1 rfl |>.iL H dm0_263 rfl rfl
  obtain ⟨vA48, hA48, ⟨rfl, rfl⟩, A48⟩ := A49.cS (own_atY l Z a0 hw x4 x5 x1 cs 1 24 c1 _ _ fm hA34 n0 Z0 (by decide) SS.1 hcs E_x4 F_x4_coder F_x4_value VR hokR (by show (26 : Nat) < 64; decide) hfm SS.2.1 SS.2.2.1 SS.2.2.2.1 SS.2.2.2.2 V_x1 (by decide) (by decide) rfl rfl hc1a hc1b) H hZ hown dm0_265 (oW hw 187 rfl) (kS45 hw) hml rfl rfl [] rfl rfl
  have A51 := A48.cl |>.fn H dm0_268 rfl rfl |>.aL H dm0_271 rfl rfl rfl |>.aL H dm0_273 rfl rfl rfl |>.ic H dm0_275 rfl 2 rfl |>.iL H dm0_276 rfl rfl
  obtain ⟨vA50, hA50, ⟨rfl, rfl⟩, A50⟩ := A51.cS (own_atY l Z a0 hw x4 x5 x1 cs 2 24 0 _ _ fm hA34 n0 Z0 (by decide) SS.1 hcs E_x4 F_x4_coder F_x4_value VR hokR (by show (26 : Nat) < 64; decide) hfm SS.2.1 SS.2.2.1 SS.2.2.2.1 SS.2.2.2.2 V_x1 (by decide) (by decide) rfl rfl (by decide) (by decide)) H hZ hown dm0_278 (oW hw 187 rfl) (kS45 hw) hml rfl rfl [] rfl rfl
  have A53 := A50.cl |>.fn H dm0_281 rfl rfl |>.aL H dm0_284 rfl rfl rfl |>.aL H dm0_286 rfl rfl rfl |>.bp H dm0_288 rfl 12 rfl |>.iL H dm0_290 rfl rfl
  obtain ⟨vA52, hA52, ⟨rfl, rfl⟩, A52⟩ := A53.cS (own_atY l Z a0 hw x4 x5 x1 cs 12 24 0 _ _ fm hA34 n0 Z0 (by decide) SS.1 hcs E_x4 F_x4_coder F_x4_value VR hokR (by show (26 : Nat) < 64; decide) hfm SS.2.1 SS.2.2.1 SS.2.2.2.1 SS.2.2.2.2 V_x1 (by decide) (by decide) rfl rfl (by decide) (by decide)) H hZ hown dm0_292 (oW hw 187 rfl) (kS45 hw) hml rfl rfl [] rfl rfl
  have A55 := A52.cl |>.fn H dm0_295 rfl rfl |>.aL H dm0_298 rfl rfl rfl |>.aL H dm0_300 rfl rfl rfl |>.bp H dm0_302 rfl 22 rfl |>.iL H dm0_304 rfl rfl
  obtain ⟨vA54, hA54, ⟨rfl, rfl⟩, A54⟩ := A55.cS (own_atY l Z a0 hw x4 x5 x1 cs 22 24 0 _ _ fm hA34 n0 Z0 (by decide) SS.1 hcs E_x4 F_x4_coder F_x4_value VR hokR (by show (26 : Nat) < 64; decide) hfm SS.2.1 SS.2.2.1 SS.2.2.2.1 SS.2.2.2.2 V_x1 (by decide) (by decide) rfl rfl (by decide) (by decide)) H hZ hown dm0_306 (oW hw 187 rfl) (kS45 hw) hml rfl rfl [] rfl rfl
  have A57 := A54.cl |>.fn H dm0_309 rfl rfl |>.aL H dm0_312 rfl rfl rfl |>.aL H dm0_314 rfl rfl rfl |>.bp H dm0_316 rfl 23 rfl |>.iL H dm0_318 rfl rfl
  obtain ⟨vA56, hA56, ⟨rfl, rfl⟩, A56⟩ := A57.cS (own_atY l Z a0 hw x4 x5 x1 cs 23 24 c2 _ _ fm hA34 n0 Z0 (by decide) SS.1 hcs E_x4 F_x4_coder F_x4_value VR hokR (by show (26 : Nat) < 64; decide) hfm SS.2.1 SS.2.2.1 SS.2.2.2.1 SS.2.2.2.2 V_x1 (by decide) (by decide) rfl rfl hc2a hc2b) H hZ hown dm0_320 (oW hw 187 rfl) (kS45 hw) hml rfl rfl [] rfl rfl
  have A58 := A56.cl |>.fn H dm0_323 rfl rfl |>.ic H dm0_326 rfl 1 rfl |>.gt H dm0_327 rfl 331 (by decide) (by decide)
  exact A58.retSS hx hlk hZ hS hk hEL HC hret (hb hby dm0_331) rfl (Or.inl ⟨rfl, by simp, _, rfl⟩) (by decide) (by decide) ⟨rfl, trivial⟩
theorem own_law6 (l : Launch) (Z : State) (a0 : Array Value) (hw : ∀ d ∈ tables_1, d.before a0 Z = true) (i0 i1 i2 i3 i4 : Int32) (cs : Int32) (fm : Value) (h0 : Heap) (n0 : Nat) (Z0 : n0 ≤ h0.size) (hEL : EW Z a0 own_EL) (own_wS : ∀ a ∈ Bundle.stringAtoms, a.before a0 Z = true) (SS : own_ST Z h0 cs fm) (hcs : ¬ (cs = (0 : Int32))) (hfm : fm.isRef = true) (hk8 : (i0 &&& (7 : Int32)) = (6 : Int32)) :
    own_MS l Z own_EL x code maxLocals ret tables_1 room_1 #[(.int i0), (.int i1), (.int i2), (.int i3), (.int i4)] h0 n0 (fun v h => v = some (.int 1) ∧ True) := by
  refine own_MS.of (plainFor_of_name (by first | (simp [plainName, overriddenIn]; done) | decide +kernel)) ?_
  intro p e s m below meth c S0 vm0 k0 hx hby hml hown hnm hret hlk hZ hS hk HC A00
  have H : own_H p c _ := ⟨hx, hby⟩
  have A0 := A00.cast (f' := mkF m 0 #[.val (.int i0), .val (.int i1), .val (.int i2), .val (.int i3), .val (.int i4), .unset, .unset, .unset, .unset, .unset, .unset, .unset, .unset, .unset, .unset] []) (by first | (simp [entryFrame, mkF, argsToLocals, Value.category, maxLocals]; done) | rfl)
  have A1 := A0.iN H dm0_0 rfl rfl |>.bp H dm0_1 rfl 7 rfl |>.nd H dm0_3 rfl _ rfl
  rw [hk8] at A1
  have A3 := A1.iS H dm0_4 rfl #[.val (.int i0), .val (.int i1), .val (.int i2), .val (.int i3), .val (.int i4), .val (.int 6), .unset, .unset, .unset, .unset, .unset, .unset, .unset, .unset, .unset] rfl |>.iL H dm0_6 rfl rfl |>.ic H dm0_8 rfl 4 rfl |>.cy H dm0_9 rfl rfl 17 (by decide) (by decide) |>.bp H dm0_17 rfl 19 rfl |>.iL H dm0_19 rfl rfl |>.ad H dm0_21 rfl 25 rfl |>.iS H dm0_22 rfl #[.val (.int i0), .val (.int i1), .val (.int i2), .val (.int i3), .val (.int i4), .val (.int 6), .val (.int 25), .unset, .unset, .unset, .unset, .unset, .unset, .unset, .unset] rfl |>.iL H dm0_24 rfl rfl
  obtain ⟨vA2, hA2, ⟨x1, rfl, KA2, zz_x1, P_V_x1⟩, A2⟩ := A3.cS (own_c136 l Z a0 hw h0 n0 Z0) H hZ hown dm0_26 (oW hw 0 rfl) (kS44 hw) hml rfl rfl [] rfl rfl
  have g_x1 : n0 ≤ x1 := Nat.le_trans Z0 zz_x1
  have hsA : ∀ x ∈ ([] : List Addr), Safe Z own_EL vm0 h0 x := all0
  have HC := HC.trans (CHr.keep KA2 hsA HC.1)
  have hk := Nat.le_trans hk KA2.1
  have SS := SS.kp KA2 all0
  have Z0 := Nat.le_trans Z0 KA2.1
  have V_x1 : own_Ar Z hA2 x1 .char [(.int 0), (.int 0), (.int 0), (.int 0), (.int 0), (.int 0), (.int 0), (.int 0), (.int 0), (.int 0), (.int 0), (.int 0), (.int 0), (.int 0), (.int 0), (.int 0), (.int 0), (.int 0), (.int 0), (.int 0), (.int 0), (.int 0), (.int 0), (.int 0), (.int 0)] := P_V_x1
  have A4 := A2.cl |>.aS H dm0_29 rfl rfl #[.val (.int i0), .val (.int i1), .val (.int i2), .val (.int i3), .val (.int i4), .val (.int 6), .val (.int 25), .val (.ref x1), .unset, .unset, .unset, .unset, .unset, .unset, .unset] rfl |>.iN H dm0_31 rfl rfl
  have A5 := A4.ldcI hx hZ hown (hb hby dm0_32) (oW hw 5 rfl)
  have A6 := A5.nd H dm0_34 rfl _ rfl |>.ch H dm0_35 rfl _ rfl
  rw [own_cC (own_and16 i1).1 (own_and16 i1).2] at A6
  obtain ⟨c0, hc0⟩ : ∃ zq_, zq_ = (i1 &&& (65535 : Int32)) := ⟨_, rfl⟩
  rw [← hc0] at A6
  have hc0a : ¬ (c0 < (0 : Int32)) := hc0 ▸ (own_and16 i1).1
  have hc0b : ¬ ((65535 : Int32) < c0) := hc0 ▸ (own_and16 i1).2
  have A7 := A6.iS H dm0_36 rfl #[.val (.int i0), .val (.int i1), .val (.int i2), .val (.int i3), .val (.int i4), .val (.int 6), .val (.int 25), .val (.ref x1), .val (.int c0), .unset, .unset, .unset, .unset, .unset, .unset] rfl |>.iN H dm0_38 rfl rfl
  have A8 := A7.ldcI hx hZ hown (hb hby dm0_39) (oW hw 5 rfl)
  have A9 := A8.nd H dm0_41 rfl _ rfl |>.ch H dm0_42 rfl _ rfl
  rw [own_cC (own_and16 i2).1 (own_and16 i2).2] at A9
  obtain ⟨c1, hc1⟩ : ∃ zq_, zq_ = (i2 &&& (65535 : Int32)) := ⟨_, rfl⟩
  rw [← hc1] at A9
  have hc1a : ¬ (c1 < (0 : Int32)) := hc1 ▸ (own_and16 i2).1
  have hc1b : ¬ ((65535 : Int32) < c1) := hc1 ▸ (own_and16 i2).2
  have A10 := A9.iS H dm0_43 rfl #[.val (.int i0), .val (.int i1), .val (.int i2), .val (.int i3), .val (.int i4), .val (.int 6), .val (.int 25), .val (.ref x1), .val (.int c0), .val (.int c1), .unset, .unset, .unset, .unset, .unset] rfl |>.iN H dm0_45 rfl rfl
  have A11 := A10.ldcI hx hZ hown (hb hby dm0_46) (oW hw 5 rfl)
  have A12 := A11.nd H dm0_48 rfl _ rfl |>.ch H dm0_49 rfl _ rfl
  rw [own_cC (own_and16 i3).1 (own_and16 i3).2] at A12
  obtain ⟨c2, hc2⟩ : ∃ zq_, zq_ = (i3 &&& (65535 : Int32)) := ⟨_, rfl⟩
  rw [← hc2] at A12
  have hc2a : ¬ (c2 < (0 : Int32)) := hc2 ▸ (own_and16 i3).1
  have hc2b : ¬ ((65535 : Int32) < c2) := hc2 ▸ (own_and16 i3).2
  have A13 := A12.iS H dm0_50 rfl #[.val (.int i0), .val (.int i1), .val (.int i2), .val (.int i3), .val (.int i4), .val (.int 6), .val (.int 25), .val (.ref x1), .val (.int c0), .val (.int c1), .val (.int c2), .unset, .unset, .unset, .unset] rfl |>.iL H dm0_52 rfl rfl
  have A14 := A13.ldcI hx hZ hown (hb hby dm0_54) (oW hw 5 rfl)
  have A15 := A14.nd H dm0_56 rfl _ rfl |>.ch H dm0_57 rfl _ rfl
  rw [own_cC (own_and16 i4).1 (own_and16 i4).2] at A15
  obtain ⟨c3, hc3⟩ : ∃ zq_, zq_ = (i4 &&& (65535 : Int32)) := ⟨_, rfl⟩
  rw [← hc3] at A15
  have hc3a : ¬ (c3 < (0 : Int32)) := hc3 ▸ (own_and16 i4).1
  have hc3b : ¬ ((65535 : Int32) < c3) := hc3 ▸ (own_and16 i4).2
  have SX_x1 : Safe Z own_EL _ hA2 x1 := own_Ar.safe hZ.alike V_x1 (by decide)
  have A19 := A15.iS H dm0_58 rfl #[.val (.int i0), .val (.int i1), .val (.int i2), .val (.int i3), .val (.int i4), .val (.int 6), .val (.int 25), .val (.ref x1), .val (.int c0), .val (.int c1), .val (.int c2), .val (.int c3), .unset, .unset, .unset] rfl |>.iL H dm0_60 rfl rfl |>.ic H dm0_62 rfl 1 rfl |>.cn H dm0_63 rfl rfl |>.aL H dm0_66 rfl rfl rfl |>.ic H dm0_68 rfl 0 rfl |>.iL H dm0_69 rfl rfl
  obtain ⟨h16, W17, A18⟩ := A19.stC hx hZ (hb hby dm0_71) V_x1 (by decide) (by simp +decide) g_x1
  have SS := SS.wr W17
  have V_x1 : own_Ar Z h16 x1 .char [(.int (nar .char c0)), (.int 0), (.int 0), (.int 0), (.int 0), (.int 0), (.int 0), (.int 0), (.int 0), (.int 0), (.int 0), (.int 0), (.int 0), (.int 0), (.int 0), (.int 0), (.int 0), (.int 0), (.int 0), (.int 0), (.int 0), (.int 0), (.int 0), (.int 0), (.int 0)] := V_x1.same W17
  have Z0 : n0 ≤ h16.size := by rw [W17.size]; exact Z0
  have hk := (by rw [W17.size]; exact hk : _ ≤ h16.size)
  have HC := HC.trans (CHr.wr W17 SX_x1 HC.1)
  rw [show nar .char c0 = c0 from own_cC hc0a hc0b] at V_x1
  have V_x1 : own_Ar Z h16 x1 .char [(.int c0), (.int 0), (.int 0), (.int 0), (.int 0), (.int 0), (.int 0), (.int 0), (.int 0), (.int 0), (.int 0), (.int 0), (.int 0), (.int 0), (.int 0), (.int 0), (.int 0), (.int 0), (.int 0), (.int 0), (.int 0), (.int 0), (.int 0), (.int 0), (.int 0)] := V_x1
  have SX_x1 : Safe Z own_EL _ h16 x1 := own_Ar.safe hZ.alike V_x1 (by decide)
  have A23 := A18.iL H dm0_72 rfl rfl |>.ic H dm0_74 rfl 2 rfl |>.cn H dm0_75 rfl rfl |>.aL H dm0_78 rfl rfl rfl |>.ic H dm0_80 rfl 1 rfl |>.iL H dm0_81 rfl rfl
  obtain ⟨h20, W21, A22⟩ := A23.stC hx hZ (hb hby dm0_83) V_x1 (by decide) (by simp +decide) g_x1
  have SS := SS.wr W21
  have V_x1 : own_Ar Z h20 x1 .char [(.int c0), (.int (nar .char c1)), (.int 0), (.int 0), (.int 0), (.int 0), (.int 0), (.int 0), (.int 0), (.int 0), (.int 0), (.int 0), (.int 0), (.int 0), (.int 0), (.int 0), (.int 0), (.int 0), (.int 0), (.int 0), (.int 0), (.int 0), (.int 0), (.int 0), (.int 0)] := V_x1.same W21
  have Z0 : n0 ≤ h20.size := by rw [W21.size]; exact Z0
  have hk := (by rw [W21.size]; exact hk : _ ≤ h20.size)
  have HC := HC.trans (CHr.wr W21 SX_x1 HC.1)
  rw [show nar .char c1 = c1 from own_cC hc1a hc1b] at V_x1
  have V_x1 : own_Ar Z h20 x1 .char [(.int c0), (.int c1), (.int 0), (.int 0), (.int 0), (.int 0), (.int 0), (.int 0), (.int 0), (.int 0), (.int 0), (.int 0), (.int 0), (.int 0), (.int 0), (.int 0), (.int 0), (.int 0), (.int 0), (.int 0), (.int 0), (.int 0), (.int 0), (.int 0), (.int 0)] := V_x1
  have SX_x1 : Safe Z own_EL _ h20 x1 := own_Ar.safe hZ.alike V_x1 (by decide)
  have A27 := A22.iL H dm0_84 rfl rfl |>.ic H dm0_86 rfl 3 rfl |>.cn H dm0_87 rfl rfl |>.aL H dm0_90 rfl rfl rfl |>.iL H dm0_92 rfl rfl |>.ic H dm0_94 rfl 1 rfl |>.sb H dm0_95 rfl 24 rfl |>.iL H dm0_96 rfl rfl
  obtain ⟨h24, W25, A26⟩ := A27.stC hx hZ (hb hby dm0_98) V_x1 (by decide) (by simp +decide) g_x1
  have SS := SS.wr W25
  have V_x1 : own_Ar Z h24 x1 .char [(.int c0), (.int c1), (.int 0), (.int 0), (.int 0), (.int 0), (.int 0), (.int 0), (.int 0), (.int 0), (.int 0), (.int 0), (.int 0), (.int 0), (.int 0), (.int 0), (.int 0), (.int 0), (.int 0), (.int 0), (.int 0), (.int 0), (.int 0), (.int 0), (.int (nar .char c2))] := V_x1.same W25
  have Z0 : n0 ≤ h24.size := by rw [W25.size]; exact Z0
  have hk := (by rw [W25.size]; exact hk : _ ≤ h24.size)
  have HC := HC.trans (CHr.wr W25 SX_x1 HC.1)
  rw [show nar .char c2 = c2 from own_cC hc2a hc2b] at V_x1
  have V_x1 : own_Ar Z h24 x1 .char [(.int c0), (.int c1), (.int 0), (.int 0), (.int 0), (.int 0), (.int 0), (.int 0), (.int 0), (.int 0), (.int 0), (.int 0), (.int 0), (.int 0), (.int 0), (.int 0), (.int 0), (.int 0), (.int 0), (.int 0), (.int 0), (.int 0), (.int 0), (.int 0), (.int c2)] := V_x1
  have SX_x1 : Safe Z own_EL _ h24 x1 := own_Ar.safe hZ.alike V_x1 (by decide)
  have A31 := A26.iL H dm0_99 rfl rfl |>.bp H dm0_101 rfl 25 rfl |>.cn H dm0_103 rfl rfl |>.aL H dm0_106 rfl rfl rfl |>.bp H dm0_108 rfl 23 rfl |>.iL H dm0_110 rfl rfl
  obtain ⟨h28, W29, A30⟩ := A31.stC hx hZ (hb hby dm0_112) V_x1 (by decide) (by simp +decide) g_x1
  have SS := SS.wr W29
  have V_x1 : own_Ar Z h28 x1 .char [(.int c0), (.int c1), (.int 0), (.int 0), (.int 0), (.int 0), (.int 0), (.int 0), (.int 0), (.int 0), (.int 0), (.int 0), (.int 0), (.int 0), (.int 0), (.int 0), (.int 0), (.int 0), (.int 0), (.int 0), (.int 0), (.int 0), (.int 0), (.int (nar .char c3)), (.int c2)] := V_x1.same W29
  have Z0 : n0 ≤ h28.size := by rw [W29.size]; exact Z0
  have hk := (by rw [W29.size]; exact hk : _ ≤ h28.size)
  have HC := HC.trans (CHr.wr W29 SX_x1 HC.1)
  rw [show nar .char c3 = c3 from own_cC hc3a hc3b] at V_x1
  have V_x1 : own_Ar Z h28 x1 .char [(.int c0), (.int c1), (.int 0), (.int 0), (.int 0), (.int 0), (.int 0), (.int 0), (.int 0), (.int 0), (.int 0), (.int 0), (.int 0), (.int 0), (.int 0), (.int 0), (.int 0), (.int 0), (.int 0), (.int 0), (.int 0), (.int 0), (.int 0), (.int c3), (.int c2)] := V_x1
  obtain ⟨h32, E33, E_x2, D_x2, A34⟩ := A30.newO hx hZ hown (hb hby dm0_113) (oW hw 6 rfl) (oW hw 7 rfl) (oW hw 8 rfl) (by decide) (by decide)
  obtain ⟨x2, gx2⟩ : ∃ z, z = h28.size := ⟨_, rfl⟩
  rw [← gx2] at E_x2 D_x2 A34
  have ne_x1_x2 : x1 ≠ x2 := by rw [gx2]; exact Nat.ne_of_lt V_x1.lt
  have g_x2 : n0 ≤ x2 := by rw [gx2]; exact Z0
  have SS := SS.ext E33
  have V_x1 := V_x1.ext E33
  have Z0 := Nat.le_trans Z0 E33.1
  have HC := HC.trans (CHr.ext E33 HC.1)
  have hk := Nat.le_trans hk E33.1
  have F_x2_value : Fld Z h32 x2 "java/lang/String" "value" "[B" .null := D_x2 (Or.inr (oW hw 21 rfl)) (ty := (.array .byte)) (by decide)
  have F_x2_coder : Fld Z h32 x2 "java/lang/String" "coder" "B" (.int 0) := D_x2 (Or.inr (oW hw 22 rfl)) (ty := .byte) (by decide)
  have SX_x2 : Safe Z own_EL vm0 h32 x2 := own_safeNull hZ.alike E_x2 F_x2_value
  have hch : ∀ z ∈ ([c0, c1, 0, 0, 0, 0, 0, 0, 0, 0, 0, 0, 0, 0, 0, 0, 0, 0, 0, 0, 0, 0, 0, c3, c2] : List Int32), own_b16 z := own_aS (P := own_b16) ⟨hc0a, hc0b⟩ (own_aS (P := own_b16) ⟨hc1a, hc1b⟩ (own_aS (P := own_b16) own_z16 (own_aS (P := own_b16) own_z16 (own_aS (P := own_b16) own_z16 (own_aS (P := own_b16) own_z16 (own_aS (P := own_b16) own_z16 (own_aS (P := own_b16) own_z16 (own_aS (P := own_b16) own_z16 (own_aS (P := own_b16) own_z16 (own_aS (P := own_b16) own_z16 (own_aS (P := own_b16) own_z16 (own_aS (P := own_b16) own_z16 (own_aS (P := own_b16) own_z16 (own_aS (P := own_b16) own_z16 (own_aS (P := own_b16) own_z16 (own_aS (P := own_b16) own_z16 (own_aS (P := own_b16) own_z16 (own_aS (P := own_b16) own_z16 (own_aS (P := own_b16) own_z16 (own_aS (P := own_b16) own_z16 (own_aS (P := own_b16) own_z16 (own_aS (P := own_b16) own_z16 (own_aS (P := own_b16) ⟨hc3a, hc3b⟩ (own_aS (P := own_b16) ⟨hc2a, hc2b⟩ (own_aN)))))))))))))))))))))))))
  have A36 := A34.du H dm0_116 rfl rfl |>.aL H dm0_117 rfl rfl rfl
  obtain ⟨vA35, hA35, ⟨x3, k, rfl, KI, zz_x3, PC_, PV_, PB_, hok⟩, A35⟩ := A36.cI (own_in1 l Z a0 hw x2 x1 25 cs [c0, c1, 0, 0, 0, 0, 0, 0, 0, 0, 0, 0, 0, 0, 0, 0, 0, 0, 0, 0, 0, 0, 0, c3, c2] h32 n0 Z0 E_x2 F_x2_coder F_x2_value g_x2 V_x1 rfl (by show (25 : Nat) < 64; decide) (by show (25 : Nat) ≤ 32; decide) (by show 0 < (25 : Nat); decide) hch SS.1 hcs SS.2.2.1 SS.2.2.2.1 SS.2.2.2.2) H hZ hown dm0_119 (oW hw 9 rfl) (kI46 hw) hml rfl rfl [(.ref x2)] rfl rfl
  have hsA : ∀ x ∈ ([x2] : List Addr), Safe Z own_EL vm0 h32 x := (allS SX_x2 all0)
  have HC := HC.trans (CHr.keep KI hsA HC.1)
  have hk := Nat.le_trans hk KI.1
  have SS := SS.kp KI (allS (P := fun x => ∀ cell : Cell, h32[x]? = some cell → cell.vm.isStatics = false) E_x2.nostat all0)
  have V_x1 := V_x1.keep KI (ninS ne_x1_x2 nin0)
  have E_x2 := E_x2.keep KI
  have Z0 := Nat.le_trans Z0 KI.1
  have F_x2_coder : Fld Z hA35 x2 "java/lang/String" "coder" "B" (.int k) := PC_
  have F_x2_value : Fld Z hA35 x2 "java/lang/String" "value" "[B" (.ref x3) := PV_
  have V_x3 : own_Ar Z hA35 x3 .byte (own_by k [c0, c1, 0, 0, 0, 0, 0, 0, 0, 0, 0, 0, 0, 0, 0, 0, 0, 0, 0, 0, 0, 0, 0, c3, c2]) := PB_
  have A38 := A35.c0
  obtain ⟨vA37, vmA37, kA37, hA37, ⟨x4, x5, rfl, KA37, zz_x4, zz_x5, ne_x5_x4, P_E_x4, P_F_x4_value, P_F_x4_coder, P_V_x5, hl_x5⟩, hS, hk, hZ, hown, HCs, hgA37, hwA37, A37⟩ := A38.callSS (own_q25 l Z a0 hw x2 x3 k c0 c1 (0 : Int32) (0 : Int32) (0 : Int32) (0 : Int32) (0 : Int32) (0 : Int32) (0 : Int32) (0 : Int32) (0 : Int32) (0 : Int32) (0 : Int32) (0 : Int32) (0 : Int32) (0 : Int32) (0 : Int32) (0 : Int32) (0 : Int32) (0 : Int32) (0 : Int32) (0 : Int32) (0 : Int32) c3 c2 cs fm hA35 n0 Z0 hEL own_wS E_x2 F_x2_coder F_x2_value V_x3 SS hcs hfm hok (by show (25 : Nat) < 64; decide)) hx hZ hown (hb hby dm0_122) (oW hw 27 rfl) (oW hw 28 rfl) (oW hw 29 rfl) (oW hw 30 rfl) hS hk hEL (CHr.refl HC.1) ⟨by decide, by decide⟩ (lenOf pd__28Ljava_2flang_2fString_3b_29Ljava_2flang_2fString_3b rfl) (argsL := [(.ref x2)]) (rest := []) rfl rfl (by rw [hml]; rfl) (W := 0) (Nat.le_of_eq rfl) (by decide) (by decide) (by decide) (by decide)
  have HC := HC.trans HCs
  have SS := SS.kp KA37 all0
  have V_x1 := V_x1.keep KA37 nin0
  have Z0 := Nat.le_trans Z0 KA37.1
  have E_x4 : Exa Z hA37 x4 "java/lang/String" := P_E_x4
  have F_x4_value : Fld Z hA37 x4 "java/lang/String" "value" "[B" (.ref x5) := P_F_x4_value
  have F_x4_coder : Fld Z hA37 x4 "java/lang/String" "coder" "B" (.int 0) := P_F_x4_coder
  have V_x5 : own_Ar Z hA37 x5 .byte (List.map own_lo [39, (own_sh c0), (own_sh c1), (own_sh 0), (own_sh 0), (own_sh 0), (own_sh 0), (own_sh 0), (own_sh 0), (own_sh 0), (own_sh 0), (own_sh 0), (own_sh 0), (own_sh 0), (own_sh 0), (own_sh 0), (own_sh 0), (own_sh 0), (own_sh 0), (own_sh 0), (own_sh 0), (own_sh 0), (own_sh 0), (own_sh 0), (own_sh c3), 46, 46, 46, 39]) := P_V_x5
  have VR : own_Ar Z hA37 x5 .byte (own_by (0 : Int32) [39, (own_sh c0), (own_sh c1), (own_sh 0), (own_sh 0), (own_sh 0), (own_sh 0), (own_sh 0), (own_sh 0), (own_sh 0), (own_sh 0), (own_sh 0), (own_sh 0), (own_sh 0), (own_sh 0), (own_sh 0), (own_sh 0), (own_sh 0), (own_sh 0), (own_sh 0), (own_sh 0), (own_sh 0), (own_sh 0), (own_sh 0), (own_sh c3), 46, 46, 46, 39]) := by rw [own_by, if_pos rfl]; exact V_x5
  have hokR : own_ok (0 : Int32) [39, (own_sh c0), (own_sh c1), (own_sh 0), (own_sh 0), (own_sh 0), (own_sh 0), (own_sh 0), (own_sh 0), (own_sh 0), (own_sh 0), (own_sh 0), (own_sh 0), (own_sh 0), (own_sh 0), (own_sh 0), (own_sh 0), (own_sh 0), (own_sh 0), (own_sh 0), (own_sh 0), (own_sh 0), (own_sh 0), (own_sh 0), (own_sh c3), 46, 46, 46, 39] := Or.inl ⟨rfl, own_aS (P := own_b8) ⟨by decide, by decide⟩ (own_aS (P := own_b8) own_s8 (own_aS (P := own_b8) own_s8 (own_aS (P := own_b8) own_s8 (own_aS (P := own_b8) own_s8 (own_aS (P := own_b8) own_s8 (own_aS (P := own_b8) own_s8 (own_aS (P := own_b8) own_s8 (own_aS (P := own_b8) own_s8 (own_aS (P := own_b8) own_s8 (own_aS (P := own_b8) own_s8 (own_aS (P := own_b8) own_s8 (own_aS (P := own_b8) own_s8 (own_aS (P := own_b8) own_s8 (own_aS (P := own_b8) own_s8 (own_aS (P := own_b8) own_s8 (own_aS (P := own_b8) own_s8 (own_aS (P := own_b8) own_s8 (own_aS (P := own_b8) own_s8 (own_aS (P := own_b8) own_s8 (own_aS (P := own_b8) own_s8 (own_aS (P := own_b8) own_s8 (own_aS (P := own_b8) own_s8 (own_aS (P := own_b8) own_s8 (own_aS (P := own_b8) own_s8 (own_aS (P := own_b8) ⟨by decide, by decide⟩ (own_aS (P := own_b8) ⟨by decide, by decide⟩ (own_aS (P := own_b8) ⟨by decide, by decide⟩ (own_aS (P := own_b8) ⟨by decide, by decide⟩ (own_aN)))))))))))))))))))))))))))))⟩
  have A40 := A37.cl |>.aS H dm0_125 rfl rfl #[.val (.int i0), .val (.int i1), .val (.int i2), .val (.int i3), .val (.int i4), .val (.int 6), .val (.int 25), .val (.ref x1), .val (.int c0), .val (.int c1), .val (.int c2), .val (.int c3), .val (.ref x4), .unset, .unset] rfl |>.iL H dm0_127 rfl rfl |>.bp H dm0_129 rfl 24 rfl
  obtain ⟨vA39, hA39, ⟨rfl, rfl⟩, A39⟩ := A40.cS (own_c106 l Z a0 hw hA37 n0 Z0) H hZ hown dm0_131 (oW hw 164 rfl) (kS26 hw) hml rfl rfl [] rfl rfl
  have A41 := A39.cl |>.iS H dm0_134 rfl #[.val (.int i0), .val (.int i1), .val (.int i2), .val (.int i3), .val (.int i4), .val (.int 6), .val (.int 25), .val (.ref x1), .val (.int c0), .val (.int c1), .val (.int c2), .val (.int c3), .val (.ref x4), .val (.int 24), .unset] rfl |>.iL H dm0_136 rfl rfl |>.ic H dm0_138 rfl 2 rfl |>.ad H dm0_139 rfl 26 rfl |>.iL H dm0_140 rfl rfl |>.bp H dm0_142 rfl 24 rfl |>.cn H dm0_144 rfl rfl |>.ic H dm0_147 rfl 3 rfl |>.gt H dm0_148 rfl 152 (by decide) (by decide) |>.ad H dm0_152 rfl 29 rfl |>.iS H dm0_153 rfl #[.val (.int i0), .val (.int i1), .val (.int i2), .val (.int i3), .val (.int i4), .val (.int 6), .val (.int 25), .val (.ref x1), .val (.int c0), .val (.int c1), .val (.int c2), .val (.int c3), .val (.ref x4), .val (.int 24), .val (.int 29)] rfl
  have A43 := A41.aL H dm0_155 rfl rfl rfl
  obtain ⟨vA42, hA42, ⟨rfl, rfl⟩, A42⟩ := A43.cV (own_len l Z a0 hw x4 x5 cs 0 29 _ hA37 n0 Z0 SS.1 hcs E_x4 F_x4_coder F_x4_value VR hokR (by show (29 : Nat) < 64; decide) rfl) E_x4 H hZ hown dm0_157 (oW hw 165 rfl) (kV17 hw) hml rfl rfl [] rfl rfl
  have q44 : ((29 : Int32) = (29 : Int32)) := rfl
  have A46 := A42.cl |>.iL H dm0_160 rfl rfl |>.cy H dm0_162 rfl ((teq q44).1) 167 (by decide) (by decide) |>.aL H dm0_167 rfl rfl rfl |>.ic H dm0_169 rfl 0 rfl
  obtain ⟨vA45, hA45, ⟨rfl, rfl⟩, A45⟩ := A46.cV (own_ch l Z a0 hw x4 x5 cs 0 0 39 _ fm hA37 n0 Z0 SS.1 hcs E_x4 F_x4_coder F_x4_value VR hokR (by show (29 : Nat) < 64; decide) hfm SS.2.1 SS.2.2.1 SS.2.2.2.1 SS.2.2.2.2 (by decide) rfl) E_x4 H hZ hown dm0_170 (oW hw 166 rfl) (kV38 hw) hml rfl rfl [] rfl rfl
  have q47 : ((39 : Int32) = (39 : Int32)) := rfl
  have A49 := A45.cl |>.bp H dm0_173 rfl 39 rfl |>.cn H dm0_175 rfl ((teq q47).2) |>.aL H dm0_178 rfl rfl rfl |>.iL H dm0_180 rfl rfl |>.ic H dm0_182 rfl 1 rfl |>.sb H dm0_183 rfl 28 rfl
  obtain ⟨vA48, hA48, ⟨rfl, rfl⟩, A48⟩ := A49.cV (own_ch l Z a0 hw x4 x5 cs 0 28 39 _ fm hA37 n0 Z0 SS.1 hcs E_x4 F_x4_coder F_x4_value VR hokR (by show (29 : Nat) < 64; decide) hfm SS.2.1 SS.2.2.1 SS.2.2.2.1 SS.2.2.2.2 (by decide) rfl) E_x4 H hZ hown dm0_184 (oW hw 166 rfl) (kV38 hw) hml rfl rfl [] rfl rfl
  have A51 := A48.cl |>.bp H dm0_187 rfl 39 rfl |>.cy H dm0_189 rfl ((teq q47).1) 194 (by decide) (by decide) |>.iL H dm0_194 rfl rfl |>.bp H dm0_196 rfl 24 rfl |>.cn H dm0_198 rfl rfl |>.aL H dm0_201 rfl rfl rfl |>.iL H dm0_203 rfl rfl |>.ic H dm0_205 rfl 1 rfl |>.ad H dm0_206 rfl 25 rfl
  obtain ⟨vA50, hA50, ⟨rfl, rfl⟩, A50⟩ := A51.cV (own_ch l Z a0 hw x4 x5 cs 0 25 46 _ fm hA37 n0 Z0 SS.1 hcs E_x4 F_x4_coder F_x4_value VR hokR (by show (29 : Nat) < 64; decide) hfm SS.2.1 SS.2.2.1 SS.2.2.2.1 SS.2.2.2.2 (by decide) rfl) E_x4 H hZ hown dm0_207 (oW hw 166 rfl) (kV38 hw) hml rfl rfl [] rfl rfl
  have q52 : ((46 : Int32) = (46 : Int32)) := rfl
  have A54 := A50.cl |>.bp H dm0_210 rfl 46 rfl |>.cn H dm0_212 rfl ((teq q52).2) |>.aL H dm0_215 rfl rfl rfl |>.iL H dm0_217 rfl rfl |>.ic H dm0_219 rfl 2 rfl |>.ad H dm0_220 rfl 26 rfl
  obtain ⟨vA53, hA53, ⟨rfl, rfl⟩, A53⟩ := A54.cV (own_ch l Z a0 hw x4 x5 cs 0 26 46 _ fm hA37 n0 Z0 SS.1 hcs E_x4 F_x4_coder F_x4_value VR hokR (by show (29 : Nat) < 64; decide) hfm SS.2.1 SS.2.2.1 SS.2.2.2.1 SS.2.2.2.2 (by decide) rfl) E_x4 H hZ hown dm0_221 (oW hw 166 rfl) (kV38 hw) hml rfl rfl [] rfl rfl
  have A56 := A53.cl |>.bp H dm0_224 rfl 46 rfl |>.cn H dm0_226 rfl ((teq q52).2) |>.aL H dm0_229 rfl rfl rfl |>.iL H dm0_231 rfl rfl |>.ic H dm0_233 rfl 3 rfl |>.ad H dm0_234 rfl 27 rfl
  obtain ⟨vA55, hA55, ⟨rfl, rfl⟩, A55⟩ := A56.cV (own_ch l Z a0 hw x4 x5 cs 0 27 46 _ fm hA37 n0 Z0 SS.1 hcs E_x4 F_x4_coder F_x4_value VR hokR (by show (29 : Nat) < 64; decide) hfm SS.2.1 SS.2.2.1 SS.2.2.2.1 SS.2.2.2.2 (by decide) rfl) E_x4 H hZ hown dm0_235 (oW hw 166 rfl) (kV38 hw) hml rfl rfl [] rfl rfl
  have A58 := A55.cl |>.bp H dm0_238 rfl 46 rfl |>.cy H dm0_240 rfl ((teq q52).1) 245 (by decide) (by decide) |>.aL H dm0_245 rfl rfl rfl |>.aL H dm0_247 rfl rfl rfl |>.ic H dm0_249 rfl 0 rfl |>.iL H dm0_250 rfl rfl
  obtain ⟨vA57, hA57, ⟨rfl, rfl⟩, A57⟩ := A58.cS (own_atY l Z a0 hw x4 x5 x1 cs 0 24 c0 _ _ fm hA37 n0 Z0 (by decide) SS.1 hcs E_x4 F_x4_coder F_x4_value VR hokR (by show (29 : Nat) < 64; decide) hfm SS.2.1 SS.2.2.1 SS.2.2.2.1 SS.2.2.2.2 V_x1 (by decide) (by decide) rfl rfl hc0a hc0b) H hZ hown dm0_252 (oW hw 187 rfl) (kS45 hw) hml rfl rfl [] rfl rfl
  have A60 := A57.cl |>.fn H dm0_255 rfl rfl |>.aL H dm0_258 rfl rfl rfl |>.aL H dm0_260 rfl rfl rfl |>.ic H dm0_262 rfl 1 rfl |>.iL H dm0_263 rfl rfl
  obtain ⟨vA59, hA59, ⟨rfl, rfl⟩, A59⟩ := A60.cS (own_atY l Z a0 hw x4 x5 x1 cs 1 24 c1 _ _ fm hA37 n0 Z0 (by decide) SS.1 hcs E_x4 F_x4_coder F_x4_value VR hokR (by show (29 : Nat) < 64; decide) hfm SS.2.1 SS.2.2.1 SS.2.2.2.1 SS.2.2.2.2 V_x1 (by decide) (by decide) rfl rfl hc1a hc1b) H hZ hown dm0_265 (oW hw 187 rfl) (kS45 hw) hml rfl rfl [] rfl rfl
  have A62 := A59.cl |>.fn H dm0_268 rfl rfl |>.aL H dm0_271 rfl rfl rfl |>.aL H dm0_273 rfl rfl rfl |>.ic H dm0_275 rfl 2 rfl |>.iL H dm0_276 rfl rfl
  obtain ⟨vA61, hA61, ⟨rfl, rfl⟩, A61⟩ := A62.cS (own_atY l Z a0 hw x4 x5 x1 cs 2 24 0 _ _ fm hA37 n0 Z0 (by decide) SS.1 hcs E_x4 F_x4_coder F_x4_value VR hokR (by show (29 : Nat) < 64; decide) hfm SS.2.1 SS.2.2.1 SS.2.2.2.1 SS.2.2.2.2 V_x1 (by decide) (by decide) rfl rfl (by decide) (by decide)) H hZ hown dm0_278 (oW hw 187 rfl) (kS45 hw) hml rfl rfl [] rfl rfl
  have A64 := A61.cl |>.fn H dm0_281 rfl rfl |>.aL H dm0_284 rfl rfl rfl |>.aL H dm0_286 rfl rfl rfl |>.bp H dm0_288 rfl 12 rfl |>.iL H dm0_290 rfl rfl
  obtain ⟨vA63, hA63, ⟨rfl, rfl⟩, A63⟩ := A64.cS (own_atY l Z a0 hw x4 x5 x1 cs 12 24 0 _ _ fm hA37 n0 Z0 (by decide) SS.1 hcs E_x4 F_x4_coder F_x4_value VR hokR (by show (29 : Nat) < 64; decide) hfm SS.2.1 SS.2.2.1 SS.2.2.2.1 SS.2.2.2.2 V_x1 (by decide) (by decide) rfl rfl (by decide) (by decide)) H hZ hown dm0_292 (oW hw 187 rfl) (kS45 hw) hml rfl rfl [] rfl rfl
  have A66 := A63.cl |>.fn H dm0_295 rfl rfl |>.aL H dm0_298 rfl rfl rfl |>.aL H dm0_300 rfl rfl rfl |>.bp H dm0_302 rfl 22 rfl |>.iL H dm0_304 rfl rfl
  obtain ⟨vA65, hA65, ⟨rfl, rfl⟩, A65⟩ := A66.cS (own_atY l Z a0 hw x4 x5 x1 cs 22 24 0 _ _ fm hA37 n0 Z0 (by decide) SS.1 hcs E_x4 F_x4_coder F_x4_value VR hokR (by show (29 : Nat) < 64; decide) hfm SS.2.1 SS.2.2.1 SS.2.2.2.1 SS.2.2.2.2 V_x1 (by decide) (by decide) rfl rfl (by decide) (by decide)) H hZ hown dm0_306 (oW hw 187 rfl) (kS45 hw) hml rfl rfl [] rfl rfl
  have A68 := A65.cl |>.fn H dm0_309 rfl rfl |>.aL H dm0_312 rfl rfl rfl |>.aL H dm0_314 rfl rfl rfl |>.bp H dm0_316 rfl 23 rfl |>.iL H dm0_318 rfl rfl
  obtain ⟨vA67, hA67, ⟨rfl, rfl⟩, A67⟩ := A68.cS (own_atY l Z a0 hw x4 x5 x1 cs 23 24 c3 _ _ fm hA37 n0 Z0 (by decide) SS.1 hcs E_x4 F_x4_coder F_x4_value VR hokR (by show (29 : Nat) < 64; decide) hfm SS.2.1 SS.2.2.1 SS.2.2.2.1 SS.2.2.2.2 V_x1 (by decide) (by decide) rfl rfl hc3a hc3b) H hZ hown dm0_320 (oW hw 187 rfl) (kS45 hw) hml rfl rfl [] rfl rfl
  have A69 := A67.cl |>.fn H dm0_323 rfl rfl |>.ic H dm0_326 rfl 1 rfl |>.gt H dm0_327 rfl 331 (by decide) (by decide)
  exact A69.retSS hx hlk hZ hS hk hEL HC hret (hb hby dm0_331) rfl (Or.inl ⟨rfl, by simp, _, rfl⟩) (by decide) (by decide) ⟨rfl, trivial⟩
theorem own_law7 (l : Launch) (Z : State) (a0 : Array Value) (hw : ∀ d ∈ tables_1, d.before a0 Z = true) (i0 i1 i2 i3 i4 : Int32) (cs : Int32) (fm : Value) (h0 : Heap) (n0 : Nat) (Z0 : n0 ≤ h0.size) (hEL : EW Z a0 own_EL) (own_wS : ∀ a ∈ Bundle.stringAtoms, a.before a0 Z = true) (SS : own_ST Z h0 cs fm) (hcs : ¬ (cs = (0 : Int32))) (hfm : fm.isRef = true) (hk8 : (i0 &&& (7 : Int32)) = (7 : Int32)) :
    own_MS l Z own_EL x code maxLocals ret tables_1 room_1 #[(.int i0), (.int i1), (.int i2), (.int i3), (.int i4)] h0 n0 (fun v h => v = some (.int 1) ∧ True) := by
  refine own_MS.of (plainFor_of_name (by first | (simp [plainName, overriddenIn]; done) | decide +kernel)) ?_
  intro p e s m below meth c S0 vm0 k0 hx hby hml hown hnm hret hlk hZ hS hk HC A00
  have H : own_H p c _ := ⟨hx, hby⟩
  have A0 := A00.cast (f' := mkF m 0 #[.val (.int i0), .val (.int i1), .val (.int i2), .val (.int i3), .val (.int i4), .unset, .unset, .unset, .unset, .unset, .unset, .unset, .unset, .unset, .unset] []) (by first | (simp [entryFrame, mkF, argsToLocals, Value.category, maxLocals]; done) | rfl)
  have A1 := A0.iN H dm0_0 rfl rfl |>.bp H dm0_1 rfl 7 rfl |>.nd H dm0_3 rfl _ rfl
  rw [hk8] at A1
  have A3 := A1.iS H dm0_4 rfl #[.val (.int i0), .val (.int i1), .val (.int i2), .val (.int i3), .val (.int i4), .val (.int 7), .unset, .unset, .unset, .unset, .unset, .unset, .unset, .unset, .unset] rfl |>.iL H dm0_6 rfl rfl |>.ic H dm0_8 rfl 4 rfl |>.cy H dm0_9 rfl rfl 17 (by decide) (by decide) |>.bp H dm0_17 rfl 19 rfl |>.iL H dm0_19 rfl rfl |>.ad H dm0_21 rfl 26 rfl |>.iS H dm0_22 rfl #[.val (.int i0), .val (.int i1), .val (.int i2), .val (.int i3), .val (.int i4), .val (.int 7), .val (.int 26), .unset, .unset, .unset, .unset, .unset, .unset, .unset, .unset] rfl |>.iL H dm0_24 rfl rfl
  obtain ⟨vA2, hA2, ⟨x1, rfl, KA2, zz_x1, P_V_x1⟩, A2⟩ := A3.cS (own_c138 l Z a0 hw h0 n0 Z0) H hZ hown dm0_26 (oW hw 0 rfl) (kS44 hw) hml rfl rfl [] rfl rfl
  have g_x1 : n0 ≤ x1 := Nat.le_trans Z0 zz_x1
  have hsA : ∀ x ∈ ([] : List Addr), Safe Z own_EL vm0 h0 x := all0
  have HC := HC.trans (CHr.keep KA2 hsA HC.1)
  have hk := Nat.le_trans hk KA2.1
  have SS := SS.kp KA2 all0
  have Z0 := Nat.le_trans Z0 KA2.1
  have V_x1 : own_Ar Z hA2 x1 .char [(.int 0), (.int 0), (.int 0), (.int 0), (.int 0), (.int 0), (.int 0), (.int 0), (.int 0), (.int 0), (.int 0), (.int 0), (.int 0), (.int 0), (.int 0), (.int 0), (.int 0), (.int 0), (.int 0), (.int 0), (.int 0), (.int 0), (.int 0), (.int 0), (.int 0), (.int 0)] := P_V_x1
  have A4 := A2.cl |>.aS H dm0_29 rfl rfl #[.val (.int i0), .val (.int i1), .val (.int i2), .val (.int i3), .val (.int i4), .val (.int 7), .val (.int 26), .val (.ref x1), .unset, .unset, .unset, .unset, .unset, .unset, .unset] rfl |>.iN H dm0_31 rfl rfl
  have A5 := A4.ldcI hx hZ hown (hb hby dm0_32) (oW hw 5 rfl)
  have A6 := A5.nd H dm0_34 rfl _ rfl |>.ch H dm0_35 rfl _ rfl
  rw [own_cC (own_and16 i1).1 (own_and16 i1).2] at A6
  obtain ⟨c0, hc0⟩ : ∃ zq_, zq_ = (i1 &&& (65535 : Int32)) := ⟨_, rfl⟩
  rw [← hc0] at A6
  have hc0a : ¬ (c0 < (0 : Int32)) := hc0 ▸ (own_and16 i1).1
  have hc0b : ¬ ((65535 : Int32) < c0) := hc0 ▸ (own_and16 i1).2
  have A7 := A6.iS H dm0_36 rfl #[.val (.int i0), .val (.int i1), .val (.int i2), .val (.int i3), .val (.int i4), .val (.int 7), .val (.int 26), .val (.ref x1), .val (.int c0), .unset, .unset, .unset, .unset, .unset, .unset] rfl |>.iN H dm0_38 rfl rfl
  have A8 := A7.ldcI hx hZ hown (hb hby dm0_39) (oW hw 5 rfl)
  have A9 := A8.nd H dm0_41 rfl _ rfl |>.ch H dm0_42 rfl _ rfl
  rw [own_cC (own_and16 i2).1 (own_and16 i2).2] at A9
  obtain ⟨c1, hc1⟩ : ∃ zq_, zq_ = (i2 &&& (65535 : Int32)) := ⟨_, rfl⟩
  rw [← hc1] at A9
  have hc1a : ¬ (c1 < (0 : Int32)) := hc1 ▸ (own_and16 i2).1
  have hc1b : ¬ ((65535 : Int32) < c1) := hc1 ▸ (own_and16 i2).2
  have A10 := A9.iS H dm0_43 rfl #[.val (.int i0), .val (.int i1), .val (.int i2), .val (.int i3), .val (.int i4), .val (.int 7), .val (.int 26), .val (.ref x1), .val (.int c0), .val (.int c1), .unset, .unset, .unset, .unset, .unset] rfl |>.iN H dm0_45 rfl rfl
  have A11 := A10.ldcI hx hZ hown (hb hby dm0_46) (oW hw 5 rfl)
  have A12 := A11.nd H dm0_48 rfl _ rfl |>.ch H dm0_49 rfl _ rfl
  rw [own_cC (own_and16 i3).1 (own_and16 i3).2] at A12
  obtain ⟨c2, hc2⟩ : ∃ zq_, zq_ = (i3 &&& (65535 : Int32)) := ⟨_, rfl⟩
  rw [← hc2] at A12
  have hc2a : ¬ (c2 < (0 : Int32)) := hc2 ▸ (own_and16 i3).1
  have hc2b : ¬ ((65535 : Int32) < c2) := hc2 ▸ (own_and16 i3).2
  have A13 := A12.iS H dm0_50 rfl #[.val (.int i0), .val (.int i1), .val (.int i2), .val (.int i3), .val (.int i4), .val (.int 7), .val (.int 26), .val (.ref x1), .val (.int c0), .val (.int c1), .val (.int c2), .unset, .unset, .unset, .unset] rfl |>.iL H dm0_52 rfl rfl
  have A14 := A13.ldcI hx hZ hown (hb hby dm0_54) (oW hw 5 rfl)
  have A15 := A14.nd H dm0_56 rfl _ rfl |>.ch H dm0_57 rfl _ rfl
  rw [own_cC (own_and16 i4).1 (own_and16 i4).2] at A15
  obtain ⟨c3, hc3⟩ : ∃ zq_, zq_ = (i4 &&& (65535 : Int32)) := ⟨_, rfl⟩
  rw [← hc3] at A15
  have hc3a : ¬ (c3 < (0 : Int32)) := hc3 ▸ (own_and16 i4).1
  have hc3b : ¬ ((65535 : Int32) < c3) := hc3 ▸ (own_and16 i4).2
  have SX_x1 : Safe Z own_EL _ hA2 x1 := own_Ar.safe hZ.alike V_x1 (by decide)
  have A19 := A15.iS H dm0_58 rfl #[.val (.int i0), .val (.int i1), .val (.int i2), .val (.int i3), .val (.int i4), .val (.int 7), .val (.int 26), .val (.ref x1), .val (.int c0), .val (.int c1), .val (.int c2), .val (.int c3), .unset, .unset, .unset] rfl |>.iL H dm0_60 rfl rfl |>.ic H dm0_62 rfl 1 rfl |>.cn H dm0_63 rfl rfl |>.aL H dm0_66 rfl rfl rfl |>.ic H dm0_68 rfl 0 rfl |>.iL H dm0_69 rfl rfl
  obtain ⟨h16, W17, A18⟩ := A19.stC hx hZ (hb hby dm0_71) V_x1 (by decide) (by simp +decide) g_x1
  have SS := SS.wr W17
  have V_x1 : own_Ar Z h16 x1 .char [(.int (nar .char c0)), (.int 0), (.int 0), (.int 0), (.int 0), (.int 0), (.int 0), (.int 0), (.int 0), (.int 0), (.int 0), (.int 0), (.int 0), (.int 0), (.int 0), (.int 0), (.int 0), (.int 0), (.int 0), (.int 0), (.int 0), (.int 0), (.int 0), (.int 0), (.int 0), (.int 0)] := V_x1.same W17
  have Z0 : n0 ≤ h16.size := by rw [W17.size]; exact Z0
  have hk := (by rw [W17.size]; exact hk : _ ≤ h16.size)
  have HC := HC.trans (CHr.wr W17 SX_x1 HC.1)
  rw [show nar .char c0 = c0 from own_cC hc0a hc0b] at V_x1
  have V_x1 : own_Ar Z h16 x1 .char [(.int c0), (.int 0), (.int 0), (.int 0), (.int 0), (.int 0), (.int 0), (.int 0), (.int 0), (.int 0), (.int 0), (.int 0), (.int 0), (.int 0), (.int 0), (.int 0), (.int 0), (.int 0), (.int 0), (.int 0), (.int 0), (.int 0), (.int 0), (.int 0), (.int 0), (.int 0)] := V_x1
  have SX_x1 : Safe Z own_EL _ h16 x1 := own_Ar.safe hZ.alike V_x1 (by decide)
  have A23 := A18.iL H dm0_72 rfl rfl |>.ic H dm0_74 rfl 2 rfl |>.cn H dm0_75 rfl rfl |>.aL H dm0_78 rfl rfl rfl |>.ic H dm0_80 rfl 1 rfl |>.iL H dm0_81 rfl rfl
  obtain ⟨h20, W21, A22⟩ := A23.stC hx hZ (hb hby dm0_83) V_x1 (by decide) (by simp +decide) g_x1
  have SS := SS.wr W21
  have V_x1 : own_Ar Z h20 x1 .char [(.int c0), (.int (nar .char c1)), (.int 0), (.int 0), (.int 0), (.int 0), (.int 0), (.int 0), (.int 0), (.int 0), (.int 0), (.int 0), (.int 0), (.int 0), (.int 0), (.int 0), (.int 0), (.int 0), (.int 0), (.int 0), (.int 0), (.int 0), (.int 0), (.int 0), (.int 0), (.int 0)] := V_x1.same W21
  have Z0 : n0 ≤ h20.size := by rw [W21.size]; exact Z0
  have hk := (by rw [W21.size]; exact hk : _ ≤ h20.size)
  have HC := HC.trans (CHr.wr W21 SX_x1 HC.1)
  rw [show nar .char c1 = c1 from own_cC hc1a hc1b] at V_x1
  have V_x1 : own_Ar Z h20 x1 .char [(.int c0), (.int c1), (.int 0), (.int 0), (.int 0), (.int 0), (.int 0), (.int 0), (.int 0), (.int 0), (.int 0), (.int 0), (.int 0), (.int 0), (.int 0), (.int 0), (.int 0), (.int 0), (.int 0), (.int 0), (.int 0), (.int 0), (.int 0), (.int 0), (.int 0), (.int 0)] := V_x1
  have SX_x1 : Safe Z own_EL _ h20 x1 := own_Ar.safe hZ.alike V_x1 (by decide)
  have A27 := A22.iL H dm0_84 rfl rfl |>.ic H dm0_86 rfl 3 rfl |>.cn H dm0_87 rfl rfl |>.aL H dm0_90 rfl rfl rfl |>.iL H dm0_92 rfl rfl |>.ic H dm0_94 rfl 1 rfl |>.sb H dm0_95 rfl 25 rfl |>.iL H dm0_96 rfl rfl
  obtain ⟨h24, W25, A26⟩ := A27.stC hx hZ (hb hby dm0_98) V_x1 (by decide) (by simp +decide) g_x1
  have SS := SS.wr W25
  have V_x1 : own_Ar Z h24 x1 .char [(.int c0), (.int c1), (.int 0), (.int 0), (.int 0), (.int 0), (.int 0), (.int 0), (.int 0), (.int 0), (.int 0), (.int 0), (.int 0), (.int 0), (.int 0), (.int 0), (.int 0), (.int 0), (.int 0), (.int 0), (.int 0), (.int 0), (.int 0), (.int 0), (.int 0), (.int (nar .char c2))] := V_x1.same W25
  have Z0 : n0 ≤ h24.size := by rw [W25.size]; exact Z0
  have hk := (by rw [W25.size]; exact hk : _ ≤ h24.size)
  have HC := HC.trans (CHr.wr W25 SX_x1 HC.1)
  rw [show nar .char c2 = c2 from own_cC hc2a hc2b] at V_x1
  have V_x1 : own_Ar Z h24 x1 .char [(.int c0), (.int c1), (.int 0), (.int 0), (.int 0), (.int 0), (.int 0), (.int 0), (.int 0), (.int 0), (.int 0), (.int 0), (.int 0), (.int 0), (.int 0), (.int 0), (.int 0), (.int 0), (.int 0), (.int 0), (.int 0), (.int 0), (.int 0), (.int 0), (.int 0), (.int c2)] := V_x1
  have SX_x1 : Safe Z own_EL _ h24 x1 := own_Ar.safe hZ.alike V_x1 (by decide)
  have A31 := A26.iL H dm0_99 rfl rfl |>.bp H dm0_101 rfl 25 rfl |>.cn H dm0_103 rfl rfl |>.aL H dm0_106 rfl rfl rfl |>.bp H dm0_108 rfl 23 rfl |>.iL H dm0_110 rfl rfl
  obtain ⟨h28, W29, A30⟩ := A31.stC hx hZ (hb hby dm0_112) V_x1 (by decide) (by simp +decide) g_x1
  have SS := SS.wr W29
  have V_x1 : own_Ar Z h28 x1 .char [(.int c0), (.int c1), (.int 0), (.int 0), (.int 0), (.int 0), (.int 0), (.int 0), (.int 0), (.int 0), (.int 0), (.int 0), (.int 0), (.int 0), (.int 0), (.int 0), (.int 0), (.int 0), (.int 0), (.int 0), (.int 0), (.int 0), (.int 0), (.int (nar .char c3)), (.int 0), (.int c2)] := V_x1.same W29
  have Z0 : n0 ≤ h28.size := by rw [W29.size]; exact Z0
  have hk := (by rw [W29.size]; exact hk : _ ≤ h28.size)
  have HC := HC.trans (CHr.wr W29 SX_x1 HC.1)
  rw [show nar .char c3 = c3 from own_cC hc3a hc3b] at V_x1
  have V_x1 : own_Ar Z h28 x1 .char [(.int c0), (.int c1), (.int 0), (.int 0), (.int 0), (.int 0), (.int 0), (.int 0), (.int 0), (.int 0), (.int 0), (.int 0), (.int 0), (.int 0), (.int 0), (.int 0), (.int 0), (.int 0), (.int 0), (.int 0), (.int 0), (.int 0), (.int 0), (.int c3), (.int 0), (.int c2)] := V_x1
  obtain ⟨h32, E33, E_x2, D_x2, A34⟩ := A30.newO hx hZ hown (hb hby dm0_113) (oW hw 6 rfl) (oW hw 7 rfl) (oW hw 8 rfl) (by decide) (by decide)
  obtain ⟨x2, gx2⟩ : ∃ z, z = h28.size := ⟨_, rfl⟩
  rw [← gx2] at E_x2 D_x2 A34
  have ne_x1_x2 : x1 ≠ x2 := by rw [gx2]; exact Nat.ne_of_lt V_x1.lt
  have g_x2 : n0 ≤ x2 := by rw [gx2]; exact Z0
  have SS := SS.ext E33
  have V_x1 := V_x1.ext E33
  have Z0 := Nat.le_trans Z0 E33.1
  have HC := HC.trans (CHr.ext E33 HC.1)
  have hk := Nat.le_trans hk E33.1
  have F_x2_value : Fld Z h32 x2 "java/lang/String" "value" "[B" .null := D_x2 (Or.inr (oW hw 21 rfl)) (ty := (.array .byte)) (by decide)
  have F_x2_coder : Fld Z h32 x2 "java/lang/String" "coder" "B" (.int 0) := D_x2 (Or.inr (oW hw 22 rfl)) (ty := .byte) (by decide)
  have SX_x2 : Safe Z own_EL vm0 h32 x2 := own_safeNull hZ.alike E_x2 F_x2_value
  have hch : ∀ z ∈ ([c0, c1, 0, 0, 0, 0, 0, 0, 0, 0, 0, 0, 0, 0, 0, 0, 0, 0, 0, 0, 0, 0, 0, c3, 0, c2] : List Int32), own_b16 z := own_aS (P := own_b16) ⟨hc0a, hc0b⟩ (own_aS (P := own_b16) ⟨hc1a, hc1b⟩ (own_aS (P := own_b16) own_z16 (own_aS (P := own_b16) own_z16 (own_aS (P := own_b16) own_z16 (own_aS (P := own_b16) own_z16 (own_aS (P := own_b16) own_z16 (own_aS (P := own_b16) own_z16 (own_aS (P := own_b16) own_z16 (own_aS (P := own_b16) own_z16 (own_aS (P := own_b16) own_z16 (own_aS (P := own_b16) own_z16 (own_aS (P := own_b16) own_z16 (own_aS (P := own_b16) own_z16 (own_aS (P := own_b16) own_z16 (own_aS (P := own_b16) own_z16 (own_aS (P := own_b16) own_z16 (own_aS (P := own_b16) own_z16 (own_aS (P := own_b16) own_z16 (own_aS (P := own_b16) own_z16 (own_aS (P := own_b16) own_z16 (own_aS (P := own_b16) own_z16 (own_aS (P := own_b16) own_z16 (own_aS (P := own_b16) ⟨hc3a, hc3b⟩ (own_aS (P := own_b16) own_z16 (own_aS (P := own_b16) ⟨hc2a, hc2b⟩ (own_aN))))))))))))))))))))))))))
  have A36 := A34.du H dm0_116 rfl rfl |>.aL H dm0_117 rfl rfl rfl
  obtain ⟨vA35, hA35, ⟨x3, k, rfl, KI, zz_x3, PC_, PV_, PB_, hok⟩, A35⟩ := A36.cI (own_in1 l Z a0 hw x2 x1 26 cs [c0, c1, 0, 0, 0, 0, 0, 0, 0, 0, 0, 0, 0, 0, 0, 0, 0, 0, 0, 0, 0, 0, 0, c3, 0, c2] h32 n0 Z0 E_x2 F_x2_coder F_x2_value g_x2 V_x1 rfl (by show (26 : Nat) < 64; decide) (by show (26 : Nat) ≤ 32; decide) (by show 0 < (26 : Nat); decide) hch SS.1 hcs SS.2.2.1 SS.2.2.2.1 SS.2.2.2.2) H hZ hown dm0_119 (oW hw 9 rfl) (kI46 hw) hml rfl rfl [(.ref x2)] rfl rfl
  have hsA : ∀ x ∈ ([x2] : List Addr), Safe Z own_EL vm0 h32 x := (allS SX_x2 all0)
  have HC := HC.trans (CHr.keep KI hsA HC.1)
  have hk := Nat.le_trans hk KI.1
  have SS := SS.kp KI (allS (P := fun x => ∀ cell : Cell, h32[x]? = some cell → cell.vm.isStatics = false) E_x2.nostat all0)
  have V_x1 := V_x1.keep KI (ninS ne_x1_x2 nin0)
  have E_x2 := E_x2.keep KI
  have Z0 := Nat.le_trans Z0 KI.1
  have F_x2_coder : Fld Z hA35 x2 "java/lang/String" "coder" "B" (.int k) := PC_
  have F_x2_value : Fld Z hA35 x2 "java/lang/String" "value" "[B" (.ref x3) := PV_
  have V_x3 : own_Ar Z hA35 x3 .byte (own_by k [c0, c1, 0, 0, 0, 0, 0, 0, 0, 0, 0, 0, 0, 0, 0, 0, 0, 0, 0, 0, 0, 0, 0, c3, 0, c2]) := PB_
  have A38 := A35.c0
  obtain ⟨vA37, vmA37, kA37, hA37, ⟨x4, x5, rfl, KA37, zz_x4, zz_x5, ne_x5_x4, P_E_x4, P_F_x4_value, P_F_x4_coder, P_V_x5, hl_x5⟩, hS, hk, hZ, hown, HCs, hgA37, hwA37, A37⟩ := A38.callSS (own_q26 l Z a0 hw x2 x3 k c0 c1 (0 : Int32) (0 : Int32) (0 : Int32) (0 : Int32) (0 : Int32) (0 : Int32) (0 : Int32) (0 : Int32) (0 : Int32) (0 : Int32) (0 : Int32) (0 : Int32) (0 : Int32) (0 : Int32) (0 : Int32) (0 : Int32) (0 : Int32) (0 : Int32) (0 : Int32) (0 : Int32) (0 : Int32) c3 (0 : Int32) c2 cs fm hA35 n0 Z0 hEL own_wS E_x2 F_x2_coder F_x2_value V_x3 SS hcs hfm hok (by show (26 : Nat) < 64; decide)) hx hZ hown (hb hby dm0_122) (oW hw 27 rfl) (oW hw 28 rfl) (oW hw 29 rfl) (oW hw 30 rfl) hS hk hEL (CHr.refl HC.1) ⟨by decide, by decide⟩ (lenOf pd__28Ljava_2flang_2fString_3b_29Ljava_2flang_2fString_3b rfl) (argsL := [(.ref x2)]) (rest := []) rfl rfl (by rw [hml]; rfl) (W := 0) (Nat.le_of_eq rfl) (by decide) (by decide) (by decide) (by decide)
  have HC := HC.trans HCs
  have SS := SS.kp KA37 all0
  have V_x1 := V_x1.keep KA37 nin0
  have Z0 := Nat.le_trans Z0 KA37.1
  have E_x4 : Exa Z hA37 x4 "java/lang/String" := P_E_x4
  have F_x4_value : Fld Z hA37 x4 "java/lang/String" "value" "[B" (.ref x5) := P_F_x4_value
  have F_x4_coder : Fld Z hA37 x4 "java/lang/String" "coder" "B" (.int 0) := P_F_x4_coder
  have V_x5 : own_Ar Z hA37 x5 .byte (List.map own_lo [39, (own_sh c0), (own_sh c1), (own_sh 0), (own_sh 0), (own_sh 0), (own_sh 0), (own_sh 0), (own_sh 0), (own_sh 0), (own_sh 0), (own_sh 0), (own_sh 0), (own_sh 0), (own_sh 0), (own_sh 0), (own_sh 0), (own_sh 0), (own_sh 0), (own_sh 0), (own_sh 0), (own_sh 0), (own_sh 0), (own_sh 0), (own_sh c3), 46, 46, 46, 39]) := P_V_x5
  have VR : own_Ar Z hA37 x5 .byte (own_by (0 : Int32) [39, (own_sh c0), (own_sh c1), (own_sh 0), (own_sh 0), (own_sh 0), (own_sh 0), (own_sh 0), (own_sh 0), (own_sh 0), (own_sh 0), (own_sh 0), (own_sh 0), (own_sh 0), (own_sh 0), (own_sh 0), (own_sh 0), (own_sh 0), (own_sh 0), (own_sh 0), (own_sh 0), (own_sh 0), (own_sh 0), (own_sh 0), (own_sh c3), 46, 46, 46, 39]) := by rw [own_by, if_pos rfl]; exact V_x5
  have hokR : own_ok (0 : Int32) [39, (own_sh c0), (own_sh c1), (own_sh 0), (own_sh 0), (own_sh 0), (own_sh 0), (own_sh 0), (own_sh 0), (own_sh 0), (own_sh 0), (own_sh 0), (own_sh 0), (own_sh 0), (own_sh 0), (own_sh 0), (own_sh 0), (own_sh 0), (own_sh 0), (own_sh 0), (own_sh 0), (own_sh 0), (own_sh 0), (own_sh 0), (own_sh c3), 46, 46, 46, 39] := Or.inl ⟨rfl, own_aS (P := own_b8) ⟨by decide, by decide⟩ (own_aS (P := own_b8) own_s8 (own_aS (P := own_b8) own_s8 (own_aS (P := own_b8) own_s8 (own_aS (P := own_b8) own_s8 (own_aS (P := own_b8) own_s8 (own_aS (P := own_b8) own_s8 (own_aS (P := own_b8) own_s8 (own_aS (P := own_b8) own_s8 (own_aS (P := own_b8) own_s8 (own_aS (P := own_b8) own_s8 (own_aS (P := own_b8) own_s8 (own_aS (P := own_b8) own_s8 (own_aS (P := own_b8) own_s8 (own_aS (P := own_b8) own_s8 (own_aS (P := own_b8) own_s8 (own_aS (P := own_b8) own_s8 (own_aS (P := own_b8) own_s8 (own_aS (P := own_b8) own_s8 (own_aS (P := own_b8) own_s8 (own_aS (P := own_b8) own_s8 (own_aS (P := own_b8) own_s8 (own_aS (P := own_b8) own_s8 (own_aS (P := own_b8) own_s8 (own_aS (P := own_b8) own_s8 (own_aS (P := own_b8) ⟨by decide, by decide⟩ (own_aS (P := own_b8) ⟨by decide, by decide⟩ (own_aS (P := own_b8) ⟨by decide, by decide⟩ (own_aS (P := own_b8) ⟨by decide, by decide⟩ (own_aN)))))))))))))))))))))))))))))⟩
  have A40 := A37.cl |>.aS H dm0_125 rfl rfl #[.val (.int i0), .val (.int i1), .val (.int i2), .val (.int i3), .val (.int i4), .val (.int 7), .val (.int 26), .val (.ref x1), .val (.int c0), .val (.int c1), .val (.int c2), .val (.int c3), .val (.ref x4), .unset, .unset] rfl |>.iL H dm0_127 rfl rfl |>.bp H dm0_129 rfl 24 rfl
  obtain ⟨vA39, hA39, ⟨rfl, rfl⟩, A39⟩ := A40.cS (own_c118 l Z a0 hw hA37 n0 Z0) H hZ hown dm0_131 (oW hw 164 rfl) (kS26 hw) hml rfl rfl [] rfl rfl
  have A41 := A39.cl |>.iS H dm0_134 rfl #[.val (.int i0), .val (.int i1), .val (.int i2), .val (.int i3), .val (.int i4), .val (.int 7), .val (.int 26), .val (.ref x1), .val (.int c0), .val (.int c1), .val (.int c2), .val (.int c3), .val (.ref x4), .val (.int 24), .unset] rfl |>.iL H dm0_136 rfl rfl |>.ic H dm0_138 rfl 2 rfl |>.ad H dm0_139 rfl 26 rfl |>.iL H dm0_140 rfl rfl |>.bp H dm0_142 rfl 24 rfl |>.cn H dm0_144 rfl rfl |>.ic H dm0_147 rfl 3 rfl |>.gt H dm0_148 rfl 152 (by decide) (by decide) |>.ad H dm0_152 rfl 29 rfl |>.iS H dm0_153 rfl #[.val (.int i0), .val (.int i1), .val (.int i2), .val (.int i3), .val (.int i4), .val (.int 7), .val (.int 26), .val (.ref x1), .val (.int c0), .val (.int c1), .val (.int c2), .val (.int c3), .val (.ref x4), .val (.int 24), .val (.int 29)] rfl
  have A43 := A41.aL H dm0_155 rfl rfl rfl
  obtain ⟨vA42, hA42, ⟨rfl, rfl⟩, A42⟩ := A43.cV (own_len l Z a0 hw x4 x5 cs 0 29 _ hA37 n0 Z0 SS.1 hcs E_x4 F_x4_coder F_x4_value VR hokR (by show (29 : Nat) < 64; decide) rfl) E_x4 H hZ hown dm0_157 (oW hw 165 rfl) (kV17 hw) hml rfl rfl [] rfl rfl
  have q44 : ((29 : Int32) = (29 : Int32)) := rfl
  have A46 := A42.cl |>.iL H dm0_160 rfl rfl |>.cy H dm0_162 rfl ((teq q44).1) 167 (by decide) (by decide) |>.aL H dm0_167 rfl rfl rfl |>.ic H dm0_169 rfl 0 rfl
  obtain ⟨vA45, hA45, ⟨rfl, rfl⟩, A45⟩ := A46.cV (own_ch l Z a0 hw x4 x5 cs 0 0 39 _ fm hA37 n0 Z0 SS.1 hcs E_x4 F_x4_coder F_x4_value VR hokR (by show (29 : Nat) < 64; decide) hfm SS.2.1 SS.2.2.1 SS.2.2.2.1 SS.2.2.2.2 (by decide) rfl) E_x4 H hZ hown dm0_170 (oW hw 166 rfl) (kV38 hw) hml rfl rfl [] rfl rfl
  have q47 : ((39 : Int32) = (39 : Int32)) := rfl
  have A49 := A45.cl |>.bp H dm0_173 rfl 39 rfl |>.cn H dm0_175 rfl ((teq q47).2) |>.aL H dm0_178 rfl rfl rfl |>.iL H dm0_180 rfl rfl |>.ic H dm0_182 rfl 1 rfl |>.sb H dm0_183 rfl 28 rfl
  obtain ⟨vA48, hA48, ⟨rfl, rfl⟩, A48⟩ := A49.cV (own_ch l Z a0 hw x4 x5 cs 0 28 39 _ fm hA37 n0 Z0 SS.1 hcs E_x4 F_x4_coder F_x4_value VR hokR (by show (29 : Nat) < 64; decide) hfm SS.2.1 SS.2.2.1 SS.2.2.2.1 SS.2.2.2.2 (by decide) rfl) E_x4 H hZ hown dm0_184 (oW hw 166 rfl) (kV38 hw) hml rfl rfl [] rfl rfl
  have A51 := A48.cl |>.bp H dm0_187 rfl 39 rfl |>.cy H dm0_189 rfl ((teq q47).1) 194 (by decide) (by decide) |>.iL H dm0_194 rfl rfl |>.bp H dm0_196 rfl 24 rfl |>.cn H dm0_198 rfl rfl |>.aL H dm0_201 rfl rfl rfl |>.iL H dm0_203 rfl rfl |>.ic H dm0_205 rfl 1 rfl |>.ad H dm0_206 rfl 25 rfl
  obtain ⟨vA50, hA50, ⟨rfl, rfl⟩, A50⟩ := A51.cV (own_ch l Z a0 hw x4 x5 cs 0 25 46 _ fm hA37 n0 Z0 SS.1 hcs E_x4 F_x4_coder F_x4_value VR hokR (by show (29 : Nat) < 64; decide) hfm SS.2.1 SS.2.2.1 SS.2.2.2.1 SS.2.2.2.2 (by decide) rfl) E_x4 H hZ hown dm0_207 (oW hw 166 rfl) (kV38 hw) hml rfl rfl [] rfl rfl
  have q52 : ((46 : Int32) = (46 : Int32)) := rfl
  have A54 := A50.cl |>.bp H dm0_210 rfl 46 rfl |>.cn H dm0_212 rfl ((teq q52).2) |>.aL H dm0_215 rfl rfl rfl |>.iL H dm0_217 rfl rfl |>.ic H dm0_219 rfl 2 rfl |>.ad H dm0_220 rfl 26 rfl
  obtain ⟨vA53, hA53, ⟨rfl, rfl⟩, A53⟩ := A54.cV (own_ch l Z a0 hw x4 x5 cs 0 26 46 _ fm hA37 n0 Z0 SS.1 hcs E_x4 F_x4_coder F_x4_value VR hokR (by show (29 : Nat) < 64; decide) hfm SS.2.1 SS.2.2.1 SS.2.2.2.1 SS.2.2.2.2 (by decide) rfl) E_x4 H hZ hown dm0_221 (oW hw 166 rfl) (kV38 hw) hml rfl rfl [] rfl rfl
  have A56 := A53.cl |>.bp H dm0_224 rfl 46 rfl |>.cn H dm0_226 rfl ((teq q52).2) |>.aL H dm0_229 rfl rfl rfl |>.iL H dm0_231 rfl rfl |>.ic H dm0_233 rfl 3 rfl |>.ad H dm0_234 rfl 27 rfl
  obtain ⟨vA55, hA55, ⟨rfl, rfl⟩, A55⟩ := A56.cV (own_ch l Z a0 hw x4 x5 cs 0 27 46 _ fm hA37 n0 Z0 SS.1 hcs E_x4 F_x4_coder F_x4_value VR hokR (by show (29 : Nat) < 64; decide) hfm SS.2.1 SS.2.2.1 SS.2.2.2.1 SS.2.2.2.2 (by decide) rfl) E_x4 H hZ hown dm0_235 (oW hw 166 rfl) (kV38 hw) hml rfl rfl [] rfl rfl
  have A58 := A55.cl |>.bp H dm0_238 rfl 46 rfl |>.cy H dm0_240 rfl ((teq q52).1) 245 (by decide) (by decide) |>.aL H dm0_245 rfl rfl rfl |>.aL H dm0_247 rfl rfl rfl |>.ic H dm0_249 rfl 0 rfl |>.iL H dm0_250 rfl rfl
  obtain ⟨vA57, hA57, ⟨rfl, rfl⟩, A57⟩ := A58.cS (own_atY l Z a0 hw x4 x5 x1 cs 0 24 c0 _ _ fm hA37 n0 Z0 (by decide) SS.1 hcs E_x4 F_x4_coder F_x4_value VR hokR (by show (29 : Nat) < 64; decide) hfm SS.2.1 SS.2.2.1 SS.2.2.2.1 SS.2.2.2.2 V_x1 (by decide) (by decide) rfl rfl hc0a hc0b) H hZ hown dm0_252 (oW hw 187 rfl) (kS45 hw) hml rfl rfl [] rfl rfl
  have A60 := A57.cl |>.fn H dm0_255 rfl rfl |>.aL H dm0_258 rfl rfl rfl |>.aL H dm0_260 rfl rfl rfl |>.ic H dm0_262 rfl 1 rfl |>.iL H dm0_263 rfl rfl
  obtain ⟨vA59, hA59, ⟨rfl, rfl⟩, A59⟩ := A60.cS (own_atY l Z a0 hw x4 x5 x1 cs 1 24 c1 _ _ fm hA37 n0 Z0 (by decide) SS.1 hcs E_x4 F_x4_coder F_x4_value VR hokR (by show (29 : Nat) < 64; decide) hfm SS.2.1 SS.2.2.1 SS.2.2.2.1 SS.2.2.2.2 V_x1 (by decide) (by decide) rfl rfl hc1a hc1b) H hZ hown dm0_265 (oW hw 187 rfl) (kS45 hw) hml rfl rfl [] rfl rfl
  have A62 := A59.cl |>.fn H dm0_268 rfl rfl |>.aL H dm0_271 rfl rfl rfl |>.aL H dm0_273 rfl rfl rfl |>.ic H dm0_275 rfl 2 rfl |>.iL H dm0_276 rfl rfl
  obtain ⟨vA61, hA61, ⟨rfl, rfl⟩, A61⟩ := A62.cS (own_atY l Z a0 hw x4 x5 x1 cs 2 24 0 _ _ fm hA37 n0 Z0 (by decide) SS.1 hcs E_x4 F_x4_coder F_x4_value VR hokR (by show (29 : Nat) < 64; decide) hfm SS.2.1 SS.2.2.1 SS.2.2.2.1 SS.2.2.2.2 V_x1 (by decide) (by decide) rfl rfl (by decide) (by decide)) H hZ hown dm0_278 (oW hw 187 rfl) (kS45 hw) hml rfl rfl [] rfl rfl
  have A64 := A61.cl |>.fn H dm0_281 rfl rfl |>.aL H dm0_284 rfl rfl rfl |>.aL H dm0_286 rfl rfl rfl |>.bp H dm0_288 rfl 12 rfl |>.iL H dm0_290 rfl rfl
  obtain ⟨vA63, hA63, ⟨rfl, rfl⟩, A63⟩ := A64.cS (own_atY l Z a0 hw x4 x5 x1 cs 12 24 0 _ _ fm hA37 n0 Z0 (by decide) SS.1 hcs E_x4 F_x4_coder F_x4_value VR hokR (by show (29 : Nat) < 64; decide) hfm SS.2.1 SS.2.2.1 SS.2.2.2.1 SS.2.2.2.2 V_x1 (by decide) (by decide) rfl rfl (by decide) (by decide)) H hZ hown dm0_292 (oW hw 187 rfl) (kS45 hw) hml rfl rfl [] rfl rfl
  have A66 := A63.cl |>.fn H dm0_295 rfl rfl |>.aL H dm0_298 rfl rfl rfl |>.aL H dm0_300 rfl rfl rfl |>.bp H dm0_302 rfl 22 rfl |>.iL H dm0_304 rfl rfl
  obtain ⟨vA65, hA65, ⟨rfl, rfl⟩, A65⟩ := A66.cS (own_atY l Z a0 hw x4 x5 x1 cs 22 24 0 _ _ fm hA37 n0 Z0 (by decide) SS.1 hcs E_x4 F_x4_coder F_x4_value VR hokR (by show (29 : Nat) < 64; decide) hfm SS.2.1 SS.2.2.1 SS.2.2.2.1 SS.2.2.2.2 V_x1 (by decide) (by decide) rfl rfl (by decide) (by decide)) H hZ hown dm0_306 (oW hw 187 rfl) (kS45 hw) hml rfl rfl [] rfl rfl
  have A68 := A65.cl |>.fn H dm0_309 rfl rfl |>.aL H dm0_312 rfl rfl rfl |>.aL H dm0_314 rfl rfl rfl |>.bp H dm0_316 rfl 23 rfl |>.iL H dm0_318 rfl rfl
  obtain ⟨vA67, hA67, ⟨rfl, rfl⟩, A67⟩ := A68.cS (own_atY l Z a0 hw x4 x5 x1 cs 23 24 c3 _ _ fm hA37 n0 Z0 (by decide) SS.1 hcs E_x4 F_x4_coder F_x4_value VR hokR (by show (29 : Nat) < 64; decide) hfm SS.2.1 SS.2.2.1 SS.2.2.2.1 SS.2.2.2.2 V_x1 (by decide) (by decide) rfl rfl hc3a hc3b) H hZ hown dm0_320 (oW hw 187 rfl) (kS45 hw) hml rfl rfl [] rfl rfl
  have A69 := A67.cl |>.fn H dm0_323 rfl rfl |>.ic H dm0_326 rfl 1 rfl |>.gt H dm0_327 rfl 331 (by decide) (by decide)
  exact A69.retSS hx hlk hZ hS hk hEL HC hret (hb hby dm0_331) rfl (Or.inl ⟨rfl, by simp, _, rfl⟩) (by decide) (by decide) ⟨rfl, trivial⟩
theorem own_law (l : Launch) (Z : State) (a0 : Array Value) (hw : ∀ d ∈ tables_1, d.before a0 Z = true) (i0 i1 i2 i3 i4 cs : Int32) (fm : Value) (h0 : Heap) (n0 : Nat) (Z0 : n0 ≤ h0.size) (hEL : EW Z a0 own_EL) (own_wS : ∀ a ∈ Bundle.stringAtoms, a.before a0 Z = true) (SS : own_ST Z h0 cs fm) (hcs : ¬ (cs = (0 : Int32))) (hfm : fm.isRef = true) :
    own_MS l Z own_EL x code maxLocals ret tables_1 room_1 #[(.int i0), (.int i1), (.int i2), (.int i3), (.int i4)] h0 n0 (fun v h => v = some (.int 1) ∧ True) := by
  rcases own_and7 i0 with q | q | q | q | q | q | q | q
  · exact own_law0 l Z a0 hw i0 i1 i2 i3 i4 cs fm h0 n0 Z0 hEL own_wS SS hcs hfm q
  · exact own_law1 l Z a0 hw i0 i1 i2 i3 i4 cs fm h0 n0 Z0 hEL own_wS SS hcs hfm q
  · exact own_law2 l Z a0 hw i0 i1 i2 i3 i4 cs fm h0 n0 Z0 hEL own_wS SS hcs hfm q
  · exact own_law3 l Z a0 hw i0 i1 i2 i3 i4 cs fm h0 n0 Z0 hEL own_wS SS hcs hfm q
  · exact own_law4 l Z a0 hw i0 i1 i2 i3 i4 cs fm h0 n0 Z0 hEL own_wS SS hcs hfm q
  · exact own_law5 l Z a0 hw i0 i1 i2 i3 i4 cs fm h0 n0 Z0 hEL own_wS SS hcs hfm q
  · exact own_law6 l Z a0 hw i0 i1 i2 i3 i4 cs fm h0 n0 Z0 hEL own_wS SS hcs hfm q
  · exact own_law7 l Z a0 hw i0 i1 i2 i3 i4 cs fm h0 n0 Z0 hEL own_wS SS hcs hfm q
theorem comes_1 {Post : Tables → Env → Array Value → State → Outcome → State → Prop} (hpost : ∀ tb e args s v u, (limb_1_1.after args s (.returned v) u = true ∧ limb_1_2.after args s (.returned v) u = true ∧ True) → ReturnedEndW s (.returned v) u (Jvm.fieldLocs frame_1_writes args s ++ Jvm.arrayLocs frame_1_arrays args s ++ Jvm.staticLocs frame_1_statics s) 32 3584 → Post tb e args s (.returned v) u) :
    ArmFor flags0 classFile x code maxLocals ret World_1 tables_1 room_1 Calls_1 rest_1 Pre_1 Post := by
  intro l hfl _ _ p e ha hc hk s m args below hf hA hF happ hP
  obtain ⟨hcalls, hrest, hpre⟩ := hP
  obtain ⟨-, -, -, hnamed, -, -, -, hat⟩ := (Spec.applies_iff hf).mp happ
  obtain ⟨hg, hn⟩ := and_e (Cond.before_iff.mp (show (Jvm.Cond.and given_1 narrow_1).before args s = true from hpre))
  obtain ⟨h1, g0⟩ := and_e hg
  obtain ⟨w0, w1, w2, w3, w4, rfl⟩ : ∃ w0 w1 w2 w3 w4 : Value, args = #[w0, w1, w2, w3, w4] := by
    have hs : args.size = 5 := by simpa [Cond.value, given_1] using h1
    obtain ⟨L⟩ := args
    match L, hs with
    | [w0, w1, w2, w3, w4], _ => exact ⟨w0, w1, w2, w3, w4, rfl⟩
  have hw := fun d (hd : d ∈ tables_1) => atoms_spec (ws := Jvm.Cond.code x code maxLocals ret :: tables_1) hat d (List.mem_cons_of_mem _ hd)
  have hfit : Fit s := fun {y c} hc i hi => by
    obtain ⟨ha, rfl⟩ := Array.getElem?_eq_some_iff.mp hc
    have q := List.all_eq_true.mp ((Array.all_eq_true_iff_forall_mem.mp hF) _ (Array.getElem_mem ha)) i (List.mem_range.mpr hi)
    simpa [Array.getElem?_eq_getElem hi] using q
  obtain ⟨k0, g1⟩ := and_e g0
  obtain ⟨i0, e0⟩ := is_v k0
  obtain rfl : w0 = (.int i0) := Option.some.inj e0
  obtain ⟨k1, g2⟩ := and_e g1
  obtain ⟨i1, e1⟩ := is_v k1
  obtain rfl : w1 = (.int i1) := Option.some.inj e1
  obtain ⟨k2, g3⟩ := and_e g2
  obtain ⟨i2, e2⟩ := is_v k2
  obtain rfl : w2 = (.int i2) := Option.some.inj e2
  obtain ⟨k3, g4⟩ := and_e g3
  obtain ⟨i3, e3⟩ := is_v k3
  obtain rfl : w3 = (.int i3) := Option.some.inj e3
  obtain ⟨i4, e4⟩ := is_v g4
  obtain rfl : w4 = (.int i4) := Option.some.inj e4
  have own_wS : ∀ d ∈ Bundle.stringAtoms, d.before #[(.int i0), (.int i1), (.int i2), (.int i3), (.int i4)] s = true := by
    intro d hd
    simp only [Bundle.stringAtoms, List.mem_cons, List.not_mem_nil, or_false] at hd
    rcases hd with rfl | rfl | rfl | rfl | rfl | rfl | rfl
    · exact (oW hw 8 rfl)
    · exact (oW hw 7 rfl)
    · exact (oW hw 20 rfl)
    · exact (oW hw 21 rfl)
    · exact (oW hw 22 rfl)
    · exact (oW hw 23 rfl)
    · exact (oW hw 24 rfl)
  obtain ⟨hsets, hown0⟩ := atoms_of _ (rest_1_c_eq ▸ (show rest_1_c.before _ s = true from hrest))
  have n3 := not_v (Cond.before_iff.mp (hsets _ (List.mem_of_getElem? (i := 2) rfl)))
  obtain ⟨cs, ecs⟩ := is_v (Cond.before_iff.mp (hsets _ (List.mem_of_getElem? (i := 1) rfl)))
  have S_cs : Sta s s.heap "java/lang/String" "COMPACT_STRINGS" "Z" (.int cs) := Sta.start ecs (Or.inl (hsets _ (List.mem_of_getElem? (i := 0) rfl)))
  have hcs : ¬ (cs = 0) := by
    intro q
    subst q
    simp [Cond.value, ecs, Term.int_eval] at n3
  obtain ⟨fm, efm, hfm⟩ := isR_v (Cond.before_iff.mp (hsets _ (List.mem_of_getElem? (i := 8) rfl)))
  have S_fm : Sta s s.heap "jdk/internal/util/Preconditions" "SIOOBE_FORMATTER" "Ljava/util/function/BiFunction;" fm := Sta.start efm (Or.inl (hsets _ (List.mem_of_getElem? (i := 7) rfl)))
  have S_ad := Sta.start (own_eqI (Cond.before_iff.mp (hsets _ (List.mem_of_getElem? (i := 12) rfl)))) (Or.inl (hsets _ (List.mem_of_getElem? (i := 11) rfl)))
  have S_hi := Sta.start (own_eqI (Cond.before_iff.mp (hsets _ (List.mem_of_getElem? (i := 15) rfl)))) (Or.inl (hsets _ (List.mem_of_getElem? (i := 14) rfl)))
  have S_lo := Sta.start (own_eqI (Cond.before_iff.mp (hsets _ (List.mem_of_getElem? (i := 18) rfl)))) (Or.inl (hsets _ (List.mem_of_getElem? (i := 17) rfl)))
  have hEL : EW s _ own_EL := EW.cons (oW hw 34 rfl) (by decide) (EW.cons (oW hw 250 rfl) (by decide) (EW.cons (oW hw 19 rfl) (by decide) (EW.nil)))
  have hCH : CHv s own_EL s.vm s.heap := CHv.start hEL (fun q hq => hcalls.1 q hq) (hsets _ (List.mem_of_getElem? (i := 2) rfl)) (oW hw 20 rfl) (oW hw 7 rfl)
  obtain ⟨n, o, h1, h2, h3, _, L, rfl, ⟨⟨rfl, -⟩, N⟩, -, hq⟩ := (own_law l s _ hw i0 i1 i2 i3 i4 cs fm s.heap s.heap.size (Nat.le_refl _) hEL own_wS ⟨S_cs, S_fm, S_ad, S_hi, S_lo⟩ hcs hfm) p e ha hc hk s m _ below hf ((Spec.applies_iff_loose hf).mp happ).1 ⟨rfl, State.Warmed39.refl s, rfl, hCH⟩ trivial
  refine ⟨n, _, h1, h2, h3, hpost _ _ _ _ _ _ ⟨Cond.after_iff.mpr rfl, Cond.after_iff.mpr (eq_i res_at (Term.int_eval (1)) rfl), trivial⟩ ⟨hq.1, hq.2.1, hq.2.2.1, (hq.2.2.2.sift fun y hy => Or.inr (N y hy)).mono (by decide) (by decide)⟩⟩
theorem main_1_1 : Claimed_1_1 := comes_1 fun _ _ _ _ _ _ h hF => ⟨h.1, hF⟩
theorem main_1_2 : Claimed_1_2 := comes_1 fun _ _ _ _ _ _ h hF => ⟨h.2.1, hF⟩
end Jvm.Pilot.@@N@@
namespace Jvm.Pilot.@@N@@
open Jvm Jvm.ClassFile Sem Op Lib Jvm.Free Jvm.Stand Jvm.Pilot.@@N@@.Jvm.D
/-! MADE BY PROGRAM (witnessworld.py) out of the Statement's table words and the real class files: 28 classes; the members and pool entries that the words name. The judged class is class 1, her method 1. -/
namespace start1
open Jvm.ClassFile
def u (s : String) : CpInfo := .utf8 (stringToUtf16 s)
/-- a pool by its gaps: so many unusable entries, then the entry; so many at the end -/
def gap : Nat → List CpInfo → List CpInfo
  | 0, r => r
  | n + 1, r => .unusable :: gap n r
def poolList (es : List (Nat × CpInfo)) (last : Nat) : List CpInfo := es.foldr (fun e r => gap e.1 (e.2 :: r)) (gap last [])
def pool (es : List (Nat × CpInfo)) (last : Nat) : Array CpInfo := ⟨poolList es last⟩
def fileOf (pool : Array CpInfo) (this : Nat) (attrs : Array Attribute := #[]) (ms : Array MethodInfo := #[]) (fl : Nat := 33) (sup : Nat := 0) (ifs : Array Nat := #[]) (fds : Array FieldInfo := #[]) : ClassFile where
  minorVersion := 0
  majorVersion := 65
  constantPool := pool
  accessFlags := fl
  thisClass := this
  superClass := sup
  interfaces := ifs
  fields := fds
  methods := ms
  attributes := attrs
def plain (name : String) (sup : Option ClassId) : Class where
  name := name
  kind := .ordinary
  loader := none
  accessFlags := 33
  super := sup
  interfaces := #[]
  cf := none
  fields := #[]
  methods := #[]
  instanceTypes := #[]
  staticTypes := #[]
  resolved := #[]
  callSites := []
  init := .initialized
  statics := none
  mirror := none

def pool0 : Array CpInfo := pool [(5, u "<init>"), (0, u "()V"), (1, .class_ 10), (1, u "java/lang/Object")] 113

def k0c0 : Code := { maxStack := 0, maxLocals := 1, code := object_method_1_code, exceptionTable := #[], attributes := #[] }
def k0m0 : Method := { name := "<init>", desc := "()V", sig := { parameters := [], returnType := none }, accessFlags := 1, code := some k0c0 }
/-- java/lang/Object -/
def k0 : Class := { plain "java/lang/Object" none with
  accessFlags := 33
  interfaces := #[]
  cf := some (fileOf pool0 8 #[] #[{ accessFlags := 1, nameIndex := 5, descriptorIndex := 6, attributes := #[] }] 33 0 #[] #[])
  fields := #[]
  methods := #[k0m0]
  instanceTypes := #[]
  staticTypes := #[]
  resolved := Array.replicate 124 none
  statics := none }

def pool1 : Array CpInfo := pool [(2, .class_ 4), (1, u "java/lang/Object"), (0, u "<init>"), (0, u "()V"), (0, .methodref 8 9), (0, .class_ 10), (0, .nameAndType 11 12), (0, u "com/example/paretolio/paretolio/RecordReaderQuotePinLaw"), (0, u "alloc"), (0, u "(I)[C"), (0, .integer 65535), (0, .class_ 15), (0, u "java/lang/String"), (0, .methodref 14 17), (0, .nameAndType 5 18), (0, u "([C)V"), (0, .methodref 20 21), (0, .class_ 22), (0, .nameAndType 23 24), (0, u "com/example/paretolio/paretolio/RecordReader"), (0, u "quote"), (0, u "(Ljava/lang/String;)Ljava/lang/String;"), (0, .methodref 26 27), (0, .class_ 28), (0, .nameAndType 29 30), (0, u "java/lang/Math"), (0, u "min"), (0, u "(II)I"), (0, .methodref 14 32), (0, .nameAndType 33 34), (0, u "length"), (0, u "()I"), (0, .methodref 14 36), (0, .nameAndType 37 38), (0, u "charAt"), (0, u "(I)C"), (0, .methodref 8 40), (0, .nameAndType 41 42), (0, u "at"), (0, u "(Ljava/lang/String;[CII)Z"), (0, .methodref 8 44), (0, .nameAndType 45 46), (0, u "shown"), (0, u "(C)C"), (2, u "law"), (0, u "(IIIII)Z")] 5

def k1m0 : Method := { name := "<init>", desc := "()V", sig := { parameters := [], returnType := none }, accessFlags := 1, code := none }
def k1c1 : Code := { maxStack := 4, maxLocals := 15, code := code, exceptionTable := #[], attributes := #[] }
def k1m1 : Method := { name := "law", desc := "(IIIII)Z", sig := { parameters := [.int, .int, .int, .int, .int], returnType := some .boolean }, accessFlags := 9, code := some k1c1 }
def k1c2 : Code := { maxStack := 3, maxLocals := 4, code := method_3_code, exceptionTable := #[], attributes := #[] }
def k1m2 : Method := { name := "at", desc := "(Ljava/lang/String;[CII)Z", sig := { parameters := [(.object "java/lang/String"), (.array .char), .int, .int], returnType := some .boolean }, accessFlags := 10, code := some k1c2 }
def k1c3 : Code := { maxStack := 2, maxLocals := 1, code := method_4_code, exceptionTable := #[], attributes := #[] }
def k1m3 : Method := { name := "shown", desc := "(C)C", sig := { parameters := [.char], returnType := some .char }, accessFlags := 10, code := some k1c3 }
def k1c4 : Code := { maxStack := 2, maxLocals := 1, code := method_5_code, exceptionTable := #[], attributes := #[] }
def k1m4 : Method := { name := "alloc", desc := "(I)[C", sig := { parameters := [.int], returnType := some (.array .char) }, accessFlags := 10, code := some k1c4 }
/-- com/example/paretolio/paretolio/RecordReaderQuotePinLaw -/
def k1 : Class := { plain "com/example/paretolio/paretolio/RecordReaderQuotePinLaw" (some 0) with
  accessFlags := 49
  interfaces := #[]
  cf := some (fileOf pool1 8 #[] #[{ accessFlags := 1, nameIndex := 5, descriptorIndex := 6, attributes := #[] }, { accessFlags := 9, nameIndex := 49, descriptorIndex := 50, attributes := #[] }, { accessFlags := 10, nameIndex := 41, descriptorIndex := 42, attributes := #[] }, { accessFlags := 10, nameIndex := 45, descriptorIndex := 46, attributes := #[] }, { accessFlags := 10, nameIndex := 11, descriptorIndex := 12, attributes := #[] }] 49 2 #[] #[])
  fields := #[]
  methods := #[k1m0, k1m1, k1m2, k1m3, k1m4]
  instanceTypes := #[]
  staticTypes := #[]
  resolved := Array.replicate 56 none
  statics := none }

def pool2 : Array CpInfo := pool [(1, .class_ 2), (0, u "java/io/Serializable"), (0, .class_ 4), (0, u "java/lang/Object")] 2

/-- java/io/Serializable -/
def k2 : Class := { plain "java/io/Serializable" (some 0) with
  accessFlags := 1537
  interfaces := #[]
  cf := some (fileOf pool2 1 #[] #[] 1537 3 #[] #[])
  fields := #[]
  methods := #[]
  instanceTypes := #[]
  staticTypes := #[]
  resolved := Array.replicate 7 none
  statics := none }

def pool3 : Array CpInfo := pool [(1, .class_ 2), (0, u "java/lang/Comparable"), (0, .class_ 4), (0, u "java/lang/Object")] 7

/-- java/lang/Comparable -/
def k3 : Class := { plain "java/lang/Comparable" (some 0) with
  accessFlags := 1537
  interfaces := #[]
  cf := some (fileOf pool3 1 #[] #[] 1537 3 #[] #[])
  fields := #[]
  methods := #[]
  instanceTypes := #[]
  staticTypes := #[]
  resolved := Array.replicate 12 none
  statics := none }

def pool4 : Array CpInfo := pool [(2, .class_ 4), (1, u "java/lang/CharSequence"), (42, .class_ 48), (0, u "java/lang/CharSequence$1CodePointIterator"), (10, .class_ 60), (0, u "java/lang/CharSequence$1CharIterator"), (5, .class_ 67), (0, u "java/lang/Object")] 63

/-- java/lang/CharSequence -/
def k4 : Class := { plain "java/lang/CharSequence" (some 0) with
  accessFlags := 1537
  interfaces := #[]
  cf := some (fileOf pool4 2 #[.nestMembers #[47, 59]] #[] 1537 66 #[] #[])
  fields := #[]
  methods := #[]
  instanceTypes := #[]
  staticTypes := #[]
  resolved := Array.replicate 131 none
  statics := none }

def pool5 : Array CpInfo := pool [(1, .class_ 2), (0, u "java/lang/constant/Constable"), (0, .class_ 4), (0, u "java/lang/Object")] 6

/-- java/lang/constant/Constable -/
def k5 : Class := { plain "java/lang/constant/Constable" (some 0) with
  accessFlags := 1537
  interfaces := #[]
  cf := some (fileOf pool5 1 #[] #[] 1537 3 #[] #[])
  fields := #[]
  methods := #[]
  instanceTypes := #[]
  staticTypes := #[]
  resolved := Array.replicate 11 none
  statics := none }

def pool6 : Array CpInfo := pool [(1, .class_ 2), (0, u "java/lang/constant/ConstantDesc"), (0, .class_ 4), (0, u "java/lang/Object")] 32

/-- java/lang/constant/ConstantDesc -/
def k6 : Class := { plain "java/lang/constant/ConstantDesc" (some 0) with
  accessFlags := 1537
  interfaces := #[]
  cf := some (fileOf pool6 1 #[] #[] 1537 3 #[] #[])
  fields := #[]
  methods := #[]
  instanceTypes := #[]
  staticTypes := #[]
  resolved := Array.replicate 37 none
  statics := none }

def pool7 : Array CpInfo := pool [(1, .methodref 2 3), (0, .class_ 4), (0, .nameAndType 5 6), (0, u "java/lang/Object"), (0, u "<init>"), (0, u "()V"), (0, .string 8), (0, u ""), (0, .fieldref 10 11), (0, .class_ 12), (0, .nameAndType 13 14), (0, u "java/lang/String"), (0, u "value"), (0, u "[B"), (0, .fieldref 10 16), (0, .nameAndType 17 18), (0, u "coder"), (0, u "B"), (2, u "hash"), (0, u "I"), (2, u "hashIsZero"), (0, u "Z"), (0, .methodref 10 28), (0, .nameAndType 5 29), (0, u "([CIILjava/lang/Void;)V"), (8, .fieldref 10 39), (0, .nameAndType 40 26), (0, u "COMPACT_STRINGS"), (1, .class_ 44), (1, u "java/lang/StringUTF16"), (0, u "compress"), (1, .methodref 42 48), (0, .nameAndType 49 50), (0, u "coderFromArrayLen"), (0, u "([BI)B"), (3, .methodref 55 56), (0, .class_ 57), (0, .nameAndType 58 59), (0, u "java/util/Arrays"), (0, u "copyOfRange"), (0, u "([BII)[B"), (47, .class_ 109), (1, u "java/lang/StringLatin1"), (32, u "()Z"), (34, .methodref 42 178), (0, .nameAndType 45 179), (0, u "([CII)[B"), (13, .class_ 195), (1, u "java/lang/System"), (16, .methodref 193 213), (0, .nameAndType 214 215), (0, u "arraycopy"), (0, u "(Ljava/lang/Object;ILjava/lang/Object;II)V"), (118, u "()I"), (0, .methodref 10 336), (0, .nameAndType 17 337), (0, u "()B"), (2, u "()[B"), (22, u "([BI)C"), (27, u "(II)V"), (35, u "(I)C"), (61, .methodref 10 490), (0, .nameAndType 5 491), (0, u "(Ljava/lang/AbstractStringBuilder;Ljava/lang/Void;)V"), (0, .methodref 10 493), (0, .nameAndType 494 142), (0, u "isLatin1"), (0, .methodref 107 496), (0, .nameAndType 497 363), (0, u "charAt"), (0, .methodref 42 496), (2, u "checkIndex"), (4, .nameAndType 507 334), (0, u "length"), (24, u "getBytes"), (16, .methodref 550 506), (0, .class_ 551), (0, u "java/lang/AbstractStringBuilder"), (0, .methodref 550 553), (0, .nameAndType 554 340), (0, u "getValue"), (20, .class_ 576), (0, u "java/lang/CharSequence"), (22, u "CASE_INSENSITIVE_ORDER"), (0, u "Ljava/util/Comparator;"), (220, u "([BIB)V"), (188, u "([C)V"), (36, .methodref 550 493), (5, .fieldref 1054 1055), (0, .class_ 1056), (0, .nameAndType 1057 1058), (0, u "jdk/internal/util/Preconditions"), (0, u "SIOOBE_FORMATTER"), (0, u "Ljava/util/function/BiFunction;"), (0, .methodref 1054 1060), (0, .nameAndType 501 1061), (0, u "(IILjava/util/function/BiFunction;)I"), (39, u "serialPersistentFields"), (0, u "[Ljava/io/ObjectStreamField;"), (0, .class_ 1104), (0, u "java/lang/String$CaseInsensitiveComparator"), (1, .class_ 1107), (0, u "java/io/Serializable"), (0, .class_ 1109), (0, u "java/lang/Comparable"), (0, .class_ 1111), (0, u "java/lang/constant/Constable"), (0, .class_ 1113), (0, u "java/lang/constant/ConstantDesc"), (2, u "serialVersionUID"), (0, u "J"), (3, u "REPL"), (0, u "C"), (2, u "LATIN1"), (1, u "UTF16"), (105, u "(Ljava/lang/StringBuilder;)V")] 217

def k7m0 : Method := { name := "<init>", desc := "()V", sig := { parameters := [], returnType := none }, accessFlags := 1, code := none }
def k7c1 : Code := { maxStack := 5, maxLocals := 2, code := jdk_42_method_3_code, exceptionTable := #[], attributes := #[] }
def k7m1 : Method := { name := "<init>", desc := "([C)V", sig := { parameters := [(.array .char)], returnType := none }, accessFlags := 1, code := some k7c1 }
def k7c2 : Code := { maxStack := 3, maxLocals := 2, code := jdk_42_method_53_code, exceptionTable := #[], attributes := #[] }
def k7m2 : Method := { name := "<init>", desc := "(Ljava/lang/StringBuilder;)V", sig := { parameters := [(.object "java/lang/StringBuilder")], returnType := none }, accessFlags := 1, code := some k7c2 }
def k7c3 : Code := { maxStack := 2, maxLocals := 1, code := jdk_42_method_54_code, exceptionTable := #[], attributes := #[] }
def k7m3 : Method := { name := "length", desc := "()I", sig := { parameters := [], returnType := some .int }, accessFlags := 1, code := some k7c3 }
def k7c4 : Code := { maxStack := 2, maxLocals := 2, code := jdk_42_method_56_code, exceptionTable := #[], attributes := #[] }
def k7m4 : Method := { name := "charAt", desc := "(I)C", sig := { parameters := [.int], returnType := some .char }, accessFlags := 1, code := some k7c4 }
def k7c5 : Code := { maxStack := 5, maxLocals := 4, code := jdk_42_method_147_code, exceptionTable := #[], attributes := #[] }
def k7m5 : Method := { name := "getBytes", desc := "([BIB)V", sig := { parameters := [(.array .byte), .int, .byte], returnType := none }, accessFlags := 0, code := some k7c5 }
def k7c6 : Code := { maxStack := 4, maxLocals := 6, code := jdk_42_method_149_code, exceptionTable := #[], attributes := #[] }
def k7m6 : Method := { name := "<init>", desc := "([CIILjava/lang/Void;)V", sig := { parameters := [(.array .char), .int, .int, (.object "java/lang/Void")], returnType := none }, accessFlags := 2, code := some k7c6 }
def k7c7 : Code := { maxStack := 5, maxLocals := 5, code := jdk_42_method_150_code, exceptionTable := #[], attributes := #[] }
def k7m7 : Method := { name := "<init>", desc := "(Ljava/lang/AbstractStringBuilder;Ljava/lang/Void;)V", sig := { parameters := [(.object "java/lang/AbstractStringBuilder"), (.object "java/lang/Void")], returnType := none }, accessFlags := 0, code := some k7c7 }
def k7c8 : Code := { maxStack := 1, maxLocals := 1, code := jdk_42_method_152_code, exceptionTable := #[], attributes := #[] }
def k7m8 : Method := { name := "coder", desc := "()B", sig := { parameters := [], returnType := some .byte }, accessFlags := 0, code := some k7c8 }
def k7c9 : Code := { maxStack := 1, maxLocals := 1, code := jdk_42_method_154_code, exceptionTable := #[], attributes := #[] }
def k7m9 : Method := { name := "isLatin1", desc := "()Z", sig := { parameters := [], returnType := some .boolean }, accessFlags := 0, code := some k7c9 }
def k7c10 : Code := { maxStack := 3, maxLocals := 2, code := jdk_42_method_155_code, exceptionTable := #[], attributes := #[] }
def k7m10 : Method := { name := "checkIndex", desc := "(II)V", sig := { parameters := [.int, .int], returnType := none }, accessFlags := 8, code := some k7c10 }
/-- java/lang/String -/
def k7 : Class := { plain "java/lang/String" (some 0) with
  accessFlags := 49
  interfaces := #[2, 3, 4, 5, 6]
  cf := some (fileOf pool7 10 #[.nestMembers #[1103]] #[{ accessFlags := 1, nameIndex := 5, descriptorIndex := 6, attributes := #[] }, { accessFlags := 1, nameIndex := 5, descriptorIndex := 1010, attributes := #[] }, { accessFlags := 1, nameIndex := 5, descriptorIndex := 1233, attributes := #[] }, { accessFlags := 1, nameIndex := 507, descriptorIndex := 334, attributes := #[] }, { accessFlags := 1, nameIndex := 497, descriptorIndex := 427, attributes := #[] }, { accessFlags := 0, nameIndex := 532, descriptorIndex := 821, attributes := #[] }, { accessFlags := 2, nameIndex := 5, descriptorIndex := 29, attributes := #[] }, { accessFlags := 0, nameIndex := 5, descriptorIndex := 491, attributes := #[] }, { accessFlags := 0, nameIndex := 17, descriptorIndex := 337, attributes := #[] }, { accessFlags := 0, nameIndex := 494, descriptorIndex := 142, attributes := #[] }, { accessFlags := 8, nameIndex := 501, descriptorIndex := 391, attributes := #[] }] 49 2 #[1106, 1108, 575, 1110, 1112] #[{ accessFlags := 18, nameIndex := 13, descriptorIndex := 14, attributes := #[] }, { accessFlags := 18, nameIndex := 17, descriptorIndex := 18, attributes := #[] }, { accessFlags := 2, nameIndex := 21, descriptorIndex := 22, attributes := #[] }, { accessFlags := 2, nameIndex := 25, descriptorIndex := 26, attributes := #[] }, { accessFlags := 26, nameIndex := 1116, descriptorIndex := 1117, attributes := #[] }, { accessFlags := 24, nameIndex := 40, descriptorIndex := 26, attributes := #[] }, { accessFlags := 26, nameIndex := 1101, descriptorIndex := 1102, attributes := #[] }, { accessFlags := 26, nameIndex := 1121, descriptorIndex := 1122, attributes := #[] }, { accessFlags := 25, nameIndex := 599, descriptorIndex := 600, attributes := #[] }, { accessFlags := 24, nameIndex := 1125, descriptorIndex := 18, attributes := #[] }, { accessFlags := 24, nameIndex := 1127, descriptorIndex := 18, attributes := #[] }])
  fields := #[{ name := "value", type := (.array .byte), accessFlags := 18, slot := 0, constantValue := 0 }, { name := "coder", type := .byte, accessFlags := 18, slot := 1, constantValue := 0 }, { name := "hash", type := .int, accessFlags := 2, slot := 2, constantValue := 0 }, { name := "hashIsZero", type := .boolean, accessFlags := 2, slot := 3, constantValue := 0 }, { name := "serialVersionUID", type := .long, accessFlags := 26, slot := 0, constantValue := 0 }, { name := "COMPACT_STRINGS", type := .boolean, accessFlags := 24, slot := 1, constantValue := 0 }, { name := "serialPersistentFields", type := (.array (.object "java/io/ObjectStreamField")), accessFlags := 26, slot := 2, constantValue := 0 }, { name := "REPL", type := .char, accessFlags := 26, slot := 3, constantValue := 0 }, { name := "CASE_INSENSITIVE_ORDER", type := (.object "java/util/Comparator"), accessFlags := 25, slot := 4, constantValue := 0 }, { name := "LATIN1", type := .byte, accessFlags := 24, slot := 5, constantValue := 0 }, { name := "UTF16", type := .byte, accessFlags := 24, slot := 6, constantValue := 0 }]
  methods := #[k7m0, k7m1, k7m2, k7m3, k7m4, k7m5, k7m6, k7m7, k7m8, k7m9, k7m10]
  instanceTypes := #[(.array .byte), .byte, .int, .boolean]
  staticTypes := #[.long, .boolean, (.array (.object "java/io/ObjectStreamField")), .char, (.object "java/util/Comparator"), .byte, .byte]
  resolved := Array.replicate 1451 none
  statics := some 0 }

def pool8 : Array CpInfo := pool [(1, .class_ 2), (0, u "java/lang/AutoCloseable"), (0, .class_ 4), (0, u "java/lang/Object")] 7

/-- java/lang/AutoCloseable -/
def k8 : Class := { plain "java/lang/AutoCloseable" (some 0) with
  accessFlags := 1537
  interfaces := #[]
  cf := some (fileOf pool8 1 #[] #[] 1537 3 #[] #[])
  fields := #[]
  methods := #[]
  instanceTypes := #[]
  staticTypes := #[]
  resolved := Array.replicate 12 none
  statics := none }

def pool9 : Array CpInfo := pool [(1, .class_ 2), (0, u "java/io/Closeable"), (0, .class_ 4), (0, u "java/lang/Object"), (0, .class_ 6), (0, u "java/lang/AutoCloseable")] 7

/-- java/io/Closeable -/
def k9 : Class := { plain "java/io/Closeable" (some 0) with
  accessFlags := 1537
  interfaces := #[8]
  cf := some (fileOf pool9 1 #[] #[] 1537 3 #[5] #[])
  fields := #[]
  methods := #[]
  instanceTypes := #[]
  staticTypes := #[]
  resolved := Array.replicate 14 none
  statics := none }

def pool10 : Array CpInfo := pool [(2, .class_ 4), (1, u "java/lang/Object"), (0, u "<init>"), (2, .class_ 10), (1, u "com/example/paretolio/paretolio/RecordReader"), (0, u "in"), (0, u "Ljava/io/BufferedReader;"), (2, u "source"), (0, u "Ljava/lang/String;"), (26, .nameAndType 45 46), (1, u "toString"), (0, u "()Ljava/lang/String;"), (8, u "line"), (2, u "lineNumber"), (0, u "I"), (1, .class_ 63), (1, u "java/lang/String"), (18, u "(Ljava/lang/String;)Ljava/lang/String;"), (23, .class_ 107), (0, u "java/lang/StringBuilder"), (0, .string 109), (0, u "'"), (0, .methodref 106 111), (0, .nameAndType 5 112), (0, u "(Ljava/lang/String;)V"), (0, .methodref 61 114), (0, .nameAndType 115 116), (0, u "length"), (0, u "()I"), (0, .methodref 118 119), (0, .class_ 120), (0, .nameAndType 121 122), (0, u "java/lang/Math"), (0, u "min"), (0, u "(II)I"), (0, .methodref 61 124), (0, .nameAndType 125 126), (0, u "charAt"), (0, u "(I)C"), (0, .methodref 106 128), (0, .nameAndType 129 130), (0, u "append"), (0, u "(C)Ljava/lang/StringBuilder;"), (0, .string 132), (0, u "..."), (0, .methodref 106 134), (0, .nameAndType 129 135), (0, u "(Ljava/lang/String;)Ljava/lang/StringBuilder;"), (0, .methodref 106 43), (3, .class_ 141), (0, u "java/io/Closeable"), (0, u "QUOTED_FIELD_LENGTH"), (15, u "quote")] 19

def k10c0 : Code := { maxStack := 3, maxLocals := 4, code := prog_11_method_10_code, exceptionTable := #[], attributes := #[] }
def k10m0 : Method := { name := "quote", desc := "(Ljava/lang/String;)Ljava/lang/String;", sig := { parameters := [(.object "java/lang/String")], returnType := some (.object "java/lang/String") }, accessFlags := 9, code := some k10c0 }
/-- com/example/paretolio/paretolio/RecordReader -/
def k10 : Class := { plain "com/example/paretolio/paretolio/RecordReader" (some 0) with
  accessFlags := 49
  interfaces := #[9]
  cf := some (fileOf pool10 8 #[] #[{ accessFlags := 9, nameIndex := 158, descriptorIndex := 82, attributes := #[] }] 49 2 #[140] #[{ accessFlags := 26, nameIndex := 142, descriptorIndex := 59, attributes := #[] }, { accessFlags := 18, nameIndex := 11, descriptorIndex := 12, attributes := #[] }, { accessFlags := 18, nameIndex := 15, descriptorIndex := 16, attributes := #[] }, { accessFlags := 2, nameIndex := 58, descriptorIndex := 59, attributes := #[] }, { accessFlags := 2, nameIndex := 55, descriptorIndex := 16, attributes := #[] }])
  fields := #[{ name := "QUOTED_FIELD_LENGTH", type := .int, accessFlags := 26, slot := 0, constantValue := 0 }, { name := "in", type := (.object "java/io/BufferedReader"), accessFlags := 18, slot := 0, constantValue := 0 }, { name := "source", type := (.object "java/lang/String"), accessFlags := 18, slot := 1, constantValue := 0 }, { name := "lineNumber", type := .int, accessFlags := 2, slot := 2, constantValue := 0 }, { name := "line", type := (.object "java/lang/String"), accessFlags := 2, slot := 3, constantValue := 0 }]
  methods := #[k10m0]
  instanceTypes := #[(.object "java/io/BufferedReader"), (.object "java/lang/String"), .int, (.object "java/lang/String")]
  staticTypes := #[.int]
  resolved := Array.replicate 178 none
  statics := none }

def pool11 : Array CpInfo := pool [(1, .class_ 2), (0, u "java/lang/Appendable"), (0, .class_ 4), (0, u "java/lang/Object")] 9

/-- java/lang/Appendable -/
def k11 : Class := { plain "java/lang/Appendable" (some 0) with
  accessFlags := 1537
  interfaces := #[]
  cf := some (fileOf pool11 1 #[] #[] 1537 3 #[] #[])
  fields := #[]
  methods := #[]
  instanceTypes := #[]
  staticTypes := #[]
  resolved := Array.replicate 14 none
  statics := none }

def pool12 : Array CpInfo := pool [(1, .class_ 2), (0, u "java/lang/String"), (0, .methodref 4 5), (0, .class_ 6), (0, .nameAndType 7 8), (0, u "java/lang/Object"), (0, u "<init>"), (0, u "()V"), (1, .class_ 12), (1, u "java/lang/AbstractStringBuilder"), (0, u "EMPTYVALUE"), (0, u "[B"), (0, .fieldref 10 16), (0, .nameAndType 17 14), (0, u "value"), (0, .fieldref 1 19), (0, .nameAndType 20 21), (0, u "COMPACT_STRINGS"), (0, u "Z"), (0, .fieldref 10 23), (0, .nameAndType 24 25), (0, u "coder"), (0, u "B"), (6, .methodref 1 33), (0, .nameAndType 34 35), (0, u "length"), (0, u "()I"), (2, .integer 2147483631), (0, .integer 2147483647), (0, .methodref 1 41), (0, .nameAndType 24 42), (0, u "()B"), (0, .methodref 10 44), (0, .nameAndType 45 46), (0, u "append"), (0, u "(Ljava/lang/String;)Ljava/lang/AbstractStringBuilder;"), (1, .class_ 49), (0, u "java/lang/CharSequence"), (19, u "(Ljava/lang/String;)V"), (5, u "maybeLatin1"), (3, .fieldref 10 80), (0, .nameAndType 81 82), (0, u "count"), (0, u "I"), (0, .methodref 10 84), (0, .nameAndType 85 86), (0, u "isLatin1"), (0, u "()Z"), (1, .class_ 90), (1, u "java/lang/StringLatin1"), (9, .methodref 10 101), (0, .nameAndType 102 103), (0, u "ensureCapacityInternal"), (0, u "(I)V"), (0, .methodref 10 105), (0, .nameAndType 106 107), (0, u "newCapacity"), (0, u "(I)I"), (0, .methodref 109 110), (0, .class_ 111), (0, .nameAndType 112 113), (0, u "java/util/Arrays"), (0, u "copyOf"), (0, u "([BI)[B"), (0, .methodref 115 116), (0, .class_ 117), (0, .nameAndType 118 119), (0, u "jdk/internal/util/ArraysSupport"), (0, u "newLength"), (0, u "(III)I"), (71, .methodref 88 192), (0, .nameAndType 193 194), (0, u "canEncode"), (0, u "(C)Z"), (13, .methodref 10 209), (0, .nameAndType 210 211), (0, u "putStringAt"), (0, u "(ILjava/lang/String;)V"), (5, u "inflateIfNeededFor"), (2, .nameAndType 221 222), (0, u "getBytes"), (0, u "([BIB)V"), (69, u "(C)Ljava/lang/AbstractStringBuilder;"), (104, .methodref 10 398), (0, .nameAndType 217 69), (0, .methodref 1 220), (3, u "()[B"), (40, .class_ 445), (0, u "java/lang/Appendable"), (106, u "getValue")] 56

def k12m0 : Method := { name := "<init>", desc := "()V", sig := { parameters := [], returnType := none }, accessFlags := 0, code := none }
def k12c1 : Code := { maxStack := 2, maxLocals := 5, code := jdk_68_method_3_code, exceptionTable := #[], attributes := #[] }
def k12m1 : Method := { name := "<init>", desc := "(Ljava/lang/String;)V", sig := { parameters := [(.object "java/lang/String")], returnType := none }, accessFlags := 0, code := some k12c1 }
def k12c2 : Code := { maxStack := 1, maxLocals := 1, code := jdk_68_method_6_code, exceptionTable := #[], attributes := #[] }
def k12m2 : Method := { name := "length", desc := "()I", sig := { parameters := [], returnType := some .int }, accessFlags := 1, code := some k12c2 }
def k12c3 : Code := { maxStack := 4, maxLocals := 3, code := jdk_68_method_9_code, exceptionTable := #[], attributes := #[] }
def k12m3 : Method := { name := "ensureCapacityInternal", desc := "(I)V", sig := { parameters := [.int], returnType := none }, accessFlags := 2, code := some k12c3 }
def k12c4 : Code := { maxStack := 5, maxLocals := 6, code := jdk_68_method_10_code, exceptionTable := #[], attributes := #[] }
def k12m4 : Method := { name := "newCapacity", desc := "(I)I", sig := { parameters := [.int], returnType := some .int }, accessFlags := 2, code := some k12c4 }
def k12c5 : Code := { maxStack := 3, maxLocals := 3, code := jdk_68_method_22_code, exceptionTable := #[], attributes := #[] }
def k12m5 : Method := { name := "append", desc := "(Ljava/lang/String;)Ljava/lang/AbstractStringBuilder;", sig := { parameters := [(.object "java/lang/String")], returnType := some (.object "java/lang/AbstractStringBuilder") }, accessFlags := 1, code := some k12c5 }
def k12c6 : Code := { maxStack := 5, maxLocals := 2, code := jdk_68_method_31_code, exceptionTable := #[], attributes := #[] }
def k12m6 : Method := { name := "append", desc := "(C)Ljava/lang/AbstractStringBuilder;", sig := { parameters := [.char], returnType := some (.object "java/lang/AbstractStringBuilder") }, accessFlags := 1, code := some k12c6 }
def k12c7 : Code := { maxStack := 1, maxLocals := 1, code := jdk_68_method_64_code, exceptionTable := #[], attributes := #[] }
def k12m7 : Method := { name := "getValue", desc := "()[B", sig := { parameters := [], returnType := some (.array .byte) }, accessFlags := 16, code := some k12c7 }
def k12c8 : Code := { maxStack := 1, maxLocals := 1, code := jdk_68_method_68_code, exceptionTable := #[], attributes := #[] }
def k12m8 : Method := { name := "isLatin1", desc := "()Z", sig := { parameters := [], returnType := some .boolean }, accessFlags := 16, code := some k12c8 }
def k12c9 : Code := { maxStack := 2, maxLocals := 2, code := jdk_68_method_71_code, exceptionTable := #[], attributes := #[] }
def k12m9 : Method := { name := "inflateIfNeededFor", desc := "(Ljava/lang/String;)V", sig := { parameters := [(.object "java/lang/String")], returnType := none }, accessFlags := 2, code := some k12c9 }
def k12c10 : Code := { maxStack := 4, maxLocals := 3, code := jdk_68_method_73_code, exceptionTable := #[], attributes := #[] }
def k12m10 : Method := { name := "putStringAt", desc := "(ILjava/lang/String;)V", sig := { parameters := [.int, (.object "java/lang/String")], returnType := none }, accessFlags := 2, code := some k12c10 }
/-- java/lang/AbstractStringBuilder -/
def k12 : Class := { plain "java/lang/AbstractStringBuilder" (some 0) with
  accessFlags := 1056
  interfaces := #[11, 4]
  cf := some (fileOf pool12 10 #[] #[{ accessFlags := 0, nameIndex := 7, descriptorIndex := 8, attributes := #[] }, { accessFlags := 0, nameIndex := 7, descriptorIndex := 69, attributes := #[] }, { accessFlags := 1, nameIndex := 34, descriptorIndex := 35, attributes := #[] }, { accessFlags := 2, nameIndex := 102, descriptorIndex := 103, attributes := #[] }, { accessFlags := 2, nameIndex := 106, descriptorIndex := 107, attributes := #[] }, { accessFlags := 1, nameIndex := 45, descriptorIndex := 46, attributes := #[] }, { accessFlags := 1, nameIndex := 45, descriptorIndex := 292, attributes := #[] }, { accessFlags := 16, nameIndex := 552, descriptorIndex := 403, attributes := #[] }, { accessFlags := 16, nameIndex := 85, descriptorIndex := 86, attributes := #[] }, { accessFlags := 2, nameIndex := 217, descriptorIndex := 69, attributes := #[] }, { accessFlags := 2, nameIndex := 210, descriptorIndex := 211, attributes := #[] }] 1056 4 #[444, 48] #[{ accessFlags := 0, nameIndex := 17, descriptorIndex := 14, attributes := #[] }, { accessFlags := 0, nameIndex := 24, descriptorIndex := 25, attributes := #[] }, { accessFlags := 0, nameIndex := 75, descriptorIndex := 21, attributes := #[] }, { accessFlags := 0, nameIndex := 81, descriptorIndex := 82, attributes := #[] }, { accessFlags := 26, nameIndex := 13, descriptorIndex := 14, attributes := #[] }])
  fields := #[{ name := "value", type := (.array .byte), accessFlags := 0, slot := 0, constantValue := 0 }, { name := "coder", type := .byte, accessFlags := 0, slot := 1, constantValue := 0 }, { name := "maybeLatin1", type := .boolean, accessFlags := 0, slot := 2, constantValue := 0 }, { name := "count", type := .int, accessFlags := 0, slot := 3, constantValue := 0 }, { name := "EMPTYVALUE", type := (.array .byte), accessFlags := 26, slot := 0, constantValue := 0 }]
  methods := #[k12m0, k12m1, k12m2, k12m3, k12m4, k12m5, k12m6, k12m7, k12m8, k12m9, k12m10]
  instanceTypes := #[(.array .byte), .byte, .boolean, .int]
  staticTypes := #[(.array .byte)]
  resolved := Array.replicate 609 none
  statics := none }

def pool13 : Array CpInfo := pool [(2, .class_ 4), (1, u "java/lang/AbstractStringBuilder"), (0, u "<init>"), (1, .methodref 2 8), (0, .nameAndType 5 9), (0, u "(Ljava/lang/String;)V"), (8, .class_ 20), (1, u "java/lang/String"), (2, .methodref 24 25), (0, .class_ 26), (0, .nameAndType 27 28), (0, u "java/lang/StringBuilder"), (0, u "append"), (0, u "(Ljava/lang/String;)Ljava/lang/StringBuilder;"), (0, .methodref 2 30), (0, .nameAndType 27 31), (0, u "(Ljava/lang/String;)Ljava/lang/AbstractStringBuilder;"), (18, .methodref 2 51), (0, .nameAndType 27 52), (0, u "(C)Ljava/lang/AbstractStringBuilder;"), (84, .methodref 18 138), (0, .nameAndType 5 139), (0, u "(Ljava/lang/StringBuilder;)V"), (5, u "()V"), (10, u "()I"), (129, u "(C)Ljava/lang/StringBuilder;"), (56, .methodref 2 344), (0, .nameAndType 345 156), (0, u "length"), (3, .class_ 350), (0, u "java/lang/Appendable"), (0, .class_ 352), (0, u "java/io/Serializable"), (0, .class_ 354), (0, u "java/lang/Comparable"), (0, .class_ 356), (0, u "java/lang/CharSequence"), (0, u "serialVersionUID"), (0, u "J"), (40, u "toString"), (0, u "()Ljava/lang/String;")] 21

def k13m0 : Method := { name := "<init>", desc := "()V", sig := { parameters := [], returnType := none }, accessFlags := 1, code := none }
def k13c1 : Code := { maxStack := 2, maxLocals := 2, code := jdk_67_method_3_code, exceptionTable := #[], attributes := #[] }
def k13m1 : Method := { name := "<init>", desc := "(Ljava/lang/String;)V", sig := { parameters := [(.object "java/lang/String")], returnType := none }, accessFlags := 1, code := some k13c1 }
def k13c2 : Code := { maxStack := 2, maxLocals := 2, code := jdk_67_method_7_code, exceptionTable := #[], attributes := #[] }
def k13m2 : Method := { name := "append", desc := "(Ljava/lang/String;)Ljava/lang/StringBuilder;", sig := { parameters := [(.object "java/lang/String")], returnType := some (.object "java/lang/StringBuilder") }, accessFlags := 1, code := some k13c2 }
def k13c3 : Code := { maxStack := 2, maxLocals := 2, code := jdk_67_method_14_code, exceptionTable := #[], attributes := #[] }
def k13m3 : Method := { name := "append", desc := "(C)Ljava/lang/StringBuilder;", sig := { parameters := [.char], returnType := some (.object "java/lang/StringBuilder") }, accessFlags := 1, code := some k13c3 }
def k13c4 : Code := { maxStack := 3, maxLocals := 1, code := jdk_67_method_42_code, exceptionTable := #[], attributes := #[] }
def k13m4 : Method := { name := "toString", desc := "()Ljava/lang/String;", sig := { parameters := [], returnType := some (.object "java/lang/String") }, accessFlags := 1, code := some k13c4 }
def k13c5 : Code := { maxStack := 2, maxLocals := 2, code := jdk_67_method_80_code, exceptionTable := #[], attributes := #[] }
def k13m5 : Method := { name := "append", desc := "(Ljava/lang/String;)Ljava/lang/AbstractStringBuilder;", sig := { parameters := [(.object "java/lang/String")], returnType := some (.object "java/lang/AbstractStringBuilder") }, accessFlags := 4161, code := some k13c5 }
def k13c6 : Code := { maxStack := 1, maxLocals := 1, code := jdk_67_method_93_code, exceptionTable := #[], attributes := #[] }
def k13m6 : Method := { name := "length", desc := "()I", sig := { parameters := [], returnType := some .int }, accessFlags := 4161, code := some k13c6 }
/-- java/lang/StringBuilder -/
def k13 : Class := { plain "java/lang/StringBuilder" (some 12) with
  accessFlags := 49
  interfaces := #[11, 2, 3, 4]
  cf := some (fileOf pool13 24 #[] #[{ accessFlags := 1, nameIndex := 5, descriptorIndex := 145, attributes := #[] }, { accessFlags := 1, nameIndex := 5, descriptorIndex := 9, attributes := #[] }, { accessFlags := 1, nameIndex := 27, descriptorIndex := 28, attributes := #[] }, { accessFlags := 1, nameIndex := 27, descriptorIndex := 286, attributes := #[] }, { accessFlags := 1, nameIndex := 399, descriptorIndex := 400, attributes := #[] }, { accessFlags := 4161, nameIndex := 27, descriptorIndex := 31, attributes := #[] }, { accessFlags := 4161, nameIndex := 345, descriptorIndex := 156, attributes := #[] }] 49 2 #[349, 351, 353, 355] #[{ accessFlags := 24, nameIndex := 357, descriptorIndex := 358, attributes := #[] }])
  fields := #[{ name := "serialVersionUID", type := .long, accessFlags := 24, slot := 0, constantValue := 0 }]
  methods := #[k13m0, k13m1, k13m2, k13m3, k13m4, k13m5, k13m6]
  instanceTypes := #[(.array .byte), .byte, .boolean, .int]
  staticTypes := #[.long]
  resolved := Array.replicate 422 none
  statics := none }

def pool14 : Array CpInfo := pool [(2, .class_ 4), (1, u "java/lang/Object"), (0, u "<init>"), (0, u "()V"), (1, .class_ 10), (1, u "java/lang/System"), (0, u "allowSecurityManager"), (0, u "I"), (16, u "cons"), (0, u "Ljava/io/Console;"), (77, .class_ 110), (1, u "java/lang/System$CallersHolder"), (43, u "initialErrStream"), (0, u "Ljava/io/PrintStream;"), (19, u "security"), (0, u "Ljava/lang/SecurityManager;"), (31, .class_ 209), (0, u "java/lang/System$1"), (7, u "props"), (0, u "Ljava/util/Properties;"), (2, u "lineSeparator"), (0, u "Ljava/lang/String;"), (96, .class_ 321), (1, u "java/lang/System$LoggerFinder"), (5, .class_ 328), (0, u "java/lang/System$Logger"), (67, u "err"), (2, u "out"), (91, u "notSupportedJnuEncoding"), (15, u "in"), (17, u "initialIn"), (0, u "Ljava/io/InputStream;"), (35, u "bootLayer"), (0, u "Ljava/lang/ModuleLayer;"), (99, .class_ 664), (0, u "java/lang/System$2"), (9, u "NEVER"), (2, u "MAYBE"), (49, u "arraycopy"), (0, u "(Ljava/lang/Object;ILjava/lang/Object;II)V"), (72, .class_ 802), (0, u "java/lang/System$Logger$Level")] 31

def k14m0 : Method := { name := "<init>", desc := "()V", sig := { parameters := [], returnType := none }, accessFlags := 2, code := none }
def k14m1 : Method := { name := "arraycopy", desc := "(Ljava/lang/Object;ILjava/lang/Object;II)V", sig := { parameters := [(.object "java/lang/Object"), .int, (.object "java/lang/Object"), .int, .int], returnType := none }, accessFlags := 265, code := none }
/-- java/lang/System -/
def k14 : Class := { plain "java/lang/System" (some 0) with
  accessFlags := 49
  interfaces := #[]
  cf := some (fileOf pool14 8 #[.nestMembers #[319, 327, 801, 108, 663, 208]] #[{ accessFlags := 2, nameIndex := 5, descriptorIndex := 6, attributes := #[] }, { accessFlags := 265, nameIndex := 727, descriptorIndex := 728, attributes := #[] }] 49 2 #[] #[{ accessFlags := 25, nameIndex := 507, descriptorIndex := 526, attributes := #[] }, { accessFlags := 25, nameIndex := 399, descriptorIndex := 155, attributes := #[] }, { accessFlags := 25, nameIndex := 396, descriptorIndex := 155, attributes := #[] }, { accessFlags := 10, nameIndex := 525, descriptorIndex := 526, attributes := #[] }, { accessFlags := 26, nameIndex := 674, descriptorIndex := 12, attributes := #[] }, { accessFlags := 26, nameIndex := 677, descriptorIndex := 12, attributes := #[] }, { accessFlags := 10, nameIndex := 11, descriptorIndex := 12, attributes := #[] }, { accessFlags := 74, nameIndex := 175, descriptorIndex := 176, attributes := #[] }, { accessFlags := 10, nameIndex := 491, descriptorIndex := 222, attributes := #[] }, { accessFlags := 74, nameIndex := 29, descriptorIndex := 30, attributes := #[] }, { accessFlags := 74, nameIndex := 154, descriptorIndex := 155, attributes := #[] }, { accessFlags := 10, nameIndex := 217, descriptorIndex := 218, attributes := #[] }, { accessFlags := 10, nameIndex := 221, descriptorIndex := 222, attributes := #[] }, { accessFlags := 8, nameIndex := 562, descriptorIndex := 563, attributes := #[] }])
  fields := #[{ name := "in", type := (.object "java/io/InputStream"), accessFlags := 25, slot := 0, constantValue := 0 }, { name := "out", type := (.object "java/io/PrintStream"), accessFlags := 25, slot := 1, constantValue := 0 }, { name := "err", type := (.object "java/io/PrintStream"), accessFlags := 25, slot := 2, constantValue := 0 }, { name := "initialIn", type := (.object "java/io/InputStream"), accessFlags := 10, slot := 3, constantValue := 0 }, { name := "NEVER", type := .int, accessFlags := 26, slot := 4, constantValue := 0 }, { name := "MAYBE", type := .int, accessFlags := 26, slot := 5, constantValue := 0 }, { name := "allowSecurityManager", type := .int, accessFlags := 10, slot := 6, constantValue := 0 }, { name := "security", type := (.object "java/lang/SecurityManager"), accessFlags := 74, slot := 7, constantValue := 0 }, { name := "notSupportedJnuEncoding", type := (.object "java/lang/String"), accessFlags := 10, slot := 8, constantValue := 0 }, { name := "cons", type := (.object "java/io/Console"), accessFlags := 74, slot := 9, constantValue := 0 }, { name := "initialErrStream", type := (.object "java/io/PrintStream"), accessFlags := 74, slot := 10, constantValue := 0 }, { name := "props", type := (.object "java/util/Properties"), accessFlags := 10, slot := 11, constantValue := 0 }, { name := "lineSeparator", type := (.object "java/lang/String"), accessFlags := 10, slot := 12, constantValue := 0 }, { name := "bootLayer", type := (.object "java/lang/ModuleLayer"), accessFlags := 8, slot := 13, constantValue := 0 }]
  methods := #[k14m0, k14m1]
  instanceTypes := #[]
  staticTypes := #[(.object "java/io/InputStream"), (.object "java/io/PrintStream"), (.object "java/io/PrintStream"), (.object "java/io/InputStream"), .int, .int, .int, (.object "java/lang/SecurityManager"), (.object "java/lang/String"), (.object "java/io/Console"), (.object "java/io/PrintStream"), (.object "java/util/Properties"), (.object "java/lang/String"), (.object "java/lang/ModuleLayer")]
  resolved := Array.replicate 834 none
  statics := none }

def pool15 : Array CpInfo := pool [(1, .class_ 2), (0, u "java/lang/Math"), (1, .class_ 6), (1, u "java/lang/Object"), (0, u "<init>"), (0, u "()V"), (89, .class_ 100), (1, u "java/lang/Math$RandomNumberGeneratorHolder"), (71, u "negativeZeroFloatBits"), (0, u "J"), (2, u "negativeZeroDoubleBits"), (21, u "max"), (2, u "min"), (43, u "$assertionsDisabled"), (0, u "Z"), (88, u "(II)I"), (2, u "twoToTheDoubleScaleDown"), (0, u "D"), (4, u "twoToTheDoubleScaleUp"), (9, u "E"), (3, u "PI"), (2, u "TAU"), (2, u "DEGREES_TO_RADIANS"), (0, u "RADIANS_TO_DEGREES")] 94

def k15m0 : Method := { name := "<init>", desc := "()V", sig := { parameters := [], returnType := none }, accessFlags := 2, code := none }
def k15c1 : Code := { maxStack := 2, maxLocals := 2, code := jdk_29_method_65_code, exceptionTable := #[], attributes := #[] }
def k15m1 : Method := { name := "max", desc := "(II)I", sig := { parameters := [.int, .int], returnType := some .int }, accessFlags := 9, code := some k15c1 }
def k15c2 : Code := { maxStack := 2, maxLocals := 2, code := jdk_29_method_69_code, exceptionTable := #[], attributes := #[] }
def k15m2 : Method := { name := "min", desc := "(II)I", sig := { parameters := [.int, .int], returnType := some .int }, accessFlags := 9, code := some k15c2 }
/-- java/lang/Math -/
def k15 : Class := { plain "java/lang/Math" (some 0) with
  accessFlags := 49
  interfaces := #[]
  cf := some (fileOf pool15 1 #[.nestMembers #[98]] #[{ accessFlags := 2, nameIndex := 7, descriptorIndex := 8, attributes := #[] }, { accessFlags := 9, nameIndex := 198, descriptorIndex := 335, attributes := #[] }, { accessFlags := 9, nameIndex := 201, descriptorIndex := 335, attributes := #[] }] 49 4 #[] #[{ accessFlags := 25, nameIndex := 354, descriptorIndex := 339, attributes := #[] }, { accessFlags := 25, nameIndex := 358, descriptorIndex := 339, attributes := #[] }, { accessFlags := 25, nameIndex := 361, descriptorIndex := 339, attributes := #[] }, { accessFlags := 26, nameIndex := 364, descriptorIndex := 339, attributes := #[] }, { accessFlags := 26, nameIndex := 365, descriptorIndex := 339, attributes := #[] }, { accessFlags := 26, nameIndex := 172, descriptorIndex := 173, attributes := #[] }, { accessFlags := 26, nameIndex := 176, descriptorIndex := 173, attributes := #[] }, { accessFlags := 8, nameIndex := 344, descriptorIndex := 339, attributes := #[] }, { accessFlags := 8, nameIndex := 338, descriptorIndex := 339, attributes := #[] }, { accessFlags := 4120, nameIndex := 245, descriptorIndex := 246, attributes := #[] }])
  fields := #[{ name := "E", type := .double, accessFlags := 25, slot := 0, constantValue := 0 }, { name := "PI", type := .double, accessFlags := 25, slot := 1, constantValue := 0 }, { name := "TAU", type := .double, accessFlags := 25, slot := 2, constantValue := 0 }, { name := "DEGREES_TO_RADIANS", type := .double, accessFlags := 26, slot := 3, constantValue := 0 }, { name := "RADIANS_TO_DEGREES", type := .double, accessFlags := 26, slot := 4, constantValue := 0 }, { name := "negativeZeroFloatBits", type := .long, accessFlags := 26, slot := 5, constantValue := 0 }, { name := "negativeZeroDoubleBits", type := .long, accessFlags := 26, slot := 6, constantValue := 0 }, { name := "twoToTheDoubleScaleUp", type := .double, accessFlags := 8, slot := 7, constantValue := 0 }, { name := "twoToTheDoubleScaleDown", type := .double, accessFlags := 8, slot := 8, constantValue := 0 }, { name := "$assertionsDisabled", type := .boolean, accessFlags := 4120, slot := 9, constantValue := 0 }]
  methods := #[k15m0, k15m1, k15m2]
  instanceTypes := #[]
  staticTypes := #[.double, .double, .double, .double, .double, .long, .long, .double, .double, .boolean]
  resolved := Array.replicate 460 none
  statics := none }

def pool16 : Array CpInfo := pool [(1, .class_ 2), (0, u "java/lang/String"), (1, .class_ 6), (1, u "java/lang/Object"), (0, u "<init>"), (0, u "()V"), (0, .methodref 1 10), (0, .nameAndType 11 12), (0, u "checkIndex"), (0, u "(II)V"), (1, .class_ 16), (1, u "java/lang/StringLatin1"), (36, u "([BI)C"), (36, u "canEncode"), (14, u "(C)Z"), (15, u "$assertionsDisabled"), (0, u "Z"), (98, .class_ 223), (1, u "java/lang/StringLatin1$LinesSpliterator"), (28, u "charAt"), (137, .class_ 391), (0, u "java/lang/StringLatin1$CharsSpliterator")] 3

def k16m0 : Method := { name := "<init>", desc := "()V", sig := { parameters := [], returnType := none }, accessFlags := 0, code := none }
def k16c1 : Code := { maxStack := 2, maxLocals := 2, code := jdk_43_method_2_code, exceptionTable := #[], attributes := #[] }
def k16m1 : Method := { name := "charAt", desc := "([BI)C", sig := { parameters := [(.array .byte), .int], returnType := some .char }, accessFlags := 9, code := some k16c1 }
def k16c2 : Code := { maxStack := 2, maxLocals := 1, code := jdk_43_method_3_code, exceptionTable := #[], attributes := #[] }
def k16m2 : Method := { name := "canEncode", desc := "(C)Z", sig := { parameters := [.char], returnType := some .boolean }, accessFlags := 9, code := some k16c2 }
/-- java/lang/StringLatin1 -/
def k16 : Class := { plain "java/lang/StringLatin1" (some 0) with
  accessFlags := 48
  interfaces := #[]
  cf := some (fileOf pool16 14 #[.nestMembers #[390, 221]] #[{ accessFlags := 0, nameIndex := 7, descriptorIndex := 8, attributes := #[] }, { accessFlags := 9, nameIndex := 252, descriptorIndex := 53, attributes := #[] }, { accessFlags := 9, nameIndex := 90, descriptorIndex := 105, attributes := #[] }] 48 4 #[] #[{ accessFlags := 4120, nameIndex := 121, descriptorIndex := 122, attributes := #[] }])
  fields := #[{ name := "$assertionsDisabled", type := .boolean, accessFlags := 4120, slot := 0, constantValue := 0 }]
  methods := #[k16m0, k16m1, k16m2]
  instanceTypes := #[]
  staticTypes := #[.boolean]
  resolved := Array.replicate 395 none
  statics := none }

def pool17 : Array CpInfo := pool [(2, .class_ 4), (1, u "java/lang/Object"), (0, u "<init>"), (0, u "()V"), (7, .class_ 16), (1, u "java/util/Arrays"), (57, .class_ 76), (1, u "java/util/Arrays$NaturalOrder"), (36, .class_ 115), (1, u "java/util/Arrays$LegacyMergeSort"), (1, u "Z"), (21, u "copyOfRange"), (10, .methodref 151 152), (0, .class_ 153), (0, .nameAndType 154 155), (0, u "java/lang/System"), (0, u "arraycopy"), (0, u "(Ljava/lang/Object;ILjava/lang/Object;II)V"), (146, u "copyOf"), (1, .methodref 305 306), (0, .class_ 307), (0, .nameAndType 308 309), (0, u "java/lang/Math"), (0, u "min"), (0, u "(II)I"), (29, .methodref 14 340), (0, .nameAndType 341 342), (0, u "copyOfRangeByte"), (0, u "([BII)[B"), (0, .methodref 14 344), (0, .nameAndType 345 346), (0, u "checkLength"), (0, u "(II)V"), (28, .class_ 376), (0, u "java/util/Arrays$ArrayList"), (68, u "$assertionsDisabled"), (269, u "MIN_ARRAY_SORT_GRAN"), (0, u "I"), (2, u "INSERTIONSORT_THRESHOLD"), (149, u "([BI)[B"), (105, .class_ 976), (0, u "java/util/Arrays$ArrayItr")] 52

def k17m0 : Method := { name := "<init>", desc := "()V", sig := { parameters := [], returnType := none }, accessFlags := 2, code := none }
def k17c1 : Code := { maxStack := 6, maxLocals := 3, code := jdk_65_method_121_code, exceptionTable := #[], attributes := #[] }
def k17m1 : Method := { name := "copyOf", desc := "([BI)[B", sig := { parameters := [(.array .byte), .int], returnType := some (.array .byte) }, accessFlags := 9, code := some k17c1 }
def k17c2 : Code := { maxStack := 4, maxLocals := 2, code := jdk_65_method_131_code, exceptionTable := #[], attributes := #[] }
def k17m2 : Method := { name := "checkLength", desc := "(II)V", sig := { parameters := [.int, .int], returnType := none }, accessFlags := 10, code := some k17c2 }
def k17c3 : Code := { maxStack := 3, maxLocals := 3, code := jdk_65_method_132_code, exceptionTable := #[], attributes := #[] }
def k17m3 : Method := { name := "copyOfRange", desc := "([BII)[B", sig := { parameters := [(.array .byte), .int, .int], returnType := some (.array .byte) }, accessFlags := 9, code := some k17c3 }
def k17c4 : Code := { maxStack := 6, maxLocals := 5, code := jdk_65_method_133_code, exceptionTable := #[], attributes := #[] }
def k17m4 : Method := { name := "copyOfRangeByte", desc := "([BII)[B", sig := { parameters := [(.array .byte), .int, .int], returnType := some (.array .byte) }, accessFlags := 10, code := some k17c4 }
/-- java/util/Arrays -/
def k17 : Class := { plain "java/util/Arrays" (some 0) with
  accessFlags := 49
  interfaces := #[]
  cf := some (fileOf pool17 14 #[.nestMembers #[975, 375, 113, 74]] #[{ accessFlags := 2, nameIndex := 5, descriptorIndex := 6, attributes := #[] }, { accessFlags := 9, nameIndex := 302, descriptorIndex := 869, attributes := #[] }, { accessFlags := 10, nameIndex := 345, descriptorIndex := 346, attributes := #[] }, { accessFlags := 9, nameIndex := 139, descriptorIndex := 342, attributes := #[] }, { accessFlags := 10, nameIndex := 341, descriptorIndex := 342, attributes := #[] }] 49 2 #[] #[{ accessFlags := 26, nameIndex := 715, descriptorIndex := 716, attributes := #[] }, { accessFlags := 26, nameIndex := 719, descriptorIndex := 716, attributes := #[] }, { accessFlags := 4120, nameIndex := 445, descriptorIndex := 117, attributes := #[] }])
  fields := #[{ name := "MIN_ARRAY_SORT_GRAN", type := .int, accessFlags := 26, slot := 0, constantValue := 0 }, { name := "INSERTIONSORT_THRESHOLD", type := .int, accessFlags := 26, slot := 1, constantValue := 0 }, { name := "$assertionsDisabled", type := .boolean, accessFlags := 4120, slot := 2, constantValue := 0 }]
  methods := #[k17m0, k17m1, k17m2, k17m3, k17m4]
  instanceTypes := #[]
  staticTypes := #[.int, .int, .boolean]
  resolved := Array.replicate 1029 none
  statics := none }

def pool18 : Array CpInfo := pool [(2, .class_ 4), (1, u "java/lang/Object"), (0, u "<init>"), (0, u "()V"), (17, .class_ 26), (1, u "jdk/internal/util/Preconditions"), (6, u "checkIndex"), (21, .class_ 56), (0, u "jdk/internal/util/Preconditions$4"), (57, .class_ 115), (0, u "jdk/internal/util/Preconditions$1"), (7, u "SIOOBE_FORMATTER"), (0, u "Ljava/util/function/BiFunction;"), (0, .class_ 126), (0, u "jdk/internal/util/Preconditions$2"), (3, u "AIOOBE_FORMATTER"), (0, .class_ 132), (0, u "jdk/internal/util/Preconditions$3"), (3, u "IOOBE_FORMATTER"), (41, u "(IILjava/util/function/BiFunction;)I")] 15

def k18m0 : Method := { name := "<init>", desc := "()V", sig := { parameters := [], returnType := none }, accessFlags := 1, code := none }
def k18c1 : Code := { maxStack := 3, maxLocals := 3, code := jdk_41_method_11_code, exceptionTable := #[], attributes := #[] }
def k18m1 : Method := { name := "checkIndex", desc := "(IILjava/util/function/BiFunction;)I", sig := { parameters := [.int, .int, (.object "java/util/function/BiFunction")], returnType := some .int }, accessFlags := 9, code := some k18c1 }
/-- jdk/internal/util/Preconditions -/
def k18 : Class := { plain "jdk/internal/util/Preconditions" (some 0) with
  accessFlags := 33
  interfaces := #[]
  cf := some (fileOf pool18 24 #[.nestMembers #[55, 131, 125, 114]] #[{ accessFlags := 1, nameIndex := 5, descriptorIndex := 6, attributes := #[] }, { accessFlags := 9, nameIndex := 33, descriptorIndex := 178, attributes := #[] }] 33 2 #[] #[{ accessFlags := 25, nameIndex := 123, descriptorIndex := 124, attributes := #[] }, { accessFlags := 25, nameIndex := 130, descriptorIndex := 124, attributes := #[] }, { accessFlags := 25, nameIndex := 136, descriptorIndex := 124, attributes := #[] }])
  fields := #[{ name := "SIOOBE_FORMATTER", type := (.object "java/util/function/BiFunction"), accessFlags := 25, slot := 0, constantValue := 0 }, { name := "AIOOBE_FORMATTER", type := (.object "java/util/function/BiFunction"), accessFlags := 25, slot := 1, constantValue := 0 }, { name := "IOOBE_FORMATTER", type := (.object "java/util/function/BiFunction"), accessFlags := 25, slot := 2, constantValue := 0 }]
  methods := #[k18m0, k18m1]
  instanceTypes := #[]
  staticTypes := #[(.object "java/util/function/BiFunction"), (.object "java/util/function/BiFunction"), (.object "java/util/function/BiFunction")]
  resolved := Array.replicate 194 none
  statics := some 1 }

def pool19 : Array CpInfo := pool [(3, .class_ 4), (0, u "java/lang/String"), (1, .class_ 8), (1, u "java/lang/Object"), (0, u "<init>"), (0, u "()V"), (0, .methodref 12 13), (0, .class_ 14), (0, .nameAndType 15 16), (0, u "java/lang/StringUTF16"), (0, u "newBytesLength"), (0, u "(I)I"), (3, .integer 1073741823), (23, .fieldref 12 45), (0, .nameAndType 46 47), (0, u "$assertionsDisabled"), (0, u "Z"), (0, .methodref 12 49), (0, .nameAndType 50 51), (0, u "length"), (0, u "([B)I"), (7, .fieldref 12 60), (0, .nameAndType 61 62), (0, u "HI_BYTE_SHIFT"), (0, u "I"), (0, .fieldref 12 64), (0, .nameAndType 65 62), (0, u "LO_BYTE_SHIFT"), (1, .methodref 12 68), (0, .nameAndType 69 70), (0, u "checkIndex"), (0, u "(I[B)V"), (0, .methodref 12 72), (0, .nameAndType 73 74), (0, u "getChar"), (0, u "([BI)C"), (32, .methodref 12 108), (0, .nameAndType 109 110), (0, u "newBytesFor"), (0, u "(I)[B"), (0, .methodref 12 112), (0, .nameAndType 113 114), (0, u "putChar"), (0, u "([BII)V"), (0, .methodref 12 116), (0, .nameAndType 117 118), (0, u "compress"), (0, u "([CI[BII)I"), (0, .methodref 12 120), (0, .nameAndType 121 122), (0, u "toBytes"), (0, u "([CII)[B"), (138, u "coderFromArrayLen"), (0, u "([BI)B"), (106, .class_ 371), (1, u "java/lang/StringUTF16$LinesSpliterator"), (20, u "charAt"), (21, .methodref 3 415), (0, .nameAndType 69 416), (0, u "(II)V"), (13, u "MAX_LENGTH"), (196, .class_ 628), (0, u "java/lang/StringUTF16$CodePointsSpliterator"), (0, .class_ 630), (0, u "java/lang/StringUTF16$CharsSpliterator")] 4

def k19m0 : Method := { name := "<init>", desc := "()V", sig := { parameters := [], returnType := none }, accessFlags := 0, code := none }
def k19c1 : Code := { maxStack := 1, maxLocals := 1, code := jdk_52_method_2_code, exceptionTable := #[], attributes := #[] }
def k19m1 : Method := { name := "newBytesFor", desc := "(I)[B", sig := { parameters := [.int], returnType := some (.array .byte) }, accessFlags := 9, code := some k19c1 }
def k19c2 : Code := { maxStack := 4, maxLocals := 1, code := jdk_52_method_3_code, exceptionTable := #[], attributes := #[] }
def k19m2 : Method := { name := "newBytesLength", desc := "(I)I", sig := { parameters := [.int], returnType := some .int }, accessFlags := 9, code := some k19c2 }
def k19c3 : Code := { maxStack := 4, maxLocals := 3, code := jdk_52_method_4_code, exceptionTable := #[], attributes := #[] }
def k19m3 : Method := { name := "putChar", desc := "([BII)V", sig := { parameters := [(.array .byte), .int, .int], returnType := none }, accessFlags := 8, code := some k19c3 }
def k19c4 : Code := { maxStack := 3, maxLocals := 2, code := jdk_52_method_5_code, exceptionTable := #[], attributes := #[] }
def k19m4 : Method := { name := "getChar", desc := "([BI)C", sig := { parameters := [(.array .byte), .int], returnType := some .char }, accessFlags := 8, code := some k19c4 }
def k19c5 : Code := { maxStack := 2, maxLocals := 1, code := jdk_52_method_6_code, exceptionTable := #[], attributes := #[] }
def k19m5 : Method := { name := "length", desc := "([B)I", sig := { parameters := [(.array .byte)], returnType := some .int }, accessFlags := 9, code := some k19c5 }
def k19c6 : Code := { maxStack := 4, maxLocals := 5, code := jdk_52_method_14_code, exceptionTable := #[], attributes := #[] }
def k19m6 : Method := { name := "toBytes", desc := "([CII)[B", sig := { parameters := [(.array .char), .int, .int], returnType := some (.array .byte) }, accessFlags := 9, code := some k19c6 }
def k19c7 : Code := { maxStack := 2, maxLocals := 2, code := jdk_52_method_15_code, exceptionTable := #[], attributes := #[] }
def k19m7 : Method := { name := "coderFromArrayLen", desc := "([BI)B", sig := { parameters := [(.array .byte), .int], returnType := some .byte }, accessFlags := 8, code := some k19c7 }
def k19c8 : Code := { maxStack := 5, maxLocals := 6, code := jdk_52_method_16_code, exceptionTable := #[], attributes := #[] }
def k19m8 : Method := { name := "compress", desc := "([CII)[B", sig := { parameters := [(.array .char), .int, .int], returnType := some (.array .byte) }, accessFlags := 9, code := some k19c8 }
def k19c9 : Code := { maxStack := 3, maxLocals := 7, code := jdk_52_method_21_code, exceptionTable := #[], attributes := #[] }
def k19m9 : Method := { name := "compress", desc := "([CI[BII)I", sig := { parameters := [(.array .char), .int, (.array .byte), .int, .int], returnType := some .int }, accessFlags := 9, code := some k19c9 }
def k19c10 : Code := { maxStack := 2, maxLocals := 2, code := jdk_52_method_83_code, exceptionTable := #[], attributes := #[] }
def k19m10 : Method := { name := "charAt", desc := "([BI)C", sig := { parameters := [(.array .byte), .int], returnType := some .char }, accessFlags := 9, code := some k19c10 }
def k19c11 : Code := { maxStack := 2, maxLocals := 2, code := jdk_52_method_91_code, exceptionTable := #[], attributes := #[] }
def k19m11 : Method := { name := "checkIndex", desc := "(I[B)V", sig := { parameters := [.int, (.array .byte)], returnType := none }, accessFlags := 9, code := some k19c11 }
/-- java/lang/StringUTF16 -/
def k19 : Class := { plain "java/lang/StringUTF16" (some 0) with
  accessFlags := 48
  interfaces := #[]
  cf := some (fileOf pool19 12 #[.nestMembers #[627, 629, 369]] #[{ accessFlags := 0, nameIndex := 9, descriptorIndex := 10, attributes := #[] }, { accessFlags := 9, nameIndex := 109, descriptorIndex := 110, attributes := #[] }, { accessFlags := 9, nameIndex := 15, descriptorIndex := 16, attributes := #[] }, { accessFlags := 8, nameIndex := 113, descriptorIndex := 114, attributes := #[] }, { accessFlags := 8, nameIndex := 73, descriptorIndex := 74, attributes := #[] }, { accessFlags := 9, nameIndex := 50, descriptorIndex := 51, attributes := #[] }, { accessFlags := 9, nameIndex := 121, descriptorIndex := 122, attributes := #[] }, { accessFlags := 8, nameIndex := 261, descriptorIndex := 262, attributes := #[] }, { accessFlags := 9, nameIndex := 117, descriptorIndex := 122, attributes := #[] }, { accessFlags := 9, nameIndex := 117, descriptorIndex := 118, attributes := #[] }, { accessFlags := 9, nameIndex := 392, descriptorIndex := 74, attributes := #[] }, { accessFlags := 9, nameIndex := 69, descriptorIndex := 70, attributes := #[] }] 48 6 #[] #[{ accessFlags := 26, nameIndex := 61, descriptorIndex := 62, attributes := #[] }, { accessFlags := 26, nameIndex := 65, descriptorIndex := 62, attributes := #[] }, { accessFlags := 24, nameIndex := 430, descriptorIndex := 62, attributes := #[] }, { accessFlags := 4120, nameIndex := 46, descriptorIndex := 47, attributes := #[] }])
  fields := #[{ name := "HI_BYTE_SHIFT", type := .int, accessFlags := 26, slot := 0, constantValue := 0 }, { name := "LO_BYTE_SHIFT", type := .int, accessFlags := 26, slot := 1, constantValue := 0 }, { name := "MAX_LENGTH", type := .int, accessFlags := 24, slot := 2, constantValue := 0 }, { name := "$assertionsDisabled", type := .boolean, accessFlags := 4120, slot := 3, constantValue := 0 }]
  methods := #[k19m0, k19m1, k19m2, k19m3, k19m4, k19m5, k19m6, k19m7, k19m8, k19m9, k19m10, k19m11]
  instanceTypes := #[]
  staticTypes := #[.int, .int, .int, .boolean]
  resolved := Array.replicate 635 none
  statics := some 2 }

def pool20 : Array CpInfo := pool [(9, u "<init>"), (6, .class_ 18), (1, u "java/lang/Object"), (0, u "()V"), (1, .class_ 23), (1, u "jdk/internal/util/ArraysSupport"), (0, u "LOG2_ARRAY_LONG_INDEX_SCALE"), (0, u "I"), (2, u "U"), (0, u "Ljdk/internal/misc/Unsafe;"), (8, u "BIG_ENDIAN"), (0, u "Z"), (8, u "LOG2_BYTE_BIT_SIZE"), (4, u "LOG2_ARRAY_INT_INDEX_SCALE"), (54, u "JLA"), (0, u "Ljdk/internal/access/JavaLangAccess;"), (11, u "LOG2_ARRAY_BOOLEAN_INDEX_SCALE"), (9, u "LOG2_ARRAY_BYTE_INDEX_SCALE"), (5, u "LOG2_ARRAY_CHAR_INDEX_SCALE"), (5, u "LOG2_ARRAY_SHORT_INDEX_SCALE"), (18, u "LOG2_ARRAY_FLOAT_INDEX_SCALE"), (24, u "LOG2_ARRAY_DOUBLE_INDEX_SCALE"), (6, .methodref 195 196), (0, .class_ 197), (0, .nameAndType 198 199), (0, u "java/lang/Math"), (0, u "max"), (0, u "(II)I"), (0, .integer 2147483639), (76, u "T_BOOLEAN"), (2, u "T_CHAR"), (1, u "T_FLOAT"), (1, u "T_DOUBLE"), (1, u "T_BYTE"), (1, u "T_SHORT"), (1, u "T_INT"), (1, u "T_LONG"), (1, u "SOFT_MAX_ARRAY_LENGTH"), (56, u "newLength"), (0, u "(III)I")] 25

def k20m0 : Method := { name := "<init>", desc := "()V", sig := { parameters := [], returnType := none }, accessFlags := 2, code := none }
def k20c1 : Code := { maxStack := 3, maxLocals := 4, code := jdk_48_method_27_code, exceptionTable := #[], attributes := #[] }
def k20m1 : Method := { name := "newLength", desc := "(III)I", sig := { parameters := [.int, .int, .int], returnType := some .int }, accessFlags := 9, code := some k20c1 }
/-- jdk/internal/util/ArraysSupport -/
def k20 : Class := { plain "jdk/internal/util/ArraysSupport" (some 0) with
  accessFlags := 33
  interfaces := #[]
  cf := some (fileOf pool20 21 #[] #[{ accessFlags := 2, nameIndex := 9, descriptorIndex := 19, attributes := #[] }, { accessFlags := 9, nameIndex := 351, descriptorIndex := 352, attributes := #[] }] 33 16 #[] #[{ accessFlags := 24, nameIndex := 28, descriptorIndex := 29, attributes := #[] }, { accessFlags := 26, nameIndex := 38, descriptorIndex := 39, attributes := #[] }, { accessFlags := 25, nameIndex := 121, descriptorIndex := 25, attributes := #[] }, { accessFlags := 25, nameIndex := 131, descriptorIndex := 25, attributes := #[] }, { accessFlags := 25, nameIndex := 137, descriptorIndex := 25, attributes := #[] }, { accessFlags := 25, nameIndex := 143, descriptorIndex := 25, attributes := #[] }, { accessFlags := 25, nameIndex := 53, descriptorIndex := 25, attributes := #[] }, { accessFlags := 25, nameIndex := 24, descriptorIndex := 25, attributes := #[] }, { accessFlags := 25, nameIndex := 162, descriptorIndex := 25, attributes := #[] }, { accessFlags := 25, nameIndex := 187, descriptorIndex := 25, attributes := #[] }, { accessFlags := 26, nameIndex := 48, descriptorIndex := 25, attributes := #[] }, { accessFlags := 25, nameIndex := 277, descriptorIndex := 25, attributes := #[] }, { accessFlags := 25, nameIndex := 280, descriptorIndex := 25, attributes := #[] }, { accessFlags := 25, nameIndex := 282, descriptorIndex := 25, attributes := #[] }, { accessFlags := 25, nameIndex := 284, descriptorIndex := 25, attributes := #[] }, { accessFlags := 25, nameIndex := 286, descriptorIndex := 25, attributes := #[] }, { accessFlags := 25, nameIndex := 288, descriptorIndex := 25, attributes := #[] }, { accessFlags := 25, nameIndex := 290, descriptorIndex := 25, attributes := #[] }, { accessFlags := 25, nameIndex := 292, descriptorIndex := 25, attributes := #[] }, { accessFlags := 26, nameIndex := 108, descriptorIndex := 109, attributes := #[] }, { accessFlags := 25, nameIndex := 294, descriptorIndex := 25, attributes := #[] }])
  fields := #[{ name := "U", type := (.object "jdk/internal/misc/Unsafe"), accessFlags := 24, slot := 0, constantValue := 0 }, { name := "BIG_ENDIAN", type := .boolean, accessFlags := 26, slot := 1, constantValue := 0 }, { name := "LOG2_ARRAY_BOOLEAN_INDEX_SCALE", type := .int, accessFlags := 25, slot := 2, constantValue := 0 }, { name := "LOG2_ARRAY_BYTE_INDEX_SCALE", type := .int, accessFlags := 25, slot := 3, constantValue := 0 }, { name := "LOG2_ARRAY_CHAR_INDEX_SCALE", type := .int, accessFlags := 25, slot := 4, constantValue := 0 }, { name := "LOG2_ARRAY_SHORT_INDEX_SCALE", type := .int, accessFlags := 25, slot := 5, constantValue := 0 }, { name := "LOG2_ARRAY_INT_INDEX_SCALE", type := .int, accessFlags := 25, slot := 6, constantValue := 0 }, { name := "LOG2_ARRAY_LONG_INDEX_SCALE", type := .int, accessFlags := 25, slot := 7, constantValue := 0 }, { name := "LOG2_ARRAY_FLOAT_INDEX_SCALE", type := .int, accessFlags := 25, slot := 8, constantValue := 0 }, { name := "LOG2_ARRAY_DOUBLE_INDEX_SCALE", type := .int, accessFlags := 25, slot := 9, constantValue := 0 }, { name := "LOG2_BYTE_BIT_SIZE", type := .int, accessFlags := 26, slot := 10, constantValue := 0 }, { name := "T_BOOLEAN", type := .int, accessFlags := 25, slot := 11, constantValue := 0 }, { name := "T_CHAR", type := .int, accessFlags := 25, slot := 12, constantValue := 0 }, { name := "T_FLOAT", type := .int, accessFlags := 25, slot := 13, constantValue := 0 }, { name := "T_DOUBLE", type := .int, accessFlags := 25, slot := 14, constantValue := 0 }, { name := "T_BYTE", type := .int, accessFlags := 25, slot := 15, constantValue := 0 }, { name := "T_SHORT", type := .int, accessFlags := 25, slot := 16, constantValue := 0 }, { name := "T_INT", type := .int, accessFlags := 25, slot := 17, constantValue := 0 }, { name := "T_LONG", type := .int, accessFlags := 25, slot := 18, constantValue := 0 }, { name := "JLA", type := (.object "jdk/internal/access/JavaLangAccess"), accessFlags := 26, slot := 19, constantValue := 0 }, { name := "SOFT_MAX_ARRAY_LENGTH", type := .int, accessFlags := 25, slot := 20, constantValue := 0 }]
  methods := #[k20m0, k20m1]
  instanceTypes := #[]
  staticTypes := #[(.object "jdk/internal/misc/Unsafe"), .boolean, .int, .int, .int, .int, .int, .int, .int, .int, .int, .int, .int, .int, .int, .int, .int, .int, .int, (.object "jdk/internal/access/JavaLangAccess"), .int]
  resolved := Array.replicate 378 none
  statics := none }

def pool21 : Array CpInfo := pool [(1, u "java/lang/Cloneable"), (0, .class_ 1), (0, u "java/lang/Object"), (0, .class_ 3)] 3

/-- java/lang/Cloneable -/
def k21 : Class := { plain "java/lang/Cloneable" (some 0) with
  accessFlags := 1537
  interfaces := #[]
  cf := some (fileOf pool21 2 #[] #[] 1537 4 #[] #[])
  fields := #[]
  methods := #[]
  instanceTypes := #[]
  staticTypes := #[]
  resolved := Array.replicate 8 none
  statics := none }

/-- the primitive byte -/
def k22 : Class := { plain "byte" none with kind := .primitive 'B', accessFlags := 0x411 }
/-- [B -/
def k23 : Class := { plain "[B" (some 0) with kind := .array 22 .byte, interfaces := #[21, 2], accessFlags := 1041 }

/-- the primitive char -/
def k24 : Class := { plain "char" none with kind := .primitive 'C', accessFlags := 0x411 }
/-- [C -/
def k25 : Class := { plain "[C" (some 0) with kind := .array 24 .char, interfaces := #[21, 2], accessFlags := 1041 }

/-- the primitive int -/
def k26 : Class := { plain "int" none with kind := .primitive 'I', accessFlags := 0x411 }
/-- [I -/
def k27 : Class := { plain "[I" (some 0) with kind := .array 26 .int, interfaces := #[21, 2], accessFlags := 1041 }

def heap : Heap := #[{ cls := 7, slots := #[.long 0, .int 1, .null, .int 0, .null, .int 0, .int 0], vm := .statics 7 },
  { cls := 18, slots := #[.null, .null, .null], vm := .statics 18 },
  { cls := 19, slots := #[.int 0, .int 8, .int 0, .int 1], vm := .statics 19 }]
def classes : Array Class := #[k0, k1, k2, k3, k4, k5, k6, k7, k8, k9, k10, k11, k12, k13, k14, k15, k16, k17, k18, k19, k20, k21, k22, k23, k24, k25, k26, k27]
def interned : List (Array UInt16 × Addr) := []
def slotsUsed : Nat := 14
def theMethod : MethodId := ⟨1, 1⟩
def args0 : Array Value := #[.int 5, .int 1, .int 2, .int 3, .int 4]
def aboutOver (below : List Frame) : State where
  vm := { classes := classes, interned := interned.toArray }
  heap := heap
  slotsUsed := slotsUsed
  threads := #[{ frames := .invoking theMethod args0 :: below }]
def below0 : List Frame := [.native { method := ⟨0, 0⟩, args := #[] }]
def about1 : State := aboutOver below0
def p0 : Program := .bare "" "" ""
def e0 : Env := launch0.env 0 0 0
theorem w_frames : about1.frames = Frame.invoking theMethod args0 :: below0 := rfl
set_option maxRecDepth 65536 in
theorem w_args : argsFit about1.vm theMethod args0 = true := by decide +kernel
set_option maxRecDepth 65536 in
theorem w_heap : heapFits about1 = true := by decide +kernel
set_option maxRecDepth 65536 in
theorem w_runnable : about1.curStatus? = some .runnable := by decide +kernel
set_option maxRecDepth 65536 in
theorem w_alone : about1.alone = true := by decide +kernel
set_option maxRecDepth 65536 in
theorem w_named : about1.methodNamed? x = some theMethod := by decide +kernel
set_option maxRecDepth 65536 in
theorem w_hears : about1.hears theMethod below0 = true := by decide +kernel
set_option maxRecDepth 65536 in
theorem w_ripe : about1.ripe theMethod args0 below0 = true := by decide +kernel
theorem w_running : about1.status = .running := rfl
set_option maxRecDepth 65536 in
theorem w_room : about1.hasRoom e0.platform room_1 = true :=
  launch0.hasRoom_least _ room_1 (by decide +kernel) (by decide +kernel) (by decide +kernel) (by decide +kernel) (by decide +kernel) (by decide +kernel)
theorem allAtoms_all (ts : List Jvm.Cond) (a : Array Jvm.Value) (st : Jvm.State) : (allAtoms ts).before a st = ts.all (fun c => c.before a st) := by
  induction ts with
  | nil => rfl
  | cons c t ih =>
    show (Jvm.Cond.and c (allAtoms t)).before a st = _
    rw [Jvm.Cond.before_and, ih, List.all_cons]
def words1 : List Jvm.Cond := Jvm.Cond.code x code maxLocals ret :: tables_1
/-- a 'code' word, met by the world's own term for the bytes: nothing is compared byte by byte -/
theorem code_word {y : MethodName} {bytes : ByteArray} {mx : Nat} {rt : Option FieldType} {a : Array Value} {s : State} {m : MethodId} {meth : Method} {c : Code} (h1 : s.methodNamed? y = some m) (h2 : s.vm.method? m = some meth) (h3 : meth.code = some c) (h4 : c.code = bytes)
    (h5 : (c.maxLocals == mx && c.exceptionTable.isEmpty && decide (c.maxStack ≤ mostOperands) && decide (meth.sig.returnType = rt) && !meth.locks && decide (parseMethodDescriptor y.desc = some meth.sig)) = true) : (Jvm.Cond.code y bytes mx rt).before a s = true := by
  simp only [Bool.and_eq_true, beq_iff_eq, Bool.not_eq_true', decide_eq_true_eq] at h5
  obtain ⟨⟨⟨⟨⟨g1, g2⟩, g3⟩, g4⟩, g5⟩, g6⟩ := h5
  simp [Cond.before, Cond.holds, Cond.value, h1, h2, h3, h4, g1, g2, g3, g4, g5, g6]
def isCode : Jvm.Cond → Bool
  | .code _ _ _ _ => true
  | _ => false
theorem all_split {L : List Jvm.Cond} {P : Jvm.Cond → Bool} (h1 : L.all (fun c => isCode c || P c) = true) (h2 : ∀ c ∈ L.filter isCode, P c = true) : L.all P = true := by
  refine List.all_eq_true.mpr fun c hc => ?_
  have h := List.all_eq_true.mp h1 c hc
  rcases Bool.eq_false_or_eq_true (isCode c) with hi | hi
  · exact h2 c (List.mem_filter.mpr ⟨hc, hi⟩)
  · simpa [hi] using h
set_option maxRecDepth 65536 in
theorem w_c0 : (Jvm.Cond.code x code maxLocals ret).before args0 about1 = true := code_word (m := ⟨1, 1⟩) (meth := k1m1) (c := k1c1) (by decide +kernel) rfl rfl rfl (by decide +kernel)
set_option maxRecDepth 65536 in
theorem w_c1 : (Jvm.Cond.code ({ cls := "com/example/paretolio/paretolio/RecordReaderQuotePinLaw", name := "alloc", desc := "(I)[C" } : Jvm.MethodName) method_5_code (1 : Nat) (Option.some (Jvm.ClassFile.FieldType.array Jvm.ClassFile.FieldType.char))).before args0 about1 = true := code_word (m := ⟨1, 4⟩) (meth := k1m4) (c := k1c4) (by decide +kernel) rfl rfl rfl (by decide +kernel)
set_option maxRecDepth 65536 in
theorem w_c2 : (Jvm.Cond.code ({ cls := "java/lang/String", name := "<init>", desc := "([C)V" } : Jvm.MethodName) jdk_42_method_3_code (2 : Nat) (Option.none : Option Jvm.ClassFile.FieldType)).before args0 about1 = true := code_word (m := ⟨7, 1⟩) (meth := k7m1) (c := k7c1) (by decide +kernel) rfl rfl rfl (by decide +kernel)
set_option maxRecDepth 65536 in
theorem w_c3 : (Jvm.Cond.code ({ cls := "java/lang/String", name := "<init>", desc := "([CIILjava/lang/Void;)V" } : Jvm.MethodName) jdk_42_method_149_code (6 : Nat) (Option.none : Option Jvm.ClassFile.FieldType)).before args0 about1 = true := code_word (m := ⟨7, 6⟩) (meth := k7m6) (c := k7c6) (by decide +kernel) rfl rfl rfl (by decide +kernel)
set_option maxRecDepth 65536 in
theorem w_c4 : (Jvm.Cond.code ({ cls := "java/lang/Object", name := "<init>", desc := "()V" } : Jvm.MethodName) object_method_1_code (1 : Nat) (Option.none : Option Jvm.ClassFile.FieldType)).before args0 about1 = true := code_word (m := ⟨0, 0⟩) (meth := k0m0) (c := k0c0) (by decide +kernel) rfl rfl rfl (by decide +kernel)
set_option maxRecDepth 65536 in
theorem w_c5 : (Jvm.Cond.code ({ cls := "com/example/paretolio/paretolio/RecordReader", name := "quote", desc := "(Ljava/lang/String;)Ljava/lang/String;" } : Jvm.MethodName) prog_11_method_10_code (4 : Nat) (Option.some (Jvm.ClassFile.FieldType.object "java/lang/String"))).before args0 about1 = true := code_word (m := ⟨10, 0⟩) (meth := k10m0) (c := k10c0) (by decide +kernel) rfl rfl rfl (by decide +kernel)
set_option maxRecDepth 65536 in
theorem w_c6 : (Jvm.Cond.code ({ cls := "java/lang/StringBuilder", name := "<init>", desc := "(Ljava/lang/String;)V" } : Jvm.MethodName) jdk_67_method_3_code (2 : Nat) (Option.none : Option Jvm.ClassFile.FieldType)).before args0 about1 = true := code_word (m := ⟨13, 1⟩) (meth := k13m1) (c := k13c1) (by decide +kernel) rfl rfl rfl (by decide +kernel)
set_option maxRecDepth 65536 in
theorem w_c7 : (Jvm.Cond.code ({ cls := "java/lang/AbstractStringBuilder", name := "<init>", desc := "(Ljava/lang/String;)V" } : Jvm.MethodName) jdk_68_method_3_code (5 : Nat) (Option.none : Option Jvm.ClassFile.FieldType)).before args0 about1 = true := code_word (m := ⟨12, 1⟩) (meth := k12m1) (c := k12c1) (by decide +kernel) rfl rfl rfl (by decide +kernel)
set_option maxRecDepth 65536 in
theorem w_c8 : (Jvm.Cond.code ({ cls := "java/lang/String", name := "length", desc := "()I" } : Jvm.MethodName) jdk_42_method_54_code (1 : Nat) (Option.some Jvm.ClassFile.FieldType.int)).before args0 about1 = true := code_word (m := ⟨7, 3⟩) (meth := k7m3) (c := k7c3) (by decide +kernel) rfl rfl rfl (by decide +kernel)
set_option maxRecDepth 65536 in
theorem w_c9 : (Jvm.Cond.code ({ cls := "java/lang/String", name := "coder", desc := "()B" } : Jvm.MethodName) jdk_42_method_152_code (1 : Nat) (Option.some Jvm.ClassFile.FieldType.byte)).before args0 about1 = true := code_word (m := ⟨7, 8⟩) (meth := k7m8) (c := k7c8) (by decide +kernel) rfl rfl rfl (by decide +kernel)
set_option maxRecDepth 65536 in
theorem w_c10 : (Jvm.Cond.code ({ cls := "java/lang/StringBuilder", name := "append", desc := "(Ljava/lang/String;)Ljava/lang/AbstractStringBuilder;" } : Jvm.MethodName) jdk_67_method_80_code (2 : Nat) (Option.some (Jvm.ClassFile.FieldType.object "java/lang/AbstractStringBuilder"))).before args0 about1 = true := code_word (m := ⟨13, 5⟩) (meth := k13m5) (c := k13c5) (by decide +kernel) rfl rfl rfl (by decide +kernel)
set_option maxRecDepth 65536 in
theorem w_c11 : (Jvm.Cond.code ({ cls := "java/lang/StringBuilder", name := "append", desc := "(Ljava/lang/String;)Ljava/lang/StringBuilder;" } : Jvm.MethodName) jdk_67_method_7_code (2 : Nat) (Option.some (Jvm.ClassFile.FieldType.object "java/lang/StringBuilder"))).before args0 about1 = true := code_word (m := ⟨13, 2⟩) (meth := k13m2) (c := k13c2) (by decide +kernel) rfl rfl rfl (by decide +kernel)
set_option maxRecDepth 65536 in
theorem w_c12 : (Jvm.Cond.code ({ cls := "java/lang/AbstractStringBuilder", name := "append", desc := "(Ljava/lang/String;)Ljava/lang/AbstractStringBuilder;" } : Jvm.MethodName) jdk_68_method_22_code (3 : Nat) (Option.some (Jvm.ClassFile.FieldType.object "java/lang/AbstractStringBuilder"))).before args0 about1 = true := code_word (m := ⟨12, 5⟩) (meth := k12m5) (c := k12c5) (by decide +kernel) rfl rfl rfl (by decide +kernel)
set_option maxRecDepth 65536 in
theorem w_c13 : (Jvm.Cond.code ({ cls := "java/lang/AbstractStringBuilder", name := "ensureCapacityInternal", desc := "(I)V" } : Jvm.MethodName) jdk_68_method_9_code (3 : Nat) (Option.none : Option Jvm.ClassFile.FieldType)).before args0 about1 = true := code_word (m := ⟨12, 3⟩) (meth := k12m3) (c := k12c3) (by decide +kernel) rfl rfl rfl (by decide +kernel)
set_option maxRecDepth 65536 in
theorem w_c14 : (Jvm.Cond.code ({ cls := "java/lang/AbstractStringBuilder", name := "putStringAt", desc := "(ILjava/lang/String;)V" } : Jvm.MethodName) jdk_68_method_73_code (3 : Nat) (Option.none : Option Jvm.ClassFile.FieldType)).before args0 about1 = true := code_word (m := ⟨12, 10⟩) (meth := k12m10) (c := k12c10) (by decide +kernel) rfl rfl rfl (by decide +kernel)
set_option maxRecDepth 65536 in
theorem w_c15 : (Jvm.Cond.code ({ cls := "java/lang/AbstractStringBuilder", name := "inflateIfNeededFor", desc := "(Ljava/lang/String;)V" } : Jvm.MethodName) jdk_68_method_71_code (2 : Nat) (Option.none : Option Jvm.ClassFile.FieldType)).before args0 about1 = true := code_word (m := ⟨12, 9⟩) (meth := k12m9) (c := k12c9) (by decide +kernel) rfl rfl rfl (by decide +kernel)
set_option maxRecDepth 65536 in
theorem w_c16 : (Jvm.Cond.code ({ cls := "java/lang/String", name := "getBytes", desc := "([BIB)V" } : Jvm.MethodName) jdk_42_method_147_code (4 : Nat) (Option.none : Option Jvm.ClassFile.FieldType)).before args0 about1 = true := code_word (m := ⟨7, 5⟩) (meth := k7m5) (c := k7c5) (by decide +kernel) rfl rfl rfl (by decide +kernel)
set_option maxRecDepth 65536 in
theorem w_c17 : (Jvm.Cond.code ({ cls := "java/lang/Math", name := "min", desc := "(II)I" } : Jvm.MethodName) jdk_29_method_69_code (2 : Nat) (Option.some Jvm.ClassFile.FieldType.int)).before args0 about1 = true := code_word (m := ⟨15, 2⟩) (meth := k15m2) (c := k15c2) (by decide +kernel) rfl rfl rfl (by decide +kernel)
set_option maxRecDepth 65536 in
theorem w_c18 : (Jvm.Cond.code ({ cls := "java/lang/StringBuilder", name := "append", desc := "(C)Ljava/lang/StringBuilder;" } : Jvm.MethodName) jdk_67_method_14_code (2 : Nat) (Option.some (Jvm.ClassFile.FieldType.object "java/lang/StringBuilder"))).before args0 about1 = true := code_word (m := ⟨13, 3⟩) (meth := k13m3) (c := k13c3) (by decide +kernel) rfl rfl rfl (by decide +kernel)
set_option maxRecDepth 65536 in
theorem w_c19 : (Jvm.Cond.code ({ cls := "java/lang/AbstractStringBuilder", name := "append", desc := "(C)Ljava/lang/AbstractStringBuilder;" } : Jvm.MethodName) jdk_68_method_31_code (2 : Nat) (Option.some (Jvm.ClassFile.FieldType.object "java/lang/AbstractStringBuilder"))).before args0 about1 = true := code_word (m := ⟨12, 6⟩) (meth := k12m6) (c := k12c6) (by decide +kernel) rfl rfl rfl (by decide +kernel)
set_option maxRecDepth 65536 in
theorem w_c20 : (Jvm.Cond.code ({ cls := "java/lang/AbstractStringBuilder", name := "isLatin1", desc := "()Z" } : Jvm.MethodName) jdk_68_method_68_code (1 : Nat) (Option.some Jvm.ClassFile.FieldType.boolean)).before args0 about1 = true := code_word (m := ⟨12, 8⟩) (meth := k12m8) (c := k12c8) (by decide +kernel) rfl rfl rfl (by decide +kernel)
set_option maxRecDepth 65536 in
theorem w_c21 : (Jvm.Cond.code ({ cls := "java/lang/StringLatin1", name := "canEncode", desc := "(C)Z" } : Jvm.MethodName) jdk_43_method_3_code (1 : Nat) (Option.some Jvm.ClassFile.FieldType.boolean)).before args0 about1 = true := code_word (m := ⟨16, 2⟩) (meth := k16m2) (c := k16c2) (by decide +kernel) rfl rfl rfl (by decide +kernel)
set_option maxRecDepth 65536 in
theorem w_c22 : (Jvm.Cond.code ({ cls := "java/lang/StringBuilder", name := "toString", desc := "()Ljava/lang/String;" } : Jvm.MethodName) jdk_67_method_42_code (1 : Nat) (Option.some (Jvm.ClassFile.FieldType.object "java/lang/String"))).before args0 about1 = true := code_word (m := ⟨13, 4⟩) (meth := k13m4) (c := k13c4) (by decide +kernel) rfl rfl rfl (by decide +kernel)
set_option maxRecDepth 65536 in
theorem w_c23 : (Jvm.Cond.code ({ cls := "java/lang/String", name := "<init>", desc := "(Ljava/lang/StringBuilder;)V" } : Jvm.MethodName) jdk_42_method_53_code (2 : Nat) (Option.none : Option Jvm.ClassFile.FieldType)).before args0 about1 = true := code_word (m := ⟨7, 2⟩) (meth := k7m2) (c := k7c2) (by decide +kernel) rfl rfl rfl (by decide +kernel)
set_option maxRecDepth 65536 in
theorem w_c24 : (Jvm.Cond.code ({ cls := "java/lang/String", name := "<init>", desc := "(Ljava/lang/AbstractStringBuilder;Ljava/lang/Void;)V" } : Jvm.MethodName) jdk_42_method_150_code (5 : Nat) (Option.none : Option Jvm.ClassFile.FieldType)).before args0 about1 = true := code_word (m := ⟨7, 7⟩) (meth := k7m7) (c := k7c7) (by decide +kernel) rfl rfl rfl (by decide +kernel)
set_option maxRecDepth 65536 in
theorem w_c25 : (Jvm.Cond.code ({ cls := "java/lang/AbstractStringBuilder", name := "getValue", desc := "()[B" } : Jvm.MethodName) jdk_68_method_64_code (1 : Nat) (Option.some (Jvm.ClassFile.FieldType.array Jvm.ClassFile.FieldType.byte))).before args0 about1 = true := code_word (m := ⟨12, 7⟩) (meth := k12m7) (c := k12c7) (by decide +kernel) rfl rfl rfl (by decide +kernel)
set_option maxRecDepth 65536 in
theorem w_c26 : (Jvm.Cond.code ({ cls := "java/lang/StringBuilder", name := "length", desc := "()I" } : Jvm.MethodName) jdk_67_method_93_code (1 : Nat) (Option.some Jvm.ClassFile.FieldType.int)).before args0 about1 = true := code_word (m := ⟨13, 6⟩) (meth := k13m6) (c := k13c6) (by decide +kernel) rfl rfl rfl (by decide +kernel)
set_option maxRecDepth 65536 in
theorem w_c27 : (Jvm.Cond.code ({ cls := "java/lang/AbstractStringBuilder", name := "length", desc := "()I" } : Jvm.MethodName) jdk_68_method_6_code (1 : Nat) (Option.some Jvm.ClassFile.FieldType.int)).before args0 about1 = true := code_word (m := ⟨12, 2⟩) (meth := k12m2) (c := k12c2) (by decide +kernel) rfl rfl rfl (by decide +kernel)
set_option maxRecDepth 65536 in
theorem w_c28 : (Jvm.Cond.code ({ cls := "java/util/Arrays", name := "copyOfRange", desc := "([BII)[B" } : Jvm.MethodName) jdk_65_method_132_code (3 : Nat) (Option.some (Jvm.ClassFile.FieldType.array Jvm.ClassFile.FieldType.byte))).before args0 about1 = true := code_word (m := ⟨17, 3⟩) (meth := k17m3) (c := k17c3) (by decide +kernel) rfl rfl rfl (by decide +kernel)
set_option maxRecDepth 65536 in
theorem w_c29 : (Jvm.Cond.code ({ cls := "java/util/Arrays", name := "copyOfRangeByte", desc := "([BII)[B" } : Jvm.MethodName) jdk_65_method_133_code (5 : Nat) (Option.some (Jvm.ClassFile.FieldType.array Jvm.ClassFile.FieldType.byte))).before args0 about1 = true := code_word (m := ⟨17, 4⟩) (meth := k17m4) (c := k17c4) (by decide +kernel) rfl rfl rfl (by decide +kernel)
set_option maxRecDepth 65536 in
theorem w_c30 : (Jvm.Cond.code ({ cls := "java/util/Arrays", name := "checkLength", desc := "(II)V" } : Jvm.MethodName) jdk_65_method_131_code (2 : Nat) (Option.none : Option Jvm.ClassFile.FieldType)).before args0 about1 = true := code_word (m := ⟨17, 2⟩) (meth := k17m2) (c := k17c2) (by decide +kernel) rfl rfl rfl (by decide +kernel)
set_option maxRecDepth 65536 in
theorem w_c31 : (Jvm.Cond.code ({ cls := "java/lang/String", name := "charAt", desc := "(I)C" } : Jvm.MethodName) jdk_42_method_56_code (2 : Nat) (Option.some Jvm.ClassFile.FieldType.char)).before args0 about1 = true := code_word (m := ⟨7, 4⟩) (meth := k7m4) (c := k7c4) (by decide +kernel) rfl rfl rfl (by decide +kernel)
set_option maxRecDepth 65536 in
theorem w_c32 : (Jvm.Cond.code ({ cls := "java/lang/String", name := "isLatin1", desc := "()Z" } : Jvm.MethodName) jdk_42_method_154_code (1 : Nat) (Option.some Jvm.ClassFile.FieldType.boolean)).before args0 about1 = true := code_word (m := ⟨7, 9⟩) (meth := k7m9) (c := k7c9) (by decide +kernel) rfl rfl rfl (by decide +kernel)
set_option maxRecDepth 65536 in
theorem w_c33 : (Jvm.Cond.code ({ cls := "java/lang/StringLatin1", name := "charAt", desc := "([BI)C" } : Jvm.MethodName) jdk_43_method_2_code (2 : Nat) (Option.some Jvm.ClassFile.FieldType.char)).before args0 about1 = true := code_word (m := ⟨16, 1⟩) (meth := k16m1) (c := k16c1) (by decide +kernel) rfl rfl rfl (by decide +kernel)
set_option maxRecDepth 65536 in
theorem w_c34 : (Jvm.Cond.code ({ cls := "java/lang/String", name := "checkIndex", desc := "(II)V" } : Jvm.MethodName) jdk_42_method_155_code (2 : Nat) (Option.none : Option Jvm.ClassFile.FieldType)).before args0 about1 = true := code_word (m := ⟨7, 10⟩) (meth := k7m10) (c := k7c10) (by decide +kernel) rfl rfl rfl (by decide +kernel)
set_option maxRecDepth 65536 in
theorem w_c35 : (Jvm.Cond.code ({ cls := "jdk/internal/util/Preconditions", name := "checkIndex", desc := "(IILjava/util/function/BiFunction;)I" } : Jvm.MethodName) jdk_41_method_11_code (3 : Nat) (Option.some Jvm.ClassFile.FieldType.int)).before args0 about1 = true := code_word (m := ⟨18, 1⟩) (meth := k18m1) (c := k18c1) (by decide +kernel) rfl rfl rfl (by decide +kernel)
set_option maxRecDepth 65536 in
theorem w_c36 : (Jvm.Cond.code ({ cls := "com/example/paretolio/paretolio/RecordReaderQuotePinLaw", name := "at", desc := "(Ljava/lang/String;[CII)Z" } : Jvm.MethodName) method_3_code (4 : Nat) (Option.some Jvm.ClassFile.FieldType.boolean)).before args0 about1 = true := code_word (m := ⟨1, 2⟩) (meth := k1m2) (c := k1c2) (by decide +kernel) rfl rfl rfl (by decide +kernel)
set_option maxRecDepth 65536 in
theorem w_c37 : (Jvm.Cond.code ({ cls := "java/lang/StringUTF16", name := "compress", desc := "([CII)[B" } : Jvm.MethodName) jdk_52_method_16_code (6 : Nat) (Option.some (Jvm.ClassFile.FieldType.array Jvm.ClassFile.FieldType.byte))).before args0 about1 = true := code_word (m := ⟨19, 8⟩) (meth := k19m8) (c := k19c8) (by decide +kernel) rfl rfl rfl (by decide +kernel)
set_option maxRecDepth 65536 in
theorem w_c38 : (Jvm.Cond.code ({ cls := "java/lang/StringUTF16", name := "compress", desc := "([CI[BII)I" } : Jvm.MethodName) jdk_52_method_21_code (7 : Nat) (Option.some Jvm.ClassFile.FieldType.int)).before args0 about1 = true := code_word (m := ⟨19, 9⟩) (meth := k19m9) (c := k19c9) (by decide +kernel) rfl rfl rfl (by decide +kernel)
set_option maxRecDepth 65536 in
theorem w_c39 : (Jvm.Cond.code ({ cls := "java/lang/StringUTF16", name := "coderFromArrayLen", desc := "([BI)B" } : Jvm.MethodName) jdk_52_method_15_code (2 : Nat) (Option.some Jvm.ClassFile.FieldType.byte)).before args0 about1 = true := code_word (m := ⟨19, 7⟩) (meth := k19m7) (c := k19c7) (by decide +kernel) rfl rfl rfl (by decide +kernel)
set_option maxRecDepth 65536 in
theorem w_c40 : (Jvm.Cond.code ({ cls := "com/example/paretolio/paretolio/RecordReaderQuotePinLaw", name := "shown", desc := "(C)C" } : Jvm.MethodName) method_4_code (1 : Nat) (Option.some Jvm.ClassFile.FieldType.char)).before args0 about1 = true := code_word (m := ⟨1, 3⟩) (meth := k1m3) (c := k1c3) (by decide +kernel) rfl rfl rfl (by decide +kernel)
set_option maxRecDepth 65536 in
theorem w_c41 : (Jvm.Cond.code ({ cls := "java/lang/StringUTF16", name := "toBytes", desc := "([CII)[B" } : Jvm.MethodName) jdk_52_method_14_code (5 : Nat) (Option.some (Jvm.ClassFile.FieldType.array Jvm.ClassFile.FieldType.byte))).before args0 about1 = true := code_word (m := ⟨19, 6⟩) (meth := k19m6) (c := k19c6) (by decide +kernel) rfl rfl rfl (by decide +kernel)
set_option maxRecDepth 65536 in
theorem w_c42 : (Jvm.Cond.code ({ cls := "java/lang/StringUTF16", name := "newBytesFor", desc := "(I)[B" } : Jvm.MethodName) jdk_52_method_2_code (1 : Nat) (Option.some (Jvm.ClassFile.FieldType.array Jvm.ClassFile.FieldType.byte))).before args0 about1 = true := code_word (m := ⟨19, 1⟩) (meth := k19m1) (c := k19c1) (by decide +kernel) rfl rfl rfl (by decide +kernel)
set_option maxRecDepth 65536 in
theorem w_c43 : (Jvm.Cond.code ({ cls := "java/lang/StringUTF16", name := "newBytesLength", desc := "(I)I" } : Jvm.MethodName) jdk_52_method_3_code (1 : Nat) (Option.some Jvm.ClassFile.FieldType.int)).before args0 about1 = true := code_word (m := ⟨19, 2⟩) (meth := k19m2) (c := k19c2) (by decide +kernel) rfl rfl rfl (by decide +kernel)
set_option maxRecDepth 65536 in
theorem w_c44 : (Jvm.Cond.code ({ cls := "java/lang/StringUTF16", name := "putChar", desc := "([BII)V" } : Jvm.MethodName) jdk_52_method_4_code (3 : Nat) (Option.none : Option Jvm.ClassFile.FieldType)).before args0 about1 = true := code_word (m := ⟨19, 3⟩) (meth := k19m3) (c := k19c3) (by decide +kernel) rfl rfl rfl (by decide +kernel)
set_option maxRecDepth 65536 in
theorem w_c45 : (Jvm.Cond.code ({ cls := "java/lang/StringUTF16", name := "getChar", desc := "([BI)C" } : Jvm.MethodName) jdk_52_method_5_code (2 : Nat) (Option.some Jvm.ClassFile.FieldType.char)).before args0 about1 = true := code_word (m := ⟨19, 4⟩) (meth := k19m4) (c := k19c4) (by decide +kernel) rfl rfl rfl (by decide +kernel)
set_option maxRecDepth 65536 in
theorem w_c46 : (Jvm.Cond.code ({ cls := "java/lang/StringUTF16", name := "charAt", desc := "([BI)C" } : Jvm.MethodName) jdk_52_method_83_code (2 : Nat) (Option.some Jvm.ClassFile.FieldType.char)).before args0 about1 = true := code_word (m := ⟨19, 10⟩) (meth := k19m10) (c := k19c10) (by decide +kernel) rfl rfl rfl (by decide +kernel)
set_option maxRecDepth 65536 in
theorem w_c47 : (Jvm.Cond.code ({ cls := "java/lang/StringUTF16", name := "checkIndex", desc := "(I[B)V" } : Jvm.MethodName) jdk_52_method_91_code (2 : Nat) (Option.none : Option Jvm.ClassFile.FieldType)).before args0 about1 = true := code_word (m := ⟨19, 11⟩) (meth := k19m11) (c := k19c11) (by decide +kernel) rfl rfl rfl (by decide +kernel)
set_option maxRecDepth 65536 in
theorem w_c48 : (Jvm.Cond.code ({ cls := "java/lang/StringUTF16", name := "length", desc := "([B)I" } : Jvm.MethodName) jdk_52_method_6_code (1 : Nat) (Option.some Jvm.ClassFile.FieldType.int)).before args0 about1 = true := code_word (m := ⟨19, 5⟩) (meth := k19m5) (c := k19c5) (by decide +kernel) rfl rfl rfl (by decide +kernel)
set_option maxRecDepth 65536 in
theorem w_c49 : (Jvm.Cond.code ({ cls := "java/lang/AbstractStringBuilder", name := "newCapacity", desc := "(I)I" } : Jvm.MethodName) jdk_68_method_10_code (6 : Nat) (Option.some Jvm.ClassFile.FieldType.int)).before args0 about1 = true := code_word (m := ⟨12, 4⟩) (meth := k12m4) (c := k12c4) (by decide +kernel) rfl rfl rfl (by decide +kernel)
set_option maxRecDepth 65536 in
theorem w_c50 : (Jvm.Cond.code ({ cls := "jdk/internal/util/ArraysSupport", name := "newLength", desc := "(III)I" } : Jvm.MethodName) jdk_48_method_27_code (4 : Nat) (Option.some Jvm.ClassFile.FieldType.int)).before args0 about1 = true := code_word (m := ⟨20, 1⟩) (meth := k20m1) (c := k20c1) (by decide +kernel) rfl rfl rfl (by decide +kernel)
set_option maxRecDepth 65536 in
theorem w_c51 : (Jvm.Cond.code ({ cls := "java/lang/Math", name := "max", desc := "(II)I" } : Jvm.MethodName) jdk_29_method_65_code (2 : Nat) (Option.some Jvm.ClassFile.FieldType.int)).before args0 about1 = true := code_word (m := ⟨15, 1⟩) (meth := k15m1) (c := k15c1) (by decide +kernel) rfl rfl rfl (by decide +kernel)
set_option maxRecDepth 65536 in
theorem w_c52 : (Jvm.Cond.code ({ cls := "java/util/Arrays", name := "copyOf", desc := "([BI)[B" } : Jvm.MethodName) jdk_65_method_121_code (3 : Nat) (Option.some (Jvm.ClassFile.FieldType.array Jvm.ClassFile.FieldType.byte))).before args0 about1 = true := code_word (m := ⟨17, 1⟩) (meth := k17m1) (c := k17c1) (by decide +kernel) rfl rfl rfl (by decide +kernel)
def codes1 : List Jvm.Cond := [Jvm.Cond.code x code maxLocals ret, Jvm.Cond.code ({ cls := "com/example/paretolio/paretolio/RecordReaderQuotePinLaw", name := "alloc", desc := "(I)[C" } : Jvm.MethodName) method_5_code (1 : Nat) (Option.some (Jvm.ClassFile.FieldType.array Jvm.ClassFile.FieldType.char)), Jvm.Cond.code ({ cls := "java/lang/String", name := "<init>", desc := "([C)V" } : Jvm.MethodName) jdk_42_method_3_code (2 : Nat) (Option.none : Option Jvm.ClassFile.FieldType), Jvm.Cond.code ({ cls := "java/lang/String", name := "<init>", desc := "([CIILjava/lang/Void;)V" } : Jvm.MethodName) jdk_42_method_149_code (6 : Nat) (Option.none : Option Jvm.ClassFile.FieldType), Jvm.Cond.code ({ cls := "java/lang/Object", name := "<init>", desc := "()V" } : Jvm.MethodName) object_method_1_code (1 : Nat) (Option.none : Option Jvm.ClassFile.FieldType), Jvm.Cond.code ({ cls := "com/example/paretolio/paretolio/RecordReader", name := "quote", desc := "(Ljava/lang/String;)Ljava/lang/String;" } : Jvm.MethodName) prog_11_method_10_code (4 : Nat) (Option.some (Jvm.ClassFile.FieldType.object "java/lang/String")), Jvm.Cond.code ({ cls := "java/lang/StringBuilder", name := "<init>", desc := "(Ljava/lang/String;)V" } : Jvm.MethodName) jdk_67_method_3_code (2 : Nat) (Option.none : Option Jvm.ClassFile.FieldType), Jvm.Cond.code ({ cls := "java/lang/AbstractStringBuilder", name := "<init>", desc := "(Ljava/lang/String;)V" } : Jvm.MethodName) jdk_68_method_3_code (5 : Nat) (Option.none : Option Jvm.ClassFile.FieldType), Jvm.Cond.code ({ cls := "java/lang/String", name := "length", desc := "()I" } : Jvm.MethodName) jdk_42_method_54_code (1 : Nat) (Option.some Jvm.ClassFile.FieldType.int), Jvm.Cond.code ({ cls := "java/lang/String", name := "coder", desc := "()B" } : Jvm.MethodName) jdk_42_method_152_code (1 : Nat) (Option.some Jvm.ClassFile.FieldType.byte), Jvm.Cond.code ({ cls := "java/lang/StringBuilder", name := "append", desc := "(Ljava/lang/String;)Ljava/lang/AbstractStringBuilder;" } : Jvm.MethodName) jdk_67_method_80_code (2 : Nat) (Option.some (Jvm.ClassFile.FieldType.object "java/lang/AbstractStringBuilder")), Jvm.Cond.code ({ cls := "java/lang/StringBuilder", name := "append", desc := "(Ljava/lang/String;)Ljava/lang/StringBuilder;" } : Jvm.MethodName) jdk_67_method_7_code (2 : Nat) (Option.some (Jvm.ClassFile.FieldType.object "java/lang/StringBuilder")), Jvm.Cond.code ({ cls := "java/lang/AbstractStringBuilder", name := "append", desc := "(Ljava/lang/String;)Ljava/lang/AbstractStringBuilder;" } : Jvm.MethodName) jdk_68_method_22_code (3 : Nat) (Option.some (Jvm.ClassFile.FieldType.object "java/lang/AbstractStringBuilder")), Jvm.Cond.code ({ cls := "java/lang/AbstractStringBuilder", name := "ensureCapacityInternal", desc := "(I)V" } : Jvm.MethodName) jdk_68_method_9_code (3 : Nat) (Option.none : Option Jvm.ClassFile.FieldType), Jvm.Cond.code ({ cls := "java/lang/AbstractStringBuilder", name := "putStringAt", desc := "(ILjava/lang/String;)V" } : Jvm.MethodName) jdk_68_method_73_code (3 : Nat) (Option.none : Option Jvm.ClassFile.FieldType), Jvm.Cond.code ({ cls := "java/lang/AbstractStringBuilder", name := "inflateIfNeededFor", desc := "(Ljava/lang/String;)V" } : Jvm.MethodName) jdk_68_method_71_code (2 : Nat) (Option.none : Option Jvm.ClassFile.FieldType), Jvm.Cond.code ({ cls := "java/lang/String", name := "getBytes", desc := "([BIB)V" } : Jvm.MethodName) jdk_42_method_147_code (4 : Nat) (Option.none : Option Jvm.ClassFile.FieldType), Jvm.Cond.code ({ cls := "java/lang/Math", name := "min", desc := "(II)I" } : Jvm.MethodName) jdk_29_method_69_code (2 : Nat) (Option.some Jvm.ClassFile.FieldType.int), Jvm.Cond.code ({ cls := "java/lang/StringBuilder", name := "append", desc := "(C)Ljava/lang/StringBuilder;" } : Jvm.MethodName) jdk_67_method_14_code (2 : Nat) (Option.some (Jvm.ClassFile.FieldType.object "java/lang/StringBuilder")), Jvm.Cond.code ({ cls := "java/lang/AbstractStringBuilder", name := "append", desc := "(C)Ljava/lang/AbstractStringBuilder;" } : Jvm.MethodName) jdk_68_method_31_code (2 : Nat) (Option.some (Jvm.ClassFile.FieldType.object "java/lang/AbstractStringBuilder")), Jvm.Cond.code ({ cls := "java/lang/AbstractStringBuilder", name := "isLatin1", desc := "()Z" } : Jvm.MethodName) jdk_68_method_68_code (1 : Nat) (Option.some Jvm.ClassFile.FieldType.boolean), Jvm.Cond.code ({ cls := "java/lang/StringLatin1", name := "canEncode", desc := "(C)Z" } : Jvm.MethodName) jdk_43_method_3_code (1 : Nat) (Option.some Jvm.ClassFile.FieldType.boolean), Jvm.Cond.code ({ cls := "java/lang/StringBuilder", name := "toString", desc := "()Ljava/lang/String;" } : Jvm.MethodName) jdk_67_method_42_code (1 : Nat) (Option.some (Jvm.ClassFile.FieldType.object "java/lang/String")), Jvm.Cond.code ({ cls := "java/lang/String", name := "<init>", desc := "(Ljava/lang/StringBuilder;)V" } : Jvm.MethodName) jdk_42_method_53_code (2 : Nat) (Option.none : Option Jvm.ClassFile.FieldType), Jvm.Cond.code ({ cls := "java/lang/String", name := "<init>", desc := "(Ljava/lang/AbstractStringBuilder;Ljava/lang/Void;)V" } : Jvm.MethodName) jdk_42_method_150_code (5 : Nat) (Option.none : Option Jvm.ClassFile.FieldType), Jvm.Cond.code ({ cls := "java/lang/AbstractStringBuilder", name := "getValue", desc := "()[B" } : Jvm.MethodName) jdk_68_method_64_code (1 : Nat) (Option.some (Jvm.ClassFile.FieldType.array Jvm.ClassFile.FieldType.byte)), Jvm.Cond.code ({ cls := "java/lang/StringBuilder", name := "length", desc := "()I" } : Jvm.MethodName) jdk_67_method_93_code (1 : Nat) (Option.some Jvm.ClassFile.FieldType.int), Jvm.Cond.code ({ cls := "java/lang/AbstractStringBuilder", name := "length", desc := "()I" } : Jvm.MethodName) jdk_68_method_6_code (1 : Nat) (Option.some Jvm.ClassFile.FieldType.int), Jvm.Cond.code ({ cls := "java/util/Arrays", name := "copyOfRange", desc := "([BII)[B" } : Jvm.MethodName) jdk_65_method_132_code (3 : Nat) (Option.some (Jvm.ClassFile.FieldType.array Jvm.ClassFile.FieldType.byte)), Jvm.Cond.code ({ cls := "java/util/Arrays", name := "copyOfRangeByte", desc := "([BII)[B" } : Jvm.MethodName) jdk_65_method_133_code (5 : Nat) (Option.some (Jvm.ClassFile.FieldType.array Jvm.ClassFile.FieldType.byte)), Jvm.Cond.code ({ cls := "java/util/Arrays", name := "checkLength", desc := "(II)V" } : Jvm.MethodName) jdk_65_method_131_code (2 : Nat) (Option.none : Option Jvm.ClassFile.FieldType), Jvm.Cond.code ({ cls := "java/lang/String", name := "charAt", desc := "(I)C" } : Jvm.MethodName) jdk_42_method_56_code (2 : Nat) (Option.some Jvm.ClassFile.FieldType.char), Jvm.Cond.code ({ cls := "java/lang/String", name := "isLatin1", desc := "()Z" } : Jvm.MethodName) jdk_42_method_154_code (1 : Nat) (Option.some Jvm.ClassFile.FieldType.boolean), Jvm.Cond.code ({ cls := "java/lang/StringLatin1", name := "charAt", desc := "([BI)C" } : Jvm.MethodName) jdk_43_method_2_code (2 : Nat) (Option.some Jvm.ClassFile.FieldType.char), Jvm.Cond.code ({ cls := "java/lang/String", name := "checkIndex", desc := "(II)V" } : Jvm.MethodName) jdk_42_method_155_code (2 : Nat) (Option.none : Option Jvm.ClassFile.FieldType), Jvm.Cond.code ({ cls := "jdk/internal/util/Preconditions", name := "checkIndex", desc := "(IILjava/util/function/BiFunction;)I" } : Jvm.MethodName) jdk_41_method_11_code (3 : Nat) (Option.some Jvm.ClassFile.FieldType.int), Jvm.Cond.code ({ cls := "com/example/paretolio/paretolio/RecordReaderQuotePinLaw", name := "at", desc := "(Ljava/lang/String;[CII)Z" } : Jvm.MethodName) method_3_code (4 : Nat) (Option.some Jvm.ClassFile.FieldType.boolean), Jvm.Cond.code ({ cls := "java/lang/StringUTF16", name := "compress", desc := "([CII)[B" } : Jvm.MethodName) jdk_52_method_16_code (6 : Nat) (Option.some (Jvm.ClassFile.FieldType.array Jvm.ClassFile.FieldType.byte)), Jvm.Cond.code ({ cls := "java/lang/StringUTF16", name := "compress", desc := "([CI[BII)I" } : Jvm.MethodName) jdk_52_method_21_code (7 : Nat) (Option.some Jvm.ClassFile.FieldType.int), Jvm.Cond.code ({ cls := "java/lang/StringUTF16", name := "coderFromArrayLen", desc := "([BI)B" } : Jvm.MethodName) jdk_52_method_15_code (2 : Nat) (Option.some Jvm.ClassFile.FieldType.byte), Jvm.Cond.code ({ cls := "com/example/paretolio/paretolio/RecordReaderQuotePinLaw", name := "shown", desc := "(C)C" } : Jvm.MethodName) method_4_code (1 : Nat) (Option.some Jvm.ClassFile.FieldType.char), Jvm.Cond.code ({ cls := "java/lang/StringUTF16", name := "toBytes", desc := "([CII)[B" } : Jvm.MethodName) jdk_52_method_14_code (5 : Nat) (Option.some (Jvm.ClassFile.FieldType.array Jvm.ClassFile.FieldType.byte)), Jvm.Cond.code ({ cls := "java/lang/StringUTF16", name := "newBytesFor", desc := "(I)[B" } : Jvm.MethodName) jdk_52_method_2_code (1 : Nat) (Option.some (Jvm.ClassFile.FieldType.array Jvm.ClassFile.FieldType.byte)), Jvm.Cond.code ({ cls := "java/lang/StringUTF16", name := "newBytesLength", desc := "(I)I" } : Jvm.MethodName) jdk_52_method_3_code (1 : Nat) (Option.some Jvm.ClassFile.FieldType.int), Jvm.Cond.code ({ cls := "java/lang/StringUTF16", name := "putChar", desc := "([BII)V" } : Jvm.MethodName) jdk_52_method_4_code (3 : Nat) (Option.none : Option Jvm.ClassFile.FieldType), Jvm.Cond.code ({ cls := "java/lang/StringUTF16", name := "getChar", desc := "([BI)C" } : Jvm.MethodName) jdk_52_method_5_code (2 : Nat) (Option.some Jvm.ClassFile.FieldType.char), Jvm.Cond.code ({ cls := "java/lang/StringUTF16", name := "charAt", desc := "([BI)C" } : Jvm.MethodName) jdk_52_method_83_code (2 : Nat) (Option.some Jvm.ClassFile.FieldType.char), Jvm.Cond.code ({ cls := "java/lang/StringUTF16", name := "checkIndex", desc := "(I[B)V" } : Jvm.MethodName) jdk_52_method_91_code (2 : Nat) (Option.none : Option Jvm.ClassFile.FieldType), Jvm.Cond.code ({ cls := "java/lang/StringUTF16", name := "length", desc := "([B)I" } : Jvm.MethodName) jdk_52_method_6_code (1 : Nat) (Option.some Jvm.ClassFile.FieldType.int), Jvm.Cond.code ({ cls := "java/lang/AbstractStringBuilder", name := "newCapacity", desc := "(I)I" } : Jvm.MethodName) jdk_68_method_10_code (6 : Nat) (Option.some Jvm.ClassFile.FieldType.int), Jvm.Cond.code ({ cls := "jdk/internal/util/ArraysSupport", name := "newLength", desc := "(III)I" } : Jvm.MethodName) jdk_48_method_27_code (4 : Nat) (Option.some Jvm.ClassFile.FieldType.int), Jvm.Cond.code ({ cls := "java/lang/Math", name := "max", desc := "(II)I" } : Jvm.MethodName) jdk_29_method_65_code (2 : Nat) (Option.some Jvm.ClassFile.FieldType.int), Jvm.Cond.code ({ cls := "java/util/Arrays", name := "copyOf", desc := "([BI)[B" } : Jvm.MethodName) jdk_65_method_121_code (3 : Nat) (Option.some (Jvm.ClassFile.FieldType.array Jvm.ClassFile.FieldType.byte))]
set_option maxRecDepth 65536 in
theorem codes_eq : words1.filter isCode = codes1 := rfl
theorem w_codes : ∀ c ∈ words1.filter isCode, c.before args0 about1 = true := by
  rw [codes_eq]
  intro c hc
  simp only [codes1, List.mem_cons, List.not_mem_nil, or_false] at hc
  rcases hc with rfl | rfl | rfl | rfl | rfl | rfl | rfl | rfl | rfl | rfl | rfl | rfl | rfl | rfl | rfl | rfl | rfl | rfl | rfl | rfl | rfl | rfl | rfl | rfl | rfl | rfl | rfl | rfl | rfl | rfl | rfl | rfl | rfl | rfl | rfl | rfl | rfl | rfl | rfl | rfl | rfl | rfl | rfl | rfl | rfl | rfl | rfl | rfl | rfl | rfl | rfl | rfl | rfl
  · exact w_c0
  · exact w_c1
  · exact w_c2
  · exact w_c3
  · exact w_c4
  · exact w_c5
  · exact w_c6
  · exact w_c7
  · exact w_c8
  · exact w_c9
  · exact w_c10
  · exact w_c11
  · exact w_c12
  · exact w_c13
  · exact w_c14
  · exact w_c15
  · exact w_c16
  · exact w_c17
  · exact w_c18
  · exact w_c19
  · exact w_c20
  · exact w_c21
  · exact w_c22
  · exact w_c23
  · exact w_c24
  · exact w_c25
  · exact w_c26
  · exact w_c27
  · exact w_c28
  · exact w_c29
  · exact w_c30
  · exact w_c31
  · exact w_c32
  · exact w_c33
  · exact w_c34
  · exact w_c35
  · exact w_c36
  · exact w_c37
  · exact w_c38
  · exact w_c39
  · exact w_c40
  · exact w_c41
  · exact w_c42
  · exact w_c43
  · exact w_c44
  · exact w_c45
  · exact w_c46
  · exact w_c47
  · exact w_c48
  · exact w_c49
  · exact w_c50
  · exact w_c51
  · exact w_c52
set_option maxRecDepth 65536 in
theorem w_t1 : (words1.take 24).all (fun c => isCode c || c.before args0 about1) = true := by decide +kernel
set_option maxRecDepth 65536 in
theorem w_t2 : ((words1.drop 24).take 24).all (fun c => isCode c || c.before args0 about1) = true := by decide +kernel
set_option maxRecDepth 65536 in
theorem w_t3 : (((words1.drop 24).drop 24).take 24).all (fun c => isCode c || c.before args0 about1) = true := by decide +kernel
set_option maxRecDepth 65536 in
theorem w_t4 : ((((words1.drop 24).drop 24).drop 24).take 24).all (fun c => isCode c || c.before args0 about1) = true := by decide +kernel
set_option maxRecDepth 65536 in
theorem w_t5 : (((((words1.drop 24).drop 24).drop 24).drop 24).take 24).all (fun c => isCode c || c.before args0 about1) = true := by decide +kernel
set_option maxRecDepth 65536 in
theorem w_t6 : ((((((words1.drop 24).drop 24).drop 24).drop 24).drop 24).take 24).all (fun c => isCode c || c.before args0 about1) = true := by decide +kernel
set_option maxRecDepth 65536 in
theorem w_t7 : (((((((words1.drop 24).drop 24).drop 24).drop 24).drop 24).drop 24).take 24).all (fun c => isCode c || c.before args0 about1) = true := by decide +kernel
set_option maxRecDepth 65536 in
theorem w_t8 : ((((((((words1.drop 24).drop 24).drop 24).drop 24).drop 24).drop 24).drop 24).take 24).all (fun c => isCode c || c.before args0 about1) = true := by decide +kernel
set_option maxRecDepth 65536 in
theorem w_t9 : (((((((((words1.drop 24).drop 24).drop 24).drop 24).drop 24).drop 24).drop 24).drop 24).take 24).all (fun c => isCode c || c.before args0 about1) = true := by decide +kernel
set_option maxRecDepth 65536 in
theorem w_t10 : ((((((((((words1.drop 24).drop 24).drop 24).drop 24).drop 24).drop 24).drop 24).drop 24).drop 24).take 24).all (fun c => isCode c || c.before args0 about1) = true := by decide +kernel
set_option maxRecDepth 65536 in
theorem w_t11 : ((((((((((words1.drop 24).drop 24).drop 24).drop 24).drop 24).drop 24).drop 24).drop 24).drop 24).drop 24).all (fun c => isCode c || c.before args0 about1) = true := by decide +kernel
theorem w_tables : (allAtoms (Jvm.Cond.code x code maxLocals ret :: tables_1)).before args0 about1 = true := by
  rw [allAtoms_all]
  show words1.all (fun c => c.before args0 about1) = true
  refine all_split ?_ w_codes
  rw [← List.take_append_drop 24 words1, List.all_append, w_t1, ← List.take_append_drop 24 (words1.drop 24), List.all_append, w_t2, ← List.take_append_drop 24 ((words1.drop 24).drop 24), List.all_append, w_t3, ← List.take_append_drop 24 (((words1.drop 24).drop 24).drop 24), List.all_append, w_t4, ← List.take_append_drop 24 ((((words1.drop 24).drop 24).drop 24).drop 24), List.all_append, w_t5, ← List.take_append_drop 24 (((((words1.drop 24).drop 24).drop 24).drop 24).drop 24), List.all_append, w_t6, ← List.take_append_drop 24 ((((((words1.drop 24).drop 24).drop 24).drop 24).drop 24).drop 24), List.all_append, w_t7, ← List.take_append_drop 24 (((((((words1.drop 24).drop 24).drop 24).drop 24).drop 24).drop 24).drop 24), List.all_append, w_t8, ← List.take_append_drop 24 ((((((((words1.drop 24).drop 24).drop 24).drop 24).drop 24).drop 24).drop 24).drop 24), List.all_append, w_t9, ← List.take_append_drop 24 (((((((((words1.drop 24).drop 24).drop 24).drop 24).drop 24).drop 24).drop 24).drop 24).drop 24), List.all_append, w_t10, w_t11]
  rfl
set_option maxRecDepth 65536 in
theorem w_rest : rest_1_c.before args0 about1 = true := by decide +kernel
set_option maxRecDepth 65536 in
theorem w_case : (Jvm.Cond.and given_1 narrow_1).before args0 about1 = true := by decide +kernel
set_option maxRecDepth 65536 in
theorem w_consts : constsHeld consts_1 about1 := Jvm.Lit.constsHeldB_iff.mp (by decide +kernel)
theorem w_applies : (headSpec (Jvm.Cond.code x code maxLocals ret :: tables_1) room_1).applies x e0.platform about1 = true :=
  (Spec.applies_iff w_frames).mpr ⟨w_running, w_runnable, w_alone, w_named, w_hears, w_ripe, w_room, w_tables⟩
theorem atStart : AtStart classFile x code maxLocals ret World_1 tables_1 room_1 Calls_1 rest_1 Pre_1 launch0 p0 e0 about1 theMethod args0 below0 :=
  ⟨lists_1, trivial, launch0.admits_env _ _ _, launch0.least_env, fairChoices_fair.cas, fairChoices_fair.clock, w_frames, w_args, w_heap, w_applies, ⟨w_consts, trivial⟩, w_rest, w_case⟩
end start1
theorem witness_1 : WitnessClaimed_1 := ⟨start1.p0, start1.e0, start1.about1, start1.theMethod, start1.args0, start1.below0, start1.atStart⟩
end Jvm.Pilot.@@N@@
