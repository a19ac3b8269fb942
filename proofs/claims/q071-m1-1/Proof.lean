import JvmDerived
import JvmDerived.Pilot.@@N@@Statement
import JvmDerived.Pilot.@@N@@Code
set_option linter.unusedVariables false
set_option linter.unusedSimpArgs false
@@BLOCK:NumsL.lean.txt@@
namespace Jvm.Pilot.@@N@@
open Jvm Jvm.ClassFile Sem Op Lib Jvm.Free Jvm.Stand Jvm.LawKit Jvm.RoadKit Bundle Jvm.Pilot.@@N@@.Jvm.D

section Own
variable {p : Program} {l : Launch} {e : Env} {R : Room} {s : State} {m : MethodId} {args : Array Value} {below : List Frame} {meth : Method} {c : Code} {S0 : State} {n0 : Nat} {h h' : Heap} {ce sl ce' sl' : Nat} {f f' : JFrame} {Z : State} {a0 : Array Value}
/-- the walk stands at the frame f over the heap h; it has made ce cells and sl slots; what it wrote lies at or above n0 -/
def own_R (p : Program) (l : Launch) (e : Env) (R : Room) (s : State) (m : MethodId) (args : Array Value) (below : List Frame) (meth : Method) (c : Code) (S0 : State) (n0 : Nat) (h : Heap) (ce sl : Nat) (f : JFrame) : Prop :=
  ∃ T L, Stand p l e R s m args below meth c T L ce sl ∧ T.heap = h ∧ Fr n0 L ∧ Steps p.tables e below S0 (T.setTop f)
/-- the walk has returned, and Q holds of what it returned and of the heap -/
def own_E (p : Program) (e : Env) (R : Room) (s : State) (below : List Frame) (S0 : State) (n0 : Nat) (Q : Option Value → Heap → Prop) : Prop :=
  ∃ s₂ v L, Steps p.tables e below S0 s₂ ∧ s₂.status = .running ∧ Ended s₂ below (.returned v) ∧ (Q v s₂.heap ∧ Fr n0 L) ∧ FrameEnd s (.returned v) s₂ L R.cells R.slots
/-- a body's contract -/
def own_M (l : Launch) (Z : State) (y : MethodName) (bytes : ByteArray) (maxL : Nat) (ret : Option FieldType) (ws : List Cond) (rm : Room) (as : Array Value) (h0 : Heap) (n0 : Nat) (Q : Option Value → Heap → Prop) : Prop :=
  MetFree l y (head1 (Cond.code y bytes maxL ret :: ws) rm) (fun a U => a = as ∧ Z.Warmed39 U.vm ∧ U.heap = h0) (fun _ _ _ _ _ => True) (fun _ U o U' => ∃ v L, o = .returned v ∧ (Q v U'.heap ∧ Fr n0 L) ∧ FrameEnd U o U' L rm.cells rm.slots)
theorem own_M.of {y : MethodName} {bytes : ByteArray} {maxL : Nat} {ret : Option FieldType} {ws : List Cond} {rm : Room} {as : Array Value} {h0 : Heap} {Q : Option Value → Heap → Prop} (pn : plainFor y = true)
    (body : ∀ (p : Program) (e : Env) (s : State) (m : MethodId) (below : List Frame) (meth : Method) (c : Code) (S0 : State), p.tables.exec = Jvm.exec → c.code = bytes → c.maxLocals = maxL → s.vm.findClass y.cls = some m.cls → meth.name = y.name → meth.sig.returnType = ret → meth.locks = false → Z.Warmed39 s.vm →
      own_R p l e rm s m as below meth c S0 n0 h0 0 0 (entryFrame m as maxL) → own_E p e rm s below S0 n0 Q) :
    own_M l Z y bytes maxL ret ws rm as h0 n0 Q := by
  refine MetFree.of_bodySF pn hisR ?_
  intro p e s m args below meth c s₁ Bd hml0 hP hK
  obtain ⟨rfl, hZ, hh⟩ := hP
  have e0 : s₁.heap = h0 := by rw [← hh, Bd.state]; rfl
  obtain ⟨s₂, v, L, k, hrun, hend, hq, hF⟩ := body p e s m below meth c _ Bd.exec Bd.bytes hml0 (findClass_of_methodNamed Bd.named) (name_of_methodNamed Bd.named Bd.method).1 Bd.returns Bd.notSynchronized hZ ⟨s₁, [], Stand.of_body Bd, e0, Fr.nil n0, Steps.refl _⟩
  exact ⟨s₂, _, k, hrun, hend, v, L, rfl, hq, hF⟩
theorem own_R.cast (A : own_R p l e R s m args below meth c S0 n0 h ce sl f) (q : f = f') : own_R p l e R s m args below meth c S0 n0 h ce sl f' := q ▸ A
theorem own_R.go (A : own_R p l e R s m args below meth c S0 n0 h ce sl f)
    (st : ∀ T L, Stand p l e R s m args below meth c T L ce sl → ∀ target, Steps p.tables e below (T.setTop f') target → Steps p.tables e below (T.setTop f) target) :
    own_R p l e R s m args below meth c S0 n0 h ce sl f' := by
  obtain ⟨T, L, X, eT, N, k⟩ := A
  exact ⟨T, L, X, eT, N, k.trans (st T L X _ (Steps.refl _))⟩
theorem own_R.law (A : own_R p l e R s m args below meth c S0 n0 h ce sl f)
    (st : ∀ T L, Stand p l e R s m args below meth c T L ce sl → T.heap = h → Fr n0 L → ∃ T' L', Stand p l e R s m args below meth c T' L' ce' sl' ∧ T'.heap = h' ∧ Fr n0 L' ∧ ∀ target, Steps p.tables e below (T'.setTop f') target → Steps p.tables e below (T.setTop f) target) :
    own_R p l e R s m args below meth c S0 n0 h' ce' sl' f' := by
  obtain ⟨T, L, X, eT, N, k⟩ := A
  obtain ⟨T', L', X', e', N', k'⟩ := st T L X eT N
  exact ⟨T', L', X', e', N', k.trans (k' _ (Steps.refl _))⟩
theorem own_R.getF {pc : Nat} {Ls : Array Slot} {rest : List Value} {a : Addr} {v : Value} {own R0 O n d : String} {index : Nat}
    (A : own_R p l e R s m args below meth c S0 n0 h ce sl (mkF m pc Ls (.ref a :: rest))) (hx : p.tables.exec = Jvm.exec) (hZ : Z.Warmed39 s.vm) (hown : s.vm.findClass own = some m.cls)
    (hd : decode c.code pc = .ok (.getfield index, 3)) (w : (Cond.fieldLink own index R0 n d).before a0 Z = true) (via : Via Z R0 O n d) (F : Fld Z h a O n d v) :
    own_R p l e R s m args below meth c S0 n0 h ce sl (mkF m (pc + 3) Ls (v :: rest)) := A.law fun T L X eT N => by
  obtain ⟨T', X', e', st⟩ := RoadKit.getF X hx hZ hown (host := "") (Or.inl w) via eT F (g := mkF m pc Ls (.ref a :: rest)) rfl rfl hd
  exact ⟨T', L, X', e', N, st⟩
theorem own_R.getS {pc : Nat} {Ls : Array Slot} {st : List Value} {v : Value} {own R0 O n d : String} {index : Nat}
    (A : own_R p l e R s m args below meth c S0 n0 h ce sl (mkF m pc Ls st)) (hx : p.tables.exec = Jvm.exec) (hZ : Z.Warmed39 s.vm) (hown : s.vm.findClass own = some m.cls)
    (hd : decode c.code pc = .ok (.getstatic index, 3)) (w : (Cond.fieldLink own index R0 n d).before a0 Z = true) (via : Via Z R0 O n d) (F : Sta Z h O n d v) :
    own_R p l e R s m args below meth c S0 n0 h ce sl (mkF m (pc + 3) Ls (v :: st)) := A.law fun T L X eT N => by
  obtain ⟨T', X', e', k⟩ := RoadKit.getS X hx hZ hown (host := "") w via eT F (g := mkF m pc Ls st) rfl hd
  exact ⟨T', L, X', e', N, k⟩
theorem own_R.ldcI {pc : Nat} {Ls : Array Slot} {st : List Value} {v : Int32} {own : String} {index : Nat}
    (A : own_R p l e R s m args below meth c S0 n0 h ce sl (mkF m pc Ls st)) (hx : p.tables.exec = Jvm.exec) (hZ : Z.Warmed39 s.vm) (hown : s.vm.findClass own = some m.cls)
    (hd : decode c.code pc = .ok (.ldc index, 2)) (w : (Cond.constant own index v).before a0 Z = true) :
    own_R p l e R s m args below meth c S0 n0 h ce sl (mkF m (pc + 2) Ls (.int v :: st)) := A.go fun T L X t k =>
  X.ldcInt hx hown (mvT hZ w) (g := mkF m pc Ls st) rfl hd t k
theorem own_R.ldcL {pc : Nat} {Ls : Array Slot} {st : List Value} {v : Int64} {own : String} {index : Nat}
    (A : own_R p l e R s m args below meth c S0 n0 h ce sl (mkF m pc Ls st)) (hx : p.tables.exec = Jvm.exec) (hZ : Z.Warmed39 s.vm) (hown : s.vm.findClass own = some m.cls)
    (hd : decode c.code pc = .ok (.ldc2_w index, 3)) (w : (Cond.constantLong own index v).before a0 Z = true) :
    own_R p l e R s m args below meth c S0 n0 h ce sl (mkF m (pc + 3) Ls (.long v :: st)) := A.go fun T L X t k =>
  X.ldc2Long hx hown (mvT hZ w) (g := mkF m pc Ls st) rfl hd t k
theorem own_R.ldcD {pc : Nat} {Ls : Array Slot} {st : List Value} {v : UInt64} {own : String} {index : Nat}
    (A : own_R p l e R s m args below meth c S0 n0 h ce sl (mkF m pc Ls st)) (hx : p.tables.exec = Jvm.exec) (hZ : Z.Warmed39 s.vm) (hown : s.vm.findClass own = some m.cls)
    (hd : decode c.code pc = .ok (.ldc2_w index, 3)) (w : (Cond.constantDouble own index v).before a0 Z = true) :
    own_R p l e R s m args below meth c S0 n0 h ce sl (mkF m (pc + 3) Ls (.double v :: st)) := A.go fun T L X t k =>
  X.ldc2DoubleC hx hown (mvT hZ w) (g := mkF m pc Ls st) rfl hd t k
theorem own_R.callS {pc : Nat} {Ls : Array Slot} {st : List Value} {own : String} {index W : Nat} {y : MethodName} {bytes : ByteArray} {maxL : Nat} {ret : Option FieldType} {rm : Room} {as : Array Value} {Q : Option Value → Heap → Prop} {argsL rest : List Value}
    (A : own_R p l e R s m args below meth c S0 n0 h ce sl (mkF m pc Ls st)) (M : own_M l Z y bytes maxL ret [] rm as h n0 Q) (hx : p.tables.exec = Jvm.exec) (hZ : Z.Warmed39 s.vm) (hown : s.vm.findClass own = some m.cls)
    (hd : decode c.code pc = .ok (.invokestatic index, 3)) (w1 : (Cond.methodLink own index y).before a0 Z = true) (w2 : (Cond.static y).before a0 Z = true) (w3 : (Cond.initialized y.cls).before a0 Z = true) (w4 : (Cond.code y bytes maxL ret).before a0 Z = true)
    (hy : y.cls ≠ "java/lang/invoke/MethodHandle" ∧ y.cls ≠ "java/lang/invoke/VarHandle") (hlen : ∀ sig, parseMethodDescriptor y.desc = some sig → argsL.length = sig.parameters.length) (hst : st = argsL.reverse ++ rest) (has : argsL.toArray = as)
    (hsz : Ls.size = c.maxLocals) (hW : (rest.map fun v => v.category).sum ≤ W) (hf : rm.frames + 1 ≤ R.frames) (hl : W + (maxL + 11) + rm.locals ≤ R.locals) (hc : ce + rm.cells ≤ R.cells) (hs : sl + rm.slots ≤ R.slots) :
    ∃ v h', Q v h' ∧ own_R p l e R s m args below meth c S0 n0 h' (ce + rm.cells) (sl + rm.slots) (mkF m (pc + 3) Ls (v.toList ++ rest)) := by
  obtain ⟨T, L, X, eT, N, k⟩ := A
  obtain ⟨v, vm₁, ⟨T', L', k', n'⟩, -, X', ⟨Lc, hQ, l1, l2, l3⟩, sT⟩ := Jvm.LawKit.callS X hx (y := y) hown (mvT hZ w1) (mvT hZ w2) (mvT hZ w3) (mvT hZ w4) hy (backOf (W := W) (Q := fun v h' L => Q v h' ∧ Fr n0 L) M hZ w4 w3 hf hl) (g := mkF m pc Ls st) rfl hsz (argsL := argsL) (rest := rest) hlen hst (by show 2 * 0 + _ ≤ _; omega) hd (fun _ _ => ⟨has, eT, hc, hs⟩)
  dsimp only [Pt.U, Pt.locs, Pt.cells, Pt.slots] at X' l1 l2 l3 sT hQ
  subst l1 l2 l3
  exact ⟨v, _, hQ.1, T', _, X', rfl, Fr.app N hQ.2, k.trans (sT _ (Steps.refl _))⟩
theorem own_R.callV {pc : Nat} {Ls : Array Slot} {st : List Value} {own C : String} {index W : Nat} {y z : MethodName} {bytes : ByteArray} {maxL : Nat} {ret : Option FieldType} {rm : Room} {as : Array Value} {Q : Option Value → Heap → Prop} {b : Addr} {argsL rest : List Value}
    (A : own_R p l e R s m args below meth c S0 n0 h ce sl (mkF m pc Ls st)) (M : own_M l Z z bytes maxL ret [] rm as h n0 Q) (E : Exa Z h b C) (hx : p.tables.exec = Jvm.exec) (hZ : Z.Warmed39 s.vm) (hown : s.vm.findClass own = some m.cls)
    (hd : decode c.code pc = .ok (.invokevirtual index, 3)) (w1 : (Cond.methodLink own index y).before a0 Z = true) (w2 : (Cond.declares y).before a0 Z = true) (w3 : (Cond.selects C y z).before a0 Z = true) (w4 : (Cond.instanceMethod z).before a0 Z = true) (w5 : (Cond.code z bytes maxL ret).before a0 Z = true) (w6 : (Cond.initialized z.cls).before a0 Z = true) (hnf : ∀ s' : State, Z.Warmed39 s'.vm → NotFace s' y)
    (hy : y.cls ≠ "java/lang/invoke/MethodHandle" ∧ y.cls ≠ "java/lang/invoke/VarHandle") (hlen : ∀ sig, parseMethodDescriptor y.desc = some sig → argsL.length = sig.parameters.length) (hst : st = argsL.reverse ++ .ref b :: rest) (has : (Value.ref b :: argsL).toArray = as)
    (hsz : Ls.size = c.maxLocals) (hW : (rest.map fun v => v.category).sum ≤ W) (hf : rm.frames + 1 ≤ R.frames) (hl : W + (maxL + 11) + rm.locals ≤ R.locals) (hc : ce + rm.cells ≤ R.cells) (hs : sl + rm.slots ≤ R.slots) :
    ∃ v h', Q v h' ∧ own_R p l e R s m args below meth c S0 n0 h' (ce + rm.cells) (sl + rm.slots) (mkF m (pc + 3) Ls (v.toList ++ rest)) := by
  obtain ⟨T, L, X, eT, N, k⟩ := A
  obtain ⟨cq, kq, qa, qb, qc⟩ := isOf hZ eT E
  obtain ⟨v, vm₁, ⟨T', L', k', n'⟩, -, X', ⟨Lc, hQ, l1, l2, l3⟩, sT⟩ := X.virtualBack hx (y := y) (z := z) hown (mvT hZ w1) (mvT hZ w2) (hnf s hZ) (mvT hZ w3) (mvT hZ w4) hy (backOf (W := W) (Q := fun v h' L => Q v h' ∧ Fr n0 L) M hZ w5 w6 hf hl) qa qc (g := mkF m pc Ls st) rfl hsz (Steps.refl _) (argsL := argsL) (rest := rest) hlen hst (by show 2 * 0 + _ ≤ _; omega) hd (fun _ _ => ⟨has, eT, hc, hs⟩)
  dsimp only [Pt.U, Pt.locs, Pt.cells, Pt.slots] at X' l1 l2 l3 sT hQ
  subst l1 l2 l3
  exact ⟨v, _, hQ.1, T', _, X', rfl, Fr.app N hQ.2, k.trans sT⟩
theorem own_R.callI {pc : Nat} {Ls : Array Slot} {st : List Value} {own : String} {index W : Nat} {y : MethodName} {bytes : ByteArray} {maxL : Nat} {rm : Room} {as : Array Value} {Q : Option Value → Heap → Prop} {b : Addr} {argsL rest : List Value}
    (A : own_R p l e R s m args below meth c S0 n0 h ce sl (mkF m pc Ls st)) (M : own_M l Z y bytes maxL none [] rm as h n0 Q) (hx : p.tables.exec = Jvm.exec) (hZ : Z.Warmed39 s.vm) (hown : s.vm.findClass own = some m.cls)
    (hd : decode c.code pc = .ok (.invokespecial index, 3)) (hy1 : y.name = "<init>") (w1 : (Cond.methodLink own index y).before a0 Z = true) (w2 : (Cond.instanceMethod y).before a0 Z = true) (w3 : (Cond.code y bytes maxL none).before a0 Z = true) (w4 : (Cond.initialized y.cls).before a0 Z = true)
    (hy : y.cls ≠ "java/lang/invoke/MethodHandle" ∧ y.cls ≠ "java/lang/invoke/VarHandle") (hlen : ∀ sig, parseMethodDescriptor y.desc = some sig → argsL.length = sig.parameters.length) (hst : st = argsL.reverse ++ .ref b :: rest) (has : (Value.ref b :: argsL).toArray = as)
    (hsz : Ls.size = c.maxLocals) (hW : (rest.map fun v => v.category).sum ≤ W) (hf : rm.frames + 1 ≤ R.frames) (hl : W + (maxL + 11) + rm.locals ≤ R.locals) (hc : ce + rm.cells ≤ R.cells) (hs : sl + rm.slots ≤ R.slots) :
    ∃ v h', Q v h' ∧ own_R p l e R s m args below meth c S0 n0 h' (ce + rm.cells) (sl + rm.slots) (mkF m (pc + 3) Ls (v.toList ++ rest)) := by
  obtain ⟨T, L, X, eT, N, k⟩ := A
  obtain ⟨v, vm₁, ⟨T', L', k', n'⟩, -, X', ⟨Lc, hQ, l1, l2, l3⟩, sT⟩ := X.specialBack hx (y := y) hy1 hown (mvT hZ w1) (mvT hZ w2) (mvT hZ w3) hy (backOf (W := W) (Q := fun v h' L => Q v h' ∧ Fr n0 L) M hZ w3 w4 hf hl) (g := mkF m pc Ls st) rfl hsz (Steps.refl _) (a := b) (argsL := argsL) (rest := rest) hlen hst (by show 2 * 0 + _ ≤ _; omega) hd (fun _ _ => ⟨has, eT, hc, hs⟩)
  dsimp only [Pt.U, Pt.locs, Pt.cells, Pt.slots] at X' l1 l2 l3 sT hQ
  subst l1 l2 l3
  exact ⟨v, _, hQ.1, T', _, X', rfl, Fr.app N hQ.2, k.trans sT⟩
theorem own_R.ret {pc : Nat} {Ls : Array Slot} {rest : List Value} {w : Value} {t : FieldType} {i : Instr} {Q : Option Value → Heap → Prop}
    (A : own_R p l e R s m args below meth c S0 n0 h ce sl (mkF m pc Ls (w :: rest))) (hx : p.tables.exec = Jvm.exec) (hlk : meth.locks = false) (hret : meth.sig.returnType = some t) (hd : decode c.code pc = .ok (i, 1)) (hn : narrow t w = w)
    (hi : (i = .ireturn ∧ (t = .int ∨ t = .boolean ∨ t = .byte ∨ t = .char ∨ t = .short) ∧ ∃ z, w = .int z) ∨ (i = .lreturn ∧ t = .long ∧ ∃ z, w = .long z) ∨ (i = .dreturn ∧ t = .double ∧ ∃ z, w = .double z) ∨ (i = .freturn ∧ t = .float ∧ ∃ z, w = .float z) ∨ (i = .areturn ∧ t.isReference = true ∧ w.isRef = true))
    (hc : ce ≤ R.cells) (hs : sl ≤ R.slots) (q : Q (some w) h) : own_E p e R s below S0 n0 Q := by
  obtain ⟨T, L, X, eT, N, k⟩ := A
  obtain ⟨fs, hr, hrun, hended, hW, hsame⟩ := X.leave (v := some w) (fun h => by rw [hret] at h; cases h) hlk
  refine ⟨_, _, _, k.trans (retOut X hx hret hn hi hd hr), hrun, hended, ⟨?_, N⟩, ⟨_, rfl⟩, hW, hsame.mono hc hs⟩
  show Q _ T.heap
  rw [eT]; exact q
theorem own_R.retV {pc : Nat} {Ls : Array Slot} {Q : Option Value → Heap → Prop}
    (A : own_R p l e R s m args below meth c S0 n0 h ce sl (mkF m pc Ls [])) (hx : p.tables.exec = Jvm.exec) (hlk : meth.locks = false) (hret : meth.sig.returnType = none) (hd : decode c.code pc = .ok (.return_, 1))
    (hc : ce ≤ R.cells) (hs : sl ≤ R.slots) (q : Q none h) : own_E p e R s below S0 n0 Q := by
  obtain ⟨T, L, X, eT, N, k⟩ := A
  obtain ⟨fs, hr, hrun, hended, hW, hsame⟩ := X.leave (v := none) (fun _ => rfl) hlk
  refine ⟨_, _, _, k.trans (X.returnOut hx hret hd hr), hrun, hended, ⟨?_, N⟩, ⟨_, rfl⟩, hW, hsame.mono hc hs⟩
  show Q _ T.heap
  rw [eT]; exact q
end Own

theorem own_ne {Z : State} {args : Array Value} {t1 t2 : Term} {C n d : String} {b1 b2 : Addr} {i j : Int32} (e1 : t1.eval args Z none [] Z = some (.ref b1)) (e2 : t2.eval args Z none [] Z = some (.ref b2)) (f1 : (Cond.eq (.field t1 C n d) (.int i)).value args Z none Z [] = some true)
    (f2 : (Cond.eq (.field t2 C n d) (.int j)).value args Z none Z [] = some true) (hij : i ≠ j) : b1 ≠ b2 := by
  intro q
  subst q
  have g1 := fld_at (C := C) (n := n) (dd := d) e1
  have g2 := fld_at (C := C) (n := n) (dd := d) e2
  simp only [Cond.value, g1, Term.int_eval] at f1
  simp only [Cond.value, g2, Term.int_eval] at f2
  cases hv : Z.fieldOf? b1 C n d with
  | none => rw [hv] at f1; cases f1
  | some w =>
    rw [hv] at f1 f2
    cases w <;> simp at f1 f2
    exact hij (f1.symm.trans f2)
def own_of (x y w : Addr) (r : Int32) : Addr := if r = 0 then x else if r = 1 then y else w
theorem own_r3 (x : Int32) : (x &&& (2147483647 : Int32)) % (3 : Int32) = 0 ∨ (x &&& (2147483647 : Int32)) % (3 : Int32) = 1 ∨ (x &&& (2147483647 : Int32)) % (3 : Int32) = 2 := by
  have e := Jvm.Kit.i32_mask x 2147483647 (k := 31) (by decide) (by decide)
  have h3 : (3 : Int32).toInt = 3 := by decide
  have r : ((x &&& (2147483647 : Int32)) % (3 : Int32)).toInt = x.toInt % 2 ^ 31 % 3 := by
    rw [Int32.toInt_mod, e, h3]
    exact Int.tmod_eq_emod_of_nonneg (by omega)
  have a0 : (0 : Int32).toInt = 0 := by decide
  have a1 : (1 : Int32).toInt = 1 := by decide
  have a2 : (2 : Int32).toInt = 2 := by decide
  rw [← Int32.toInt_inj, ← Int32.toInt_inj, ← Int32.toInt_inj, r, a0, a1, a2]
  omega
theorem own_of_exa {Z : State} {h : Heap} {x y w : Addr} {C : String} (r : Int32) (E1 : Exa Z h x C) (E2 : Exa Z h y C) (E3 : Exa Z h w C) : Exa Z h (own_of x y w r) C := by
  unfold own_of
  split
  · exact E1
  · split
    · exact E2
    · exact E3
theorem d1_0 : decode method_2_code 0 = .ok (.iload_n 0, 1) := by decide +kernel
theorem d1_1 : decode method_2_code 1 = .ok (.ldc 7, 2) := by decide +kernel
theorem d1_3 : decode method_2_code 3 = .ok (.iand, 1) := by decide +kernel
theorem d1_4 : decode method_2_code 4 = .ok (.iconst 3, 1) := by decide +kernel
theorem d1_5 : decode method_2_code 5 = .ok (.irem, 1) := by decide +kernel
theorem d1_6 : decode method_2_code 6 = .ok (.istore_n 1, 1) := by decide +kernel
theorem d1_7 : decode method_2_code 7 = .ok (.iload_n 1, 1) := by decide +kernel
theorem d1_8 : decode method_2_code 8 = .ok (.ifCond .ne 7, 3) := by decide +kernel
theorem d1_11 : decode method_2_code 11 = .ok (.getstatic 8, 3) := by decide +kernel
theorem d1_14 : decode method_2_code 14 = .ok (.areturn, 1) := by decide +kernel
theorem d1_15 : decode method_2_code 15 = .ok (.iload_n 1, 1) := by decide +kernel
theorem d1_16 : decode method_2_code 16 = .ok (.iconst 1, 1) := by decide +kernel
theorem d1_17 : decode method_2_code 17 = .ok (.if_icmp .ne 7, 3) := by decide +kernel
theorem d1_20 : decode method_2_code 20 = .ok (.getstatic 14, 3) := by decide +kernel
theorem d1_23 : decode method_2_code 23 = .ok (.areturn, 1) := by decide +kernel
theorem d1_24 : decode method_2_code 24 = .ok (.getstatic 17, 3) := by decide +kernel
theorem d1_27 : decode method_2_code 27 = .ok (.areturn, 1) := by decide +kernel
theorem ef1 (m : MethodId) (p1 : Int32) : entryFrame m #[(.int p1)] 2 = mkF m 0 #[.val (.int p1), .unset] [] := by first | (simp [entryFrame, mkF, argsToLocals, Value.category, maxLocals]; done) | rfl
set_option maxRecDepth 65536 in
set_option maxHeartbeats 40000000 in
theorem own_pick (l : Launch) (Z : State) (a0 : Array Value) (hw : ∀ d ∈ tables_1, d.before a0 Z = true) (p1 : Int32) (b_TRUE b_FALSE b_ERROR : Addr) (h0 : Heap) (n0 : Nat) (Z0 : n0 ≤ h0.size) (S_TRUE : Sta Z h0 "com/example/ricettario/ricettario/validation/XPathValues$Truth" "TRUE" "Lcom/example/ricettario/ricettario/validation/XPathValues$Truth;" (.ref b_TRUE)) (S_FALSE : Sta Z h0 "com/example/ricettario/ricettario/validation/XPathValues$Truth" "FALSE" "Lcom/example/ricettario/ricettario/validation/XPathValues$Truth;" (.ref b_FALSE)) (S_ERROR : Sta Z h0 "com/example/ricettario/ricettario/validation/XPathValues$Truth" "ERROR" "Lcom/example/ricettario/ricettario/validation/XPathValues$Truth;" (.ref b_ERROR)) :
    own_M l Z (⟨"com/example/ricettario/ricettario/validation/TruthAndPinLaw", "pick", "(I)Lcom/example/ricettario/ricettario/validation/XPathValues$Truth;"⟩ : MethodName) method_2_code 2 (some (.object "com/example/ricettario/ricettario/validation/XPathValues$Truth")) [] ({ frames := 0, cells := 0, slots := 0, locals := 0 } : Room) #[(.int p1)] h0 n0 (fun v h => v = some (.ref (own_of b_TRUE b_FALSE b_ERROR ((p1 &&& (2147483647 : Int32)) % (3 : Int32)))) ∧ h0 = h) := by
  refine own_M.of (plainFor_of_name (by first | (simp [plainName, overriddenIn]; done) | decide +kernel)) ?_
  intro p e s m below meth c S0 hx hby hml hown hnm hret hlk hZ A00
  have A0 := A00.cast (ef1 m p1)
  have A1 := A0.go (f' := mkF m 1 #[.val (.int p1), .unset] [(.int p1)]) fun _ _ X _ k => XS.iloadN X.here hx rfl (hb hby d1_0) rfl k
  have A2 : own_R p l e _ _ m _ below meth c S0 n0 h0 0 0 (mkF m 3 #[.val (.int p1), .unset] [(.int (2147483647 : Int32)), (.int p1)]) := A1.ldcI hx hZ hown (hb hby d1_1) (hw _ (List.mem_of_getElem? (i := 4) rfl))
  have A3 := A2.go (f' := mkF m 4 #[.val (.int p1), .unset] [(.int (p1 &&& (2147483647 : Int32)))]) fun _ _ X _ k => XS.iand X.here hx rfl (hb hby d1_3) rfl k
  have A4 := A3.go (f' := mkF m 5 #[.val (.int p1), .unset] [(.int (3 : Int32)), (.int (p1 &&& (2147483647 : Int32)))]) fun _ _ X _ k => XS.iconst X.here hx rfl (hb hby d1_4) k
  have A5 := A4.go (f' := mkF m 6 #[.val (.int p1), .unset] [(.int ((p1 &&& (2147483647 : Int32)) % (3 : Int32)))]) fun _ _ X _ k => iremM X hx rfl (hb hby d1_5) rfl (by decide) k
  have A6 := A5.go (f' := mkF m 7 #[.val (.int p1), .val (.int ((p1 &&& (2147483647 : Int32)) % (3 : Int32)))] []) fun _ _ X _ k => XS.istoreN X.here hx rfl (hb hby d1_6) rfl (l' := #[.val (.int p1), .val (.int ((p1 &&& (2147483647 : Int32)) % (3 : Int32)))]) rfl k
  obtain ⟨z, hz⟩ : ∃ zq_, zq_ = ((p1 &&& (2147483647 : Int32)) % (3 : Int32)) := ⟨_, rfl⟩
  rw [← hz] at A6
  have A7 := A6.go (f' := mkF m 8 #[.val (.int p1), .val (.int z)] [(.int z)]) fun _ _ X _ k => XS.iloadN X.here hx rfl (hb hby d1_7) rfl k
  by_cases q8 : z = (0 : Int32)
  · skip
    have A9 := A7.go (f' := mkF m 11 #[.val (.int p1), .val (.int z)] []) fun _ _ X _ k => XS.ifNo X.here hx rfl (hb hby d1_8) rfl ((if0 _ _).trans (teq q8).2) k
    have A10 : own_R p l e _ _ m _ below meth c S0 n0 h0 0 0 (mkF m 14 #[.val (.int p1), .val (.int z)] [(.ref b_TRUE)]) := A9.getS hx hZ hown (hb hby d1_11) (hw _ (List.mem_of_getElem? (i := 5) rfl)) Via.refl S_TRUE
    exact A10.ret hx hlk hret (hb hby d1_14) rfl (Or.inr (Or.inr (Or.inr (Or.inr ⟨rfl, rfl, rfl⟩)))) (by decide) (by decide) ⟨by simp [own_of, ← hz, q8], rfl⟩
  · skip
    have A11 := A7.go (f' := mkF m 15 #[.val (.int p1), .val (.int z)] []) fun _ _ X _ k => XS.ifYes X.here hx rfl (pc0 := 8) (pc' := 15) rfl (hb hby d1_8) rfl ((if0 _ _).trans (feq q8).2) (by decide) (by decide) k
    have A12 := A11.go (f' := mkF m 16 #[.val (.int p1), .val (.int z)] [(.int z)]) fun _ _ X _ k => XS.iloadN X.here hx rfl (hb hby d1_15) rfl k
    have A13 := A12.go (f' := mkF m 17 #[.val (.int p1), .val (.int z)] [(.int (1 : Int32)), (.int z)]) fun _ _ X _ k => XS.iconst X.here hx rfl (hb hby d1_16) k
    by_cases q14 : z = (1 : Int32)
    · skip
      have A15 := A13.go (f' := mkF m 20 #[.val (.int p1), .val (.int z)] []) fun _ _ X _ k => XS.icmpNo X.here hx rfl (hb hby d1_17) rfl ((teq q14).2) k
      have A16 : own_R p l e _ _ m _ below meth c S0 n0 h0 0 0 (mkF m 23 #[.val (.int p1), .val (.int z)] [(.ref b_FALSE)]) := A15.getS hx hZ hown (hb hby d1_20) (hw _ (List.mem_of_getElem? (i := 21) rfl)) Via.refl S_FALSE
      exact A16.ret hx hlk hret (hb hby d1_23) rfl (Or.inr (Or.inr (Or.inr (Or.inr ⟨rfl, rfl, rfl⟩)))) (by decide) (by decide) ⟨by simp [own_of, ← hz, q8, q14], rfl⟩
    · skip
      have A17 := A13.go (f' := mkF m 24 #[.val (.int p1), .val (.int z)] []) fun _ _ X _ k => XS.icmpYes X.here hx rfl (pc0 := 17) (pc' := 24) rfl (hb hby d1_17) rfl ((feq q14).2) (by decide) (by decide) k
      have A18 : own_R p l e _ _ m _ below meth c S0 n0 h0 0 0 (mkF m 27 #[.val (.int p1), .val (.int z)] [(.ref b_ERROR)]) := A17.getS hx hZ hown (hb hby d1_24) (hw _ (List.mem_of_getElem? (i := 22) rfl)) Via.refl S_ERROR
      exact A18.ret hx hlk hret (hb hby d1_27) rfl (Or.inr (Or.inr (Or.inr (Or.inr ⟨rfl, rfl, rfl⟩)))) (by decide) (by decide) ⟨by simp [own_of, ← hz, q8, q14], rfl⟩
theorem d2_0 : decode jdk_29_method_69_code 0 = .ok (.iload_n 0, 1) := by decide +kernel
theorem d2_1 : decode jdk_29_method_69_code 1 = .ok (.iload_n 1, 1) := by decide +kernel
theorem d2_2 : decode jdk_29_method_69_code 2 = .ok (.if_icmp .gt 7, 3) := by decide +kernel
theorem d2_5 : decode jdk_29_method_69_code 5 = .ok (.iload_n 0, 1) := by decide +kernel
theorem d2_6 : decode jdk_29_method_69_code 6 = .ok (.goto 4, 3) := by decide +kernel
theorem d2_9 : decode jdk_29_method_69_code 9 = .ok (.iload_n 1, 1) := by decide +kernel
theorem d2_10 : decode jdk_29_method_69_code 10 = .ok (.ireturn, 1) := by decide +kernel
theorem ef2 (m : MethodId) (p1 : Int32) (p2 : Int32) : entryFrame m #[(.int p1), (.int p2)] 2 = mkF m 0 #[.val (.int p1), .val (.int p2)] [] := by first | (simp [entryFrame, mkF, argsToLocals, Value.category, maxLocals]; done) | rfl
set_option maxRecDepth 65536 in
set_option maxHeartbeats 40000000 in
theorem own_min (l : Launch) (Z : State) (a0 : Array Value) (hw : ∀ d ∈ tables_1, d.before a0 Z = true) (p1 p2 : Int32) (h0 : Heap) (n0 : Nat) (Z0 : n0 ≤ h0.size)  :
    own_M l Z (⟨"java/lang/Math", "min", "(II)I"⟩ : MethodName) jdk_29_method_69_code 2 (some .int) [] ({ frames := 0, cells := 0, slots := 0, locals := 0 } : Room) #[(.int p1), (.int p2)] h0 n0 (fun v h => v = some (.int (if p2 < p1 then p2 else p1)) ∧ h0 = h) := by
  refine own_M.of (by decide +kernel) ?_
  intro p e s m below meth c S0 hx hby hml hown hnm hret hlk hZ A00
  have A0 := A00.cast (ef2 m p1 p2)
  have A1 := A0.go (f' := mkF m 1 #[.val (.int p1), .val (.int p2)] [(.int p1)]) fun _ _ X _ k => XS.iloadN X.here hx rfl (hb hby d2_0) rfl k
  have A2 := A1.go (f' := mkF m 2 #[.val (.int p1), .val (.int p2)] [(.int p2), (.int p1)]) fun _ _ X _ k => XS.iloadN X.here hx rfl (hb hby d2_1) rfl k
  by_cases q3 : p2 < p1
  · skip
    have A4 := A2.go (f' := mkF m 9 #[.val (.int p1), .val (.int p2)] []) fun _ _ X _ k => XS.icmpYes X.here hx rfl (pc0 := 2) (pc' := 9) rfl (hb hby d2_2) rfl ((tlt q3).2.2.1) (by decide) (by decide) k
    have A5 := A4.go (f' := mkF m 10 #[.val (.int p1), .val (.int p2)] [(.int p2)]) fun _ _ X _ k => XS.iloadN X.here hx rfl (hb hby d2_9) rfl k
    exact A5.ret hx hlk hret (hb hby d2_10) rfl (Or.inl ⟨rfl, by simp, _, rfl⟩) (by decide) (by decide) ⟨by simp [q3], rfl⟩
  · skip
    have A6 := A2.go (f' := mkF m 5 #[.val (.int p1), .val (.int p2)] []) fun _ _ X _ k => XS.icmpNo X.here hx rfl (hb hby d2_2) rfl ((flt q3).2.2.1) k
    have A7 := A6.go (f' := mkF m 6 #[.val (.int p1), .val (.int p2)] [(.int p1)]) fun _ _ X _ k => XS.iloadN X.here hx rfl (hb hby d2_5) rfl k
    have A8 := A7.go (f' := mkF m 10 #[.val (.int p1), .val (.int p2)] [(.int p1)]) fun _ _ X _ k => XS.goto X.here hx rfl (pc0 := 6) (pc' := 10) rfl (hb hby d2_6) (by decide) (by decide) k
    exact A8.ret hx hlk hret (hb hby d2_10) rfl (Or.inl ⟨rfl, by simp, _, rfl⟩) (by decide) (by decide) ⟨by simp [q3], rfl⟩
def own_and (t f e a b : Addr) : Addr := if a = f ∨ b = f then f else if a = e ∨ b = e then e else t
theorem d3_0 : decode prog_72_method_6_code 0 = .ok (.aload_n 0, 1) := by decide +kernel
theorem d3_1 : decode prog_72_method_6_code 1 = .ok (.getstatic 7, 3) := by decide +kernel
theorem d3_4 : decode prog_72_method_6_code 4 = .ok (.if_acmp .eq 10, 3) := by decide +kernel
theorem d3_7 : decode prog_72_method_6_code 7 = .ok (.aload_n 1, 1) := by decide +kernel
theorem d3_8 : decode prog_72_method_6_code 8 = .ok (.getstatic 7, 3) := by decide +kernel
theorem d3_11 : decode prog_72_method_6_code 11 = .ok (.if_acmp .ne 7, 3) := by decide +kernel
theorem d3_14 : decode prog_72_method_6_code 14 = .ok (.getstatic 7, 3) := by decide +kernel
theorem d3_17 : decode prog_72_method_6_code 17 = .ok (.areturn, 1) := by decide +kernel
theorem d3_18 : decode prog_72_method_6_code 18 = .ok (.aload_n 0, 1) := by decide +kernel
theorem d3_19 : decode prog_72_method_6_code 19 = .ok (.getstatic 10, 3) := by decide +kernel
theorem d3_22 : decode prog_72_method_6_code 22 = .ok (.if_acmp .eq 10, 3) := by decide +kernel
theorem d3_25 : decode prog_72_method_6_code 25 = .ok (.aload_n 1, 1) := by decide +kernel
theorem d3_26 : decode prog_72_method_6_code 26 = .ok (.getstatic 10, 3) := by decide +kernel
theorem d3_29 : decode prog_72_method_6_code 29 = .ok (.if_acmp .ne 9, 3) := by decide +kernel
theorem d3_32 : decode prog_72_method_6_code 32 = .ok (.getstatic 10, 3) := by decide +kernel
theorem d3_35 : decode prog_72_method_6_code 35 = .ok (.goto 6, 3) := by decide +kernel
theorem d3_38 : decode prog_72_method_6_code 38 = .ok (.getstatic 3, 3) := by decide +kernel
theorem d3_41 : decode prog_72_method_6_code 41 = .ok (.areturn, 1) := by decide +kernel
theorem ef3 (m : MethodId) (a1 : Addr) (a2 : Addr) : entryFrame m #[(.ref a1), (.ref a2)] 2 = mkF m 0 #[.val (.ref a1), .val (.ref a2)] [] := by first | (simp [entryFrame, mkF, argsToLocals, Value.category, maxLocals]; done) | rfl
set_option maxRecDepth 65536 in
set_option maxHeartbeats 40000000 in
theorem own_andM (l : Launch) (Z : State) (a0 : Array Value) (hw : ∀ d ∈ tables_1, d.before a0 Z = true) (a1 a2 : Addr) (b_TRUE b_FALSE b_ERROR : Addr) (h0 : Heap) (n0 : Nat) (Z0 : n0 ≤ h0.size) (S_TRUE : Sta Z h0 "com/example/ricettario/ricettario/validation/XPathValues$Truth" "TRUE" "Lcom/example/ricettario/ricettario/validation/XPathValues$Truth;" (.ref b_TRUE)) (S_FALSE : Sta Z h0 "com/example/ricettario/ricettario/validation/XPathValues$Truth" "FALSE" "Lcom/example/ricettario/ricettario/validation/XPathValues$Truth;" (.ref b_FALSE)) (S_ERROR : Sta Z h0 "com/example/ricettario/ricettario/validation/XPathValues$Truth" "ERROR" "Lcom/example/ricettario/ricettario/validation/XPathValues$Truth;" (.ref b_ERROR)) :
    own_M l Z (⟨"com/example/ricettario/ricettario/validation/XPathValues$Truth", "and", "(Lcom/example/ricettario/ricettario/validation/XPathValues$Truth;)Lcom/example/ricettario/ricettario/validation/XPathValues$Truth;"⟩ : MethodName) prog_72_method_6_code 2 (some (.object "com/example/ricettario/ricettario/validation/XPathValues$Truth")) [] ({ frames := 0, cells := 0, slots := 0, locals := 0 } : Room) #[(.ref a1), (.ref a2)] h0 n0 (fun v h => v = some (.ref (own_and b_TRUE b_FALSE b_ERROR a1 a2)) ∧ h0 = h) := by
  refine own_M.of (plainFor_of_name (by first | (simp [plainName, overriddenIn]; done) | decide +kernel)) ?_
  intro p e s m below meth c S0 hx hby hml hown hnm hret hlk hZ A00
  have A0 := A00.cast (ef3 m a1 a2)
  have A1 := A0.go (f' := mkF m 1 #[.val (.ref a1), .val (.ref a2)] [(.ref a1)]) fun _ _ X _ k => XS.aloadN X.here hx rfl (hb hby d3_0) rfl rfl k
  have A2 : own_R p l e _ _ m _ below meth c S0 n0 h0 0 0 (mkF m 4 #[.val (.ref a1), .val (.ref a2)] [(.ref b_FALSE), (.ref a1)]) := A1.getS hx hZ hown (hb hby d3_1) (hw _ (List.mem_of_getElem? (i := 13) rfl)) Via.refl S_FALSE
  by_cases q3 : a1 = b_FALSE
  · skip
    have A4 := A2.go (f' := mkF m 14 #[.val (.ref a1), .val (.ref a2)] []) fun _ _ X _ k => acmp X hx rfl rfl rfl (same := true) (pc0 := 4) (pc' := 14) rfl (hb hby d3_4) rfl (decide_eq_true (congrArg Value.ref q3)) (by decide) rfl k
    have A5 : own_R p l e _ _ m _ below meth c S0 n0 h0 0 0 (mkF m 17 #[.val (.ref a1), .val (.ref a2)] [(.ref b_FALSE)]) := A4.getS hx hZ hown (hb hby d3_14) (hw _ (List.mem_of_getElem? (i := 13) rfl)) Via.refl S_FALSE
    exact A5.ret hx hlk hret (hb hby d3_17) rfl (Or.inr (Or.inr (Or.inr (Or.inr ⟨rfl, rfl, rfl⟩)))) (by decide) (by decide) ⟨by simp [own_and, q3], rfl⟩
  · skip
    have A6 := A2.go (f' := mkF m 7 #[.val (.ref a1), .val (.ref a2)] []) fun _ _ X _ k => acmp X hx rfl rfl rfl (same := false) (pc0 := 4) (pc' := 7) rfl (hb hby d3_4) rfl (decide_eq_false fun q => q3 (Value.ref.inj q)) (by decide) rfl k
    have A7 := A6.go (f' := mkF m 8 #[.val (.ref a1), .val (.ref a2)] [(.ref a2)]) fun _ _ X _ k => XS.aloadN X.here hx rfl (hb hby d3_7) rfl rfl k
    have A8 : own_R p l e _ _ m _ below meth c S0 n0 h0 0 0 (mkF m 11 #[.val (.ref a1), .val (.ref a2)] [(.ref b_FALSE), (.ref a2)]) := A7.getS hx hZ hown (hb hby d3_8) (hw _ (List.mem_of_getElem? (i := 13) rfl)) Via.refl S_FALSE
    by_cases q9 : a2 = b_FALSE
    · skip
      have A10 := A8.go (f' := mkF m 14 #[.val (.ref a1), .val (.ref a2)] []) fun _ _ X _ k => acmp X hx rfl rfl rfl (same := true) (pc0 := 11) (pc' := 14) rfl (hb hby d3_11) rfl (decide_eq_true (congrArg Value.ref q9)) (by decide) rfl k
      have A11 : own_R p l e _ _ m _ below meth c S0 n0 h0 0 0 (mkF m 17 #[.val (.ref a1), .val (.ref a2)] [(.ref b_FALSE)]) := A10.getS hx hZ hown (hb hby d3_14) (hw _ (List.mem_of_getElem? (i := 13) rfl)) Via.refl S_FALSE
      exact A11.ret hx hlk hret (hb hby d3_17) rfl (Or.inr (Or.inr (Or.inr (Or.inr ⟨rfl, rfl, rfl⟩)))) (by decide) (by decide) ⟨by simp [own_and, q3, q9], rfl⟩
    · skip
      have A12 := A8.go (f' := mkF m 18 #[.val (.ref a1), .val (.ref a2)] []) fun _ _ X _ k => acmp X hx rfl rfl rfl (same := false) (pc0 := 11) (pc' := 18) rfl (hb hby d3_11) rfl (decide_eq_false fun q => q9 (Value.ref.inj q)) (by decide) rfl k
      have A13 := A12.go (f' := mkF m 19 #[.val (.ref a1), .val (.ref a2)] [(.ref a1)]) fun _ _ X _ k => XS.aloadN X.here hx rfl (hb hby d3_18) rfl rfl k
      have A14 : own_R p l e _ _ m _ below meth c S0 n0 h0 0 0 (mkF m 22 #[.val (.ref a1), .val (.ref a2)] [(.ref b_ERROR), (.ref a1)]) := A13.getS hx hZ hown (hb hby d3_19) (hw _ (List.mem_of_getElem? (i := 15) rfl)) Via.refl S_ERROR
      by_cases q15 : a1 = b_ERROR
      · skip
        have A16 := A14.go (f' := mkF m 32 #[.val (.ref a1), .val (.ref a2)] []) fun _ _ X _ k => acmp X hx rfl rfl rfl (same := true) (pc0 := 22) (pc' := 32) rfl (hb hby d3_22) rfl (decide_eq_true (congrArg Value.ref q15)) (by decide) rfl k
        have A17 : own_R p l e _ _ m _ below meth c S0 n0 h0 0 0 (mkF m 35 #[.val (.ref a1), .val (.ref a2)] [(.ref b_ERROR)]) := A16.getS hx hZ hown (hb hby d3_32) (hw _ (List.mem_of_getElem? (i := 15) rfl)) Via.refl S_ERROR
        have A18 := A17.go (f' := mkF m 41 #[.val (.ref a1), .val (.ref a2)] [(.ref b_ERROR)]) fun _ _ X _ k => XS.goto X.here hx rfl (pc0 := 35) (pc' := 41) rfl (hb hby d3_35) (by decide) (by decide) k
        exact A18.ret hx hlk hret (hb hby d3_41) rfl (Or.inr (Or.inr (Or.inr (Or.inr ⟨rfl, rfl, rfl⟩)))) (by decide) (by decide) ⟨by simp [own_and, q3, q9, q15], rfl⟩
      · skip
        have A19 := A14.go (f' := mkF m 25 #[.val (.ref a1), .val (.ref a2)] []) fun _ _ X _ k => acmp X hx rfl rfl rfl (same := false) (pc0 := 22) (pc' := 25) rfl (hb hby d3_22) rfl (decide_eq_false fun q => q15 (Value.ref.inj q)) (by decide) rfl k
        have A20 := A19.go (f' := mkF m 26 #[.val (.ref a1), .val (.ref a2)] [(.ref a2)]) fun _ _ X _ k => XS.aloadN X.here hx rfl (hb hby d3_25) rfl rfl k
        have A21 : own_R p l e _ _ m _ below meth c S0 n0 h0 0 0 (mkF m 29 #[.val (.ref a1), .val (.ref a2)] [(.ref b_ERROR), (.ref a2)]) := A20.getS hx hZ hown (hb hby d3_26) (hw _ (List.mem_of_getElem? (i := 15) rfl)) Via.refl S_ERROR
        by_cases q22 : a2 = b_ERROR
        · skip
          have A23 := A21.go (f' := mkF m 32 #[.val (.ref a1), .val (.ref a2)] []) fun _ _ X _ k => acmp X hx rfl rfl rfl (same := true) (pc0 := 29) (pc' := 32) rfl (hb hby d3_29) rfl (decide_eq_true (congrArg Value.ref q22)) (by decide) rfl k
          have A24 : own_R p l e _ _ m _ below meth c S0 n0 h0 0 0 (mkF m 35 #[.val (.ref a1), .val (.ref a2)] [(.ref b_ERROR)]) := A23.getS hx hZ hown (hb hby d3_32) (hw _ (List.mem_of_getElem? (i := 15) rfl)) Via.refl S_ERROR
          have A25 := A24.go (f' := mkF m 41 #[.val (.ref a1), .val (.ref a2)] [(.ref b_ERROR)]) fun _ _ X _ k => XS.goto X.here hx rfl (pc0 := 35) (pc' := 41) rfl (hb hby d3_35) (by decide) (by decide) k
          exact A25.ret hx hlk hret (hb hby d3_41) rfl (Or.inr (Or.inr (Or.inr (Or.inr ⟨rfl, rfl, rfl⟩)))) (by decide) (by decide) ⟨by simp [own_and, q3, q9, q15, q22], rfl⟩
        · skip
          have A26 := A21.go (f' := mkF m 38 #[.val (.ref a1), .val (.ref a2)] []) fun _ _ X _ k => acmp X hx rfl rfl rfl (same := false) (pc0 := 29) (pc' := 38) rfl (hb hby d3_29) rfl (decide_eq_false fun q => q22 (Value.ref.inj q)) (by decide) rfl k
          have A27 : own_R p l e _ _ m _ below meth c S0 n0 h0 0 0 (mkF m 41 #[.val (.ref a1), .val (.ref a2)] [(.ref b_TRUE)]) := A26.getS hx hZ hown (hb hby d3_38) (hw _ (List.mem_of_getElem? (i := 17) rfl)) Via.refl S_TRUE
          exact A27.ret hx hlk hret (hb hby d3_41) rfl (Or.inr (Or.inr (Or.inr (Or.inr ⟨rfl, rfl, rfl⟩)))) (by decide) (by decide) ⟨by simp [own_and, q3, q9, q15, q22], rfl⟩
def own_rank (t f e a : Addr) : Int32 := if a = f then 0 else if a = e then 1 else if a = t then 2 else -1
theorem d4_0 : decode method_3_code 0 = .ok (.aload_n 0, 1) := by decide +kernel
theorem d4_1 : decode method_3_code 1 = .ok (.getstatic 14, 3) := by decide +kernel
theorem d4_4 : decode method_3_code 4 = .ok (.if_acmp .ne 5, 3) := by decide +kernel
theorem d4_7 : decode method_3_code 7 = .ok (.iconst 0, 1) := by decide +kernel
theorem d4_8 : decode method_3_code 8 = .ok (.ireturn, 1) := by decide +kernel
theorem d4_9 : decode method_3_code 9 = .ok (.aload_n 0, 1) := by decide +kernel
theorem d4_10 : decode method_3_code 10 = .ok (.getstatic 17, 3) := by decide +kernel
theorem d4_13 : decode method_3_code 13 = .ok (.if_acmp .ne 5, 3) := by decide +kernel
theorem d4_16 : decode method_3_code 16 = .ok (.iconst 1, 1) := by decide +kernel
theorem d4_17 : decode method_3_code 17 = .ok (.ireturn, 1) := by decide +kernel
theorem d4_18 : decode method_3_code 18 = .ok (.aload_n 0, 1) := by decide +kernel
theorem d4_19 : decode method_3_code 19 = .ok (.getstatic 8, 3) := by decide +kernel
theorem d4_22 : decode method_3_code 22 = .ok (.if_acmp .ne 5, 3) := by decide +kernel
theorem d4_25 : decode method_3_code 25 = .ok (.iconst 2, 1) := by decide +kernel
theorem d4_26 : decode method_3_code 26 = .ok (.ireturn, 1) := by decide +kernel
theorem d4_27 : decode method_3_code 27 = .ok (.iconst (-1), 1) := by decide +kernel
theorem d4_28 : decode method_3_code 28 = .ok (.ireturn, 1) := by decide +kernel
theorem ef4 (m : MethodId) (a1 : Addr) : entryFrame m #[(.ref a1)] 1 = mkF m 0 #[.val (.ref a1)] [] := by first | (simp [entryFrame, mkF, argsToLocals, Value.category, maxLocals]; done) | rfl
set_option maxRecDepth 65536 in
set_option maxHeartbeats 40000000 in
theorem own_rankM (l : Launch) (Z : State) (a0 : Array Value) (hw : ∀ d ∈ tables_1, d.before a0 Z = true) (a1 : Addr) (b_TRUE b_FALSE b_ERROR : Addr) (h0 : Heap) (n0 : Nat) (Z0 : n0 ≤ h0.size) (S_TRUE : Sta Z h0 "com/example/ricettario/ricettario/validation/XPathValues$Truth" "TRUE" "Lcom/example/ricettario/ricettario/validation/XPathValues$Truth;" (.ref b_TRUE)) (S_FALSE : Sta Z h0 "com/example/ricettario/ricettario/validation/XPathValues$Truth" "FALSE" "Lcom/example/ricettario/ricettario/validation/XPathValues$Truth;" (.ref b_FALSE)) (S_ERROR : Sta Z h0 "com/example/ricettario/ricettario/validation/XPathValues$Truth" "ERROR" "Lcom/example/ricettario/ricettario/validation/XPathValues$Truth;" (.ref b_ERROR)) :
    own_M l Z (⟨"com/example/ricettario/ricettario/validation/TruthAndPinLaw", "rank", "(Lcom/example/ricettario/ricettario/validation/XPathValues$Truth;)I"⟩ : MethodName) method_3_code 1 (some .int) [] ({ frames := 0, cells := 0, slots := 0, locals := 0 } : Room) #[(.ref a1)] h0 n0 (fun v h => v = some (.int (own_rank b_TRUE b_FALSE b_ERROR a1)) ∧ h0 = h) := by
  refine own_M.of (plainFor_of_name (by first | (simp [plainName, overriddenIn]; done) | decide +kernel)) ?_
  intro p e s m below meth c S0 hx hby hml hown hnm hret hlk hZ A00
  have A0 := A00.cast (ef4 m a1)
  have A1 := A0.go (f' := mkF m 1 #[.val (.ref a1)] [(.ref a1)]) fun _ _ X _ k => XS.aloadN X.here hx rfl (hb hby d4_0) rfl rfl k
  have A2 : own_R p l e _ _ m _ below meth c S0 n0 h0 0 0 (mkF m 4 #[.val (.ref a1)] [(.ref b_FALSE), (.ref a1)]) := A1.getS hx hZ hown (hb hby d4_1) (hw _ (List.mem_of_getElem? (i := 21) rfl)) Via.refl S_FALSE
  by_cases q3 : a1 = b_FALSE
  · skip
    have A4 := A2.go (f' := mkF m 7 #[.val (.ref a1)] []) fun _ _ X _ k => acmp X hx rfl rfl rfl (same := true) (pc0 := 4) (pc' := 7) rfl (hb hby d4_4) rfl (decide_eq_true (congrArg Value.ref q3)) (by decide) rfl k
    have A5 := A4.go (f' := mkF m 8 #[.val (.ref a1)] [(.int (0 : Int32))]) fun _ _ X _ k => XS.iconst X.here hx rfl (hb hby d4_7) k
    exact A5.ret hx hlk hret (hb hby d4_8) rfl (Or.inl ⟨rfl, by simp, _, rfl⟩) (by decide) (by decide) ⟨by rw [own_rank, if_pos q3], rfl⟩
  · skip
    have A6 := A2.go (f' := mkF m 9 #[.val (.ref a1)] []) fun _ _ X _ k => acmp X hx rfl rfl rfl (same := false) (pc0 := 4) (pc' := 9) rfl (hb hby d4_4) rfl (decide_eq_false fun q => q3 (Value.ref.inj q)) (by decide) rfl k
    have A7 := A6.go (f' := mkF m 10 #[.val (.ref a1)] [(.ref a1)]) fun _ _ X _ k => XS.aloadN X.here hx rfl (hb hby d4_9) rfl rfl k
    have A8 : own_R p l e _ _ m _ below meth c S0 n0 h0 0 0 (mkF m 13 #[.val (.ref a1)] [(.ref b_ERROR), (.ref a1)]) := A7.getS hx hZ hown (hb hby d4_10) (hw _ (List.mem_of_getElem? (i := 22) rfl)) Via.refl S_ERROR
    by_cases q9 : a1 = b_ERROR
    · skip
      have A10 := A8.go (f' := mkF m 16 #[.val (.ref a1)] []) fun _ _ X _ k => acmp X hx rfl rfl rfl (same := true) (pc0 := 13) (pc' := 16) rfl (hb hby d4_13) rfl (decide_eq_true (congrArg Value.ref q9)) (by decide) rfl k
      have A11 := A10.go (f' := mkF m 17 #[.val (.ref a1)] [(.int (1 : Int32))]) fun _ _ X _ k => XS.iconst X.here hx rfl (hb hby d4_16) k
      exact A11.ret hx hlk hret (hb hby d4_17) rfl (Or.inl ⟨rfl, by simp, _, rfl⟩) (by decide) (by decide) ⟨by rw [own_rank, if_neg q3, if_pos q9], rfl⟩
    · skip
      have A12 := A8.go (f' := mkF m 18 #[.val (.ref a1)] []) fun _ _ X _ k => acmp X hx rfl rfl rfl (same := false) (pc0 := 13) (pc' := 18) rfl (hb hby d4_13) rfl (decide_eq_false fun q => q9 (Value.ref.inj q)) (by decide) rfl k
      have A13 := A12.go (f' := mkF m 19 #[.val (.ref a1)] [(.ref a1)]) fun _ _ X _ k => XS.aloadN X.here hx rfl (hb hby d4_18) rfl rfl k
      have A14 : own_R p l e _ _ m _ below meth c S0 n0 h0 0 0 (mkF m 22 #[.val (.ref a1)] [(.ref b_TRUE), (.ref a1)]) := A13.getS hx hZ hown (hb hby d4_19) (hw _ (List.mem_of_getElem? (i := 5) rfl)) Via.refl S_TRUE
      by_cases q15 : a1 = b_TRUE
      · skip
        have A16 := A14.go (f' := mkF m 25 #[.val (.ref a1)] []) fun _ _ X _ k => acmp X hx rfl rfl rfl (same := true) (pc0 := 22) (pc' := 25) rfl (hb hby d4_22) rfl (decide_eq_true (congrArg Value.ref q15)) (by decide) rfl k
        have A17 := A16.go (f' := mkF m 26 #[.val (.ref a1)] [(.int (2 : Int32))]) fun _ _ X _ k => XS.iconst X.here hx rfl (hb hby d4_25) k
        exact A17.ret hx hlk hret (hb hby d4_26) rfl (Or.inl ⟨rfl, by simp, _, rfl⟩) (by decide) (by decide) ⟨by rw [own_rank, if_neg q3, if_neg q9, if_pos q15], rfl⟩
      · skip
        have A18 := A14.go (f' := mkF m 27 #[.val (.ref a1)] []) fun _ _ X _ k => acmp X hx rfl rfl rfl (same := false) (pc0 := 22) (pc' := 27) rfl (hb hby d4_22) rfl (decide_eq_false fun q => q15 (Value.ref.inj q)) (by decide) rfl k
        have A19 := A18.go (f' := mkF m 28 #[.val (.ref a1)] [(.int (-1 : Int32))]) fun _ _ X _ k => XS.iconst X.here hx rfl (hb hby d4_27) k
        exact A19.ret hx hlk hret (hb hby d4_28) rfl (Or.inl ⟨rfl, by simp, _, rfl⟩) (by decide) (by decide) ⟨by rw [own_rank, if_neg q3, if_neg q9, if_neg q15], rfl⟩
theorem own_plain {t f e : Addr} (n1 : t ≠ f) (n2 : t ≠ e) (n3 : f ≠ e) (x y : Int32) : (own_rank t f e (own_and t f e (own_of t f e ((x &&& (2147483647 : Int32)) % (3 : Int32))) (own_of t f e ((y &&& (2147483647 : Int32)) % (3 : Int32))))) = (if (own_rank t f e (own_of t f e ((y &&& (2147483647 : Int32)) % (3 : Int32)))) < (own_rank t f e (own_of t f e ((x &&& (2147483647 : Int32)) % (3 : Int32)))) then (own_rank t f e (own_of t f e ((y &&& (2147483647 : Int32)) % (3 : Int32)))) else (own_rank t f e (own_of t f e ((x &&& (2147483647 : Int32)) % (3 : Int32))))) := by
  have m1 := Ne.symm n1
  have m2 := Ne.symm n2
  have m3 := Ne.symm n3
  rcases own_r3 x with hx | hx | hx <;> rcases own_r3 y with hy | hy | hy <;> rw [hx, hy] <;> simp +decide [own_rank, own_and, own_of, n1, n2, n3, m1, m2, m3]
theorem pd__28I_29Lcom_2fexample_2fricettario_2fricettario_2fvalidation_2fXPathValues_24Truth_3b : parseMethodDescriptor "(I)Lcom/example/ricettario/ricettario/validation/XPathValues$Truth;" = some ⟨[.int], some (.object "com/example/ricettario/ricettario/validation/XPathValues$Truth")⟩ := by decide +kernel
theorem pd__28II_29I : parseMethodDescriptor "(II)I" = some ⟨[.int, .int], some .int⟩ := by decide +kernel
theorem pd__28Lcom_2fexample_2fricettario_2fricettario_2fvalidation_2fXPathValues_24Truth_3b_29I : parseMethodDescriptor "(Lcom/example/ricettario/ricettario/validation/XPathValues$Truth;)I" = some ⟨[(.object "com/example/ricettario/ricettario/validation/XPathValues$Truth")], some .int⟩ := by decide +kernel
theorem pd__28Lcom_2fexample_2fricettario_2fricettario_2fvalidation_2fXPathValues_24Truth_3b_29Lcom_2fexample_2fricettario_2fricettario_2fvalidation_2fXPathValues_24Truth_3b : parseMethodDescriptor "(Lcom/example/ricettario/ricettario/validation/XPathValues$Truth;)Lcom/example/ricettario/ricettario/validation/XPathValues$Truth;" = some ⟨[(.object "com/example/ricettario/ricettario/validation/XPathValues$Truth")], some (.object "com/example/ricettario/ricettario/validation/XPathValues$Truth")⟩ := by decide +kernel
theorem d0_0 : decode code 0 = .ok (.iload_n 0, 1) := at_0
theorem d0_1 : decode code 1 = .ok (.invokestatic 20, 3) := at_1
theorem d0_4 : decode code 4 = .ok (.astore_n 2, 1) := at_4
theorem d0_5 : decode code 5 = .ok (.iload_n 1, 1) := at_5
theorem d0_6 : decode code 6 = .ok (.invokestatic 20, 3) := at_6
theorem d0_9 : decode code 9 = .ok (.astore_n 3, 1) := at_9
theorem d0_10 : decode code 10 = .ok (.aload_n 2, 1) := at_10
theorem d0_11 : decode code 11 = .ok (.aload_n 3, 1) := at_11
theorem d0_12 : decode code 12 = .ok (.invokevirtual 26, 3) := at_12
theorem d0_15 : decode code 15 = .ok (.astore 4, 2) := at_15
theorem d0_17 : decode code 17 = .ok (.aload 4, 2) := at_17
theorem d0_19 : decode code 19 = .ok (.invokestatic 30, 3) := at_19
theorem d0_22 : decode code 22 = .ok (.aload_n 2, 1) := at_22
theorem d0_23 : decode code 23 = .ok (.invokestatic 30, 3) := at_23
theorem d0_26 : decode code 26 = .ok (.aload_n 3, 1) := at_26
theorem d0_27 : decode code 27 = .ok (.invokestatic 30, 3) := at_27
theorem d0_30 : decode code 30 = .ok (.invokestatic 34, 3) := at_30
theorem d0_33 : decode code 33 = .ok (.if_icmp .ne 7, 3) := at_33
theorem d0_36 : decode code 36 = .ok (.iconst 1, 1) := at_36
theorem d0_37 : decode code 37 = .ok (.goto 4, 3) := at_37
theorem d0_41 : decode code 41 = .ok (.ireturn, 1) := at_41
theorem ef0 (m : MethodId) (p1 : Int32) (p2 : Int32) : entryFrame m #[(.int p1), (.int p2)] maxLocals = mkF m 0 #[.val (.int p1), .val (.int p2), .unset, .unset, .unset] [] := by first | (simp [entryFrame, mkF, argsToLocals, Value.category, maxLocals]; done) | rfl
set_option maxRecDepth 65536 in
set_option maxHeartbeats 40000000 in
theorem own_law (l : Launch) (Z : State) (a0 : Array Value) (hw : ∀ d ∈ tables_1, d.before a0 Z = true) (p1 p2 : Int32) (b_TRUE b_FALSE b_ERROR : Addr) (h0 : Heap) (n0 : Nat) (Z0 : n0 ≤ h0.size) (S_TRUE : Sta Z h0 "com/example/ricettario/ricettario/validation/XPathValues$Truth" "TRUE" "Lcom/example/ricettario/ricettario/validation/XPathValues$Truth;" (.ref b_TRUE)) (S_FALSE : Sta Z h0 "com/example/ricettario/ricettario/validation/XPathValues$Truth" "FALSE" "Lcom/example/ricettario/ricettario/validation/XPathValues$Truth;" (.ref b_FALSE)) (S_ERROR : Sta Z h0 "com/example/ricettario/ricettario/validation/XPathValues$Truth" "ERROR" "Lcom/example/ricettario/ricettario/validation/XPathValues$Truth;" (.ref b_ERROR)) (E_TRUE : Exa Z h0 b_TRUE "com/example/ricettario/ricettario/validation/XPathValues$Truth") (E_FALSE : Exa Z h0 b_FALSE "com/example/ricettario/ricettario/validation/XPathValues$Truth") (E_ERROR : Exa Z h0 b_ERROR "com/example/ricettario/ricettario/validation/XPathValues$Truth") (ne1 : b_TRUE ≠ b_FALSE) (ne2 : b_TRUE ≠ b_ERROR) (ne3 : b_FALSE ≠ b_ERROR) :
    own_M l Z x code maxLocals ret tables_1 room_1 #[(.int p1), (.int p2)] h0 n0 (fun v h => v = some (.int 1) ∧ True) := by
  refine own_M.of (plainFor_of_name (by first | (simp [plainName, overriddenIn]; done) | decide +kernel)) ?_
  intro p e s m below meth c S0 hx hby hml hown hnm hret hlk hZ A00
  have A0 := A00.cast (ef0 m p1 p2)
  have A1 := A0.go (f' := mkF m 1 #[.val (.int p1), .val (.int p2), .unset, .unset, .unset] [(.int p1)]) fun _ _ X _ k => XS.iloadN X.here hx rfl (hb hby d0_0) rfl k
  obtain ⟨vA2, hA2, ⟨rfl, rfl⟩, A2⟩ := A1.callS (own_pick l Z a0 hw p1 b_TRUE b_FALSE b_ERROR h0 n0 Z0 S_TRUE S_FALSE S_ERROR) hx hZ hown (hb hby d0_1) (hw _ (List.mem_of_getElem? (i := 0) rfl)) (hw _ (List.mem_of_getElem? (i := 1) rfl)) (hw _ (List.mem_of_getElem? (i := 2) rfl)) (hw _ (List.mem_of_getElem? (i := 3) rfl)) ⟨by decide, by decide⟩ (lenOf pd__28I_29Lcom_2fexample_2fricettario_2fricettario_2fvalidation_2fXPathValues_24Truth_3b rfl) (argsL := [(.int p1)]) (rest := []) rfl rfl (by rw [hml]; rfl) (W := 0) (Nat.le_of_eq rfl) (by decide) (by decide) (by decide) (by decide)
  have A3 : own_R p l e _ _ m _ below meth c S0 n0 h0 0 0 (mkF m 4 #[.val (.int p1), .val (.int p2), .unset, .unset, .unset] [(.ref (own_of b_TRUE b_FALSE b_ERROR ((p1 &&& (2147483647 : Int32)) % (3 : Int32))))]) := A2
  have A4 := A3.go (f' := mkF m 5 #[.val (.int p1), .val (.int p2), .val (.ref (own_of b_TRUE b_FALSE b_ERROR ((p1 &&& (2147483647 : Int32)) % (3 : Int32)))), .unset, .unset] []) fun _ _ X _ k => XS.astoreN X.here hx rfl (hb hby d0_4) rfl rfl (l' := #[.val (.int p1), .val (.int p2), .val (.ref (own_of b_TRUE b_FALSE b_ERROR ((p1 &&& (2147483647 : Int32)) % (3 : Int32)))), .unset, .unset]) rfl k
  have A5 := A4.go (f' := mkF m 6 #[.val (.int p1), .val (.int p2), .val (.ref (own_of b_TRUE b_FALSE b_ERROR ((p1 &&& (2147483647 : Int32)) % (3 : Int32)))), .unset, .unset] [(.int p2)]) fun _ _ X _ k => XS.iloadN X.here hx rfl (hb hby d0_5) rfl k
  obtain ⟨vA6, hA6, ⟨rfl, rfl⟩, A6⟩ := A5.callS (own_pick l Z a0 hw p2 b_TRUE b_FALSE b_ERROR h0 n0 Z0 S_TRUE S_FALSE S_ERROR) hx hZ hown (hb hby d0_6) (hw _ (List.mem_of_getElem? (i := 0) rfl)) (hw _ (List.mem_of_getElem? (i := 1) rfl)) (hw _ (List.mem_of_getElem? (i := 2) rfl)) (hw _ (List.mem_of_getElem? (i := 3) rfl)) ⟨by decide, by decide⟩ (lenOf pd__28I_29Lcom_2fexample_2fricettario_2fricettario_2fvalidation_2fXPathValues_24Truth_3b rfl) (argsL := [(.int p2)]) (rest := []) rfl rfl (by rw [hml]; rfl) (W := 0) (Nat.le_of_eq rfl) (by decide) (by decide) (by decide) (by decide)
  have A7 : own_R p l e _ _ m _ below meth c S0 n0 h0 0 0 (mkF m 9 #[.val (.int p1), .val (.int p2), .val (.ref (own_of b_TRUE b_FALSE b_ERROR ((p1 &&& (2147483647 : Int32)) % (3 : Int32)))), .unset, .unset] [(.ref (own_of b_TRUE b_FALSE b_ERROR ((p2 &&& (2147483647 : Int32)) % (3 : Int32))))]) := A6
  have A8 := A7.go (f' := mkF m 10 #[.val (.int p1), .val (.int p2), .val (.ref (own_of b_TRUE b_FALSE b_ERROR ((p1 &&& (2147483647 : Int32)) % (3 : Int32)))), .val (.ref (own_of b_TRUE b_FALSE b_ERROR ((p2 &&& (2147483647 : Int32)) % (3 : Int32)))), .unset] []) fun _ _ X _ k => XS.astoreN X.here hx rfl (hb hby d0_9) rfl rfl (l' := #[.val (.int p1), .val (.int p2), .val (.ref (own_of b_TRUE b_FALSE b_ERROR ((p1 &&& (2147483647 : Int32)) % (3 : Int32)))), .val (.ref (own_of b_TRUE b_FALSE b_ERROR ((p2 &&& (2147483647 : Int32)) % (3 : Int32)))), .unset]) rfl k
  have A9 := A8.go (f' := mkF m 11 #[.val (.int p1), .val (.int p2), .val (.ref (own_of b_TRUE b_FALSE b_ERROR ((p1 &&& (2147483647 : Int32)) % (3 : Int32)))), .val (.ref (own_of b_TRUE b_FALSE b_ERROR ((p2 &&& (2147483647 : Int32)) % (3 : Int32)))), .unset] [(.ref (own_of b_TRUE b_FALSE b_ERROR ((p1 &&& (2147483647 : Int32)) % (3 : Int32))))]) fun _ _ X _ k => XS.aloadN X.here hx rfl (hb hby d0_10) rfl rfl k
  have A10 := A9.go (f' := mkF m 12 #[.val (.int p1), .val (.int p2), .val (.ref (own_of b_TRUE b_FALSE b_ERROR ((p1 &&& (2147483647 : Int32)) % (3 : Int32)))), .val (.ref (own_of b_TRUE b_FALSE b_ERROR ((p2 &&& (2147483647 : Int32)) % (3 : Int32)))), .unset] [(.ref (own_of b_TRUE b_FALSE b_ERROR ((p2 &&& (2147483647 : Int32)) % (3 : Int32)))), (.ref (own_of b_TRUE b_FALSE b_ERROR ((p1 &&& (2147483647 : Int32)) % (3 : Int32))))]) fun _ _ X _ k => XS.aloadN X.here hx rfl (hb hby d0_11) rfl rfl k
  obtain ⟨vA11, hA11, ⟨rfl, rfl⟩, A11⟩ := A10.callV (b := (own_of b_TRUE b_FALSE b_ERROR ((p1 &&& (2147483647 : Int32)) % (3 : Int32)))) (own_andM l Z a0 hw (own_of b_TRUE b_FALSE b_ERROR ((p1 &&& (2147483647 : Int32)) % (3 : Int32))) (own_of b_TRUE b_FALSE b_ERROR ((p2 &&& (2147483647 : Int32)) % (3 : Int32))) b_TRUE b_FALSE b_ERROR h0 n0 Z0 S_TRUE S_FALSE S_ERROR) (own_of_exa ((p1 &&& (2147483647 : Int32)) % (3 : Int32)) E_TRUE E_FALSE E_ERROR) hx hZ hown (hb hby d0_12) (hw _ (List.mem_of_getElem? (i := 8) rfl)) (hw _ (List.mem_of_getElem? (i := 9) rfl)) (hw _ (List.mem_of_getElem? (i := 11) rfl)) (hw _ (List.mem_of_getElem? (i := 10) rfl)) (hw _ (List.mem_of_getElem? (i := 12) rfl)) (hw _ (List.mem_of_getElem? (i := 6) rfl)) (fun _ q => notFace_of_selects (args := #[]) (mvT q (hw _ (List.mem_of_getElem? (i := 11) rfl)))) ⟨by decide, by decide⟩ (lenOf pd__28Lcom_2fexample_2fricettario_2fricettario_2fvalidation_2fXPathValues_24Truth_3b_29Lcom_2fexample_2fricettario_2fricettario_2fvalidation_2fXPathValues_24Truth_3b rfl) (argsL := [(.ref (own_of b_TRUE b_FALSE b_ERROR ((p2 &&& (2147483647 : Int32)) % (3 : Int32))))]) (rest := []) rfl rfl (by rw [hml]; rfl) (W := 0) (Nat.le_of_eq rfl) (by decide) (by decide) (by decide) (by decide)
  have A12 : own_R p l e _ _ m _ below meth c S0 n0 h0 0 0 (mkF m 15 #[.val (.int p1), .val (.int p2), .val (.ref (own_of b_TRUE b_FALSE b_ERROR ((p1 &&& (2147483647 : Int32)) % (3 : Int32)))), .val (.ref (own_of b_TRUE b_FALSE b_ERROR ((p2 &&& (2147483647 : Int32)) % (3 : Int32)))), .unset] [(.ref (own_and b_TRUE b_FALSE b_ERROR (own_of b_TRUE b_FALSE b_ERROR ((p1 &&& (2147483647 : Int32)) % (3 : Int32))) (own_of b_TRUE b_FALSE b_ERROR ((p2 &&& (2147483647 : Int32)) % (3 : Int32)))))]) := A11
  have A13 := A12.go (f' := mkF m 17 #[.val (.int p1), .val (.int p2), .val (.ref (own_of b_TRUE b_FALSE b_ERROR ((p1 &&& (2147483647 : Int32)) % (3 : Int32)))), .val (.ref (own_of b_TRUE b_FALSE b_ERROR ((p2 &&& (2147483647 : Int32)) % (3 : Int32)))), .val (.ref (own_and b_TRUE b_FALSE b_ERROR (own_of b_TRUE b_FALSE b_ERROR ((p1 &&& (2147483647 : Int32)) % (3 : Int32))) (own_of b_TRUE b_FALSE b_ERROR ((p2 &&& (2147483647 : Int32)) % (3 : Int32)))))] []) fun _ _ X _ k => XS.astore X.here hx rfl (hb hby d0_15) rfl rfl (l' := #[.val (.int p1), .val (.int p2), .val (.ref (own_of b_TRUE b_FALSE b_ERROR ((p1 &&& (2147483647 : Int32)) % (3 : Int32)))), .val (.ref (own_of b_TRUE b_FALSE b_ERROR ((p2 &&& (2147483647 : Int32)) % (3 : Int32)))), .val (.ref (own_and b_TRUE b_FALSE b_ERROR (own_of b_TRUE b_FALSE b_ERROR ((p1 &&& (2147483647 : Int32)) % (3 : Int32))) (own_of b_TRUE b_FALSE b_ERROR ((p2 &&& (2147483647 : Int32)) % (3 : Int32)))))]) rfl k
  have A14 := A13.go (f' := mkF m 19 #[.val (.int p1), .val (.int p2), .val (.ref (own_of b_TRUE b_FALSE b_ERROR ((p1 &&& (2147483647 : Int32)) % (3 : Int32)))), .val (.ref (own_of b_TRUE b_FALSE b_ERROR ((p2 &&& (2147483647 : Int32)) % (3 : Int32)))), .val (.ref (own_and b_TRUE b_FALSE b_ERROR (own_of b_TRUE b_FALSE b_ERROR ((p1 &&& (2147483647 : Int32)) % (3 : Int32))) (own_of b_TRUE b_FALSE b_ERROR ((p2 &&& (2147483647 : Int32)) % (3 : Int32)))))] [(.ref (own_and b_TRUE b_FALSE b_ERROR (own_of b_TRUE b_FALSE b_ERROR ((p1 &&& (2147483647 : Int32)) % (3 : Int32))) (own_of b_TRUE b_FALSE b_ERROR ((p2 &&& (2147483647 : Int32)) % (3 : Int32)))))]) fun _ _ X _ k => XS.aload X.here hx rfl (hb hby d0_17) rfl rfl k
  obtain ⟨vA15, hA15, ⟨rfl, rfl⟩, A15⟩ := A14.callS (own_rankM l Z a0 hw (own_and b_TRUE b_FALSE b_ERROR (own_of b_TRUE b_FALSE b_ERROR ((p1 &&& (2147483647 : Int32)) % (3 : Int32))) (own_of b_TRUE b_FALSE b_ERROR ((p2 &&& (2147483647 : Int32)) % (3 : Int32)))) b_TRUE b_FALSE b_ERROR h0 n0 Z0 S_TRUE S_FALSE S_ERROR) hx hZ hown (hb hby d0_19) (hw _ (List.mem_of_getElem? (i := 18) rfl)) (hw _ (List.mem_of_getElem? (i := 19) rfl)) (hw _ (List.mem_of_getElem? (i := 2) rfl)) (hw _ (List.mem_of_getElem? (i := 20) rfl)) ⟨by decide, by decide⟩ (lenOf pd__28Lcom_2fexample_2fricettario_2fricettario_2fvalidation_2fXPathValues_24Truth_3b_29I rfl) (argsL := [(.ref (own_and b_TRUE b_FALSE b_ERROR (own_of b_TRUE b_FALSE b_ERROR ((p1 &&& (2147483647 : Int32)) % (3 : Int32))) (own_of b_TRUE b_FALSE b_ERROR ((p2 &&& (2147483647 : Int32)) % (3 : Int32)))))]) (rest := []) rfl rfl (by rw [hml]; rfl) (W := 0) (Nat.le_of_eq rfl) (by decide) (by decide) (by decide) (by decide)
  have A16 : own_R p l e _ _ m _ below meth c S0 n0 h0 0 0 (mkF m 22 #[.val (.int p1), .val (.int p2), .val (.ref (own_of b_TRUE b_FALSE b_ERROR ((p1 &&& (2147483647 : Int32)) % (3 : Int32)))), .val (.ref (own_of b_TRUE b_FALSE b_ERROR ((p2 &&& (2147483647 : Int32)) % (3 : Int32)))), .val (.ref (own_and b_TRUE b_FALSE b_ERROR (own_of b_TRUE b_FALSE b_ERROR ((p1 &&& (2147483647 : Int32)) % (3 : Int32))) (own_of b_TRUE b_FALSE b_ERROR ((p2 &&& (2147483647 : Int32)) % (3 : Int32)))))] [(.int (own_rank b_TRUE b_FALSE b_ERROR (own_and b_TRUE b_FALSE b_ERROR (own_of b_TRUE b_FALSE b_ERROR ((p1 &&& (2147483647 : Int32)) % (3 : Int32))) (own_of b_TRUE b_FALSE b_ERROR ((p2 &&& (2147483647 : Int32)) % (3 : Int32))))))]) := A15
  have A17 := A16.go (f' := mkF m 23 #[.val (.int p1), .val (.int p2), .val (.ref (own_of b_TRUE b_FALSE b_ERROR ((p1 &&& (2147483647 : Int32)) % (3 : Int32)))), .val (.ref (own_of b_TRUE b_FALSE b_ERROR ((p2 &&& (2147483647 : Int32)) % (3 : Int32)))), .val (.ref (own_and b_TRUE b_FALSE b_ERROR (own_of b_TRUE b_FALSE b_ERROR ((p1 &&& (2147483647 : Int32)) % (3 : Int32))) (own_of b_TRUE b_FALSE b_ERROR ((p2 &&& (2147483647 : Int32)) % (3 : Int32)))))] [(.ref (own_of b_TRUE b_FALSE b_ERROR ((p1 &&& (2147483647 : Int32)) % (3 : Int32)))), (.int (own_rank b_TRUE b_FALSE b_ERROR (own_and b_TRUE b_FALSE b_ERROR (own_of b_TRUE b_FALSE b_ERROR ((p1 &&& (2147483647 : Int32)) % (3 : Int32))) (own_of b_TRUE b_FALSE b_ERROR ((p2 &&& (2147483647 : Int32)) % (3 : Int32))))))]) fun _ _ X _ k => XS.aloadN X.here hx rfl (hb hby d0_22) rfl rfl k
  obtain ⟨vA18, hA18, ⟨rfl, rfl⟩, A18⟩ := A17.callS (own_rankM l Z a0 hw (own_of b_TRUE b_FALSE b_ERROR ((p1 &&& (2147483647 : Int32)) % (3 : Int32))) b_TRUE b_FALSE b_ERROR h0 n0 Z0 S_TRUE S_FALSE S_ERROR) hx hZ hown (hb hby d0_23) (hw _ (List.mem_of_getElem? (i := 18) rfl)) (hw _ (List.mem_of_getElem? (i := 19) rfl)) (hw _ (List.mem_of_getElem? (i := 2) rfl)) (hw _ (List.mem_of_getElem? (i := 20) rfl)) ⟨by decide, by decide⟩ (lenOf pd__28Lcom_2fexample_2fricettario_2fricettario_2fvalidation_2fXPathValues_24Truth_3b_29I rfl) (argsL := [(.ref (own_of b_TRUE b_FALSE b_ERROR ((p1 &&& (2147483647 : Int32)) % (3 : Int32))))]) (rest := [(.int (own_rank b_TRUE b_FALSE b_ERROR (own_and b_TRUE b_FALSE b_ERROR (own_of b_TRUE b_FALSE b_ERROR ((p1 &&& (2147483647 : Int32)) % (3 : Int32))) (own_of b_TRUE b_FALSE b_ERROR ((p2 &&& (2147483647 : Int32)) % (3 : Int32))))))]) rfl rfl (by rw [hml]; rfl) (W := 1) (Nat.le_of_eq rfl) (by decide) (by decide) (by decide) (by decide)
  have A19 : own_R p l e _ _ m _ below meth c S0 n0 h0 0 0 (mkF m 26 #[.val (.int p1), .val (.int p2), .val (.ref (own_of b_TRUE b_FALSE b_ERROR ((p1 &&& (2147483647 : Int32)) % (3 : Int32)))), .val (.ref (own_of b_TRUE b_FALSE b_ERROR ((p2 &&& (2147483647 : Int32)) % (3 : Int32)))), .val (.ref (own_and b_TRUE b_FALSE b_ERROR (own_of b_TRUE b_FALSE b_ERROR ((p1 &&& (2147483647 : Int32)) % (3 : Int32))) (own_of b_TRUE b_FALSE b_ERROR ((p2 &&& (2147483647 : Int32)) % (3 : Int32)))))] [(.int (own_rank b_TRUE b_FALSE b_ERROR (own_of b_TRUE b_FALSE b_ERROR ((p1 &&& (2147483647 : Int32)) % (3 : Int32))))), (.int (own_rank b_TRUE b_FALSE b_ERROR (own_and b_TRUE b_FALSE b_ERROR (own_of b_TRUE b_FALSE b_ERROR ((p1 &&& (2147483647 : Int32)) % (3 : Int32))) (own_of b_TRUE b_FALSE b_ERROR ((p2 &&& (2147483647 : Int32)) % (3 : Int32))))))]) := A18
  have A20 := A19.go (f' := mkF m 27 #[.val (.int p1), .val (.int p2), .val (.ref (own_of b_TRUE b_FALSE b_ERROR ((p1 &&& (2147483647 : Int32)) % (3 : Int32)))), .val (.ref (own_of b_TRUE b_FALSE b_ERROR ((p2 &&& (2147483647 : Int32)) % (3 : Int32)))), .val (.ref (own_and b_TRUE b_FALSE b_ERROR (own_of b_TRUE b_FALSE b_ERROR ((p1 &&& (2147483647 : Int32)) % (3 : Int32))) (own_of b_TRUE b_FALSE b_ERROR ((p2 &&& (2147483647 : Int32)) % (3 : Int32)))))] [(.ref (own_of b_TRUE b_FALSE b_ERROR ((p2 &&& (2147483647 : Int32)) % (3 : Int32)))), (.int (own_rank b_TRUE b_FALSE b_ERROR (own_of b_TRUE b_FALSE b_ERROR ((p1 &&& (2147483647 : Int32)) % (3 : Int32))))), (.int (own_rank b_TRUE b_FALSE b_ERROR (own_and b_TRUE b_FALSE b_ERROR (own_of b_TRUE b_FALSE b_ERROR ((p1 &&& (2147483647 : Int32)) % (3 : Int32))) (own_of b_TRUE b_FALSE b_ERROR ((p2 &&& (2147483647 : Int32)) % (3 : Int32))))))]) fun _ _ X _ k => XS.aloadN X.here hx rfl (hb hby d0_26) rfl rfl k
  obtain ⟨vA21, hA21, ⟨rfl, rfl⟩, A21⟩ := A20.callS (own_rankM l Z a0 hw (own_of b_TRUE b_FALSE b_ERROR ((p2 &&& (2147483647 : Int32)) % (3 : Int32))) b_TRUE b_FALSE b_ERROR h0 n0 Z0 S_TRUE S_FALSE S_ERROR) hx hZ hown (hb hby d0_27) (hw _ (List.mem_of_getElem? (i := 18) rfl)) (hw _ (List.mem_of_getElem? (i := 19) rfl)) (hw _ (List.mem_of_getElem? (i := 2) rfl)) (hw _ (List.mem_of_getElem? (i := 20) rfl)) ⟨by decide, by decide⟩ (lenOf pd__28Lcom_2fexample_2fricettario_2fricettario_2fvalidation_2fXPathValues_24Truth_3b_29I rfl) (argsL := [(.ref (own_of b_TRUE b_FALSE b_ERROR ((p2 &&& (2147483647 : Int32)) % (3 : Int32))))]) (rest := [(.int (own_rank b_TRUE b_FALSE b_ERROR (own_of b_TRUE b_FALSE b_ERROR ((p1 &&& (2147483647 : Int32)) % (3 : Int32))))), (.int (own_rank b_TRUE b_FALSE b_ERROR (own_and b_TRUE b_FALSE b_ERROR (own_of b_TRUE b_FALSE b_ERROR ((p1 &&& (2147483647 : Int32)) % (3 : Int32))) (own_of b_TRUE b_FALSE b_ERROR ((p2 &&& (2147483647 : Int32)) % (3 : Int32))))))]) rfl rfl (by rw [hml]; rfl) (W := 2) (Nat.le_of_eq rfl) (by decide) (by decide) (by decide) (by decide)
  have A22 : own_R p l e _ _ m _ below meth c S0 n0 h0 0 0 (mkF m 30 #[.val (.int p1), .val (.int p2), .val (.ref (own_of b_TRUE b_FALSE b_ERROR ((p1 &&& (2147483647 : Int32)) % (3 : Int32)))), .val (.ref (own_of b_TRUE b_FALSE b_ERROR ((p2 &&& (2147483647 : Int32)) % (3 : Int32)))), .val (.ref (own_and b_TRUE b_FALSE b_ERROR (own_of b_TRUE b_FALSE b_ERROR ((p1 &&& (2147483647 : Int32)) % (3 : Int32))) (own_of b_TRUE b_FALSE b_ERROR ((p2 &&& (2147483647 : Int32)) % (3 : Int32)))))] [(.int (own_rank b_TRUE b_FALSE b_ERROR (own_of b_TRUE b_FALSE b_ERROR ((p2 &&& (2147483647 : Int32)) % (3 : Int32))))), (.int (own_rank b_TRUE b_FALSE b_ERROR (own_of b_TRUE b_FALSE b_ERROR ((p1 &&& (2147483647 : Int32)) % (3 : Int32))))), (.int (own_rank b_TRUE b_FALSE b_ERROR (own_and b_TRUE b_FALSE b_ERROR (own_of b_TRUE b_FALSE b_ERROR ((p1 &&& (2147483647 : Int32)) % (3 : Int32))) (own_of b_TRUE b_FALSE b_ERROR ((p2 &&& (2147483647 : Int32)) % (3 : Int32))))))]) := A21
  obtain ⟨vA23, hA23, ⟨rfl, rfl⟩, A23⟩ := A22.callS (own_min l Z a0 hw (own_rank b_TRUE b_FALSE b_ERROR (own_of b_TRUE b_FALSE b_ERROR ((p1 &&& (2147483647 : Int32)) % (3 : Int32)))) (own_rank b_TRUE b_FALSE b_ERROR (own_of b_TRUE b_FALSE b_ERROR ((p2 &&& (2147483647 : Int32)) % (3 : Int32)))) h0 n0 Z0) hx hZ hown (hb hby d0_30) (hw _ (List.mem_of_getElem? (i := 23) rfl)) (hw _ (List.mem_of_getElem? (i := 24) rfl)) (hw _ (List.mem_of_getElem? (i := 25) rfl)) (hw _ (List.mem_of_getElem? (i := 26) rfl)) ⟨by decide, by decide⟩ (lenOf pd__28II_29I rfl) (argsL := [(.int (own_rank b_TRUE b_FALSE b_ERROR (own_of b_TRUE b_FALSE b_ERROR ((p1 &&& (2147483647 : Int32)) % (3 : Int32))))), (.int (own_rank b_TRUE b_FALSE b_ERROR (own_of b_TRUE b_FALSE b_ERROR ((p2 &&& (2147483647 : Int32)) % (3 : Int32)))))]) (rest := [(.int (own_rank b_TRUE b_FALSE b_ERROR (own_and b_TRUE b_FALSE b_ERROR (own_of b_TRUE b_FALSE b_ERROR ((p1 &&& (2147483647 : Int32)) % (3 : Int32))) (own_of b_TRUE b_FALSE b_ERROR ((p2 &&& (2147483647 : Int32)) % (3 : Int32))))))]) rfl rfl (by rw [hml]; rfl) (W := 1) (Nat.le_of_eq rfl) (by decide) (by decide) (by decide) (by decide)
  have A24 : own_R p l e _ _ m _ below meth c S0 n0 h0 0 0 (mkF m 33 #[.val (.int p1), .val (.int p2), .val (.ref (own_of b_TRUE b_FALSE b_ERROR ((p1 &&& (2147483647 : Int32)) % (3 : Int32)))), .val (.ref (own_of b_TRUE b_FALSE b_ERROR ((p2 &&& (2147483647 : Int32)) % (3 : Int32)))), .val (.ref (own_and b_TRUE b_FALSE b_ERROR (own_of b_TRUE b_FALSE b_ERROR ((p1 &&& (2147483647 : Int32)) % (3 : Int32))) (own_of b_TRUE b_FALSE b_ERROR ((p2 &&& (2147483647 : Int32)) % (3 : Int32)))))] [(.int (if (own_rank b_TRUE b_FALSE b_ERROR (own_of b_TRUE b_FALSE b_ERROR ((p2 &&& (2147483647 : Int32)) % (3 : Int32)))) < (own_rank b_TRUE b_FALSE b_ERROR (own_of b_TRUE b_FALSE b_ERROR ((p1 &&& (2147483647 : Int32)) % (3 : Int32)))) then (own_rank b_TRUE b_FALSE b_ERROR (own_of b_TRUE b_FALSE b_ERROR ((p2 &&& (2147483647 : Int32)) % (3 : Int32)))) else (own_rank b_TRUE b_FALSE b_ERROR (own_of b_TRUE b_FALSE b_ERROR ((p1 &&& (2147483647 : Int32)) % (3 : Int32)))))), (.int (own_rank b_TRUE b_FALSE b_ERROR (own_and b_TRUE b_FALSE b_ERROR (own_of b_TRUE b_FALSE b_ERROR ((p1 &&& (2147483647 : Int32)) % (3 : Int32))) (own_of b_TRUE b_FALSE b_ERROR ((p2 &&& (2147483647 : Int32)) % (3 : Int32))))))]) := A23
  have q25 : ((own_rank b_TRUE b_FALSE b_ERROR (own_and b_TRUE b_FALSE b_ERROR (own_of b_TRUE b_FALSE b_ERROR ((p1 &&& (2147483647 : Int32)) % (3 : Int32))) (own_of b_TRUE b_FALSE b_ERROR ((p2 &&& (2147483647 : Int32)) % (3 : Int32))))) = (if (own_rank b_TRUE b_FALSE b_ERROR (own_of b_TRUE b_FALSE b_ERROR ((p2 &&& (2147483647 : Int32)) % (3 : Int32)))) < (own_rank b_TRUE b_FALSE b_ERROR (own_of b_TRUE b_FALSE b_ERROR ((p1 &&& (2147483647 : Int32)) % (3 : Int32)))) then (own_rank b_TRUE b_FALSE b_ERROR (own_of b_TRUE b_FALSE b_ERROR ((p2 &&& (2147483647 : Int32)) % (3 : Int32)))) else (own_rank b_TRUE b_FALSE b_ERROR (own_of b_TRUE b_FALSE b_ERROR ((p1 &&& (2147483647 : Int32)) % (3 : Int32)))))) := own_plain ne1 ne2 ne3 p1 p2
  have A26 := A24.go (f' := mkF m 36 #[.val (.int p1), .val (.int p2), .val (.ref (own_of b_TRUE b_FALSE b_ERROR ((p1 &&& (2147483647 : Int32)) % (3 : Int32)))), .val (.ref (own_of b_TRUE b_FALSE b_ERROR ((p2 &&& (2147483647 : Int32)) % (3 : Int32)))), .val (.ref (own_and b_TRUE b_FALSE b_ERROR (own_of b_TRUE b_FALSE b_ERROR ((p1 &&& (2147483647 : Int32)) % (3 : Int32))) (own_of b_TRUE b_FALSE b_ERROR ((p2 &&& (2147483647 : Int32)) % (3 : Int32)))))] []) fun _ _ X _ k => XS.icmpNo X.here hx rfl (hb hby d0_33) rfl ((teq q25).2) k
  have A27 := A26.go (f' := mkF m 37 #[.val (.int p1), .val (.int p2), .val (.ref (own_of b_TRUE b_FALSE b_ERROR ((p1 &&& (2147483647 : Int32)) % (3 : Int32)))), .val (.ref (own_of b_TRUE b_FALSE b_ERROR ((p2 &&& (2147483647 : Int32)) % (3 : Int32)))), .val (.ref (own_and b_TRUE b_FALSE b_ERROR (own_of b_TRUE b_FALSE b_ERROR ((p1 &&& (2147483647 : Int32)) % (3 : Int32))) (own_of b_TRUE b_FALSE b_ERROR ((p2 &&& (2147483647 : Int32)) % (3 : Int32)))))] [(.int (1 : Int32))]) fun _ _ X _ k => XS.iconst X.here hx rfl (hb hby d0_36) k
  have A28 := A27.go (f' := mkF m 41 #[.val (.int p1), .val (.int p2), .val (.ref (own_of b_TRUE b_FALSE b_ERROR ((p1 &&& (2147483647 : Int32)) % (3 : Int32)))), .val (.ref (own_of b_TRUE b_FALSE b_ERROR ((p2 &&& (2147483647 : Int32)) % (3 : Int32)))), .val (.ref (own_and b_TRUE b_FALSE b_ERROR (own_of b_TRUE b_FALSE b_ERROR ((p1 &&& (2147483647 : Int32)) % (3 : Int32))) (own_of b_TRUE b_FALSE b_ERROR ((p2 &&& (2147483647 : Int32)) % (3 : Int32)))))] [(.int (1 : Int32))]) fun _ _ X _ k => XS.goto X.here hx rfl (pc0 := 37) (pc' := 41) rfl (hb hby d0_37) (by decide) (by decide) k
  exact A28.ret hx hlk hret (hb hby d0_41) rfl (Or.inl ⟨rfl, by simp, _, rfl⟩) (by decide) (by decide) ⟨rfl, trivial⟩
set_option maxRecDepth 65536 in
set_option maxHeartbeats 40000000 in
theorem comes_1 {Post : Tables → Env → Array Value → State → Outcome → State → Prop} (hpost : ∀ tb e args s v u, (limb_1_1.after args s (.returned v) u = true ∧ limb_1_2.after args s (.returned v) u = true ∧ True) → FrameEnd s (.returned v) u (Jvm.fieldLocs frame_1_writes args s ++ Jvm.arrayLocs frame_1_arrays args s ++ Jvm.staticLocs frame_1_statics s) 0 0 → Post tb e args s (.returned v) u) :
    ArmFor flags0 classFile x code maxLocals ret World_1 tables_1 room_1 Calls_1 rest_1 Pre_1 Post := by
  intro l hfl _ _ p e ha hc hk s m args below hf hA hF happ hP
  obtain ⟨hcalls, hrest, hpre⟩ := hP
  obtain ⟨-, -, -, hnamed, -, -, -, hat⟩ := (Spec.applies_iff hf).mp happ
  obtain ⟨hg, hn⟩ := and_e (Cond.before_iff.mp (show (Jvm.Cond.and given_1 narrow_1).before args s = true from hpre))
  obtain ⟨h1, g0⟩ := and_e hg
  obtain ⟨w0, w1, rfl⟩ : ∃ w0 w1 : Value, args = #[w0, w1] := by
    have hs : args.size = 2 := by simpa [Cond.value, given_1] using h1
    obtain ⟨L⟩ := args
    match L, hs with
    | [w0, w1], _ => exact ⟨w0, w1, rfl⟩
  have hw := fun d (hd : d ∈ tables_1) => atoms_spec (ws := Jvm.Cond.code x code maxLocals ret :: tables_1) hat d (List.mem_cons_of_mem _ hd)
  have hfit : Fit s := fun {y c} hc i hi => by
    obtain ⟨ha, rfl⟩ := Array.getElem?_eq_some_iff.mp hc
    have q := List.all_eq_true.mp ((Array.all_eq_true_iff_forall_mem.mp hF) _ (Array.getElem_mem ha)) i (List.mem_range.mpr hi)
    simpa [Array.getElem?_eq_getElem hi] using q
  obtain ⟨k0, g1⟩ := and_e g0
  obtain ⟨i0, e0⟩ := is_v k0
  obtain rfl : w0 = (.int i0) := Option.some.inj e0
  obtain ⟨i1, e1⟩ := is_v g1
  obtain rfl : w1 = (.int i1) := Option.some.inj e1
  obtain ⟨n0, r0⟩ := and_e hn
  obtain ⟨b_TRUE, ev_TRUE⟩ := exa_v n0
  have E_TRUE : Exa s s.heap b_TRUE "com/example/ricettario/ricettario/validation/XPathValues$Truth" := Exa.start ev_TRUE n0
  have S_TRUE : Sta s s.heap "com/example/ricettario/ricettario/validation/XPathValues$Truth" "TRUE" "Lcom/example/ricettario/ricettario/validation/XPathValues$Truth;" (.ref b_TRUE) := Sta.start ev_TRUE (Or.inr ⟨(hw _ (List.mem_of_getElem? (i := 6) rfl)), (hw _ (List.mem_of_getElem? (i := 7) rfl))⟩)
  obtain ⟨n1, r1⟩ := and_e r0
  obtain ⟨b_FALSE, ev_FALSE⟩ := exa_v n1
  have E_FALSE : Exa s s.heap b_FALSE "com/example/ricettario/ricettario/validation/XPathValues$Truth" := Exa.start ev_FALSE n1
  have S_FALSE : Sta s s.heap "com/example/ricettario/ricettario/validation/XPathValues$Truth" "FALSE" "Lcom/example/ricettario/ricettario/validation/XPathValues$Truth;" (.ref b_FALSE) := Sta.start ev_FALSE (Or.inr ⟨(hw _ (List.mem_of_getElem? (i := 6) rfl)), (hw _ (List.mem_of_getElem? (i := 14) rfl))⟩)
  obtain ⟨n2, r2⟩ := and_e r1
  have o_TRUE := n2
  obtain ⟨n3, r3⟩ := and_e r2
  have o_FALSE := n3
  obtain ⟨n4, r4⟩ := and_e r3
  obtain ⟨b_ERROR, ev_ERROR⟩ := exa_v n4
  have E_ERROR : Exa s s.heap b_ERROR "com/example/ricettario/ricettario/validation/XPathValues$Truth" := Exa.start ev_ERROR n4
  have S_ERROR : Sta s s.heap "com/example/ricettario/ricettario/validation/XPathValues$Truth" "ERROR" "Lcom/example/ricettario/ricettario/validation/XPathValues$Truth;" (.ref b_ERROR) := Sta.start ev_ERROR (Or.inr ⟨(hw _ (List.mem_of_getElem? (i := 6) rfl)), (hw _ (List.mem_of_getElem? (i := 16) rfl))⟩)
  have o_ERROR := r4
  obtain ⟨n, o, h1, h2, h3, _, L, rfl, ⟨⟨rfl, -⟩, N⟩, hq⟩ := (own_law l s _ hw i0 i1 b_TRUE b_FALSE b_ERROR s.heap s.heap.size (Nat.le_refl _) S_TRUE S_FALSE S_ERROR E_TRUE E_FALSE E_ERROR (own_ne ev_TRUE ev_FALSE o_TRUE o_FALSE (by decide)) (own_ne ev_TRUE ev_ERROR o_TRUE o_ERROR (by decide)) (own_ne ev_FALSE ev_ERROR o_FALSE o_ERROR (by decide))) p e ha hc hk s m _ below hf ((Spec.applies_iff_loose hf).mp happ).1 ⟨rfl, State.Warmed39.refl s, rfl⟩ trivial
  refine ⟨n, _, h1, h2, h3, hpost _ _ _ _ _ _ ⟨Cond.after_iff.mpr rfl, Cond.after_iff.mpr (eq_i res_at (Term.int_eval (1)) rfl), trivial⟩ ⟨hq.1, hq.2.1, (hq.2.2.sift fun y hy => Or.inr (N y hy)).mono (by decide) (by decide)⟩⟩
theorem main_1_1 : Claimed_1_1 := comes_1 fun _ _ _ _ _ _ h hF => ⟨h.1, hF⟩
theorem main_1_2 : Claimed_1_2 := comes_1 fun _ _ _ _ _ _ h hF => ⟨h.2.1, hF⟩
end Jvm.Pilot.@@N@@
namespace Jvm.Pilot.@@N@@
open Jvm Jvm.ClassFile Sem Op Lib Jvm.Free Jvm.Stand Jvm.Pilot.@@N@@.Jvm.D
/-! MADE BY PROGRAM (witnessworld.py) out of the Statement's table words and the real class files: 13 classes; the members and pool entries that the words name. The judged class is class 1, her method 3. -/
namespace start1
open Jvm.ClassFile
def u (s : String) : CpInfo := .utf8 (stringToUtf16 s)
/-- a pool by its gaps: so many unusable entries, then the entry; so many at the end -/
def gap : Nat → List CpInfo → List CpInfo
  | 0, r => r
  | n + 1, r => .unusable :: gap n r
def poolList (es : List (Nat × CpInfo)) (last : Nat) : List CpInfo := es.foldr (fun e r => gap e.1 (e.2 :: r)) (gap last [])
def pool (es : List (Nat × CpInfo)) (last : Nat) : Array CpInfo := ⟨poolList es last⟩
def fileOf (pool : Array CpInfo) (this : Nat) (attrs : Array Attribute := #[]) (ms : Array MethodInfo := #[]) (fl : Nat := 33) (sup : Nat := 0) (ifs : Array Nat := #[]) (fds : Array FieldInfo := #[]) : ClassFile where
  minorVersion := 0
  majorVersion := 65
  constantPool := pool
  accessFlags := fl
  thisClass := this
  superClass := sup
  interfaces := ifs
  fields := fds
  methods := ms
  attributes := attrs
def plain (name : String) (sup : Option ClassId) : Class where
  name := name
  kind := .ordinary
  loader := none
  accessFlags := 33
  super := sup
  interfaces := #[]
  cf := none
  fields := #[]
  methods := #[]
  instanceTypes := #[]
  staticTypes := #[]
  resolved := #[]
  callSites := []
  init := .initialized
  statics := none
  mirror := none

def pool0 : Array CpInfo := pool [(5, u "<init>"), (0, u "()V"), (1, .class_ 10), (1, u "java/lang/Object")] 113

def k0m0 : Method := { name := "<init>", desc := "()V", sig := { parameters := [], returnType := none }, accessFlags := 1, code := none }
/-- java/lang/Object -/
def k0 : Class := { plain "java/lang/Object" none with
  accessFlags := 33
  interfaces := #[]
  cf := some (fileOf pool0 8 #[] #[{ accessFlags := 1, nameIndex := 5, descriptorIndex := 6, attributes := #[] }] 33 0 #[] #[])
  fields := #[]
  methods := #[k0m0]
  instanceTypes := #[]
  staticTypes := #[]
  resolved := Array.replicate 124 none
  statics := none }

def pool1 : Array CpInfo := pool [(2, .class_ 4), (1, u "java/lang/Object"), (0, u "<init>"), (0, u "()V"), (0, .integer 2147483647), (0, .fieldref 9 10), (0, .class_ 11), (0, .nameAndType 12 13), (0, u "com/example/ricettario/ricettario/validation/XPathValues$Truth"), (0, u "TRUE"), (0, u "Lcom/example/ricettario/ricettario/validation/XPathValues$Truth;"), (0, .fieldref 9 15), (0, .nameAndType 16 13), (0, u "FALSE"), (0, .fieldref 9 18), (0, .nameAndType 19 13), (0, u "ERROR"), (0, .methodref 21 22), (0, .class_ 23), (0, .nameAndType 24 25), (0, u "com/example/ricettario/ricettario/validation/TruthAndPinLaw"), (0, u "pick"), (0, u "(I)Lcom/example/ricettario/ricettario/validation/XPathValues$Truth;"), (0, .methodref 9 27), (0, .nameAndType 28 29), (0, u "and"), (0, u "(Lcom/example/ricettario/ricettario/validation/XPathValues$Truth;)Lcom/example/ricettario/ricettario/validation/XPathValues$Truth;"), (0, .methodref 21 31), (0, .nameAndType 32 33), (0, u "rank"), (0, u "(Lcom/example/ricettario/ricettario/validation/XPathValues$Truth;)I"), (0, .methodref 35 36), (0, .class_ 37), (0, .nameAndType 38 39), (0, u "java/lang/Math"), (0, u "min"), (0, u "(II)I"), (3, u "law"), (0, u "(II)Z")] 6

def k1m0 : Method := { name := "<init>", desc := "()V", sig := { parameters := [], returnType := none }, accessFlags := 2, code := none }
def k1c1 : Code := { maxStack := 2, maxLocals := 2, code := method_2_code, exceptionTable := #[], attributes := #[] }
def k1m1 : Method := { name := "pick", desc := "(I)Lcom/example/ricettario/ricettario/validation/XPathValues$Truth;", sig := { parameters := [.int], returnType := some (.object "com/example/ricettario/ricettario/validation/XPathValues$Truth") }, accessFlags := 10, code := some k1c1 }
def k1c2 : Code := { maxStack := 2, maxLocals := 1, code := method_3_code, exceptionTable := #[], attributes := #[] }
def k1m2 : Method := { name := "rank", desc := "(Lcom/example/ricettario/ricettario/validation/XPathValues$Truth;)I", sig := { parameters := [(.object "com/example/ricettario/ricettario/validation/XPathValues$Truth")], returnType := some .int }, accessFlags := 10, code := some k1c2 }
def k1c3 : Code := { maxStack := 3, maxLocals := 5, code := code, exceptionTable := #[], attributes := #[] }
def k1m3 : Method := { name := "law", desc := "(II)Z", sig := { parameters := [.int, .int], returnType := some .boolean }, accessFlags := 9, code := some k1c3 }
/-- com/example/ricettario/ricettario/validation/TruthAndPinLaw -/
def k1 : Class := { plain "com/example/ricettario/ricettario/validation/TruthAndPinLaw" (some 0) with
  accessFlags := 49
  interfaces := #[]
  cf := some (fileOf pool1 21 #[] #[{ accessFlags := 2, nameIndex := 5, descriptorIndex := 6, attributes := #[] }, { accessFlags := 10, nameIndex := 24, descriptorIndex := 25, attributes := #[] }, { accessFlags := 10, nameIndex := 32, descriptorIndex := 33, attributes := #[] }, { accessFlags := 9, nameIndex := 43, descriptorIndex := 44, attributes := #[] }] 49 2 #[] #[])
  fields := #[]
  methods := #[k1m0, k1m1, k1m2, k1m3]
  instanceTypes := #[]
  staticTypes := #[]
  resolved := Array.replicate 51 none
  statics := none }

def pool2 : Array CpInfo := pool [(1, .class_ 2), (0, u "java/lang/constant/Constable"), (0, .class_ 4), (0, u "java/lang/Object")] 6

/-- java/lang/constant/Constable -/
def k2 : Class := { plain "java/lang/constant/Constable" (some 0) with
  accessFlags := 1537
  interfaces := #[]
  cf := some (fileOf pool2 1 #[] #[] 1537 3 #[] #[])
  fields := #[]
  methods := #[]
  instanceTypes := #[]
  staticTypes := #[]
  resolved := Array.replicate 11 none
  statics := none }

def pool3 : Array CpInfo := pool [(1, .class_ 2), (0, u "java/lang/Comparable"), (0, .class_ 4), (0, u "java/lang/Object")] 7

/-- java/lang/Comparable -/
def k3 : Class := { plain "java/lang/Comparable" (some 0) with
  accessFlags := 1537
  interfaces := #[]
  cf := some (fileOf pool3 1 #[] #[] 1537 3 #[] #[])
  fields := #[]
  methods := #[]
  instanceTypes := #[]
  staticTypes := #[]
  resolved := Array.replicate 12 none
  statics := none }

def pool4 : Array CpInfo := pool [(1, .class_ 2), (0, u "java/io/Serializable"), (0, .class_ 4), (0, u "java/lang/Object")] 2

/-- java/io/Serializable -/
def k4 : Class := { plain "java/io/Serializable" (some 0) with
  accessFlags := 1537
  interfaces := #[]
  cf := some (fileOf pool4 1 #[] #[] 1537 3 #[] #[])
  fields := #[]
  methods := #[]
  instanceTypes := #[]
  staticTypes := #[]
  resolved := Array.replicate 7 none
  statics := none }

def pool5 : Array CpInfo := pool [(2, .class_ 4), (1, u "java/lang/Enum"), (0, u "name"), (0, u "Ljava/lang/String;"), (2, u "ordinal"), (0, u "I"), (1, .class_ 14), (1, u "java/lang/Object"), (4, u "hash"), (86, .class_ 108), (1, u "java/lang/Enum$EnumDesc"), (2, .class_ 112), (0, u "java/lang/constant/Constable"), (0, .class_ 114), (0, u "java/lang/Comparable"), (0, .class_ 116), (0, u "java/io/Serializable")] 87

/-- java/lang/Enum -/
def k5 : Class := { plain "java/lang/Enum" (some 0) with
  accessFlags := 1057
  interfaces := #[2, 3, 4]
  cf := some (fileOf pool5 2 #[.nestMembers #[106]] #[] 1057 12 #[111, 113, 115] #[{ accessFlags := 18, nameIndex := 5, descriptorIndex := 6, attributes := #[] }, { accessFlags := 18, nameIndex := 9, descriptorIndex := 10, attributes := #[] }, { accessFlags := 2, nameIndex := 19, descriptorIndex := 10, attributes := #[] }])
  fields := #[{ name := "name", type := (.object "java/lang/String"), accessFlags := 18, slot := 0, constantValue := 0 }, { name := "ordinal", type := .int, accessFlags := 18, slot := 1, constantValue := 0 }, { name := "hash", type := .int, accessFlags := 2, slot := 2, constantValue := 0 }]
  methods := #[]
  instanceTypes := #[(.object "java/lang/String"), .int, .int]
  staticTypes := #[]
  resolved := Array.replicate 204 none
  statics := none }

def pool6 : Array CpInfo := pool [(1, .class_ 2), (0, u "com/example/ricettario/ricettario/validation/XPathValues$Truth"), (0, .fieldref 1 4), (0, .nameAndType 5 6), (0, u "TRUE"), (0, u "Lcom/example/ricettario/ricettario/validation/XPathValues$Truth;"), (0, .fieldref 1 8), (0, .nameAndType 9 6), (0, u "FALSE"), (0, .fieldref 1 11), (0, .nameAndType 12 6), (0, u "ERROR"), (2, u "$VALUES"), (0, u "[Lcom/example/ricettario/ricettario/validation/XPathValues$Truth;"), (6, .class_ 25), (1, u "java/lang/Enum"), (30, u "(Lcom/example/ricettario/ricettario/validation/XPathValues$Truth;)Lcom/example/ricettario/ricettario/validation/XPathValues$Truth;"), (0, u "and"), (7, .class_ 66), (0, u "com/example/ricettario/ricettario/validation/XPathValues")] 5

def k6c0 : Code := { maxStack := 2, maxLocals := 2, code := prog_72_method_6_code, exceptionTable := #[], attributes := #[] }
def k6m0 : Method := { name := "and", desc := "(Lcom/example/ricettario/ricettario/validation/XPathValues$Truth;)Lcom/example/ricettario/ricettario/validation/XPathValues$Truth;", sig := { parameters := [(.object "com/example/ricettario/ricettario/validation/XPathValues$Truth")], returnType := some (.object "com/example/ricettario/ricettario/validation/XPathValues$Truth") }, accessFlags := 1, code := some k6c0 }
/-- com/example/ricettario/ricettario/validation/XPathValues$Truth -/
def k6 : Class := { plain "com/example/ricettario/ricettario/validation/XPathValues$Truth" (some 5) with
  accessFlags := 16433
  interfaces := #[]
  cf := some (fileOf pool6 1 #[.nestHost 65] #[{ accessFlags := 1, nameIndex := 57, descriptorIndex := 56, attributes := #[] }] 16433 23 #[] #[{ accessFlags := 16409, nameIndex := 5, descriptorIndex := 6, attributes := #[] }, { accessFlags := 16409, nameIndex := 9, descriptorIndex := 6, attributes := #[] }, { accessFlags := 16409, nameIndex := 12, descriptorIndex := 6, attributes := #[] }, { accessFlags := 4122, nameIndex := 15, descriptorIndex := 16, attributes := #[] }])
  fields := #[{ name := "TRUE", type := (.object "com/example/ricettario/ricettario/validation/XPathValues$Truth"), accessFlags := 16409, slot := 0, constantValue := 0 }, { name := "FALSE", type := (.object "com/example/ricettario/ricettario/validation/XPathValues$Truth"), accessFlags := 16409, slot := 1, constantValue := 0 }, { name := "ERROR", type := (.object "com/example/ricettario/ricettario/validation/XPathValues$Truth"), accessFlags := 16409, slot := 2, constantValue := 0 }, { name := "$VALUES", type := (.array (.object "com/example/ricettario/ricettario/validation/XPathValues$Truth")), accessFlags := 4122, slot := 3, constantValue := 0 }]
  methods := #[k6m0]
  instanceTypes := #[(.object "java/lang/String"), .int, .int]
  staticTypes := #[(.object "com/example/ricettario/ricettario/validation/XPathValues$Truth"), (.object "com/example/ricettario/ricettario/validation/XPathValues$Truth"), (.object "com/example/ricettario/ricettario/validation/XPathValues$Truth"), (.array (.object "com/example/ricettario/ricettario/validation/XPathValues$Truth"))]
  resolved := Array.replicate 72 none
  statics := some 0 }

def pool7 : Array CpInfo := pool [(1, .class_ 2), (0, u "java/lang/Math"), (1, .class_ 6), (1, u "java/lang/Object"), (0, u "<init>"), (0, u "()V"), (89, .class_ 100), (1, u "java/lang/Math$RandomNumberGeneratorHolder"), (71, u "negativeZeroFloatBits"), (0, u "J"), (2, u "negativeZeroDoubleBits"), (24, u "min"), (43, u "$assertionsDisabled"), (0, u "Z"), (88, u "(II)I"), (2, u "twoToTheDoubleScaleDown"), (0, u "D"), (4, u "twoToTheDoubleScaleUp"), (9, u "E"), (3, u "PI"), (2, u "TAU"), (2, u "DEGREES_TO_RADIANS"), (0, u "RADIANS_TO_DEGREES")] 94

def k7m0 : Method := { name := "<init>", desc := "()V", sig := { parameters := [], returnType := none }, accessFlags := 2, code := none }
def k7c1 : Code := { maxStack := 2, maxLocals := 2, code := jdk_29_method_69_code, exceptionTable := #[], attributes := #[] }
def k7m1 : Method := { name := "min", desc := "(II)I", sig := { parameters := [.int, .int], returnType := some .int }, accessFlags := 9, code := some k7c1 }
/-- java/lang/Math -/
def k7 : Class := { plain "java/lang/Math" (some 0) with
  accessFlags := 49
  interfaces := #[]
  cf := some (fileOf pool7 1 #[.nestMembers #[98]] #[{ accessFlags := 2, nameIndex := 7, descriptorIndex := 8, attributes := #[] }, { accessFlags := 9, nameIndex := 201, descriptorIndex := 335, attributes := #[] }] 49 4 #[] #[{ accessFlags := 25, nameIndex := 354, descriptorIndex := 339, attributes := #[] }, { accessFlags := 25, nameIndex := 358, descriptorIndex := 339, attributes := #[] }, { accessFlags := 25, nameIndex := 361, descriptorIndex := 339, attributes := #[] }, { accessFlags := 26, nameIndex := 364, descriptorIndex := 339, attributes := #[] }, { accessFlags := 26, nameIndex := 365, descriptorIndex := 339, attributes := #[] }, { accessFlags := 26, nameIndex := 172, descriptorIndex := 173, attributes := #[] }, { accessFlags := 26, nameIndex := 176, descriptorIndex := 173, attributes := #[] }, { accessFlags := 8, nameIndex := 344, descriptorIndex := 339, attributes := #[] }, { accessFlags := 8, nameIndex := 338, descriptorIndex := 339, attributes := #[] }, { accessFlags := 4120, nameIndex := 245, descriptorIndex := 246, attributes := #[] }])
  fields := #[{ name := "E", type := .double, accessFlags := 25, slot := 0, constantValue := 0 }, { name := "PI", type := .double, accessFlags := 25, slot := 1, constantValue := 0 }, { name := "TAU", type := .double, accessFlags := 25, slot := 2, constantValue := 0 }, { name := "DEGREES_TO_RADIANS", type := .double, accessFlags := 26, slot := 3, constantValue := 0 }, { name := "RADIANS_TO_DEGREES", type := .double, accessFlags := 26, slot := 4, constantValue := 0 }, { name := "negativeZeroFloatBits", type := .long, accessFlags := 26, slot := 5, constantValue := 0 }, { name := "negativeZeroDoubleBits", type := .long, accessFlags := 26, slot := 6, constantValue := 0 }, { name := "twoToTheDoubleScaleUp", type := .double, accessFlags := 8, slot := 7, constantValue := 0 }, { name := "twoToTheDoubleScaleDown", type := .double, accessFlags := 8, slot := 8, constantValue := 0 }, { name := "$assertionsDisabled", type := .boolean, accessFlags := 4120, slot := 9, constantValue := 0 }]
  methods := #[k7m0, k7m1]
  instanceTypes := #[]
  staticTypes := #[.double, .double, .double, .double, .double, .long, .long, .double, .double, .boolean]
  resolved := Array.replicate 460 none
  statics := none }

def pool8 : Array CpInfo := pool [(1, u "java/lang/Cloneable"), (0, .class_ 1), (0, u "java/lang/Object"), (0, .class_ 3)] 3

/-- java/lang/Cloneable -/
def k8 : Class := { plain "java/lang/Cloneable" (some 0) with
  accessFlags := 1537
  interfaces := #[]
  cf := some (fileOf pool8 2 #[] #[] 1537 4 #[] #[])
  fields := #[]
  methods := #[]
  instanceTypes := #[]
  staticTypes := #[]
  resolved := Array.replicate 8 none
  statics := none }

/-- the primitive byte -/
def k9 : Class := { plain "byte" none with kind := .primitive 'B', accessFlags := 0x411 }
/-- [B -/
def k10 : Class := { plain "[B" (some 0) with kind := .array 9 .byte, interfaces := #[8, 4], accessFlags := 1041 }

/-- the primitive int -/
def k11 : Class := { plain "int" none with kind := .primitive 'I', accessFlags := 0x411 }
/-- [I -/
def k12 : Class := { plain "[I" (some 0) with kind := .array 11 .int, interfaces := #[8, 4], accessFlags := 1041 }

def heap : Heap := #[{ cls := 6, slots := #[.ref 1, .ref 2, .ref 3, .null], vm := .statics 6 },
  { cls := 6, slots := #[.null, .int 0, .int 0], vm := .none },
  { cls := 6, slots := #[.null, .int 1, .int 0], vm := .none },
  { cls := 6, slots := #[.null, .int 2, .int 0], vm := .none }]
def classes : Array Class := #[k0, k1, k2, k3, k4, k5, k6, k7, k8, k9, k10, k11, k12]
def interned : List (Array UInt16 × Addr) := []
def slotsUsed : Nat := 13
def theMethod : MethodId := ⟨1, 3⟩
def args0 : Array Value := #[.int 5, .int 6]
def aboutOver (below : List Frame) : State where
  vm := { classes := classes, interned := interned.toArray }
  heap := heap
  slotsUsed := slotsUsed
  threads := #[{ frames := .invoking theMethod args0 :: below }]
def below0 : List Frame := [.native { method := ⟨0, 0⟩, args := #[] }]
def about1 : State := aboutOver below0
def p0 : Program := .bare "" "" ""
def e0 : Env := launch0.env 0 0 0
theorem w_frames : about1.frames = Frame.invoking theMethod args0 :: below0 := rfl
set_option maxRecDepth 65536 in
theorem w_args : argsFit about1.vm theMethod args0 = true := by decide +kernel
set_option maxRecDepth 65536 in
theorem w_heap : heapFits about1 = true := by decide +kernel
set_option maxRecDepth 65536 in
theorem w_runnable : about1.curStatus? = some .runnable := by decide +kernel
set_option maxRecDepth 65536 in
theorem w_alone : about1.alone = true := by decide +kernel
set_option maxRecDepth 65536 in
theorem w_named : about1.methodNamed? x = some theMethod := by decide +kernel
set_option maxRecDepth 65536 in
theorem w_hears : about1.hears theMethod below0 = true := by decide +kernel
set_option maxRecDepth 65536 in
theorem w_ripe : about1.ripe theMethod args0 below0 = true := by decide +kernel
theorem w_running : about1.status = .running := rfl
set_option maxRecDepth 65536 in
theorem w_room : about1.hasRoom e0.platform room_1 = true :=
  launch0.hasRoom_least _ room_1 (by decide +kernel) (by decide +kernel) (by decide +kernel) (by decide +kernel) (by decide +kernel) (by decide +kernel)
theorem allAtoms_all (ts : List Jvm.Cond) (a : Array Jvm.Value) (st : Jvm.State) : (allAtoms ts).before a st = ts.all (fun c => c.before a st) := by
  induction ts with
  | nil => rfl
  | cons c t ih =>
    show (Jvm.Cond.and c (allAtoms t)).before a st = _
    rw [Jvm.Cond.before_and, ih, List.all_cons]
def words1 : List Jvm.Cond := Jvm.Cond.code x code maxLocals ret :: tables_1
/-- a 'code' word, met by the world's own term for the bytes: nothing is compared byte by byte -/
theorem code_word {y : MethodName} {bytes : ByteArray} {mx : Nat} {rt : Option FieldType} {a : Array Value} {s : State} {m : MethodId} {meth : Method} {c : Code} (h1 : s.methodNamed? y = some m) (h2 : s.vm.method? m = some meth) (h3 : meth.code = some c) (h4 : c.code = bytes)
    (h5 : (c.maxLocals == mx && c.exceptionTable.isEmpty && decide (c.maxStack ≤ mostOperands) && decide (meth.sig.returnType = rt) && !meth.locks && decide (parseMethodDescriptor y.desc = some meth.sig)) = true) : (Jvm.Cond.code y bytes mx rt).before a s = true := by
  simp only [Bool.and_eq_true, beq_iff_eq, Bool.not_eq_true', decide_eq_true_eq] at h5
  obtain ⟨⟨⟨⟨⟨g1, g2⟩, g3⟩, g4⟩, g5⟩, g6⟩ := h5
  simp [Cond.before, Cond.holds, Cond.value, h1, h2, h3, h4, g1, g2, g3, g4, g5, g6]
def isCode : Jvm.Cond → Bool
  | .code _ _ _ _ => true
  | _ => false
theorem all_split {L : List Jvm.Cond} {P : Jvm.Cond → Bool} (h1 : L.all (fun c => isCode c || P c) = true) (h2 : ∀ c ∈ L.filter isCode, P c = true) : L.all P = true := by
  refine List.all_eq_true.mpr fun c hc => ?_
  have h := List.all_eq_true.mp h1 c hc
  rcases Bool.eq_false_or_eq_true (isCode c) with hi | hi
  · exact h2 c (List.mem_filter.mpr ⟨hc, hi⟩)
  · simpa [hi] using h
set_option maxRecDepth 65536 in
theorem w_c0 : (Jvm.Cond.code x code maxLocals ret).before args0 about1 = true := code_word (m := ⟨1, 3⟩) (meth := k1m3) (c := k1c3) (by decide +kernel) rfl rfl rfl (by decide +kernel)
set_option maxRecDepth 65536 in
theorem w_c1 : (Jvm.Cond.code ({ cls := "com/example/ricettario/ricettario/validation/TruthAndPinLaw", name := "pick", desc := "(I)Lcom/example/ricettario/ricettario/validation/XPathValues$Truth;" } : Jvm.MethodName) method_2_code (2 : Nat) (Option.some (Jvm.ClassFile.FieldType.object "com/example/ricettario/ricettario/validation/XPathValues$Truth"))).before args0 about1 = true := code_word (m := ⟨1, 1⟩) (meth := k1m1) (c := k1c1) (by decide +kernel) rfl rfl rfl (by decide +kernel)
set_option maxRecDepth 65536 in
theorem w_c2 : (Jvm.Cond.code ({ cls := "com/example/ricettario/ricettario/validation/XPathValues$Truth", name := "and", desc := "(Lcom/example/ricettario/ricettario/validation/XPathValues$Truth;)Lcom/example/ricettario/ricettario/validation/XPathValues$Truth;" } : Jvm.MethodName) prog_72_method_6_code (2 : Nat) (Option.some (Jvm.ClassFile.FieldType.object "com/example/ricettario/ricettario/validation/XPathValues$Truth"))).before args0 about1 = true := code_word (m := ⟨6, 0⟩) (meth := k6m0) (c := k6c0) (by decide +kernel) rfl rfl rfl (by decide +kernel)
set_option maxRecDepth 65536 in
theorem w_c3 : (Jvm.Cond.code ({ cls := "com/example/ricettario/ricettario/validation/TruthAndPinLaw", name := "rank", desc := "(Lcom/example/ricettario/ricettario/validation/XPathValues$Truth;)I" } : Jvm.MethodName) method_3_code (1 : Nat) (Option.some Jvm.ClassFile.FieldType.int)).before args0 about1 = true := code_word (m := ⟨1, 2⟩) (meth := k1m2) (c := k1c2) (by decide +kernel) rfl rfl rfl (by decide +kernel)
set_option maxRecDepth 65536 in
theorem w_c4 : (Jvm.Cond.code ({ cls := "java/lang/Math", name := "min", desc := "(II)I" } : Jvm.MethodName) jdk_29_method_69_code (2 : Nat) (Option.some Jvm.ClassFile.FieldType.int)).before args0 about1 = true := code_word (m := ⟨7, 1⟩) (meth := k7m1) (c := k7c1) (by decide +kernel) rfl rfl rfl (by decide +kernel)
def codes1 : List Jvm.Cond := [Jvm.Cond.code x code maxLocals ret, Jvm.Cond.code ({ cls := "com/example/ricettario/ricettario/validation/TruthAndPinLaw", name := "pick", desc := "(I)Lcom/example/ricettario/ricettario/validation/XPathValues$Truth;" } : Jvm.MethodName) method_2_code (2 : Nat) (Option.some (Jvm.ClassFile.FieldType.object "com/example/ricettario/ricettario/validation/XPathValues$Truth")), Jvm.Cond.code ({ cls := "com/example/ricettario/ricettario/validation/XPathValues$Truth", name := "and", desc := "(Lcom/example/ricettario/ricettario/validation/XPathValues$Truth;)Lcom/example/ricettario/ricettario/validation/XPathValues$Truth;" } : Jvm.MethodName) prog_72_method_6_code (2 : Nat) (Option.some (Jvm.ClassFile.FieldType.object "com/example/ricettario/ricettario/validation/XPathValues$Truth")), Jvm.Cond.code ({ cls := "com/example/ricettario/ricettario/validation/TruthAndPinLaw", name := "rank", desc := "(Lcom/example/ricettario/ricettario/validation/XPathValues$Truth;)I" } : Jvm.MethodName) method_3_code (1 : Nat) (Option.some Jvm.ClassFile.FieldType.int), Jvm.Cond.code ({ cls := "java/lang/Math", name := "min", desc := "(II)I" } : Jvm.MethodName) jdk_29_method_69_code (2 : Nat) (Option.some Jvm.ClassFile.FieldType.int)]
set_option maxRecDepth 65536 in
theorem codes_eq : words1.filter isCode = codes1 := rfl
theorem w_codes : ∀ c ∈ words1.filter isCode, c.before args0 about1 = true := by
  rw [codes_eq]
  intro c hc
  simp only [codes1, List.mem_cons, List.not_mem_nil, or_false] at hc
  rcases hc with rfl | rfl | rfl | rfl | rfl
  · exact w_c0
  · exact w_c1
  · exact w_c2
  · exact w_c3
  · exact w_c4
set_option maxRecDepth 65536 in
theorem w_t1 : (words1.take 24).all (fun c => isCode c || c.before args0 about1) = true := by decide +kernel
set_option maxRecDepth 65536 in
theorem w_t2 : (words1.drop 24).all (fun c => isCode c || c.before args0 about1) = true := by decide +kernel
theorem w_tables : (allAtoms (Jvm.Cond.code x code maxLocals ret :: tables_1)).before args0 about1 = true := by
  rw [allAtoms_all]
  show words1.all (fun c => c.before args0 about1) = true
  refine all_split ?_ w_codes
  rw [← List.take_append_drop 24 words1, List.all_append, w_t1, w_t2]
  rfl
set_option maxRecDepth 65536 in
theorem w_case : (Jvm.Cond.and given_1 narrow_1).before args0 about1 = true := by decide +kernel
theorem w_applies : (headSpec (Jvm.Cond.code x code maxLocals ret :: tables_1) room_1).applies x e0.platform about1 = true :=
  (Spec.applies_iff w_frames).mpr ⟨w_running, w_runnable, w_alone, w_named, w_hears, w_ripe, w_room, w_tables⟩
theorem atStart : AtStart classFile x code maxLocals ret World_1 tables_1 room_1 Calls_1 rest_1 Pre_1 launch0 p0 e0 about1 theMethod args0 below0 :=
  ⟨lists_1, trivial, launch0.admits_env _ _ _, launch0.least_env, fairChoices_fair.cas, fairChoices_fair.clock, w_frames, w_args, w_heap, w_applies, trivial, trivial, w_case⟩
end start1
theorem witness_1 : WitnessClaimed_1 := ⟨start1.p0, start1.e0, start1.about1, start1.theMethod, start1.args0, start1.below0, start1.atStart⟩
end Jvm.Pilot.@@N@@
