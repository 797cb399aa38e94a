import JvmDerived
import JvmDerived.Pilot.@@N@@Statement
import JvmDerived.Pilot.@@N@@Code
set_option linter.unusedVariables false
set_option linter.unusedSimpArgs false
namespace Jvm.RoadKit
open Sem ClassFile Op Lib Jvm.Stand Jvm.Free Jvm.LawKit
section New
variable {p : Program} {l : Launch} {e : Env} {R : Room} {s : State} {m : MethodId} {args : Array Value} {below : List Frame} {meth : Method} {c : Code} {T : State} {locs : List Loc} {cells slots : Nat}
theorem retI (X : Stand p l e R s m args below meth c T locs cells slots) (hx : p.tables.exec = Jvm.exec) {pc : Nat} {Ls : Array Slot} {z : Int32} {rest : List Value} (hret : meth.sig.returnType = some .int) (hd : decode c.code pc = .ok (.ireturn, 1)) {fs : List Frame}
    (hl : ∀ (f : JFrame) (acts : List Action), f.method = m → f.locked = none → f.entered = [] → (doReturn e (T.setTop f) acts (some (.int z))).1 = T.setFrames fs) : Steps p.tables e below (T.setTop (mkF m pc Ls (.int z :: rest))) (T.setFrames fs) := by
  have hm' : T.vm.method? m = some meth := X.method'
  have hn : narrow .int (.int z) = .int z := rfl
  show Steps p.tables e below (T.setTop { method := m, pc := pc, locals := Ls, stack := _ :: rest, locked := none }) _
  jvm_step X.here [X.here.top, hx, hd, hm', hret, hn]
  first | (intro acts; rw [hl _ acts rfl rfl rfl]) | rw [hl _ _ rfl rfl rfl]
  exact Steps.refl _
end New
end Jvm.RoadKit
namespace Jvm.Pilot.@@N@@
open Jvm Jvm.ClassFile Sem Op Lib Jvm.Free Jvm.Stand Jvm.LawKit Jvm.RoadKit Bundle Jvm.Pilot.@@N@@.Jvm.D
theorem w_ {Z : State} {a0 : Array Value} (hw : ∀ d ∈ tables_1, d.before a0 Z = true) (i : Nat) {d : Jvm.Cond} (h : tables_1[i]? = some d) : d.before a0 Z = true := hw d (List.mem_of_getElem? h)
abbrev own_Go (p : Program) (e : Env) (below : List Frame) (Φ : State → Outcome → Prop) (T : State) (g : JFrame) : Prop := ∃ s₂ o, Steps p.tables e below (T.setTop g) s₂ ∧ Φ s₂ o
section OwnGo
variable {p : Program} {e : Env} {below : List Frame} {Φ : State → Outcome → Prop} {T T' : State} {g g' : JFrame}
theorem sp_ (st : ∀ target, Steps p.tables e below (T'.setTop g') target → Steps p.tables e below (T.setTop g) target) (k : own_Go p e below Φ T' g') : own_Go p e below Φ T g := by
  obtain ⟨t, o, h, r⟩ := k
  exact ⟨t, o, st t h, r⟩
theorem jp_ (st : Steps p.tables e below (T.setTop g) (T'.setTop g')) (k : own_Go p e below Φ T' g') : own_Go p e below Φ T g := by
  obtain ⟨t, o, h, r⟩ := k
  exact ⟨t, o, st.trans h, r⟩
theorem own_cast (q : g = g') (k : own_Go p e below Φ T g') : own_Go p e below Φ T g := q ▸ k
theorem own_insKeep {Z : State} {h h' : Heap} {a : Addr} {C : String} {ws : List Addr} (F : Ins Z h a C true) (K : Keep h h' ws) : Ins Z h' a C true := by
  obtain ⟨cell, cT, h1, h2, h3⟩ := F
  obtain ⟨c', q1, q2, q3, -⟩ := K.2.2 _ _ h1
  exact ⟨c', cT, q1, h2, by rw [q2, q3]; exact h3⟩
end OwnGo
section OwnCall
variable {p : Program} {l : Launch} {e : Env} {R : Room} {s : State} {m : MethodId} {args : Array Value} {below : List Frame} {meth : Method} {c : Code} {T : State} {locs : List Loc} {cells slots : Nat} {Z : State} {a0 : Array Value} {h : Heap}
  {own : String} {index : Nat} {y z : MethodName} {bytes : ByteArray} {maxL W k n : Nat} {ret : Option FieldType} {as' : Array Value} {Q : Option Value → Heap → List Loc → Prop} {g : JFrame} {argsL rest : List Value} {a : Addr} {C : String} {J J' : Vm → Prop}
/-- who pays a call: what it asks, what it leaves -/
abbrev own_Pay (l : Launch) (R : Room) (p : Program) (e : Env) (below : List Frame) (s : State) (args : Array Value) (y : MethodName) (len W : Nat) (as' : Array Value) (h : Heap) (k n : Nat) (Q : Option Value → Heap → List Loc → Prop) : Prop :=
  Back l R p e below s args y len W (fun A a => a = as' ∧ A.U.heap = h ∧ A.cells + k ≤ R.cells ∧ A.slots + n ≤ R.slots) (fun A _ v B => ∃ L, Q v B.U.heap L ∧ B.locs = A.locs ++ L ∧ B.cells = A.cells + k ∧ B.slots = A.slots + n)
abbrev own_PayW (l : Launch) (R : Room) (p : Program) (e : Env) (below : List Frame) (s : State) (args : Array Value) (y : MethodName) (len W : Nat) (as' : Array Value) (h : Heap) (k n : Nat) (J J' : Vm → Prop) (Q : Option Value → Heap → List Loc → Prop) : Prop :=
  BackS l R p e below s args y len W (fun A a => a = as' ∧ A.U.heap = h ∧ A.cells + k ≤ R.cells ∧ A.slots + n ≤ R.slots ∧ J A.U.vm) (fun A _ v B => ∃ L, (Q v B.U.heap L ∧ J' B.U.vm) ∧ B.locs = A.locs ++ L ∧ B.cells = A.cells + k ∧ B.slots = A.slots + n)
theorem own_cS (X : Stand p l e R s m args below meth c T locs cells slots) (hx : p.tables.exec = Jvm.exec) (hZ : Z.Warmed39 s.vm) (hown : s.vm.findClass own = some m.cls) (w1 : (Jvm.Cond.methodLink own index y).before a0 Z = true) (w2 : (Jvm.Cond.static y).before a0 Z = true) (w3 : (Jvm.Cond.initialized y.cls).before a0 Z = true) (w4 : (Jvm.Cond.code y bytes maxL ret).before a0 Z = true)
    (hy : y.cls ≠ "java/lang/invoke/MethodHandle" ∧ y.cls ≠ "java/lang/invoke/VarHandle") (hK : own_Pay l R p e below s args y 3 W as' h k n Q) (hg : g.method = m) (hsize : g.locals.size = c.maxLocals) (hlen : ∀ sig, parseMethodDescriptor y.desc = some sig → argsL.length = sig.parameters.length) (hstack : g.stack = argsL.reverse ++ rest)
    (hW : 2 * g.monitorRoom + (rest.map fun v => v.category).sum ≤ W) (hdg : decode c.code g.pc = .ok (.invokestatic index, 3)) (ha : argsL.toArray = as') (eT : T.heap = h) (hc : cells + k ≤ R.cells) (hs : slots + n ≤ R.slots) :
    ∃ v T' L, Stand p l e R s m args below meth c T' (locs ++ L) (cells + k) (slots + n) ∧ Q v T'.heap L ∧ Steps p.tables e below (T.setTop g) (T'.setTop { g with pc := g.pc + 3, stack := v.toList ++ rest }) := by
  obtain ⟨v, vm₁, ⟨T', L', c', n'⟩, -, X', ⟨L, hQ, e1, e2, e3⟩, st⟩ := Jvm.LawKit.callS X hx hown (mvT hZ w1) (mvT hZ w2) (mvT hZ w3) (mvT hZ w4) hy hK hg hsize hlen hstack hW hdg (fun _ _ => ⟨ha, eT, hc, hs⟩)
  dsimp only [Pt.U, Pt.locs, Pt.cells, Pt.slots] at X' e1 e2 e3 st hQ
  subst e1 e2 e3
  exact ⟨v, T', L, X', hQ, st _ (Steps.refl _)⟩
theorem own_cI (X : Stand p l e R s m args below meth c T locs cells slots) (hx : p.tables.exec = Jvm.exec) (hZ : Z.Warmed39 s.vm) (hy1 : y.name = "<init>") (hown : s.vm.findClass own = some m.cls) (w1 : (Jvm.Cond.methodLink own index y).before a0 Z = true) (w2 : (Jvm.Cond.instanceMethod y).before a0 Z = true) (w4 : (Jvm.Cond.code y bytes maxL none).before a0 Z = true)
    (hy : y.cls ≠ "java/lang/invoke/MethodHandle" ∧ y.cls ≠ "java/lang/invoke/VarHandle") (hK : own_Pay l R p e below s args y 3 W as' h k n Q) (hg : g.method = m) (hsize : g.locals.size = c.maxLocals) (hlen : ∀ sig, parseMethodDescriptor y.desc = some sig → argsL.length = sig.parameters.length) (hstack : g.stack = argsL.reverse ++ .ref a :: rest)
    (hW : 2 * g.monitorRoom + (rest.map fun v => v.category).sum ≤ W) (hdg : decode c.code g.pc = .ok (.invokespecial index, 3)) (ha : (.ref a :: argsL).toArray = as') (eT : T.heap = h) (hc : cells + k ≤ R.cells) (hs : slots + n ≤ R.slots) :
    ∃ v T' L, Stand p l e R s m args below meth c T' (locs ++ L) (cells + k) (slots + n) ∧ Q v T'.heap L ∧ Steps p.tables e below (T.setTop g) (T'.setTop { g with pc := g.pc + 3, stack := v.toList ++ rest }) := by
  obtain ⟨v, vm₁, ⟨T', L', c', n'⟩, -, X', ⟨L, hQ, e1, e2, e3⟩, st⟩ := X.specialBack hx hy1 hown (mvT hZ w1) (mvT hZ w2) (mvT hZ w4) hy hK hg hsize (Steps.refl _) hlen hstack hW hdg (fun _ _ => ⟨ha, eT, hc, hs⟩)
  dsimp only [Pt.U, Pt.locs, Pt.cells, Pt.slots] at X' e1 e2 e3 st hQ
  subst e1 e2 e3
  exact ⟨v, T', L, X', hQ, st⟩
theorem own_cV (X : Stand p l e R s m args below meth c T locs cells slots) (hx : p.tables.exec = Jvm.exec) (hZ : Z.Warmed39 s.vm) (hown : s.vm.findClass own = some m.cls) (w1 : (Jvm.Cond.methodLink own index y).before a0 Z = true) (w2 : (Jvm.Cond.declares y).before a0 Z = true) (hnf : NotFace s y) (w3 : (Jvm.Cond.selects C y z).before a0 Z = true) (w4 : (Jvm.Cond.instanceMethod z).before a0 Z = true)
    (hy : y.cls ≠ "java/lang/invoke/MethodHandle" ∧ y.cls ≠ "java/lang/invoke/VarHandle") (hK : own_Pay l R p e below s args z 3 W as' h k n Q) (E : Exa Z h a C) (hg : g.method = m) (hsize : g.locals.size = c.maxLocals) (hlen : ∀ sig, parseMethodDescriptor y.desc = some sig → argsL.length = sig.parameters.length) (hstack : g.stack = argsL.reverse ++ .ref a :: rest)
    (hW : 2 * g.monitorRoom + (rest.map fun v => v.category).sum ≤ W) (hdg : decode c.code g.pc = .ok (.invokevirtual index, 3)) (ha : (.ref a :: argsL).toArray = as') (eT : T.heap = h) (hc : cells + k ≤ R.cells) (hs : slots + n ≤ R.slots) :
    ∃ v T' L, Stand p l e R s m args below meth c T' (locs ++ L) (cells + k) (slots + n) ∧ Q v T'.heap L ∧ Steps p.tables e below (T.setTop g) (T'.setTop { g with pc := g.pc + 3, stack := v.toList ++ rest }) := by
  obtain ⟨cq, kq, q1, q2, q3⟩ := isOf hZ eT E
  obtain ⟨v, vm₁, ⟨T', L', c', n'⟩, -, X', ⟨L, hQ, e1, e2, e3⟩, st⟩ := X.virtualBack hx hown (mvT hZ w1) (mvT hZ w2) hnf (mvT hZ w3) (mvT hZ w4) hy hK q1 q3 hg hsize (Steps.refl _) hlen hstack hW hdg (fun _ _ => ⟨ha, eT, hc, hs⟩)
  dsimp only [Pt.U, Pt.locs, Pt.cells, Pt.slots] at X' e1 e2 e3 st hQ
  subst e1 e2 e3
  exact ⟨v, T', L, X', hQ, st⟩
end OwnCall
section OwnCall2
variable {p : Program} {l : Launch} {e : Env} {R : Room} {s : State} {m : MethodId} {args : Array Value} {below : List Frame} {meth : Method} {c : Code} {T : State} {locs : List Loc} {cells slots : Nat} {Z : State} {a0 : Array Value} {h : Heap}
  {own : String} {index count : Nat} {y z : MethodName} {bytes : ByteArray} {maxL W k n : Nat} {ret : Option FieldType} {as' : Array Value} {Q : Option Value → Heap → List Loc → Prop} {g : JFrame} {argsL rest : List Value} {a : Addr} {C : String}
/-- through an interface -/
theorem own_cF (X : Stand p l e R s m args below meth c T locs cells slots) (hx : p.tables.exec = Jvm.exec) (hZ : Z.Warmed39 s.vm) (hown : s.vm.findClass own = some m.cls) (w1 : (Jvm.Cond.methodLink own index y).before a0 Z = true) (w2 : (Jvm.Cond.declares y).before a0 Z = true) (w3 : (Jvm.Cond.interfaceMethod y.cls y.cls y.name y.desc).before a0 Z = true) (hf3 : ((Jvm.Cond.interfaceMethod y.cls y.cls y.name y.desc).onTables && (Jvm.Cond.interfaceMethod y.cls y.cls y.name y.desc).keepsFace) = true) (w4 : (Jvm.Cond.selects C y z).before a0 Z = true)
    (w5 : (Jvm.Cond.instanceMethod z).before a0 Z = true) (w6 : (Jvm.Cond.publicMethod z).before a0 Z = true) (w7 : (Jvm.Cond.unhidden C y.name y.desc).before a0 Z = true) (w8 : (Jvm.Cond.castable C y.cls).before a0 Z = true)
    (hy : y.cls ≠ "java/lang/invoke/MethodHandle" ∧ y.cls ≠ "java/lang/invoke/VarHandle") (hK : own_Pay l R p e below s args z 5 W as' h k n Q) (E : Exa Z h a C) (hg : g.method = m) (hsize : g.locals.size = c.maxLocals) (hlen : ∀ sig, parseMethodDescriptor y.desc = some sig → argsL.length = sig.parameters.length) (hstack : g.stack = argsL.reverse ++ .ref a :: rest)
    (hW : 2 * g.monitorRoom + (rest.map fun v => v.category).sum ≤ W) (hdg : decode c.code g.pc = .ok (.invokeinterface index count, 5)) (ha : (.ref a :: argsL).toArray = as') (eT : T.heap = h) (hc : cells + k ≤ R.cells) (hs : slots + n ≤ R.slots) :
    ∃ v T' L, Stand p l e R s m args below meth c T' (locs ++ L) (cells + k) (slots + n) ∧ Q v T'.heap L ∧ Steps p.tables e below (T.setTop g) (T'.setTop { g with pc := g.pc + 5, stack := v.toList ++ rest }) := by
  obtain ⟨cq, kq, q1, q2, q3⟩ := isOf hZ eT E
  obtain ⟨v, vm₁, ⟨T', L', c', n'⟩, -, X', ⟨L, hQ, e1, e2, e3⟩, st⟩ := X.interfaceBack hx hown (mvT hZ w1) (mvT hZ w2) (mvT hZ w3 hf3) (mvT hZ w4) (mvT hZ w5) (mvT hZ w6) (mvT hZ w7) (mvT hZ w8) hy hK q1 q2 q3 hg hsize (Steps.refl _) hlen hstack hW hdg (fun _ _ => ⟨ha, eT, hc, hs⟩)
  dsimp only [Pt.U, Pt.locs, Pt.cells, Pt.slots] at X' e1 e2 e3 st hQ
  subst e1 e2 e3
  exact ⟨v, T', L, X', hQ, st⟩
theorem own_cP {cell : Cell} (X : Stand p l e R s m args below meth c T locs cells slots) (hx : p.tables.exec = Jvm.exec) (hZ : Z.Warmed39 s.vm) (hown : s.vm.findClass own = some m.cls) (w1 : (Jvm.Cond.methodLink own index y).before a0 Z = true) (w2 : (Jvm.Cond.instanceMethod y).before a0 Z = true) (w3 : (Jvm.Cond.selects y.cls y y).before a0 Z = true) (w5 : (Jvm.Cond.privateMethod y).before a0 Z = true) (w4 : (Jvm.Cond.code y bytes maxL ret).before a0 Z = true)
    (hy : y.cls ≠ "java/lang/invoke/MethodHandle" ∧ y.cls ≠ "java/lang/invoke/VarHandle") (hK : own_Pay l R p e below s args y 3 W as' h k n Q) (hcell : T.heap[a]? = some cell) (hobj : ∀ q, cell.vm ≠ .statics q) (hg : g.method = m) (hsize : g.locals.size = c.maxLocals) (hlen : ∀ sig, parseMethodDescriptor y.desc = some sig → argsL.length = sig.parameters.length) (hstack : g.stack = argsL.reverse ++ .ref a :: rest)
    (hW : 2 * g.monitorRoom + (rest.map fun v => v.category).sum ≤ W) (hdg : decode c.code g.pc = .ok (.invokevirtual index, 3)) (ha : (.ref a :: argsL).toArray = as') (eT : T.heap = h) (hc : cells + k ≤ R.cells) (hs : slots + n ≤ R.slots) :
    ∃ v T' L, Stand p l e R s m args below meth c T' (locs ++ L) (cells + k) (slots + n) ∧ Q v T'.heap L ∧ Steps p.tables e below (T.setTop g) (T'.setTop { g with pc := g.pc + 3, stack := v.toList ++ rest }) := by
  obtain ⟨v, vm₁, ⟨T', L', c', n'⟩, -, X', ⟨L, hQ, e1, e2, e3⟩, st⟩ := X.privateBack hx hown (mvT hZ w1) (mvT hZ w2) (mvT hZ w3) (Cond.privateMethod_at (mvP hZ w5 (args := #[]))) (mvT hZ w4) hy hK hg hsize (Steps.refl _) hcell hobj hlen hstack hW hdg (fun _ _ => ⟨ha, eT, hc, hs⟩)
  dsimp only [Pt.U, Pt.locs, Pt.cells, Pt.slots] at X' e1 e2 e3 st hQ
  subst e1 e2 e3
  exact ⟨v, T', L, X', hQ, st⟩
/-- a class's mirror, made ahead -/
def own_Mir (Z : State) (C : String) (mr : Addr) : Prop := ∃ (cc : ClassId) (kc : Class), Z.vm.findClass C = some cc ∧ Z.vm.classes[cc]? = some kc ∧ kc.mirror = some mr
theorem own_gcls {mr : Addr} (X : Stand p l e R s m args below meth c T locs cells slots) (hx : p.tables.exec = Jvm.exec) (hZ : Z.Warmed39 s.vm) (hown : s.vm.findClass own = some m.cls)
    (w1 : (Jvm.Cond.methodLink own index ⟨"java/lang/Object", "getClass", "()Ljava/lang/Class;"⟩).before a0 Z = true) (w2 : (Jvm.Cond.declares ⟨"java/lang/Object", "getClass", "()Ljava/lang/Class;"⟩).before a0 Z = true) (w4 : (Jvm.Cond.selects C ⟨"java/lang/Object", "getClass", "()Ljava/lang/Class;"⟩ ⟨"java/lang/Object", "getClass", "()Ljava/lang/Class;"⟩).before a0 Z = true)
    (w5 : (Jvm.Cond.instanceMethod ⟨"java/lang/Object", "getClass", "()Ljava/lang/Class;"⟩).before a0 Z = true) (w6 : (Jvm.Cond.native ⟨"java/lang/Object", "getClass", "()Ljava/lang/Class;"⟩).before a0 Z = true) (eT : T.heap = h) (E : Exa Z h a C) (M : own_Mir Z C mr)
    (hg : g.method = m) (hsize : g.locals.size = c.maxLocals) (hs : g.stack = .ref a :: rest) (hd : decode c.code g.pc = .ok (.invokevirtual index, 3)) (hf : 1 ≤ R.frames) (hW : 2 * g.monitorRoom + (rest.map fun v => v.category).sum ≤ W) (hl : W + (nativeFrameWords "java/lang/Object" "getClass" 1 + 11) ≤ R.locals) :
    ∃ T', Stand p l e R s m args below meth c T' locs cells slots ∧ T'.heap = h ∧ ∀ target, Steps p.tables e below (T'.setTop { g with pc := g.pc + 3, stack := .ref mr :: rest }) target → Steps p.tables e below (T.setTop g) target := by
  obtain ⟨cB, kB, i1, i2, i3⟩ := isOf hZ eT E
  obtain ⟨cc, kc, m1, m2, m3⟩ := M
  rw [hZ.alike.findClass] at i1
  cases i1.symm.trans m1
  obtain ⟨k', q, ek⟩ := hZ.alike.2.2 _ _ m2
  obtain ⟨vm', X', st⟩ := X.getClassOf hx hown (mvT hZ w1) (mvT hZ w2) (notFace_of_selects (args := #[]) (mvT hZ w4)) (mvT hZ w4) (mvT hZ w5) (mvT hZ w6) (by rw [hZ.alike.findClass]; exact m1) i3 q (by rw [ek]; exact m3) hg hsize hs hd hf (by omega)
  exact ⟨_, X', eT, st⟩
theorem own_ldcM {mr : Addr} (X : Stand p l e R s m args below meth c T locs cells slots) (hx : p.tables.exec = Jvm.exec) (hZ : Z.Warmed39 s.vm) (hown : s.vm.findClass own = some m.cls) (w : (Jvm.Cond.classLink own index C).before a0 Z = true) (M : own_Mir Z C mr) (eT : T.heap = h)
    (hg : g.method = m) (hd : decode c.code g.pc = .ok (.ldc index, 2)) : ∃ T', Stand p l e R s m args below meth c T' locs cells slots ∧ T'.heap = h ∧ ∀ target, Steps p.tables e below (T'.setTop { g with pc := g.pc + 2, stack := .ref mr :: g.stack }) target → Steps p.tables e below (T.setTop g) target := by
  obtain ⟨cc, kc, m1, m2, m3⟩ := M
  obtain ⟨k', q, ek⟩ := hZ.alike.2.2 _ _ m2
  have hf : s.vm.findClass C = some cc := (hZ.alike.findClass _ _).trans m1
  have hm : k'.mirror = some mr := by rw [ek]; exact m3
  obtain ⟨vm', X', st⟩ := X.ldcMirror hx hown (mvT (args := args) hZ w) (a := mr) (by simp only [Term.eval, hf, q, hm, Option.bind_eq_bind, Option.bind_some, Option.pure_def]) hg hd
  exact ⟨_, X', eT, st⟩
/-- a class that holds one selected method is no interface -/
theorem own_nf {y' : MethodName} (hsel : (Jvm.Cond.selects C y' y').before args s = true) (hc : y.cls = y'.cls) : NotFace s y := fun r0 h0 => by
  obtain ⟨_, _, m2, _, _, q3, _, kP, hkP, hi⟩ := Cond.selects_spec hsel
  have e1 := findClass_of_methodNamed h0
  have e2 := findClass_of_methodNamed q3
  rw [hc, e2] at e1
  exact ⟨kP, Option.some.inj e1 ▸ hkP, hi⟩
/-- a private method selects itself, by a word of another method of its class -/
theorem own_selP {y' : MethodName} (w3 : (Jvm.Cond.selects C y' y').before a0 Z = true) (hc : y'.cls = y.cls) (w2 : (Jvm.Cond.instanceMethod y).before a0 Z = true) (w5 : (Jvm.Cond.privateMethod y).before a0 Z = true) (hy : y.cls ≠ "java/lang/invoke/MethodHandle" ∧ y.cls ≠ "java/lang/invoke/VarHandle") : (Jvm.Cond.selects y.cls y y).before a0 Z = true := by
  obtain ⟨_, _, m2, _, _, q3, _, kP, hkP, hi⟩ := Cond.selects_spec w3
  exact Jvm.Stand.selects_self_of_private (by rw [← hc]; exact findClass_of_methodNamed q3) hkP hi (Cond.privateMethod_at w5) w2 hy
end OwnCall2
section OwnStart
variable {args : Array Value} {s : State} {t u : Term} {a : Addr} {cl : Cell} {ty : FieldType} {z k : Int32}
theorem own_eqInt (h : (Jvm.Cond.eq t (.int k)).value args s none s [] = some true) : t.eval args s none [] s = some (.int k) := by
  obtain ⟨x, y, h1, h2, h3, -⟩ := cmp_v (Or.inl h)
  cases h2
  cases x <;> simp [Kin, Value.isRef] at h3
  have := gotT (Cond.eq_ints h1 (Term.int_eval k)) h
  rw [h1, this]
theorem own_eqRef (h : (Jvm.Cond.eq t u).value args s none s [] = some true) (hu : u.eval args s none [] s = some (.ref a)) : t.eval args s none [] s = some (.ref a) := by
  obtain ⟨x, y, h1, h2, h3, h4⟩ := cmp_v (Or.inl h)
  cases hu.symm.trans h2
  have hx : x.isRef = true := by cases x <;> simp [Kin, Value.isRef] at h3 h4 ⊢
  have := gotT (eq_R h1 hu hx rfl) h
  rw [h1, this]
theorem own_len (h : (Term.length t).eval args s none [] s = some (.int z)) (ht : t.eval args s none [] s = some (.ref a)) (A : Arr s s.heap a cl ty) : cl.slots.size < 2 ^ 31 ∧ cl.slots.size.toInt32 = z := by
  have ha : s.arrayAt? a = some cl := Arr.fin (Vm.Alike.refl _) A
  simp only [Term.eval, ht, ha, Option.bind_eq_bind, Option.bind_some] at h
  split at h
  · rename_i q
    exact ⟨q, by simpa using h⟩
  · cases h
theorem own_elem {v : Value} {i : Nat} {j : Int32} (h : (Term.elem t (.int j)).eval args s none [] s = some v) (ht : t.eval args s none [] s = some (.ref a)) (A : Arr s s.heap a cl ty) (hi : j.toNatClampNeg = i) : cl.slots[i]? = some v := by
  have q := (elem_in h ht (Term.int_eval j) A.1).2
  rw [hi] at q
  exact q
theorem own_fld {C n d : String} {v : Value} (h : (Term.field t C n d).eval args s none [] s = some v) (ht : t.eval args s none [] s = some (.ref a)) : Fld s s.heap a C n d v := Fld.start (by rw [← fld_at ht]; exact h)
end OwnStart
/-- Integer's cache: 256 boxes, -128 to 127 -/
def own_Cache (Z : State) (h : Heap) (w : Addr) : Prop := ∃ cl : Cell, Arr Z h w cl (.object "java/lang/Integer") ∧ cl.slots.size = 256 ∧ ∀ j : Nat, j < 256 → ∃ a, cl.slots[j]? = some (.ref a) ∧ Exa Z h a "java/lang/Integer" ∧ Fld Z h a "java/lang/Integer" "value" "I" (.int (j.toInt32 - 128))
section OwnInt
variable {Z s : State} {h h' : Heap} {w : Addr} {args : Array Value} {t : Term} {i : Int32}
theorem own_Cache.ext (F : own_Cache Z h w) (E : Ext h h') : own_Cache Z h' w := by
  obtain ⟨cl, A, S, H⟩ := F
  refine ⟨cl, A.ext E, S, fun j hj => ?_⟩
  obtain ⟨a, h1, h2, h3⟩ := H j hj
  exact ⟨a, h1, h2.ext E, h3.ext E⟩
theorem own_Cache.start (hst : ∀ idx, t.eval args s none idx s = some (.ref w)) (ha : (Jvm.Cond.arrayOf t (.object "java/lang/Integer")).value args s none s [] = some true) (hl : (Jvm.Cond.eq (.length t) (.int (256 : Int32))).value args s none s [] = some true)
    (hall : (Jvm.Cond.all t (.and (.exactly (.elem t (.index 0)) "java/lang/Integer") (.eq (.field (.elem t (.index 0)) "java/lang/Integer" "value" "I") (.sub (.index 0) (.int (128 : Int32)))))).value args s none s [] = some true) : own_Cache s s.heap w := by
  obtain ⟨cl, A⟩ := Arr.start (hst []) ha
  obtain ⟨q1, q2⟩ := own_len (own_eqInt hl) (hst []) A
  have S : cl.slots.size = 256 := by
    have q := len_toInt q1
    rw [q2] at q
    have e : (256 : Int32).toInt = 256 := rfl
    omega
  refine ⟨cl, A, S, fun j hj => ?_⟩
  have hk := Cond.all_elim (hst []) (Arr.fin (Vm.Alike.refl _) A) hall j (by rw [S]; exact hj)
  obtain ⟨h1, h2⟩ := and_e hk
  obtain ⟨a, c', cell, k, e1, e2, e3, e4, e5, e6, e7⟩ := Cond.exactly_spec (beq_iff_eq.mpr h1 : (Jvm.Cond.exactly (.elem t (.index 0)) "java/lang/Integer").holds args s none s [j] = true)
  have ei : (Term.index 0).eval args s none [j] s = some (.int j.toInt32) := rfl
  have hel := (elem_in e1 (hst [j]) ei A.1).2
  have ej : j.toInt32.toNatClampNeg = j := by simp only [Int32.toNatClampNeg, len_toInt (show j < 2 ^ 31 by omega)]; rfl
  rw [ej] at hel
  obtain ⟨x, y, g1, g2, g3, g4⟩ := cmp_v (Or.inl h2)
  have ey : (Term.sub (.index 0) (.int (128 : Int32))).eval args s none [j] s = some (.int (j.toInt32 - 128)) := by simp [Term.eval]
  cases g2.symm.trans ey
  obtain ⟨z, rfl⟩ : ∃ z, x = .int z := by cases x <;> simp [Kin, Value.isRef] at g3 g4 ⊢
  have hz := gotT (Cond.eq_ints g1 ey) h2
  subst hz
  exact ⟨a, hel, ⟨cell, k, e3, by rw [e6]; exact e2, by rw [e6]; exact e4, e5, e7⟩, Fld.start (by rw [← fld_at e1]; exact g1)⟩
theorem own_Cache.at (F : own_Cache Z h w) (h1 : ¬ i < (-128 : Int32)) (h2 : ¬ (127 : Int32) < i) : ∃ (cl : Cell) (a : Addr), Arr Z h w cl (.object "java/lang/Integer") ∧ ¬ ((i + (128 : Int32)) < 0 ∨ cl.slots.size ≤ (i + (128 : Int32)).toNatClampNeg) ∧ cl.slots[(i + (128 : Int32)).toNatClampNeg]? = some (.ref a) ∧ Exa Z h a "java/lang/Integer" ∧ Fld Z h a "java/lang/Integer" "value" "I" (.int i) := by
  obtain ⟨cl, A, S, H⟩ := F
  rw [Int32.lt_iff_toInt_lt] at h1 h2
  have e1 : (-128 : Int32).toInt = -128 := rfl
  have e2 : (127 : Int32).toInt = 127 := rfl
  have e3 : (128 : Int32).toInt = 128 := rfl
  have e4 : (0 : Int32).toInt = 0 := rfl
  have q := c_iadd i 128
  have r := rng32 (i + 128)
  rw [e1] at h1; rw [e2] at h2; rw [e3] at q
  have hs : (i + 128).toInt = i.toInt + 128 := by omega
  have hn : (i + (128 : Int32)).toNatClampNeg = (i.toInt + 128).toNat := by simp only [Int32.toNatClampNeg, hs]
  obtain ⟨a, g1, g2, g3⟩ := H (i.toInt + 128).toNat (by omega)
  refine ⟨cl, a, A, ?_, by rw [hn]; exact g1, g2, ?_⟩
  · rintro (q | q)
    · rw [Int32.lt_iff_toInt_lt, hs, e4] at q; omega
    · rw [hn, S] at q; omega
  · have e : ((i.toInt + 128).toNat.toInt32 - 128) = i := by
      apply Int32.toInt_inj.mp
      have c := c_isub (i.toInt + 128).toNat.toInt32 128
      have l := len_toInt (n := (i.toInt + 128).toNat) (by omega)
      have r2 := rng32 ((i.toInt + 128).toNat.toInt32 - 128)
      rw [l, e3] at c
      omega
    rw [e] at g3
    exact g3
end OwnInt
theorem own_and3 (x : Int32) : (x &&& (3 : Int32)) = 0 ∨ (x &&& (3 : Int32)) = 1 ∨ (x &&& (3 : Int32)) = 2 ∨ (x &&& (3 : Int32)) = 3 := by
  have h := c_mask x 3 2 (by decide) (by decide)
  have h2 : (x &&& (3 : Int32)).toInt = 0 ∨ (x &&& (3 : Int32)).toInt = 1 ∨ (x &&& (3 : Int32)).toInt = 2 ∨ (x &&& (3 : Int32)).toInt = 3 := by rw [h]; omega
  rcases h2 with q | q | q | q
  · exact Or.inl (Int32.toInt_inj.mp q)
  · exact Or.inr (Or.inl (Int32.toInt_inj.mp q))
  · exact Or.inr (Or.inr (Or.inl (Int32.toInt_inj.mp q)))
  · exact Or.inr (Or.inr (Or.inr (Int32.toInt_inj.mp q)))
theorem own_ltz {a z : Int32} (h1 : ¬ z < a) (h2 : ¬ a = z) : a < z := by
  rw [Int32.lt_iff_toInt_lt] at *
  have q : a.toInt ≠ z.toInt := fun q => h2 (Int32.toInt_inj.mp q)
  omega
theorem own_nl {a b z : Int32} (e : b.toInt = a.toInt + 1) (h : a < z) : ¬ z < b := by
  rw [Int32.lt_iff_toInt_lt] at *
  omega
theorem own_fit {a z : Int32} {k : Nat} (e : (k : Int) ≤ a.toInt + 1) (h : a < z) : k ≤ z.toNatClampNeg := by
  rw [Int32.lt_iff_toInt_lt] at h
  show k ≤ z.toInt.toNat
  omega
abbrev own_MF (l : Launch) (Z : State) (y : MethodName) (bytes : ByteArray) (maxL : Nat) (ret : Option FieldType) (ws : List Jvm.Cond) (rm : Room) (as' : Array Value) (h0 : Heap) (Q : Option Value → Heap → List Loc → Prop) : Prop :=
  MetFree l y (head1 (Jvm.Cond.code y bytes maxL ret :: ws) rm) (fun aa_ UU_ => aa_ = as' ∧ Z.Warmed39 UU_.vm ∧ UU_.heap = h0) (fun _ _ _ _ _ => True) (fun _ UU_ oo_ UV_ => ∃ vv_ LL_, oo_ = .returned vv_ ∧ Q vv_ UV_.heap LL_ ∧ FrameEnd UU_ oo_ UV_ LL_ rm.cells rm.slots)
theorem own_met {l : Launch} {Z : State} {y : MethodName} {bytes : ByteArray} {maxL : Nat} {ret : Option FieldType} {ws : List Jvm.Cond} {rm : Room} {as' : Array Value} {h0 : Heap} {Q : Option Value → Heap → List Loc → Prop} {g0 : MethodId → JFrame} (hp : plainFor y = true) (hg : ∀ m, entryFrame m as' maxL = g0 m)
    (K : ∀ (pp_ : Program) (ee_ : Env) (ss_ : State) (mm_ : MethodId) (bb_ : List Frame) (me_ : Method) (cc_ : Code) (s₁ : State), BodyLoose pp_ l y (head1 (Jvm.Cond.code y bytes maxL ret :: ws) rm) bytes maxL ret ee_ ss_ mm_ as' bb_ me_ cc_ s₁ → pp_.tables.exec = Jvm.exec → cc_.code = bytes → cc_.maxLocals = maxL → ss_.vm.findClass y.cls = some mm_.cls → Z.Warmed39 ss_.vm → ss_.heap = h0 → Stand pp_ l ee_ rm ss_ mm_ as' bb_ me_ cc_ s₁ [] 0 0 → s₁.heap = h0 →
      own_Go pp_ ee_ bb_ (fun s₂ oo_ => s₂.status = .running ∧ Ended s₂ bb_ oo_ ∧ ∃ vv_ LL_, oo_ = .returned vv_ ∧ Q vv_ s₂.heap LL_ ∧ FrameEnd ss_ oo_ s₂ LL_ rm.cells rm.slots) s₁ (g0 mm_)) : own_MF l Z y bytes maxL ret ws rm as' h0 Q := by
  refine MetFree.of_bodySF hp hisR ?_
  intro pp_ ee_ ss_ mm_ args_ bb_ me_ cc_ s₁ Bd hml hP hK
  obtain ⟨rfl, hZ, hh⟩ := hP
  have X0 : Stand pp_ l ee_ rm ss_ mm_ args_ bb_ me_ cc_ s₁ [] 0 0 := Stand.of_body Bd
  have q := K pp_ ee_ ss_ mm_ bb_ me_ cc_ s₁ Bd Bd.exec Bd.bytes hml (findClass_of_methodNamed Bd.named) hZ hh X0 (by rw [← hh, Bd.state]; rfl)
  rw [← hg] at q
  exact q
set_option maxRecDepth 65536
set_option maxHeartbeats 40000000
theorem rN {o : Option FieldType} {t : FieldType} {P : Prop} (e : o = some t) (h : o = none) : P := by rw [e] at h; cases h
abbrev own_Hw (a0 : Array Value) (Z : State) : Prop := ∀ d ∈ tables_1, d.before a0 Z = true
abbrev J0 : ByteArray := jdk_18_method_1_code
abbrev J1 : ByteArray := jdk_33_method_23_code
abbrev J2 : ByteArray := jdk_33_method_22_code
abbrev J3 : ByteArray := jdk_33_method_27_code
abbrev J4 : ByteArray := jdk_33_method_34_code
abbrev J5 : ByteArray := prog_6_method_8_code
abbrev J6 : ByteArray := prog_6_method_7_code
abbrev J7 : ByteArray := jdk_29_method_69_code
abbrev J8 : ByteArray := jdk_29_method_65_code
abbrev J9 : ByteArray := jdk_65_method_120_code
abbrev J10 : ByteArray := jdk_65_method_119_code
abbrev J11 : ByteArray := jdk_22_method_1_code
abbrev J12 : ByteArray := jdk_91_method_1_code
abbrev J13 : ByteArray := prog_6_method_1_code
abbrev J14 : ByteArray := prog_6_method_2_code
abbrev J15 : ByteArray := prog_6_method_9_code
abbrev J16 : ByteArray := prog_6_method_3_code
abbrev J17 : ByteArray := prog_7_method_1_code
abbrev J18 : ByteArray := prog_6_method_6_code
abbrev J19 : ByteArray := prog_7_method_2_code
abbrev J20 : ByteArray := prog_7_method_3_code
abbrev J21 : ByteArray := method_2_code
abbrev vi (x : Int32) : Slot := .val (.int x)
abbrev vr (x : Addr) : Slot := .val (.ref x)
abbrev un : Slot := .unset
abbrev lb (c : Int32) : Value := .int ((c >>> ((0 : Int32) &&& 31)).toInt8.toInt32)
abbrev hb_ (c : Int32) : Value := .int ((c >>> ((8 : Int32) &&& 31)).toInt8.toInt32)
abbrev rm_ (f c s l : Nat) : Room := { frames := f, cells := c, slots := s, locals := l }
abbrev Go_ {p : Program} {e : Env} {below : List Frame} {Q : State → Outcome → Prop} (T : State) (g : JFrame) : Prop := own_Go p e below Q T g
abbrev sc0 : String := "java/lang/Integer"
abbrev sc1 : String := "com/example/compact_abox/compactabox/ArraySet"
abbrev sc2 : String := "java/lang/Object"
abbrev sc3 : String := "[Ljava/lang/Object;"
abbrev sc4 : String := "com/example/compact_abox/compactabox/ArraySet$ArrayIterator"
abbrev sc5 : String := "Ljava/util/Set;"
abbrev sc6 : String := "java/util/Set"
abbrev sc7 : String := "java/lang/Math"
abbrev sc8 : String := "com/example/compact_abox/compactabox/ArraySetIteratorPinLaw"
abbrev sc9 : String := "java/util/Arrays"
abbrev ym0 : MethodName := ⟨"java/lang/Math", "min", "(II)I"⟩
abbrev ym1 : MethodName := ⟨"com/example/compact_abox/compactabox/ArraySet", "indexOf", "([Ljava/lang/Object;ILjava/lang/Object;)I"⟩
abbrev ym2 : MethodName := ⟨"com/example/compact_abox/compactabox/ArraySet", "indexOf", "(Ljava/lang/Object;)I"⟩
abbrev ym3 : MethodName := ⟨"com/example/compact_abox/compactabox/ArraySetIteratorPinLaw", "step", "(Ljava/util/Iterator;ZI)Z"⟩
abbrev ym4 : MethodName := ⟨"java/lang/Math", "max", "(II)I"⟩
abbrev ym5 : MethodName := ⟨"com/example/compact_abox/compactabox/ArraySet", "add", "(Ljava/lang/Object;)Z"⟩
abbrev ym6 : MethodName := ⟨"com/example/compact_abox/compactabox/ArraySet", "removeAt", "([Ljava/lang/Object;II)V"⟩
abbrev ym7 : MethodName := ⟨"com/example/compact_abox/compactabox/ArraySet", "remove", "(Ljava/lang/Object;)Z"⟩
abbrev ym8 : MethodName := ⟨"com/example/compact_abox/compactabox/ArraySet$ArrayIterator", "next", "()Ljava/lang/Object;"⟩
abbrev ym9 : MethodName := ⟨"com/example/compact_abox/compactabox/ArraySet", "<init>", "(I)V"⟩
abbrev ym10 : MethodName := ⟨"java/util/Arrays", "copyOf", "([Ljava/lang/Object;ILjava/lang/Class;)[Ljava/lang/Object;"⟩
abbrev ym11 : MethodName := ⟨"java/util/Arrays", "copyOf", "([Ljava/lang/Object;I)[Ljava/lang/Object;"⟩
def own_St (Z : State) (w_ca : Addr) (mir : Addr) : Prop := (Sta Z Z.heap "java/lang/Integer$IntegerCache" "high" "I" (.int 127)) ∧ (Sta Z Z.heap "java/lang/Integer$IntegerCache" "cache" "[Ljava/lang/Integer;" (.ref w_ca)) ∧ (own_Cache Z Z.heap w_ca) ∧ (own_Mir Z sc3 mir)
theorem dk0 : decode J0 0 = .ok (.aload_n 0, 1) := by decide +kernel
theorem dk1 : decode J0 1 = .ok (.invokespecial 1, 3) := by decide +kernel
theorem dk2 : decode J0 4 = .ok (.return_, 1) := by decide +kernel
theorem pn_java_lang_Number : plainName "java/lang/Number" = true := by first | (simp [plainName, overriddenIn]; done) | decide +kernel
theorem ef_rmNum (mm_ : MethodId) (x : Addr) : entryFrame mm_ #[(.ref x)] 1 = (mkF mm_ 0 #[vr x] []) := by first | (simp [entryFrame, mkF, argsToLocals, Value.category]; done) | rfl
def QrmNum (Z : State) (x : Addr) (h0 : Heap) (n0 : Nat) (vv_ : Option Value) (hh_ : Heap) (LL_ : List Loc) : Prop := (vv_ = none) ∧ (LL_ = []) ∧ (hh_ = h0)
theorem rmNum (l : Launch) (Z : State) (a0 : Array Value) (hw : own_Hw a0 Z) (ws : List Jvm.Cond) (x : Addr) (h0 : Heap) (n0 : Nat) (O0 : Old Z n0 h0) :
 own_MF l Z (⟨"java/lang/Number", "<init>", "()V"⟩ : MethodName) J0 1 none ws (rm_ 1 0 0 12) #[(.ref x)] h0 (QrmNum Z x h0 n0) := by
 refine own_met (plainFor_of_name pn_java_lang_Number) (fun m_ => ef_rmNum m_ x) fun pp_ ee_ ss_ mm_ bb_ me_ cc_ s₁ Bd hx hby hml hown hZ hh X0 e0 => ?_
 have B_ {q_ : Nat} {r_ : _} (h_ : decode _ q_ = r_) := hb hby h_
 have hown : ss_.vm.findClass "java/lang/Number" = some mm_.cls := hown
 have N0 := Fr.nil n0
 have Z0 : n0 ≤ h0.size := by have q := O0.2.1; rw [O0.1] at q; exact q
 have K0 : Keep h0 h0 [] := Keep.refl _ _
 show Go_ s₁ (mkF mm_ 0 #[vr x] [])
 refine sp_ (fun t_ k_ => XS.aloadN X0.here hx rfl (B_ dk0) rfl rfl k_) ?_
 obtain ⟨T1, X1, e1, st1⟩ := initO X0 hx hZ hown (w_ hw 151 rfl) (w_ hw 18 rfl) (w_ hw 19 rfl) e0 (g := (mkF mm_ 1 #[vr x] [(.ref x)])) rfl hml.symm rfl (B_ dk1) (by decide) (W := 0) (Nat.le_of_eq rfl) (by decide)
 refine sp_ st1 ?_
 show Go_ T1 (mkF mm_ 4 #[vr x] [])
 obtain ⟨fs, hr, hrun, hended, hW, hsame⟩ := X1.leave (v := none) (fun _ => rfl)
 refine ⟨_, _, ?_, hrun, hended, _, _, rfl, ?_, ⟨_, rfl⟩, hW, hsame.mono (by decide) (by decide)⟩
 · exact X1.returnOut hx Bd.returns (B_ dk2) hr
 · show QrmNum Z x h0 n0 none T1.heap _
   rw [e1]
   exact ⟨rfl, rfl, rfl⟩
theorem dk3 : decode J1 0 = .ok (.aload_n 0, 1) := by decide +kernel
theorem dk4 : decode J1 1 = .ok (.invokespecial 202, 3) := by decide +kernel
theorem pd_0 : parseMethodDescriptor "()V" = some ⟨[], none⟩ := by decide +kernel
theorem dk5 : decode J1 4 = .ok (.aload_n 0, 1) := by decide +kernel
theorem dk6 : decode J1 5 = .ok (.iload_n 1, 1) := by decide +kernel
theorem dk7 : decode J1 6 = .ok (.putfield 205, 3) := by decide +kernel
theorem dk8 : decode J1 9 = .ok (.return_, 1) := by decide +kernel
theorem pn_java_lang_Integer : plainName "java/lang/Integer" = true := by first | (simp [plainName, overriddenIn]; done) | decide +kernel
theorem ef_rmIInit (mm_ : MethodId) (x : Addr) (i : Int32) : entryFrame mm_ #[(.ref x), (.int i)] 2 = (mkF mm_ 0 #[vr x, vi i] []) := by first | (simp [entryFrame, mkF, argsToLocals, Value.category]; done) | rfl
def QrmIInit (Z : State) (x : Addr) (i : Int32) (h0 : Heap) (n0 : Nat) (vv_ : Option Value) (hh_ : Heap) (LL_ : List Loc) : Prop := (vv_ = none) ∧ (Fr n0 LL_) ∧ (Keep h0 hh_ [x]) ∧ (Fld Z hh_ x sc0 "value" "I" (.int i))
theorem rmIInit (l : Launch) (Z : State) (a0 : Array Value) (hw : own_Hw a0 Z) (ws : List Jvm.Cond) (x : Addr) (i : Int32) (h0 : Heap) (n0 : Nat) (O0 : Old Z n0 h0) (pr0 : Exa Z h0 x sc0) (g_x : n0 ≤ x) (pr2 : Fld Z h0 x sc0 "value" "I" (.int 0)) :
 own_MF l Z (⟨sc0, "<init>", "(I)V"⟩ : MethodName) J1 2 none ws (rm_ 2 0 0 24) #[(.ref x), (.int i)] h0 (QrmIInit Z x i h0 n0) := by
 refine own_met (plainFor_of_name pn_java_lang_Integer) (fun m_ => ef_rmIInit m_ x i) fun pp_ ee_ ss_ mm_ bb_ me_ cc_ s₁ Bd hx hby hml hown hZ hh X0 e0 => ?_
 have B_ {q_ : Nat} {r_ : _} (h_ : decode _ q_ = r_) := hb hby h_
 have hown : ss_.vm.findClass sc0 = some mm_.cls := hown
 have hnm := (name_of_methodNamed Bd.named Bd.method).1
 have N0 := Fr.nil n0
 have Z0 : n0 ≤ h0.size := by have q := O0.2.1; rw [O0.1] at q; exact q
 have K0 : Keep h0 h0 [x] := Keep.refl _ _
 show Go_ s₁ (mkF mm_ 0 #[vr x, vi i] [])
 refine sp_ (fun t_ k_ => XS.aloadN X0.here hx rfl (B_ dk3) rfl rfl k_) ?_
 obtain ⟨_, T1, Lc1, X1, hQ1, st1⟩ := own_cI X0 hx hZ rfl hown (w_ hw 145 rfl) (w_ hw 146 rfl) (w_ hw 150 rfl) (by decide) (backOf (W := 0) (rmNum l Z a0 hw [] x h0 n0 O0 ) hZ (w_ hw 150 rfl) (w_ hw 149 rfl) (by decide) (by decide)) (g := (mkF mm_ 1 #[vr x, vi i] [(.ref x)])) rfl hml.symm (a := x) (argsL := []) (rest := []) (lenOf pd_0 rfl) rfl (Nat.le_of_eq rfl) (B_ dk4) rfl e0 (by decide) (by decide)
 obtain ⟨rfl, rfl, Eh1⟩ := hQ1
 have N1 := Fr.app N0 (Fr.nil n0)
 refine jp_ st1 ?_
 show Go_ T1 (mkF mm_ 4 #[vr x, vi i] [])
 refine sp_ (fun t_ k_ => XS.aloadN X1.here hx rfl (B_ dk5) rfl rfl (XS.iloadN X1.here hx rfl (B_ dk6) rfl  k_)) ?_
 obtain ⟨T2, h2, X2, e2, W2, st2⟩ := putF X1 hx hZ hown (host := "") (Or.inl (w_ hw 60 rfl)) Via.refl Eh1 pr2 pr0 (Or.inr ⟨(w_ hw 61 rfl), rfl, hnm⟩) (w_ hw 141 rfl) (ty := .int) (by decide) rfl rfl (g := (mkF mm_ 6 #[vr x, vi i] [(.int i), (.ref x)])) rfl rfl (B_ dk7)
 have F2 := pr2.same W2
 have N2 := Fr.snoc X2 N1 g_x
 refine sp_ st2 ?_
 show Go_ T2 (mkF mm_ 9 #[vr x, vi i] [])
 have K3 : Keep h0 h2 [x] := (K0.wr W2 (Or.inl (List.mem_of_getElem? (i := 0) rfl)))
 obtain ⟨fs, hr, hrun, hended, hW, hsame⟩ := X2.leave (v := none) (fun _ => rfl)
 refine ⟨_, _, ?_, hrun, hended, _, _, rfl, ?_, ⟨_, rfl⟩, hW, hsame.mono (by decide) (by decide)⟩
 · exact X2.returnOut hx Bd.returns (B_ dk8) hr
 · show QrmIInit Z x i h0 n0 none T2.heap _
   rw [e2]
   exact ⟨rfl, N2, K3, F2⟩
theorem dk9 : decode J2 0 = .ok (.iload_n 0, 1) := by decide +kernel
theorem dk10 : decode J2 1 = .ok (.bipush (-128), 2) := by decide +kernel
theorem dk11 : decode J2 3 = .ok (.if_icmp .lt 20, 3) := by decide +kernel
theorem dk12 : decode J2 23 = .ok (.new 1, 3) := by decide +kernel
theorem dk13 : decode J2 26 = .ok (.dup, 1) := by decide +kernel
theorem dk14 : decode J2 27 = .ok (.iload_n 0, 1) := by decide +kernel
theorem dk15 : decode J2 28 = .ok (.invokespecial 199, 3) := by decide +kernel
theorem pd_1 : parseMethodDescriptor "(I)V" = some ⟨[.int], none⟩ := by decide +kernel
theorem dk16 : decode J2 31 = .ok (.areturn, 1) := by decide +kernel
theorem dk17 : decode J2 6 = .ok (.iload_n 0, 1) := by decide +kernel
theorem dk18 : decode J2 7 = .ok (.getstatic 191, 3) := by decide +kernel
theorem dk19 : decode J2 10 = .ok (.if_icmp .gt 13, 3) := by decide +kernel
theorem dk20 : decode J2 13 = .ok (.getstatic 195, 3) := by decide +kernel
theorem dk21 : decode J2 16 = .ok (.iload_n 0, 1) := by decide +kernel
theorem dk22 : decode J2 17 = .ok (.sipush 128, 3) := by decide +kernel
theorem dk23 : decode J2 20 = .ok (.iadd, 1) := by decide +kernel
theorem dk24 : decode J2 21 = .ok (.aaload, 1) := by decide +kernel
theorem dk25 : decode J2 22 = .ok (.areturn, 1) := by decide +kernel
theorem ef_rmVO (mm_ : MethodId) (i : Int32) : entryFrame mm_ #[(.int i)] 1 = (mkF mm_ 0 #[vi i] []) := by first | (simp [entryFrame, mkF, argsToLocals, Value.category]; done) | rfl
def QrmVO (Z : State) (i : Int32) (h0 : Heap) (n0 : Nat) (vv_ : Option Value) (hh_ : Heap) (LL_ : List Loc) : Prop := ∃ (r : Addr), (vv_ = some (.ref r)) ∧ (Fr n0 LL_) ∧ (Keep h0 hh_ []) ∧ (Exa Z hh_ r sc0) ∧ (Fld Z hh_ r sc0 "value" "I" (.int i))
theorem rmVO (l : Launch) (Z : State) (a0 : Array Value) (hw : own_Hw a0 Z) (ws : List Jvm.Cond) (i : Int32) {w_ca : Addr} {mir : Addr} (h0 : Heap) (n0 : Nat) (O0 : Old Z n0 h0) (G_ : own_St Z w_ca mir) :
 own_MF l Z (⟨sc0, "valueOf", "(I)Ljava/lang/Integer;"⟩ : MethodName) J2 1 (some (.object sc0)) ws (rm_ 3 1 1 38) #[(.int i)] h0 (QrmVO Z i h0 n0) := by
 refine own_met (plainFor_of_name pn_java_lang_Integer) (fun m_ => ef_rmVO m_ i) fun pp_ ee_ ss_ mm_ bb_ me_ cc_ s₁ Bd hx hby hml hown hZ hh X0 e0 => ?_
 have B_ {q_ : Nat} {r_ : _} (h_ : decode _ q_ = r_) := hb hby h_
 have hown : ss_.vm.findClass sc0 = some mm_.cls := hown
 have N0 := Fr.nil n0
 have Z0 : n0 ≤ h0.size := by have q := O0.2.1; rw [O0.1] at q; exact q
 have K0 : Keep h0 h0 [] := Keep.refl _ _
 obtain ⟨G_hi, G_ca, G_cc, G_mi⟩ := id G_
 show Go_ s₁ (mkF mm_ 0 #[vi i] [])
 refine sp_ (fun t_ k_ => XS.iloadN X0.here hx rfl (B_ dk9) rfl  (XS.bipush X0.here hx rfl (B_ dk10) k_)) ?_
 show Go_ s₁ (mkF mm_ 3 #[vi i] [(.int (-128)), (.int i)])
 by_cases hc3_1 : i < (-128 : Int32)
 · skip
   refine sp_ (fun t_ k_ => XS.icmpYes X0.here hx rfl (pc0 := 3) (pc' := 23) rfl (B_ dk11) rfl (tlt hc3_1).1 (by decide) (by decide) k_) ?_
   obtain ⟨T2, h2, X2, e2, E2, A2, D2, -, st2⟩ := newO X0 hx hZ hown (w_ hw 58 rfl) (w_ hw 141 rfl) (w_ hw 30 rfl) e0 (g := (mkF mm_ 23 #[vi i] [])) rfl (B_ dk12) (by decide) (by decide)
   obtain ⟨b2, q2⟩ : ∃ z, z = h0.size := ⟨_, rfl⟩
   rw [← q2] at A2 D2 st2
   have lo_b2 : h0.size ≤ b2 := Nat.le_trans K0.1 (Nat.le_of_eq q2.symm)
   have g_b2 : n0 ≤ b2 := Nat.le_trans Z0 lo_b2
   refine sp_ st2 ?_
   have F2_value : Fld Z h2 b2 sc0 "value" "I" (.int 0) := D2 (Or.inr (w_ hw 61 rfl)) (ty := .int) (by decide)
   show Go_ T2 (mkF mm_ 26 #[vi i] [(.ref b2)])
   refine sp_ (fun t_ k_ => XS.dup X2.here hx rfl (B_ dk13) rfl rfl (XS.iloadN X2.here hx rfl (B_ dk14) rfl  k_)) ?_
   have O4 : Old Z n0 h2 := (O0.ext E2)
   obtain ⟨_, T3, Lc3, X3, hQ3, st3⟩ := own_cI X2 hx hZ rfl hown (w_ hw 142 rfl) (w_ hw 143 rfl) (w_ hw 144 rfl) (by decide) (backOf (W := 1) (rmIInit l Z a0 hw [] b2 i h2 n0 O4 A2 g_b2 F2_value) hZ (w_ hw 144 rfl) (w_ hw 30 rfl) (by decide) (by decide)) (g := (mkF mm_ 28 #[vi i] [(.int i), (.ref b2), (.ref b2)])) rfl hml.symm (a := b2) (argsL := [(.int i)]) (rest := [(.ref b2)]) (lenOf pd_1 rfl) rfl (Nat.le_of_eq rfl) (B_ dk15) rfl e2 (by decide) (by decide)
   obtain ⟨rfl, Nq3, Kc3, r3_0⟩ := hQ3
   have N3 := Fr.app N0 Nq3
   refine jp_ st3 ?_
   show Go_ T3 (mkF mm_ 31 #[vi i] [(.ref b2)])
   have K5 : Keep h0 T3.heap [] := ((K0.ext E2).trans Kc3 (allS (Or.inr lo_b2) all0))
   have f6 : Exa Z T3.heap b2 sc0 := (A2.keep Kc3)
   obtain ⟨fs, hr, hrun, hended, hW, hsame⟩ := X3.leave (v := some (.ref b2)) (rN Bd.returns)
   refine ⟨_, _, ?_, hrun, hended, _, _, rfl, ?_, ⟨_, rfl⟩, hW, hsame.mono (by decide) (by decide)⟩
   · jvm_step X3.here [X3.here.top, hx, (B_ dk16), X3.method', Bd.returns, Value.isRef, FieldType.isReference]
     first | (intro acts; rw [hr _ acts rfl rfl rfl]) | rw [hr _ _ rfl rfl rfl]
     exact Steps.refl _
   · show QrmVO Z i h0 n0 (some (.ref b2)) T3.heap _
     exact ⟨b2, rfl, N3, K5, f6, r3_0⟩
 · skip
   refine sp_ (fun t_ k_ => XS.icmpNo X0.here hx rfl (B_ dk11) rfl (flt hc3_1).1 k_) ?_
   show Go_ s₁ (mkF mm_ 6 #[vi i] [])
   refine sp_ (fun t_ k_ => XS.iloadN X0.here hx rfl (B_ dk17) rfl  k_) ?_
   obtain ⟨T7, X7, e7, st7⟩ := getS2 X0 hx hZ hown (host := "") (Or.inl (w_ hw 32 rfl)) Via.refl e0 (G_hi.ext O0.2) (g := (mkF mm_ 7 #[vi i] [(.int i)])) rfl (B_ dk18)
   refine sp_ st7 ?_
   show Go_ T7 (mkF mm_ 10 #[vi i] [(.int 127), (.int i)])
   by_cases hc10_8 : (127 : Int32) < i
   · skip
     refine sp_ (fun t_ k_ => XS.icmpYes X7.here hx rfl (pc0 := 10) (pc' := 23) rfl (B_ dk19) rfl (tlt hc10_8).2.2.1 (by decide) (by decide) k_) ?_
     obtain ⟨T9, h9, X9, e9, E9, A9, D9, -, st9⟩ := newO X7 hx hZ hown (w_ hw 58 rfl) (w_ hw 141 rfl) (w_ hw 30 rfl) e7 (g := (mkF mm_ 23 #[vi i] [])) rfl (B_ dk12) (by decide) (by decide)
     obtain ⟨b9, q9⟩ : ∃ z, z = h0.size := ⟨_, rfl⟩
     rw [← q9] at A9 D9 st9
     have lo_b9 : h0.size ≤ b9 := Nat.le_trans K0.1 (Nat.le_of_eq q9.symm)
     have g_b9 : n0 ≤ b9 := Nat.le_trans Z0 lo_b9
     refine sp_ st9 ?_
     have F9_value : Fld Z h9 b9 sc0 "value" "I" (.int 0) := D9 (Or.inr (w_ hw 61 rfl)) (ty := .int) (by decide)
     show Go_ T9 (mkF mm_ 26 #[vi i] [(.ref b9)])
     refine sp_ (fun t_ k_ => XS.dup X9.here hx rfl (B_ dk13) rfl rfl (XS.iloadN X9.here hx rfl (B_ dk14) rfl  k_)) ?_
     have O11 : Old Z n0 h9 := (O0.ext E9)
     obtain ⟨_, T10, Lc10, X10, hQ10, st10⟩ := own_cI X9 hx hZ rfl hown (w_ hw 142 rfl) (w_ hw 143 rfl) (w_ hw 144 rfl) (by decide) (backOf (W := 1) (rmIInit l Z a0 hw [] b9 i h9 n0 O11 A9 g_b9 F9_value) hZ (w_ hw 144 rfl) (w_ hw 30 rfl) (by decide) (by decide)) (g := (mkF mm_ 28 #[vi i] [(.int i), (.ref b9), (.ref b9)])) rfl hml.symm (a := b9) (argsL := [(.int i)]) (rest := [(.ref b9)]) (lenOf pd_1 rfl) rfl (Nat.le_of_eq rfl) (B_ dk15) rfl e9 (by decide) (by decide)
     obtain ⟨rfl, Nq10, Kc10, r10_0⟩ := hQ10
     have N10 := Fr.app N0 Nq10
     refine jp_ st10 ?_
     show Go_ T10 (mkF mm_ 31 #[vi i] [(.ref b9)])
     have K12 : Keep h0 T10.heap [] := ((K0.ext E9).trans Kc10 (allS (Or.inr lo_b9) all0))
     have f13 : Exa Z T10.heap b9 sc0 := (A9.keep Kc10)
     obtain ⟨fs, hr, hrun, hended, hW, hsame⟩ := X10.leave (v := some (.ref b9)) (rN Bd.returns)
     refine ⟨_, _, ?_, hrun, hended, _, _, rfl, ?_, ⟨_, rfl⟩, hW, hsame.mono (by decide) (by decide)⟩
     · jvm_step X10.here [X10.here.top, hx, (B_ dk16), X10.method', Bd.returns, Value.isRef, FieldType.isReference]
       first | (intro acts; rw [hr _ acts rfl rfl rfl]) | rw [hr _ _ rfl rfl rfl]
       exact Steps.refl _
     · show QrmVO Z i h0 n0 (some (.ref b9)) T10.heap _
       exact ⟨b9, rfl, N10, K12, f13, r10_0⟩
   · skip
     refine sp_ (fun t_ k_ => XS.icmpNo X7.here hx rfl (B_ dk19) rfl (flt hc10_8).2.2.1 k_) ?_
     obtain ⟨T14, X14, e14, st14⟩ := getS2 X7 hx hZ hown (host := "") (Or.inl (w_ hw 34 rfl)) Via.refl e7 (G_ca.ext O0.2) (g := (mkF mm_ 13 #[vi i] [])) rfl (B_ dk20)
     refine sp_ st14 ?_
     show Go_ T14 (mkF mm_ 16 #[vi i] [(.ref w_ca)])
     refine sp_ (fun t_ k_ => XS.iloadN X14.here hx rfl (B_ dk21) rfl  (XS.sipush X14.here hx rfl (B_ dk22) (XS.iadd X14.here hx rfl (B_ dk23) rfl k_))) ?_
     show Go_ T14 (mkF mm_ 21 #[vi i] [(.int (i + (128 : Int32))), (.ref w_ca)])
     obtain ⟨cl15, a15, Ar15, hin15, hat15, Ea15, Fa15⟩ := (G_cc.ext O0.2).at hc3_1 hc10_8
     refine sp_ (fun t_ k_ => X14.aaload hx (j := (i + (128 : Int32))) (v := (.ref a15)) (by rw [e14]; exact Ar15.1) (State.isArrayOf_alike hZ.alike Ar15.2.1) rfl Ar15.2.2 hin15 hat15 (g := (mkF mm_ 21 #[vi i] [(.int (i + (128 : Int32))), (.ref w_ca)])) rfl rfl (B_ dk24) t_ k_) ?_
     obtain ⟨fs, hr, hrun, hended, hW, hsame⟩ := X14.leave (v := some (.ref a15)) (rN Bd.returns)
     refine ⟨_, _, ?_, hrun, hended, _, _, rfl, ?_, ⟨_, rfl⟩, hW, hsame.mono (by decide) (by decide)⟩
     · jvm_step X14.here [X14.here.top, hx, (B_ dk25), X14.method', Bd.returns, Value.isRef, FieldType.isReference]
       first | (intro acts; rw [hr _ acts rfl rfl rfl]) | rw [hr _ _ rfl rfl rfl]
       exact Steps.refl _
     · show QrmVO Z i h0 n0 (some (.ref a15)) T14.heap _
       rw [e14]
       exact ⟨a15, rfl, N0, K0, Ea15, Fa15⟩
theorem dk26 : decode J3 0 = .ok (.aload_n 0, 1) := by decide +kernel
theorem dk27 : decode J3 1 = .ok (.getfield 205, 3) := by decide +kernel
theorem dk28 : decode J3 4 = .ok (.ireturn, 1) := by decide +kernel
theorem ef_rmIV (mm_ : MethodId) (a : Addr) : entryFrame mm_ #[(.ref a)] 1 = (mkF mm_ 0 #[vr a] []) := by first | (simp [entryFrame, mkF, argsToLocals, Value.category]; done) | rfl
def QrmIV (Z : State) (a : Addr) (v : Int32) (h0 : Heap) (n0 : Nat) (vv_ : Option Value) (hh_ : Heap) (LL_ : List Loc) : Prop := (vv_ = some (.int v)) ∧ (LL_ = []) ∧ (hh_ = h0)
theorem rmIV (l : Launch) (Z : State) (a0 : Array Value) (hw : own_Hw a0 Z) (ws : List Jvm.Cond) (a : Addr) (v : Int32) (h0 : Heap) (n0 : Nat) (O0 : Old Z n0 h0) (pr0 : Fld Z h0 a sc0 "value" "I" (.int v)) :
 own_MF l Z (⟨sc0, "intValue", "()I"⟩ : MethodName) J3 1 (some .int) ws (rm_ 0 0 0 0) #[(.ref a)] h0 (QrmIV Z a v h0 n0) := by
 refine own_met (plainFor_of_name pn_java_lang_Integer) (fun m_ => ef_rmIV m_ a) fun pp_ ee_ ss_ mm_ bb_ me_ cc_ s₁ Bd hx hby hml hown hZ hh X0 e0 => ?_
 have B_ {q_ : Nat} {r_ : _} (h_ : decode _ q_ = r_) := hb hby h_
 have hown : ss_.vm.findClass sc0 = some mm_.cls := hown
 have N0 := Fr.nil n0
 have Z0 : n0 ≤ h0.size := by have q := O0.2.1; rw [O0.1] at q; exact q
 have K0 : Keep h0 h0 [] := Keep.refl _ _
 show Go_ s₁ (mkF mm_ 0 #[vr a] [])
 refine sp_ (fun t_ k_ => XS.aloadN X0.here hx rfl (B_ dk26) rfl rfl k_) ?_
 obtain ⟨T1, X1, e1, st1⟩ := getF X0 hx hZ hown (host := "") (Or.inl (w_ hw 60 rfl)) Via.refl e0 pr0 (g := (mkF mm_ 1 #[vr a] [(.ref a)])) rfl rfl (B_ dk27)
 refine sp_ st1 ?_
 show Go_ T1 (mkF mm_ 4 #[vr a] [(.int v)])
 obtain ⟨fs, hr, hrun, hended, hW, hsame⟩ := X1.leave (v := some (.int v)) (rN Bd.returns)
 refine ⟨_, _, ?_, hrun, hended, _, _, rfl, ?_, ⟨_, rfl⟩, hW, hsame.mono (by decide) (by decide)⟩
 · exact retI X1 hx Bd.returns (B_ dk28) hr
 · show QrmIV Z a v h0 n0 (some (.int v)) T1.heap _
   rw [e1]
   exact ⟨rfl, rfl, rfl⟩
theorem dk29 : decode J4 0 = .ok (.aload_n 1, 1) := by decide +kernel
theorem dk30 : decode J4 1 = .ok (.instanceof 1, 3) := by decide +kernel
theorem dk31 : decode J4 4 = .ok (.ifCond .eq 23, 3) := by decide +kernel
theorem dk32 : decode J4 7 = .ok (.aload_n 0, 1) := by decide +kernel
theorem dk33 : decode J4 8 = .ok (.getfield 205, 3) := by decide +kernel
theorem dk34 : decode J4 11 = .ok (.aload_n 1, 1) := by decide +kernel
theorem dk35 : decode J4 12 = .ok (.checkcast 1, 3) := by decide +kernel
theorem dk36 : decode J4 15 = .ok (.invokevirtual 211, 3) := by decide +kernel
theorem pd_2 : parseMethodDescriptor "()I" = some ⟨[], some .int⟩ := by decide +kernel
theorem dk37 : decode J4 18 = .ok (.if_icmp .ne 7, 3) := by decide +kernel
theorem dk38 : decode J4 21 = .ok (.iconst 1, 1) := by decide +kernel
theorem dk39 : decode J4 22 = .ok (.goto 4, 3) := by decide +kernel
theorem dk40 : decode J4 26 = .ok (.ireturn, 1) := by decide +kernel
theorem ef_rmEqT (mm_ : MethodId) (a : Addr) (b : Addr) : entryFrame mm_ #[(.ref a), (.ref b)] 2 = (mkF mm_ 0 #[vr a, vr b] []) := by first | (simp [entryFrame, mkF, argsToLocals, Value.category]; done) | rfl
def QrmEqT (Z : State) (a : Addr) (b : Addr) (xa : Int32) (xb : Int32) (h0 : Heap) (n0 : Nat) (vv_ : Option Value) (hh_ : Heap) (LL_ : List Loc) : Prop := (vv_ = some (.int 1)) ∧ (LL_ = []) ∧ (hh_ = h0)
theorem rmEqT (l : Launch) (Z : State) (a0 : Array Value) (hw : own_Hw a0 Z) (ws : List Jvm.Cond) (a : Addr) (b : Addr) (xa : Int32) (xb : Int32) (h0 : Heap) (n0 : Nat) (O0 : Old Z n0 h0) (pr0 : Exa Z h0 a sc0) (pr1 : Exa Z h0 b sc0) (pr2 : Fld Z h0 a sc0 "value" "I" (.int xa)) (pr3 : Fld Z h0 b sc0 "value" "I" (.int xb)) (hx_ : xa = xb) :
 own_MF l Z (⟨sc0, "equals", "(Ljava/lang/Object;)Z"⟩ : MethodName) J4 2 (some .boolean) ws (rm_ 1 0 0 13) #[(.ref a), (.ref b)] h0 (QrmEqT Z a b xa xb h0 n0) := by
 refine own_met (plainFor_of_name pn_java_lang_Integer) (fun m_ => ef_rmEqT m_ a b) fun pp_ ee_ ss_ mm_ bb_ me_ cc_ s₁ Bd hx hby hml hown hZ hh X0 e0 => ?_
 have B_ {q_ : Nat} {r_ : _} (h_ : decode _ q_ = r_) := hb hby h_
 have hown : ss_.vm.findClass sc0 = some mm_.cls := hown
 have N0 := Fr.nil n0
 have Z0 : n0 ≤ h0.size := by have q := O0.2.1; rw [O0.1] at q; exact q
 have K0 : Keep h0 h0 [] := Keep.refl _ _
 show Go_ s₁ (mkF mm_ 0 #[vr a, vr b] [])
 refine sp_ (fun t_ k_ => XS.aloadN X0.here hx rfl (B_ dk29) rfl rfl k_) ?_
 obtain ⟨T1, X1, e1, st1⟩ := instY X0 hx hZ hown (w_ hw 58 rfl) e0 (Ins.self pr1) (g := (mkF mm_ 1 #[vr a, vr b] [(.ref b)])) rfl rfl (B_ dk30)
 refine sp_ st1 ?_
 show Go_ T1 (mkF mm_ 4 #[vr a, vr b] [(.int 1)])
 refine sp_ (fun t_ k_ => XS.ifNo X1.here hx rfl (B_ dk31) rfl ((if0 _ _).trans (feq (by decide : ¬ ((1 : Int32) = (0 : Int32)))).1) k_) ?_
 show Go_ T1 (mkF mm_ 7 #[vr a, vr b] [])
 refine sp_ (fun t_ k_ => XS.aloadN X1.here hx rfl (B_ dk32) rfl rfl k_) ?_
 obtain ⟨T2, X2, e2, st2⟩ := getF X1 hx hZ hown (host := "") (Or.inl (w_ hw 60 rfl)) Via.refl e1 pr2 (g := (mkF mm_ 8 #[vr a, vr b] [(.ref a)])) rfl rfl (B_ dk33)
 refine sp_ st2 ?_
 show Go_ T2 (mkF mm_ 11 #[vr a, vr b] [(.int xa)])
 refine sp_ (fun t_ k_ => XS.aloadN X2.here hx rfl (B_ dk34) rfl rfl k_) ?_
 obtain ⟨T3, X3, e3, st3⟩ := castY X2 hx hZ hown (w_ hw 58 rfl) e2 (Ins.self pr1) (g := (mkF mm_ 12 #[vr a, vr b] [(.ref b), (.int xa)])) rfl rfl (B_ dk35)
 refine sp_ st3 ?_
 obtain ⟨_, T4, Lc4, X4, hQ4, st4⟩ := own_cV X3 hx hZ hown (w_ hw 62 rfl) (w_ hw 63 rfl) (notFace_of_selects (args := #[]) (mvT hZ (w_ hw 65 rfl))) (w_ hw 65 rfl) (w_ hw 64 rfl) (by decide) (backOf (W := 1) (rmIV l Z a0 hw [] b xb h0 n0 O0 pr3) hZ (w_ hw 66 rfl) (w_ hw 30 rfl) (by decide) (by decide)) pr1 (g := (mkF mm_ 15 #[vr a, vr b] [(.ref b), (.int xa)])) rfl hml.symm (argsL := []) (rest := [(.int xa)]) (lenOf pd_2 rfl) rfl (Nat.le_of_eq rfl) (B_ dk36) rfl e3 (by decide) (by decide)
 obtain ⟨rfl, rfl, Eh4⟩ := hQ4
 have N4 := Fr.app N0 (Fr.nil n0)
 refine jp_ st4 ?_
 show Go_ T4 (mkF mm_ 18 #[vr a, vr b] [(.int xb), (.int xa)])
 refine sp_ (fun t_ k_ => XS.icmpNo X4.here hx rfl (B_ dk37) rfl (teq hx_).2 k_) ?_
 show Go_ T4 (mkF mm_ 21 #[vr a, vr b] [])
 refine sp_ (fun t_ k_ => XS.iconst X4.here hx rfl (B_ dk38) (XS.goto X4.here hx rfl (pc0 := 22) (pc' := 26) rfl (B_ dk39) (by decide) (by decide) k_)) ?_
 show Go_ T4 (mkF mm_ 26 #[vr a, vr b] [(.int 1)])
 obtain ⟨fs, hr, hrun, hended, hW, hsame⟩ := X4.leave (v := some (.int 1)) (rN Bd.returns)
 refine ⟨_, _, ?_, hrun, hended, _, _, rfl, ?_, ⟨_, rfl⟩, hW, hsame.mono (by decide) (by decide)⟩
 · exact retN X4 hx (t := .boolean) Bd.returns (by simp) (B_ dk40) hr
 · show QrmEqT Z a b xa xb h0 n0 (some (.int 1)) T4.heap _
   rw [Eh4]
   exact ⟨rfl, rfl, rfl⟩
theorem dk41 : decode J4 25 = .ok (.iconst 0, 1) := by decide +kernel
theorem ef_rmEqF (mm_ : MethodId) (a : Addr) (b : Addr) : entryFrame mm_ #[(.ref a), (.ref b)] 2 = (mkF mm_ 0 #[vr a, vr b] []) := by first | (simp [entryFrame, mkF, argsToLocals, Value.category]; done) | rfl
def QrmEqF (Z : State) (a : Addr) (b : Addr) (xa : Int32) (xb : Int32) (h0 : Heap) (n0 : Nat) (vv_ : Option Value) (hh_ : Heap) (LL_ : List Loc) : Prop := (vv_ = some (.int 0)) ∧ (LL_ = []) ∧ (hh_ = h0)
theorem rmEqF (l : Launch) (Z : State) (a0 : Array Value) (hw : own_Hw a0 Z) (ws : List Jvm.Cond) (a : Addr) (b : Addr) (xa : Int32) (xb : Int32) (h0 : Heap) (n0 : Nat) (O0 : Old Z n0 h0) (pr0 : Exa Z h0 a sc0) (pr1 : Exa Z h0 b sc0) (pr2 : Fld Z h0 a sc0 "value" "I" (.int xa)) (pr3 : Fld Z h0 b sc0 "value" "I" (.int xb)) (hx_ : ¬ (xa = xb)) :
 own_MF l Z (⟨sc0, "equals", "(Ljava/lang/Object;)Z"⟩ : MethodName) J4 2 (some .boolean) ws (rm_ 1 0 0 13) #[(.ref a), (.ref b)] h0 (QrmEqF Z a b xa xb h0 n0) := by
 refine own_met (plainFor_of_name pn_java_lang_Integer) (fun m_ => ef_rmEqF m_ a b) fun pp_ ee_ ss_ mm_ bb_ me_ cc_ s₁ Bd hx hby hml hown hZ hh X0 e0 => ?_
 have B_ {q_ : Nat} {r_ : _} (h_ : decode _ q_ = r_) := hb hby h_
 have hown : ss_.vm.findClass sc0 = some mm_.cls := hown
 have N0 := Fr.nil n0
 have Z0 : n0 ≤ h0.size := by have q := O0.2.1; rw [O0.1] at q; exact q
 have K0 : Keep h0 h0 [] := Keep.refl _ _
 show Go_ s₁ (mkF mm_ 0 #[vr a, vr b] [])
 refine sp_ (fun t_ k_ => XS.aloadN X0.here hx rfl (B_ dk29) rfl rfl k_) ?_
 obtain ⟨T1, X1, e1, st1⟩ := instY X0 hx hZ hown (w_ hw 58 rfl) e0 (Ins.self pr1) (g := (mkF mm_ 1 #[vr a, vr b] [(.ref b)])) rfl rfl (B_ dk30)
 refine sp_ st1 ?_
 show Go_ T1 (mkF mm_ 4 #[vr a, vr b] [(.int 1)])
 refine sp_ (fun t_ k_ => XS.ifNo X1.here hx rfl (B_ dk31) rfl ((if0 _ _).trans (feq (by decide : ¬ ((1 : Int32) = (0 : Int32)))).1) k_) ?_
 show Go_ T1 (mkF mm_ 7 #[vr a, vr b] [])
 refine sp_ (fun t_ k_ => XS.aloadN X1.here hx rfl (B_ dk32) rfl rfl k_) ?_
 obtain ⟨T2, X2, e2, st2⟩ := getF X1 hx hZ hown (host := "") (Or.inl (w_ hw 60 rfl)) Via.refl e1 pr2 (g := (mkF mm_ 8 #[vr a, vr b] [(.ref a)])) rfl rfl (B_ dk33)
 refine sp_ st2 ?_
 show Go_ T2 (mkF mm_ 11 #[vr a, vr b] [(.int xa)])
 refine sp_ (fun t_ k_ => XS.aloadN X2.here hx rfl (B_ dk34) rfl rfl k_) ?_
 obtain ⟨T3, X3, e3, st3⟩ := castY X2 hx hZ hown (w_ hw 58 rfl) e2 (Ins.self pr1) (g := (mkF mm_ 12 #[vr a, vr b] [(.ref b), (.int xa)])) rfl rfl (B_ dk35)
 refine sp_ st3 ?_
 obtain ⟨_, T4, Lc4, X4, hQ4, st4⟩ := own_cV X3 hx hZ hown (w_ hw 62 rfl) (w_ hw 63 rfl) (notFace_of_selects (args := #[]) (mvT hZ (w_ hw 65 rfl))) (w_ hw 65 rfl) (w_ hw 64 rfl) (by decide) (backOf (W := 1) (rmIV l Z a0 hw [] b xb h0 n0 O0 pr3) hZ (w_ hw 66 rfl) (w_ hw 30 rfl) (by decide) (by decide)) pr1 (g := (mkF mm_ 15 #[vr a, vr b] [(.ref b), (.int xa)])) rfl hml.symm (argsL := []) (rest := [(.int xa)]) (lenOf pd_2 rfl) rfl (Nat.le_of_eq rfl) (B_ dk36) rfl e3 (by decide) (by decide)
 obtain ⟨rfl, rfl, Eh4⟩ := hQ4
 have N4 := Fr.app N0 (Fr.nil n0)
 refine jp_ st4 ?_
 show Go_ T4 (mkF mm_ 18 #[vr a, vr b] [(.int xb), (.int xa)])
 refine sp_ (fun t_ k_ => XS.icmpYes X4.here hx rfl (pc0 := 18) (pc' := 25) rfl (B_ dk37) rfl (feq hx_).2 (by decide) (by decide) k_) ?_
 show Go_ T4 (mkF mm_ 25 #[vr a, vr b] [])
 refine sp_ (fun t_ k_ => XS.iconst X4.here hx rfl (B_ dk41) k_) ?_
 show Go_ T4 (mkF mm_ 26 #[vr a, vr b] [(.int 0)])
 obtain ⟨fs, hr, hrun, hended, hW, hsame⟩ := X4.leave (v := some (.int 0)) (rN Bd.returns)
 refine ⟨_, _, ?_, hrun, hended, _, _, rfl, ?_, ⟨_, rfl⟩, hW, hsame.mono (by decide) (by decide)⟩
 · exact retN X4 hx (t := .boolean) Bd.returns (by simp) (B_ dk40) hr
 · show QrmEqF Z a b xa xb h0 n0 (some (.int 0)) T4.heap _
   rw [Eh4]
   exact ⟨rfl, rfl, rfl⟩
theorem dk42 : decode J5 0 = .ok (.iconst (-1), 1) := by decide +kernel
theorem dk43 : decode J5 1 = .ok (.istore_n 3, 1) := by decide +kernel
theorem dk44 : decode J5 2 = .ok (.iconst 0, 1) := by decide +kernel
theorem dk45 : decode J5 3 = .ok (.istore 4, 2) := by decide +kernel
theorem dk46 : decode J5 5 = .ok (.iload 4, 2) := by decide +kernel
theorem dk47 : decode J5 7 = .ok (.iload_n 1, 1) := by decide +kernel
theorem dk48 : decode J5 8 = .ok (.if_icmp .ge 35, 3) := by decide +kernel
theorem dk49 : decode J5 43 = .ok (.iload_n 3, 1) := by decide +kernel
theorem dk50 : decode J5 44 = .ok (.ireturn, 1) := by decide +kernel
theorem pn_com_example_compact_abox_compactabox_ArraySet : plainName "com/example/compact_abox/compactabox/ArraySet" = true := by first | (simp [plainName, overriddenIn]; done) | decide +kernel
theorem ef_rmIx0N (mm_ : MethodId) (ar : Addr) (q : Addr) : entryFrame mm_ #[(.ref ar), (.int 0), (.ref q)] 5 = (mkF mm_ 0 #[vr ar, vi 0, vr q, un, un] []) := by first | (simp [entryFrame, mkF, argsToLocals, Value.category]; done) | rfl
def QrmIx0N (Z : State) (ar : Addr) (q : Addr) (k : ClassId) (z : Int32) (u : Int32) (h0 : Heap) (n0 : Nat) (vv_ : Option Value) (hh_ : Heap) (LL_ : List Loc) : Prop := (vv_ = some (.int (-1))) ∧ (LL_ = []) ∧ (hh_ = h0)
theorem rmIx0N (l : Launch) (Z : State) (a0 : Array Value) (hw : own_Hw a0 Z) (ws : List Jvm.Cond) (ar : Addr) (q : Addr) (k : ClassId) (z : Int32) (u : Int32) (h0 : Heap) (n0 : Nat) (O0 : Old Z n0 h0) (pr0 : Arv Z h0 ar k (.object sc2) z [] .null) (pr1 : Exa Z h0 q sc0) (pr2 : Fld Z h0 q sc0 "value" "I" (.int u)) :
 own_MF l Z ym1 J5 5 (some .int) ws (rm_ 0 0 0 0) #[(.ref ar), (.int 0), (.ref q)] h0 (QrmIx0N Z ar q k z u h0 n0) := by
 refine own_met (plainFor_of_name pn_com_example_compact_abox_compactabox_ArraySet) (fun m_ => ef_rmIx0N m_ ar q) fun pp_ ee_ ss_ mm_ bb_ me_ cc_ s₁ Bd hx hby hml hown hZ hh X0 e0 => ?_
 have B_ {q_ : Nat} {r_ : _} (h_ : decode _ q_ = r_) := hb hby h_
 have hown : ss_.vm.findClass sc1 = some mm_.cls := hown
 have N0 := Fr.nil n0
 have Z0 : n0 ≤ h0.size := by have q := O0.2.1; rw [O0.1] at q; exact q
 have K0 : Keep h0 h0 [] := Keep.refl _ _
 show Go_ s₁ (mkF mm_ 0 #[vr ar, vi 0, vr q, un, un] [])
 refine sp_ (fun t_ k_ => XS.iconst X0.here hx rfl (B_ dk42) (XS.istoreN X0.here hx rfl (B_ dk43) rfl (l' := #[vr ar, vi 0, vr q, vi (-1), un]) rfl (XS.iconst X0.here hx rfl (B_ dk44) (XS.istore X0.here hx rfl (B_ dk45) rfl (l' := #[vr ar, vi 0, vr q, vi (-1), vi 0]) rfl (XS.iload X0.here hx rfl (B_ dk46) rfl  (XS.iloadN X0.here hx rfl (B_ dk47) rfl  k_)))))) ?_
 show Go_ s₁ (mkF mm_ 8 #[vr ar, vi 0, vr q, vi (-1), vi 0] [(.int 0), (.int 0)])
 refine sp_ (fun t_ k_ => XS.icmpYes X0.here hx rfl (pc0 := 8) (pc' := 43) rfl (B_ dk48) rfl (flt (by decide : ¬ ((0 : Int32) < (0 : Int32)))).2.1 (by decide) (by decide) k_) ?_
 show Go_ s₁ (mkF mm_ 43 #[vr ar, vi 0, vr q, vi (-1), vi 0] [])
 refine sp_ (fun t_ k_ => XS.iloadN X0.here hx rfl (B_ dk49) rfl  k_) ?_
 show Go_ s₁ (mkF mm_ 44 #[vr ar, vi 0, vr q, vi (-1), vi 0] [(.int (-1))])
 obtain ⟨fs, hr, hrun, hended, hW, hsame⟩ := X0.leave (v := some (.int (-1))) (rN Bd.returns)
 refine ⟨_, _, ?_, hrun, hended, _, _, rfl, ?_, ⟨_, rfl⟩, hW, hsame.mono (by decide) (by decide)⟩
 · exact retI X0 hx Bd.returns (B_ dk50) hr
 · show QrmIx0N Z ar q k z u h0 n0 (some (.int (-1))) s₁.heap _
   rw [e0]
   exact ⟨rfl, rfl, rfl⟩
theorem dk51 : decode J6 0 = .ok (.aload_n 0, 1) := by decide +kernel
theorem dk52 : decode J6 1 = .ok (.getfield 17, 3) := by decide +kernel
theorem dk53 : decode J6 4 = .ok (.aload_n 0, 1) := by decide +kernel
theorem dk54 : decode J6 5 = .ok (.getfield 35, 3) := by decide +kernel
theorem dk55 : decode J6 8 = .ok (.aload_n 1, 1) := by decide +kernel
theorem dk56 : decode J6 9 = .ok (.invokestatic 75, 3) := by decide +kernel
theorem pd_3 : parseMethodDescriptor "([Ljava/lang/Object;ILjava/lang/Object;)I" = some ⟨[(.array (.object "java/lang/Object")), .int, (.object "java/lang/Object")], some .int⟩ := by decide +kernel
theorem dk57 : decode J6 12 = .ok (.ireturn, 1) := by decide +kernel
theorem ef_rmPx0N (mm_ : MethodId) (x : Addr) (q : Addr) : entryFrame mm_ #[(.ref x), (.ref q)] 2 = (mkF mm_ 0 #[vr x, vr q] []) := by first | (simp [entryFrame, mkF, argsToLocals, Value.category]; done) | rfl
def QrmPx0N (Z : State) (x : Addr) (q : Addr) (ar : Addr) (k : ClassId) (z : Int32) (u : Int32) (h0 : Heap) (n0 : Nat) (vv_ : Option Value) (hh_ : Heap) (LL_ : List Loc) : Prop := (vv_ = some (.int (-1))) ∧ (LL_ = []) ∧ (hh_ = h0)
theorem rmPx0N (l : Launch) (Z : State) (a0 : Array Value) (hw : own_Hw a0 Z) (ws : List Jvm.Cond) (x : Addr) (q : Addr) (ar : Addr) (k : ClassId) (z : Int32) (u : Int32) (h0 : Heap) (n0 : Nat) (O0 : Old Z n0 h0) (pr0 : Fld Z h0 x sc1 "members" sc3 (.ref ar)) (pr1 : Fld Z h0 x sc1 "size" "I" (.int 0)) (pr2 : Arv Z h0 ar k (.object sc2) z [] .null) (pr3 : Exa Z h0 q sc0) (pr4 : Fld Z h0 q sc0 "value" "I" (.int u)) :
 own_MF l Z ym2 J6 2 (some .int) ws (rm_ 1 0 0 16) #[(.ref x), (.ref q)] h0 (QrmPx0N Z x q ar k z u h0 n0) := by
 refine own_met (plainFor_of_name pn_com_example_compact_abox_compactabox_ArraySet) (fun m_ => ef_rmPx0N m_ x q) fun pp_ ee_ ss_ mm_ bb_ me_ cc_ s₁ Bd hx hby hml hown hZ hh X0 e0 => ?_
 have B_ {q_ : Nat} {r_ : _} (h_ : decode _ q_ = r_) := hb hby h_
 have hown : ss_.vm.findClass sc1 = some mm_.cls := hown
 have N0 := Fr.nil n0
 have Z0 : n0 ≤ h0.size := by have q := O0.2.1; rw [O0.1] at q; exact q
 have K0 : Keep h0 h0 [] := Keep.refl _ _
 show Go_ s₁ (mkF mm_ 0 #[vr x, vr q] [])
 refine sp_ (fun t_ k_ => XS.aloadN X0.here hx rfl (B_ dk51) rfl rfl k_) ?_
 obtain ⟨T1, X1, e1, st1⟩ := getF X0 hx hZ hown (host := "") (Or.inl (w_ hw 26 rfl)) Via.refl e0 pr0 (g := (mkF mm_ 1 #[vr x, vr q] [(.ref x)])) rfl rfl (B_ dk52)
 refine sp_ st1 ?_
 show Go_ T1 (mkF mm_ 4 #[vr x, vr q] [(.ref ar)])
 refine sp_ (fun t_ k_ => XS.aloadN X1.here hx rfl (B_ dk53) rfl rfl k_) ?_
 obtain ⟨T2, X2, e2, st2⟩ := getF X1 hx hZ hown (host := "") (Or.inl (w_ hw 46 rfl)) Via.refl e1 pr1 (g := (mkF mm_ 5 #[vr x, vr q] [(.ref x), (.ref ar)])) rfl rfl (B_ dk54)
 refine sp_ st2 ?_
 show Go_ T2 (mkF mm_ 8 #[vr x, vr q] [(.int 0), (.ref ar)])
 refine sp_ (fun t_ k_ => XS.aloadN X2.here hx rfl (B_ dk55) rfl rfl k_) ?_
 obtain ⟨_, T3, Lc3, X3, hQ3, st3⟩ := own_cS X2 hx hZ hown (w_ hw 48 rfl) (w_ hw 49 rfl) (w_ hw 2 rfl) (w_ hw 50 rfl) (by decide) (backOf (W := 0) (rmIx0N l Z a0 hw [] ar q k z u h0 n0 O0 pr2 pr3 pr4) hZ (w_ hw 50 rfl) (w_ hw 2 rfl) (by decide) (by decide)) (g := (mkF mm_ 9 #[vr x, vr q] [(.ref q), (.int 0), (.ref ar)])) rfl hml.symm (argsL := [(.ref ar), (.int 0), (.ref q)]) (rest := []) (lenOf pd_3 rfl) rfl (Nat.le_of_eq rfl) (B_ dk56) rfl e2 (by decide) (by decide)
 obtain ⟨rfl, rfl, Eh3⟩ := hQ3
 have N3 := Fr.app N0 (Fr.nil n0)
 refine jp_ st3 ?_
 show Go_ T3 (mkF mm_ 12 #[vr x, vr q] [(.int (-1))])
 obtain ⟨fs, hr, hrun, hended, hW, hsame⟩ := X3.leave (v := some (.int (-1))) (rN Bd.returns)
 refine ⟨_, _, ?_, hrun, hended, _, _, rfl, ?_, ⟨_, rfl⟩, hW, hsame.mono (by decide) (by decide)⟩
 · exact retI X3 hx Bd.returns (B_ dk57) hr
 · show QrmPx0N Z x q ar k z u h0 n0 (some (.int (-1))) T3.heap _
   rw [Eh3]
   exact ⟨rfl, rfl, rfl⟩
theorem dk58 : decode J5 11 = .ok (.iload_n 3, 1) := by decide +kernel
theorem dk59 : decode J5 12 = .ok (.ifCond .ge 31, 3) := by decide +kernel
theorem dk60 : decode J5 15 = .ok (.aload_n 0, 1) := by decide +kernel
theorem dk61 : decode J5 16 = .ok (.iload 4, 2) := by decide +kernel
theorem dk62 : decode J5 18 = .ok (.aaload, 1) := by decide +kernel
theorem dk63 : decode J5 19 = .ok (.aload_n 2, 1) := by decide +kernel
theorem dk64 : decode J5 20 = .ok (.if_acmp .eq 14, 3) := by decide +kernel
theorem dk65 : decode J5 23 = .ok (.aload_n 0, 1) := by decide +kernel
theorem dk66 : decode J5 24 = .ok (.iload 4, 2) := by decide +kernel
theorem dk67 : decode J5 26 = .ok (.aaload, 1) := by decide +kernel
theorem dk68 : decode J5 27 = .ok (.aload_n 2, 1) := by decide +kernel
theorem dk69 : decode J5 28 = .ok (.invokevirtual 78, 3) := by decide +kernel
theorem pd_4 : parseMethodDescriptor "(Ljava/lang/Object;)Z" = some ⟨[(.object "java/lang/Object")], some .boolean⟩ := by decide +kernel
theorem dk70 : decode J5 31 = .ok (.ifCond .eq 6, 3) := by decide +kernel
theorem dk71 : decode J5 37 = .ok (.iinc 4 1, 3) := by decide +kernel
theorem dk72 : decode J5 40 = .ok (.goto (-35), 3) := by decide +kernel
theorem ef_rmIx1N (mm_ : MethodId) (ar : Addr) (q : Addr) : entryFrame mm_ #[(.ref ar), (.int 1), (.ref q)] 5 = (mkF mm_ 0 #[vr ar, vi 1, vr q, un, un] []) := by first | (simp [entryFrame, mkF, argsToLocals, Value.category]; done) | rfl
def QrmIx1N (Z : State) (ar : Addr) (q : Addr) (k : ClassId) (z : Int32) (r0 : Addr) (v0 : Int32) (u : Int32) (h0 : Heap) (n0 : Nat) (vv_ : Option Value) (hh_ : Heap) (LL_ : List Loc) : Prop := (vv_ = some (.int (-1))) ∧ (LL_ = []) ∧ (hh_ = h0)
theorem rmIx1N (l : Launch) (Z : State) (a0 : Array Value) (hw : own_Hw a0 Z) (ws : List Jvm.Cond) (ar : Addr) (q : Addr) (k : ClassId) (z : Int32) (r0 : Addr) (v0 : Int32) (u : Int32) (h0 : Heap) (n0 : Nat) (O0 : Old Z n0 h0) (pr0 : Arv Z h0 ar k (.object sc2) z [(.ref r0)] .null) (hz0 : (0 : Int32) < z) (pr2 : Exa Z h0 r0 sc0) (pr3 : Fld Z h0 r0 sc0 "value" "I" (.int v0)) (pr4 : Exa Z h0 q sc0) (pr5 : Fld Z h0 q sc0 "value" "I" (.int u)) (hn0 : ¬ (v0 = u)) :
 own_MF l Z ym1 J5 5 (some .int) ws (rm_ 2 0 0 26) #[(.ref ar), (.int 1), (.ref q)] h0 (QrmIx1N Z ar q k z r0 v0 u h0 n0) := by
 refine own_met (plainFor_of_name pn_com_example_compact_abox_compactabox_ArraySet) (fun m_ => ef_rmIx1N m_ ar q) fun pp_ ee_ ss_ mm_ bb_ me_ cc_ s₁ Bd hx hby hml hown hZ hh X0 e0 => ?_
 have B_ {q_ : Nat} {r_ : _} (h_ : decode _ q_ = r_) := hb hby h_
 have hown : ss_.vm.findClass sc1 = some mm_.cls := hown
 have N0 := Fr.nil n0
 have Z0 : n0 ≤ h0.size := by have q := O0.2.1; rw [O0.1] at q; exact q
 have K0 : Keep h0 h0 [] := Keep.refl _ _
 show Go_ s₁ (mkF mm_ 0 #[vr ar, vi 1, vr q, un, un] [])
 refine sp_ (fun t_ k_ => XS.iconst X0.here hx rfl (B_ dk42) (XS.istoreN X0.here hx rfl (B_ dk43) rfl (l' := #[vr ar, vi 1, vr q, vi (-1), un]) rfl (XS.iconst X0.here hx rfl (B_ dk44) (XS.istore X0.here hx rfl (B_ dk45) rfl (l' := #[vr ar, vi 1, vr q, vi (-1), vi 0]) rfl (XS.iload X0.here hx rfl (B_ dk46) rfl  (XS.iloadN X0.here hx rfl (B_ dk47) rfl  k_)))))) ?_
 show Go_ s₁ (mkF mm_ 8 #[vr ar, vi 1, vr q, vi (-1), vi 0] [(.int 1), (.int 0)])
 refine sp_ (fun t_ k_ => XS.icmpNo X0.here hx rfl (B_ dk48) rfl (tlt (by decide : (0 : Int32) < (1 : Int32))).2.1 k_) ?_
 show Go_ s₁ (mkF mm_ 11 #[vr ar, vi 1, vr q, vi (-1), vi 0] [])
 refine sp_ (fun t_ k_ => XS.iloadN X0.here hx rfl (B_ dk58) rfl  k_) ?_
 show Go_ s₁ (mkF mm_ 12 #[vr ar, vi 1, vr q, vi (-1), vi 0] [(.int (-1))])
 refine sp_ (fun t_ k_ => XS.ifNo X0.here hx rfl (B_ dk59) rfl ((if0 _ _).trans (tlt (by decide : (-1 : Int32) < (0 : Int32))).2.1) k_) ?_
 show Go_ s₁ (mkF mm_ 15 #[vr ar, vi 1, vr q, vi (-1), vi 0] [])
 refine sp_ (fun t_ k_ => XS.aloadN X0.here hx rfl (B_ dk60) rfl rfl (XS.iload X0.here hx rfl (B_ dk61) rfl  k_)) ?_
 obtain ⟨cl1, Ar1, q1, S1, M1, H1, G1⟩ := id pr0
 have hin1 : ¬ ((0 : Int32) < 0 ∨ cl1.slots.size ≤ ((0 : Int32)).toNatClampNeg) := inb_of S1 ⟨by decide, hz0⟩
 have hat1 : cl1.slots[((0 : Int32)).toNatClampNeg]? = some (.ref r0) := Has.at H1 hin1 rfl
 refine sp_ (fun t_ k_ => X0.aaload hx (j := (0 : Int32)) (v := (.ref r0)) (by rw [e0]; exact Ar1.1) (State.isArrayOf_alike hZ.alike Ar1.2.1) rfl Ar1.2.2 hin1 hat1 (g := (mkF mm_ 18 #[vr ar, vi 1, vr q, vi (-1), vi 0] [(.int 0), (.ref ar)])) rfl rfl (B_ dk62) t_ k_) ?_
 show Go_ s₁ (mkF mm_ 19 #[vr ar, vi 1, vr q, vi (-1), vi 0] [(.ref r0)])
 refine sp_ (fun t_ k_ => XS.aloadN X0.here hx rfl (B_ dk63) rfl rfl k_) ?_
 show Go_ s₁ (mkF mm_ 20 #[vr ar, vi 1, vr q, vi (-1), vi 0] [(.ref q), (.ref r0)])
 refine sp_ (fun t_ k_ => Jvm.RoadKit.acmp (g := (mkF mm_ 20 #[vr ar, vi 1, vr q, vi (-1), vi 0] [(.ref q), (.ref r0)])) X0 hx rfl rfl rfl (pc0 := 20) (pc' := 23) (same := false) rfl (B_ dk64) rfl (decide_eq_false fun q => (Fld.ne pr3 pr5 (fun q_ => hn0 (Value.int.inj q_))) (Value.ref.inj q)) (by decide) (by decide) (XS.aloadN X0.here hx rfl (B_ dk65) rfl rfl (XS.iload X0.here hx rfl (B_ dk66) rfl  k_))) ?_
 obtain ⟨cl2, Ar2, q2, S2, M2, H2, G2⟩ := id pr0
 have hin2 : ¬ ((0 : Int32) < 0 ∨ cl2.slots.size ≤ ((0 : Int32)).toNatClampNeg) := inb_of S2 ⟨by decide, hz0⟩
 have hat2 : cl2.slots[((0 : Int32)).toNatClampNeg]? = some (.ref r0) := Has.at H2 hin2 rfl
 refine sp_ (fun t_ k_ => X0.aaload hx (j := (0 : Int32)) (v := (.ref r0)) (by rw [e0]; exact Ar2.1) (State.isArrayOf_alike hZ.alike Ar2.2.1) rfl Ar2.2.2 hin2 hat2 (g := (mkF mm_ 26 #[vr ar, vi 1, vr q, vi (-1), vi 0] [(.int 0), (.ref ar)])) rfl rfl (B_ dk67) t_ k_) ?_
 show Go_ s₁ (mkF mm_ 27 #[vr ar, vi 1, vr q, vi (-1), vi 0] [(.ref r0)])
 refine sp_ (fun t_ k_ => XS.aloadN X0.here hx rfl (B_ dk68) rfl rfl k_) ?_
 obtain ⟨_, T3, Lc3, X3, hQ3, st3⟩ := own_cV X0 hx hZ hown (w_ hw 52 rfl) (w_ hw 53 rfl) (own_nf (args := #[]) (mvT hZ (w_ hw 77 rfl)) rfl) (w_ hw 55 rfl) (w_ hw 56 rfl) (by decide) (backOf (W := 0) (rmEqF l Z a0 hw [] r0 q v0 u h0 n0 O0 pr2 pr4 pr3 pr5 hn0) hZ (w_ hw 57 rfl) (w_ hw 30 rfl) (by decide) (by decide)) pr2 (g := (mkF mm_ 28 #[vr ar, vi 1, vr q, vi (-1), vi 0] [(.ref q), (.ref r0)])) rfl hml.symm (argsL := [(.ref q)]) (rest := []) (lenOf pd_4 rfl) rfl (Nat.le_of_eq rfl) (B_ dk69) rfl e0 (by decide) (by decide)
 obtain ⟨rfl, rfl, Eh3⟩ := hQ3
 have N3 := Fr.app N0 (Fr.nil n0)
 refine jp_ st3 ?_
 show Go_ T3 (mkF mm_ 31 #[vr ar, vi 1, vr q, vi (-1), vi 0] [(.int 0)])
 refine sp_ (fun t_ k_ => XS.ifYes X3.here hx rfl (pc0 := 31) (pc' := 37) rfl (B_ dk70) rfl ((if0 _ _).trans (teq (by decide : (0 : Int32) = (0 : Int32))).1) (by decide) (by decide) k_) ?_
 show Go_ T3 (mkF mm_ 37 #[vr ar, vi 1, vr q, vi (-1), vi 0] [])
 refine sp_ (fun t_ k_ => XS.iinc X3.here hx rfl (B_ dk71) rfl (l' := #[vr ar, vi 1, vr q, vi (-1), vi 1]) rfl (XS.goto X3.here hx rfl (pc0 := 40) (pc' := 5) rfl (B_ dk72) (by decide) (by decide) (XS.iload X3.here hx rfl (B_ dk46) rfl  (XS.iloadN X3.here hx rfl (B_ dk47) rfl  k_)))) ?_
 show Go_ T3 (mkF mm_ 8 #[vr ar, vi 1, vr q, vi (-1), vi 1] [(.int 1), (.int 1)])
 refine sp_ (fun t_ k_ => XS.icmpYes X3.here hx rfl (pc0 := 8) (pc' := 43) rfl (B_ dk48) rfl (flt (by decide : ¬ ((1 : Int32) < (1 : Int32)))).2.1 (by decide) (by decide) k_) ?_
 show Go_ T3 (mkF mm_ 43 #[vr ar, vi 1, vr q, vi (-1), vi 1] [])
 refine sp_ (fun t_ k_ => XS.iloadN X3.here hx rfl (B_ dk49) rfl  k_) ?_
 show Go_ T3 (mkF mm_ 44 #[vr ar, vi 1, vr q, vi (-1), vi 1] [(.int (-1))])
 obtain ⟨fs, hr, hrun, hended, hW, hsame⟩ := X3.leave (v := some (.int (-1))) (rN Bd.returns)
 refine ⟨_, _, ?_, hrun, hended, _, _, rfl, ?_, ⟨_, rfl⟩, hW, hsame.mono (by decide) (by decide)⟩
 · exact retI X3 hx Bd.returns (B_ dk50) hr
 · show QrmIx1N Z ar q k z r0 v0 u h0 n0 (some (.int (-1))) T3.heap _
   rw [Eh3]
   exact ⟨rfl, rfl, rfl⟩
theorem ef_rmPx1N (mm_ : MethodId) (x : Addr) (q : Addr) : entryFrame mm_ #[(.ref x), (.ref q)] 2 = (mkF mm_ 0 #[vr x, vr q] []) := by first | (simp [entryFrame, mkF, argsToLocals, Value.category]; done) | rfl
def QrmPx1N (Z : State) (x : Addr) (q : Addr) (ar : Addr) (k : ClassId) (z : Int32) (r0 : Addr) (v0 : Int32) (u : Int32) (h0 : Heap) (n0 : Nat) (vv_ : Option Value) (hh_ : Heap) (LL_ : List Loc) : Prop := (vv_ = some (.int (-1))) ∧ (LL_ = []) ∧ (hh_ = h0)
theorem rmPx1N (l : Launch) (Z : State) (a0 : Array Value) (hw : own_Hw a0 Z) (ws : List Jvm.Cond) (x : Addr) (q : Addr) (ar : Addr) (k : ClassId) (z : Int32) (r0 : Addr) (v0 : Int32) (u : Int32) (h0 : Heap) (n0 : Nat) (O0 : Old Z n0 h0) (pr0 : Fld Z h0 x sc1 "members" sc3 (.ref ar)) (pr1 : Fld Z h0 x sc1 "size" "I" (.int 1)) (pr2 : Arv Z h0 ar k (.object sc2) z [(.ref r0)] .null) (hz0 : (0 : Int32) < z) (pr4 : Exa Z h0 r0 sc0) (pr5 : Fld Z h0 r0 sc0 "value" "I" (.int v0)) (pr6 : Exa Z h0 q sc0) (pr7 : Fld Z h0 q sc0 "value" "I" (.int u)) (hn0 : ¬ (v0 = u)) :
 own_MF l Z ym2 J6 2 (some .int) ws (rm_ 3 0 0 42) #[(.ref x), (.ref q)] h0 (QrmPx1N Z x q ar k z r0 v0 u h0 n0) := by
 refine own_met (plainFor_of_name pn_com_example_compact_abox_compactabox_ArraySet) (fun m_ => ef_rmPx1N m_ x q) fun pp_ ee_ ss_ mm_ bb_ me_ cc_ s₁ Bd hx hby hml hown hZ hh X0 e0 => ?_
 have B_ {q_ : Nat} {r_ : _} (h_ : decode _ q_ = r_) := hb hby h_
 have hown : ss_.vm.findClass sc1 = some mm_.cls := hown
 have N0 := Fr.nil n0
 have Z0 : n0 ≤ h0.size := by have q := O0.2.1; rw [O0.1] at q; exact q
 have K0 : Keep h0 h0 [] := Keep.refl _ _
 show Go_ s₁ (mkF mm_ 0 #[vr x, vr q] [])
 refine sp_ (fun t_ k_ => XS.aloadN X0.here hx rfl (B_ dk51) rfl rfl k_) ?_
 obtain ⟨T1, X1, e1, st1⟩ := getF X0 hx hZ hown (host := "") (Or.inl (w_ hw 26 rfl)) Via.refl e0 pr0 (g := (mkF mm_ 1 #[vr x, vr q] [(.ref x)])) rfl rfl (B_ dk52)
 refine sp_ st1 ?_
 show Go_ T1 (mkF mm_ 4 #[vr x, vr q] [(.ref ar)])
 refine sp_ (fun t_ k_ => XS.aloadN X1.here hx rfl (B_ dk53) rfl rfl k_) ?_
 obtain ⟨T2, X2, e2, st2⟩ := getF X1 hx hZ hown (host := "") (Or.inl (w_ hw 46 rfl)) Via.refl e1 pr1 (g := (mkF mm_ 5 #[vr x, vr q] [(.ref x), (.ref ar)])) rfl rfl (B_ dk54)
 refine sp_ st2 ?_
 show Go_ T2 (mkF mm_ 8 #[vr x, vr q] [(.int 1), (.ref ar)])
 refine sp_ (fun t_ k_ => XS.aloadN X2.here hx rfl (B_ dk55) rfl rfl k_) ?_
 obtain ⟨_, T3, Lc3, X3, hQ3, st3⟩ := own_cS X2 hx hZ hown (w_ hw 48 rfl) (w_ hw 49 rfl) (w_ hw 2 rfl) (w_ hw 50 rfl) (by decide) (backOf (W := 0) (rmIx1N l Z a0 hw [] ar q k z r0 v0 u h0 n0 O0 pr2 hz0 pr4 pr5 pr6 pr7 hn0) hZ (w_ hw 50 rfl) (w_ hw 2 rfl) (by decide) (by decide)) (g := (mkF mm_ 9 #[vr x, vr q] [(.ref q), (.int 1), (.ref ar)])) rfl hml.symm (argsL := [(.ref ar), (.int 1), (.ref q)]) (rest := []) (lenOf pd_3 rfl) rfl (Nat.le_of_eq rfl) (B_ dk56) rfl e2 (by decide) (by decide)
 obtain ⟨rfl, rfl, Eh3⟩ := hQ3
 have N3 := Fr.app N0 (Fr.nil n0)
 refine jp_ st3 ?_
 show Go_ T3 (mkF mm_ 12 #[vr x, vr q] [(.int (-1))])
 obtain ⟨fs, hr, hrun, hended, hW, hsame⟩ := X3.leave (v := some (.int (-1))) (rN Bd.returns)
 refine ⟨_, _, ?_, hrun, hended, _, _, rfl, ?_, ⟨_, rfl⟩, hW, hsame.mono (by decide) (by decide)⟩
 · exact retI X3 hx Bd.returns (B_ dk57) hr
 · show QrmPx1N Z x q ar k z r0 v0 u h0 n0 (some (.int (-1))) T3.heap _
   rw [Eh3]
   exact ⟨rfl, rfl, rfl⟩
theorem ef_rmIx2N (mm_ : MethodId) (ar : Addr) (q : Addr) : entryFrame mm_ #[(.ref ar), (.int 2), (.ref q)] 5 = (mkF mm_ 0 #[vr ar, vi 2, vr q, un, un] []) := by first | (simp [entryFrame, mkF, argsToLocals, Value.category]; done) | rfl
def QrmIx2N (Z : State) (ar : Addr) (q : Addr) (k : ClassId) (z : Int32) (r0 : Addr) (r1 : Addr) (v0 : Int32) (v1 : Int32) (u : Int32) (h0 : Heap) (n0 : Nat) (vv_ : Option Value) (hh_ : Heap) (LL_ : List Loc) : Prop := (vv_ = some (.int (-1))) ∧ (LL_ = []) ∧ (hh_ = h0)
theorem rmIx2N (l : Launch) (Z : State) (a0 : Array Value) (hw : own_Hw a0 Z) (ws : List Jvm.Cond) (ar : Addr) (q : Addr) (k : ClassId) (z : Int32) (r0 : Addr) (r1 : Addr) (v0 : Int32) (v1 : Int32) (u : Int32) (h0 : Heap) (n0 : Nat) (O0 : Old Z n0 h0) (pr0 : Arv Z h0 ar k (.object sc2) z [(.ref r0), (.ref r1)] .null) (hz0 : (0 : Int32) < z) (hz1 : (1 : Int32) < z) (pr3 : Exa Z h0 r0 sc0) (pr4 : Fld Z h0 r0 sc0 "value" "I" (.int v0)) (pr5 : Exa Z h0 r1 sc0) (pr6 : Fld Z h0 r1 sc0 "value" "I" (.int v1)) (pr7 : Exa Z h0 q sc0) (pr8 : Fld Z h0 q sc0 "value" "I" (.int u)) (hn0 : ¬ (v0 = u)) (hn1 : ¬ (v1 = u)) :
 own_MF l Z ym1 J5 5 (some .int) ws (rm_ 2 0 0 26) #[(.ref ar), (.int 2), (.ref q)] h0 (QrmIx2N Z ar q k z r0 r1 v0 v1 u h0 n0) := by
 refine own_met (plainFor_of_name pn_com_example_compact_abox_compactabox_ArraySet) (fun m_ => ef_rmIx2N m_ ar q) fun pp_ ee_ ss_ mm_ bb_ me_ cc_ s₁ Bd hx hby hml hown hZ hh X0 e0 => ?_
 have B_ {q_ : Nat} {r_ : _} (h_ : decode _ q_ = r_) := hb hby h_
 have hown : ss_.vm.findClass sc1 = some mm_.cls := hown
 have N0 := Fr.nil n0
 have Z0 : n0 ≤ h0.size := by have q := O0.2.1; rw [O0.1] at q; exact q
 have K0 : Keep h0 h0 [] := Keep.refl _ _
 show Go_ s₁ (mkF mm_ 0 #[vr ar, vi 2, vr q, un, un] [])
 refine sp_ (fun t_ k_ => XS.iconst X0.here hx rfl (B_ dk42) (XS.istoreN X0.here hx rfl (B_ dk43) rfl (l' := #[vr ar, vi 2, vr q, vi (-1), un]) rfl (XS.iconst X0.here hx rfl (B_ dk44) (XS.istore X0.here hx rfl (B_ dk45) rfl (l' := #[vr ar, vi 2, vr q, vi (-1), vi 0]) rfl (XS.iload X0.here hx rfl (B_ dk46) rfl  (XS.iloadN X0.here hx rfl (B_ dk47) rfl  k_)))))) ?_
 show Go_ s₁ (mkF mm_ 8 #[vr ar, vi 2, vr q, vi (-1), vi 0] [(.int 2), (.int 0)])
 refine sp_ (fun t_ k_ => XS.icmpNo X0.here hx rfl (B_ dk48) rfl (tlt (by decide : (0 : Int32) < (2 : Int32))).2.1 k_) ?_
 show Go_ s₁ (mkF mm_ 11 #[vr ar, vi 2, vr q, vi (-1), vi 0] [])
 refine sp_ (fun t_ k_ => XS.iloadN X0.here hx rfl (B_ dk58) rfl  k_) ?_
 show Go_ s₁ (mkF mm_ 12 #[vr ar, vi 2, vr q, vi (-1), vi 0] [(.int (-1))])
 refine sp_ (fun t_ k_ => XS.ifNo X0.here hx rfl (B_ dk59) rfl ((if0 _ _).trans (tlt (by decide : (-1 : Int32) < (0 : Int32))).2.1) k_) ?_
 show Go_ s₁ (mkF mm_ 15 #[vr ar, vi 2, vr q, vi (-1), vi 0] [])
 refine sp_ (fun t_ k_ => XS.aloadN X0.here hx rfl (B_ dk60) rfl rfl (XS.iload X0.here hx rfl (B_ dk61) rfl  k_)) ?_
 obtain ⟨cl1, Ar1, q1, S1, M1, H1, G1⟩ := id pr0
 have hin1 : ¬ ((0 : Int32) < 0 ∨ cl1.slots.size ≤ ((0 : Int32)).toNatClampNeg) := inb_of S1 ⟨by decide, hz0⟩
 have hat1 : cl1.slots[((0 : Int32)).toNatClampNeg]? = some (.ref r0) := Has.at H1 hin1 rfl
 refine sp_ (fun t_ k_ => X0.aaload hx (j := (0 : Int32)) (v := (.ref r0)) (by rw [e0]; exact Ar1.1) (State.isArrayOf_alike hZ.alike Ar1.2.1) rfl Ar1.2.2 hin1 hat1 (g := (mkF mm_ 18 #[vr ar, vi 2, vr q, vi (-1), vi 0] [(.int 0), (.ref ar)])) rfl rfl (B_ dk62) t_ k_) ?_
 show Go_ s₁ (mkF mm_ 19 #[vr ar, vi 2, vr q, vi (-1), vi 0] [(.ref r0)])
 refine sp_ (fun t_ k_ => XS.aloadN X0.here hx rfl (B_ dk63) rfl rfl k_) ?_
 show Go_ s₁ (mkF mm_ 20 #[vr ar, vi 2, vr q, vi (-1), vi 0] [(.ref q), (.ref r0)])
 refine sp_ (fun t_ k_ => Jvm.RoadKit.acmp (g := (mkF mm_ 20 #[vr ar, vi 2, vr q, vi (-1), vi 0] [(.ref q), (.ref r0)])) X0 hx rfl rfl rfl (pc0 := 20) (pc' := 23) (same := false) rfl (B_ dk64) rfl (decide_eq_false fun q => (Fld.ne pr4 pr8 (fun q_ => hn0 (Value.int.inj q_))) (Value.ref.inj q)) (by decide) (by decide) (XS.aloadN X0.here hx rfl (B_ dk65) rfl rfl (XS.iload X0.here hx rfl (B_ dk66) rfl  k_))) ?_
 obtain ⟨cl2, Ar2, q2, S2, M2, H2, G2⟩ := id pr0
 have hin2 : ¬ ((0 : Int32) < 0 ∨ cl2.slots.size ≤ ((0 : Int32)).toNatClampNeg) := inb_of S2 ⟨by decide, hz0⟩
 have hat2 : cl2.slots[((0 : Int32)).toNatClampNeg]? = some (.ref r0) := Has.at H2 hin2 rfl
 refine sp_ (fun t_ k_ => X0.aaload hx (j := (0 : Int32)) (v := (.ref r0)) (by rw [e0]; exact Ar2.1) (State.isArrayOf_alike hZ.alike Ar2.2.1) rfl Ar2.2.2 hin2 hat2 (g := (mkF mm_ 26 #[vr ar, vi 2, vr q, vi (-1), vi 0] [(.int 0), (.ref ar)])) rfl rfl (B_ dk67) t_ k_) ?_
 show Go_ s₁ (mkF mm_ 27 #[vr ar, vi 2, vr q, vi (-1), vi 0] [(.ref r0)])
 refine sp_ (fun t_ k_ => XS.aloadN X0.here hx rfl (B_ dk68) rfl rfl k_) ?_
 obtain ⟨_, T3, Lc3, X3, hQ3, st3⟩ := own_cV X0 hx hZ hown (w_ hw 52 rfl) (w_ hw 53 rfl) (own_nf (args := #[]) (mvT hZ (w_ hw 77 rfl)) rfl) (w_ hw 55 rfl) (w_ hw 56 rfl) (by decide) (backOf (W := 0) (rmEqF l Z a0 hw [] r0 q v0 u h0 n0 O0 pr3 pr7 pr4 pr8 hn0) hZ (w_ hw 57 rfl) (w_ hw 30 rfl) (by decide) (by decide)) pr3 (g := (mkF mm_ 28 #[vr ar, vi 2, vr q, vi (-1), vi 0] [(.ref q), (.ref r0)])) rfl hml.symm (argsL := [(.ref q)]) (rest := []) (lenOf pd_4 rfl) rfl (Nat.le_of_eq rfl) (B_ dk69) rfl e0 (by decide) (by decide)
 obtain ⟨rfl, rfl, Eh3⟩ := hQ3
 have N3 := Fr.app N0 (Fr.nil n0)
 refine jp_ st3 ?_
 show Go_ T3 (mkF mm_ 31 #[vr ar, vi 2, vr q, vi (-1), vi 0] [(.int 0)])
 refine sp_ (fun t_ k_ => XS.ifYes X3.here hx rfl (pc0 := 31) (pc' := 37) rfl (B_ dk70) rfl ((if0 _ _).trans (teq (by decide : (0 : Int32) = (0 : Int32))).1) (by decide) (by decide) k_) ?_
 show Go_ T3 (mkF mm_ 37 #[vr ar, vi 2, vr q, vi (-1), vi 0] [])
 refine sp_ (fun t_ k_ => XS.iinc X3.here hx rfl (B_ dk71) rfl (l' := #[vr ar, vi 2, vr q, vi (-1), vi 1]) rfl (XS.goto X3.here hx rfl (pc0 := 40) (pc' := 5) rfl (B_ dk72) (by decide) (by decide) (XS.iload X3.here hx rfl (B_ dk46) rfl  (XS.iloadN X3.here hx rfl (B_ dk47) rfl  k_)))) ?_
 show Go_ T3 (mkF mm_ 8 #[vr ar, vi 2, vr q, vi (-1), vi 1] [(.int 2), (.int 1)])
 refine sp_ (fun t_ k_ => XS.icmpNo X3.here hx rfl (B_ dk48) rfl (tlt (by decide : (1 : Int32) < (2 : Int32))).2.1 k_) ?_
 show Go_ T3 (mkF mm_ 11 #[vr ar, vi 2, vr q, vi (-1), vi 1] [])
 refine sp_ (fun t_ k_ => XS.iloadN X3.here hx rfl (B_ dk58) rfl  k_) ?_
 show Go_ T3 (mkF mm_ 12 #[vr ar, vi 2, vr q, vi (-1), vi 1] [(.int (-1))])
 refine sp_ (fun t_ k_ => XS.ifNo X3.here hx rfl (B_ dk59) rfl ((if0 _ _).trans (tlt (by decide : (-1 : Int32) < (0 : Int32))).2.1) k_) ?_
 show Go_ T3 (mkF mm_ 15 #[vr ar, vi 2, vr q, vi (-1), vi 1] [])
 refine sp_ (fun t_ k_ => XS.aloadN X3.here hx rfl (B_ dk60) rfl rfl (XS.iload X3.here hx rfl (B_ dk61) rfl  k_)) ?_
 obtain ⟨cl4, Ar4, q4, S4, M4, H4, G4⟩ := id pr0
 have hin4 : ¬ ((1 : Int32) < 0 ∨ cl4.slots.size ≤ ((1 : Int32)).toNatClampNeg) := inb_of S4 ⟨by decide, hz1⟩
 have hat4 : cl4.slots[((1 : Int32)).toNatClampNeg]? = some (.ref r1) := Has.at H4 hin4 rfl
 refine sp_ (fun t_ k_ => X3.aaload hx (j := (1 : Int32)) (v := (.ref r1)) (by rw [Eh3]; exact Ar4.1) (State.isArrayOf_alike hZ.alike Ar4.2.1) rfl Ar4.2.2 hin4 hat4 (g := (mkF mm_ 18 #[vr ar, vi 2, vr q, vi (-1), vi 1] [(.int 1), (.ref ar)])) rfl rfl (B_ dk62) t_ k_) ?_
 show Go_ T3 (mkF mm_ 19 #[vr ar, vi 2, vr q, vi (-1), vi 1] [(.ref r1)])
 refine sp_ (fun t_ k_ => XS.aloadN X3.here hx rfl (B_ dk63) rfl rfl k_) ?_
 show Go_ T3 (mkF mm_ 20 #[vr ar, vi 2, vr q, vi (-1), vi 1] [(.ref q), (.ref r1)])
 refine sp_ (fun t_ k_ => Jvm.RoadKit.acmp (g := (mkF mm_ 20 #[vr ar, vi 2, vr q, vi (-1), vi 1] [(.ref q), (.ref r1)])) X3 hx rfl rfl rfl (pc0 := 20) (pc' := 23) (same := false) rfl (B_ dk64) rfl (decide_eq_false fun q => (Fld.ne pr6 pr8 (fun q_ => hn1 (Value.int.inj q_))) (Value.ref.inj q)) (by decide) (by decide) (XS.aloadN X3.here hx rfl (B_ dk65) rfl rfl (XS.iload X3.here hx rfl (B_ dk66) rfl  k_))) ?_
 obtain ⟨cl5, Ar5, q5, S5, M5, H5, G5⟩ := id pr0
 have hin5 : ¬ ((1 : Int32) < 0 ∨ cl5.slots.size ≤ ((1 : Int32)).toNatClampNeg) := inb_of S5 ⟨by decide, hz1⟩
 have hat5 : cl5.slots[((1 : Int32)).toNatClampNeg]? = some (.ref r1) := Has.at H5 hin5 rfl
 refine sp_ (fun t_ k_ => X3.aaload hx (j := (1 : Int32)) (v := (.ref r1)) (by rw [Eh3]; exact Ar5.1) (State.isArrayOf_alike hZ.alike Ar5.2.1) rfl Ar5.2.2 hin5 hat5 (g := (mkF mm_ 26 #[vr ar, vi 2, vr q, vi (-1), vi 1] [(.int 1), (.ref ar)])) rfl rfl (B_ dk67) t_ k_) ?_
 show Go_ T3 (mkF mm_ 27 #[vr ar, vi 2, vr q, vi (-1), vi 1] [(.ref r1)])
 refine sp_ (fun t_ k_ => XS.aloadN X3.here hx rfl (B_ dk68) rfl rfl k_) ?_
 obtain ⟨_, T6, Lc6, X6, hQ6, st6⟩ := own_cV X3 hx hZ hown (w_ hw 52 rfl) (w_ hw 53 rfl) (own_nf (args := #[]) (mvT hZ (w_ hw 77 rfl)) rfl) (w_ hw 55 rfl) (w_ hw 56 rfl) (by decide) (backOf (W := 0) (rmEqF l Z a0 hw [] r1 q v1 u h0 n0 O0 pr5 pr7 pr6 pr8 hn1) hZ (w_ hw 57 rfl) (w_ hw 30 rfl) (by decide) (by decide)) pr5 (g := (mkF mm_ 28 #[vr ar, vi 2, vr q, vi (-1), vi 1] [(.ref q), (.ref r1)])) rfl hml.symm (argsL := [(.ref q)]) (rest := []) (lenOf pd_4 rfl) rfl (Nat.le_of_eq rfl) (B_ dk69) rfl Eh3 (by decide) (by decide)
 obtain ⟨rfl, rfl, Eh6⟩ := hQ6
 have N6 := Fr.app N3 (Fr.nil n0)
 refine jp_ st6 ?_
 show Go_ T6 (mkF mm_ 31 #[vr ar, vi 2, vr q, vi (-1), vi 1] [(.int 0)])
 refine sp_ (fun t_ k_ => XS.ifYes X6.here hx rfl (pc0 := 31) (pc' := 37) rfl (B_ dk70) rfl ((if0 _ _).trans (teq (by decide : (0 : Int32) = (0 : Int32))).1) (by decide) (by decide) k_) ?_
 show Go_ T6 (mkF mm_ 37 #[vr ar, vi 2, vr q, vi (-1), vi 1] [])
 refine sp_ (fun t_ k_ => XS.iinc X6.here hx rfl (B_ dk71) rfl (l' := #[vr ar, vi 2, vr q, vi (-1), vi 2]) rfl (XS.goto X6.here hx rfl (pc0 := 40) (pc' := 5) rfl (B_ dk72) (by decide) (by decide) (XS.iload X6.here hx rfl (B_ dk46) rfl  (XS.iloadN X6.here hx rfl (B_ dk47) rfl  k_)))) ?_
 show Go_ T6 (mkF mm_ 8 #[vr ar, vi 2, vr q, vi (-1), vi 2] [(.int 2), (.int 2)])
 refine sp_ (fun t_ k_ => XS.icmpYes X6.here hx rfl (pc0 := 8) (pc' := 43) rfl (B_ dk48) rfl (flt (by decide : ¬ ((2 : Int32) < (2 : Int32)))).2.1 (by decide) (by decide) k_) ?_
 show Go_ T6 (mkF mm_ 43 #[vr ar, vi 2, vr q, vi (-1), vi 2] [])
 refine sp_ (fun t_ k_ => XS.iloadN X6.here hx rfl (B_ dk49) rfl  k_) ?_
 show Go_ T6 (mkF mm_ 44 #[vr ar, vi 2, vr q, vi (-1), vi 2] [(.int (-1))])
 obtain ⟨fs, hr, hrun, hended, hW, hsame⟩ := X6.leave (v := some (.int (-1))) (rN Bd.returns)
 refine ⟨_, _, ?_, hrun, hended, _, _, rfl, ?_, ⟨_, rfl⟩, hW, hsame.mono (by decide) (by decide)⟩
 · exact retI X6 hx Bd.returns (B_ dk50) hr
 · show QrmIx2N Z ar q k z r0 r1 v0 v1 u h0 n0 (some (.int (-1))) T6.heap _
   rw [Eh6]
   exact ⟨rfl, rfl, rfl⟩
theorem ef_rmPx2N (mm_ : MethodId) (x : Addr) (q : Addr) : entryFrame mm_ #[(.ref x), (.ref q)] 2 = (mkF mm_ 0 #[vr x, vr q] []) := by first | (simp [entryFrame, mkF, argsToLocals, Value.category]; done) | rfl
def QrmPx2N (Z : State) (x : Addr) (q : Addr) (ar : Addr) (k : ClassId) (z : Int32) (r0 : Addr) (r1 : Addr) (v0 : Int32) (v1 : Int32) (u : Int32) (h0 : Heap) (n0 : Nat) (vv_ : Option Value) (hh_ : Heap) (LL_ : List Loc) : Prop := (vv_ = some (.int (-1))) ∧ (LL_ = []) ∧ (hh_ = h0)
theorem rmPx2N (l : Launch) (Z : State) (a0 : Array Value) (hw : own_Hw a0 Z) (ws : List Jvm.Cond) (x : Addr) (q : Addr) (ar : Addr) (k : ClassId) (z : Int32) (r0 : Addr) (r1 : Addr) (v0 : Int32) (v1 : Int32) (u : Int32) (h0 : Heap) (n0 : Nat) (O0 : Old Z n0 h0) (pr0 : Fld Z h0 x sc1 "members" sc3 (.ref ar)) (pr1 : Fld Z h0 x sc1 "size" "I" (.int 2)) (pr2 : Arv Z h0 ar k (.object sc2) z [(.ref r0), (.ref r1)] .null) (hz0 : (0 : Int32) < z) (hz1 : (1 : Int32) < z) (pr5 : Exa Z h0 r0 sc0) (pr6 : Fld Z h0 r0 sc0 "value" "I" (.int v0)) (pr7 : Exa Z h0 r1 sc0) (pr8 : Fld Z h0 r1 sc0 "value" "I" (.int v1)) (pr9 : Exa Z h0 q sc0) (pr10 : Fld Z h0 q sc0 "value" "I" (.int u)) (hn0 : ¬ (v0 = u)) (hn1 : ¬ (v1 = u)) :
 own_MF l Z ym2 J6 2 (some .int) ws (rm_ 3 0 0 42) #[(.ref x), (.ref q)] h0 (QrmPx2N Z x q ar k z r0 r1 v0 v1 u h0 n0) := by
 refine own_met (plainFor_of_name pn_com_example_compact_abox_compactabox_ArraySet) (fun m_ => ef_rmPx2N m_ x q) fun pp_ ee_ ss_ mm_ bb_ me_ cc_ s₁ Bd hx hby hml hown hZ hh X0 e0 => ?_
 have B_ {q_ : Nat} {r_ : _} (h_ : decode _ q_ = r_) := hb hby h_
 have hown : ss_.vm.findClass sc1 = some mm_.cls := hown
 have N0 := Fr.nil n0
 have Z0 : n0 ≤ h0.size := by have q := O0.2.1; rw [O0.1] at q; exact q
 have K0 : Keep h0 h0 [] := Keep.refl _ _
 show Go_ s₁ (mkF mm_ 0 #[vr x, vr q] [])
 refine sp_ (fun t_ k_ => XS.aloadN X0.here hx rfl (B_ dk51) rfl rfl k_) ?_
 obtain ⟨T1, X1, e1, st1⟩ := getF X0 hx hZ hown (host := "") (Or.inl (w_ hw 26 rfl)) Via.refl e0 pr0 (g := (mkF mm_ 1 #[vr x, vr q] [(.ref x)])) rfl rfl (B_ dk52)
 refine sp_ st1 ?_
 show Go_ T1 (mkF mm_ 4 #[vr x, vr q] [(.ref ar)])
 refine sp_ (fun t_ k_ => XS.aloadN X1.here hx rfl (B_ dk53) rfl rfl k_) ?_
 obtain ⟨T2, X2, e2, st2⟩ := getF X1 hx hZ hown (host := "") (Or.inl (w_ hw 46 rfl)) Via.refl e1 pr1 (g := (mkF mm_ 5 #[vr x, vr q] [(.ref x), (.ref ar)])) rfl rfl (B_ dk54)
 refine sp_ st2 ?_
 show Go_ T2 (mkF mm_ 8 #[vr x, vr q] [(.int 2), (.ref ar)])
 refine sp_ (fun t_ k_ => XS.aloadN X2.here hx rfl (B_ dk55) rfl rfl k_) ?_
 obtain ⟨_, T3, Lc3, X3, hQ3, st3⟩ := own_cS X2 hx hZ hown (w_ hw 48 rfl) (w_ hw 49 rfl) (w_ hw 2 rfl) (w_ hw 50 rfl) (by decide) (backOf (W := 0) (rmIx2N l Z a0 hw [] ar q k z r0 r1 v0 v1 u h0 n0 O0 pr2 hz0 hz1 pr5 pr6 pr7 pr8 pr9 pr10 hn0 hn1) hZ (w_ hw 50 rfl) (w_ hw 2 rfl) (by decide) (by decide)) (g := (mkF mm_ 9 #[vr x, vr q] [(.ref q), (.int 2), (.ref ar)])) rfl hml.symm (argsL := [(.ref ar), (.int 2), (.ref q)]) (rest := []) (lenOf pd_3 rfl) rfl (Nat.le_of_eq rfl) (B_ dk56) rfl e2 (by decide) (by decide)
 obtain ⟨rfl, rfl, Eh3⟩ := hQ3
 have N3 := Fr.app N0 (Fr.nil n0)
 refine jp_ st3 ?_
 show Go_ T3 (mkF mm_ 12 #[vr x, vr q] [(.int (-1))])
 obtain ⟨fs, hr, hrun, hended, hW, hsame⟩ := X3.leave (v := some (.int (-1))) (rN Bd.returns)
 refine ⟨_, _, ?_, hrun, hended, _, _, rfl, ?_, ⟨_, rfl⟩, hW, hsame.mono (by decide) (by decide)⟩
 · exact retI X3 hx Bd.returns (B_ dk57) hr
 · show QrmPx2N Z x q ar k z r0 r1 v0 v1 u h0 n0 (some (.int (-1))) T3.heap _
   rw [Eh3]
   exact ⟨rfl, rfl, rfl⟩
theorem dk73 : decode J5 34 = .ok (.iload 4, 2) := by decide +kernel
theorem dk74 : decode J5 36 = .ok (.istore_n 3, 1) := by decide +kernel
theorem ef_rmIx1_0 (mm_ : MethodId) (ar : Addr) (q : Addr) : entryFrame mm_ #[(.ref ar), (.int 1), (.ref q)] 5 = (mkF mm_ 0 #[vr ar, vi 1, vr q, un, un] []) := by first | (simp [entryFrame, mkF, argsToLocals, Value.category]; done) | rfl
def QrmIx1_0 (Z : State) (ar : Addr) (q : Addr) (k : ClassId) (z : Int32) (r0 : Addr) (v0 : Int32) (u : Int32) (h0 : Heap) (n0 : Nat) (vv_ : Option Value) (hh_ : Heap) (LL_ : List Loc) : Prop := (vv_ = some (.int 0)) ∧ (LL_ = []) ∧ (hh_ = h0)
theorem rmIx1_0 (l : Launch) (Z : State) (a0 : Array Value) (hw : own_Hw a0 Z) (ws : List Jvm.Cond) (ar : Addr) (q : Addr) (k : ClassId) (z : Int32) (r0 : Addr) (v0 : Int32) (u : Int32) (h0 : Heap) (n0 : Nat) (O0 : Old Z n0 h0) (pr0 : Arv Z h0 ar k (.object sc2) z [(.ref r0)] .null) (hz0 : (0 : Int32) < z) (pr2 : Exa Z h0 r0 sc0) (pr3 : Fld Z h0 r0 sc0 "value" "I" (.int v0)) (pr4 : Exa Z h0 q sc0) (pr5 : Fld Z h0 q sc0 "value" "I" (.int u)) (hy : v0 = u) :
 own_MF l Z ym1 J5 5 (some .int) ws (rm_ 2 0 0 26) #[(.ref ar), (.int 1), (.ref q)] h0 (QrmIx1_0 Z ar q k z r0 v0 u h0 n0) := by
 refine own_met (plainFor_of_name pn_com_example_compact_abox_compactabox_ArraySet) (fun m_ => ef_rmIx1_0 m_ ar q) fun pp_ ee_ ss_ mm_ bb_ me_ cc_ s₁ Bd hx hby hml hown hZ hh X0 e0 => ?_
 have B_ {q_ : Nat} {r_ : _} (h_ : decode _ q_ = r_) := hb hby h_
 have hown : ss_.vm.findClass sc1 = some mm_.cls := hown
 have N0 := Fr.nil n0
 have Z0 : n0 ≤ h0.size := by have q := O0.2.1; rw [O0.1] at q; exact q
 have K0 : Keep h0 h0 [] := Keep.refl _ _
 show Go_ s₁ (mkF mm_ 0 #[vr ar, vi 1, vr q, un, un] [])
 refine sp_ (fun t_ k_ => XS.iconst X0.here hx rfl (B_ dk42) (XS.istoreN X0.here hx rfl (B_ dk43) rfl (l' := #[vr ar, vi 1, vr q, vi (-1), un]) rfl (XS.iconst X0.here hx rfl (B_ dk44) (XS.istore X0.here hx rfl (B_ dk45) rfl (l' := #[vr ar, vi 1, vr q, vi (-1), vi 0]) rfl (XS.iload X0.here hx rfl (B_ dk46) rfl  (XS.iloadN X0.here hx rfl (B_ dk47) rfl  k_)))))) ?_
 show Go_ s₁ (mkF mm_ 8 #[vr ar, vi 1, vr q, vi (-1), vi 0] [(.int 1), (.int 0)])
 refine sp_ (fun t_ k_ => XS.icmpNo X0.here hx rfl (B_ dk48) rfl (tlt (by decide : (0 : Int32) < (1 : Int32))).2.1 k_) ?_
 show Go_ s₁ (mkF mm_ 11 #[vr ar, vi 1, vr q, vi (-1), vi 0] [])
 refine sp_ (fun t_ k_ => XS.iloadN X0.here hx rfl (B_ dk58) rfl  k_) ?_
 show Go_ s₁ (mkF mm_ 12 #[vr ar, vi 1, vr q, vi (-1), vi 0] [(.int (-1))])
 refine sp_ (fun t_ k_ => XS.ifNo X0.here hx rfl (B_ dk59) rfl ((if0 _ _).trans (tlt (by decide : (-1 : Int32) < (0 : Int32))).2.1) k_) ?_
 show Go_ s₁ (mkF mm_ 15 #[vr ar, vi 1, vr q, vi (-1), vi 0] [])
 refine sp_ (fun t_ k_ => XS.aloadN X0.here hx rfl (B_ dk60) rfl rfl (XS.iload X0.here hx rfl (B_ dk61) rfl  k_)) ?_
 obtain ⟨cl1, Ar1, q1, S1, M1, H1, G1⟩ := id pr0
 have hin1 : ¬ ((0 : Int32) < 0 ∨ cl1.slots.size ≤ ((0 : Int32)).toNatClampNeg) := inb_of S1 ⟨by decide, hz0⟩
 have hat1 : cl1.slots[((0 : Int32)).toNatClampNeg]? = some (.ref r0) := Has.at H1 hin1 rfl
 refine sp_ (fun t_ k_ => X0.aaload hx (j := (0 : Int32)) (v := (.ref r0)) (by rw [e0]; exact Ar1.1) (State.isArrayOf_alike hZ.alike Ar1.2.1) rfl Ar1.2.2 hin1 hat1 (g := (mkF mm_ 18 #[vr ar, vi 1, vr q, vi (-1), vi 0] [(.int 0), (.ref ar)])) rfl rfl (B_ dk62) t_ k_) ?_
 show Go_ s₁ (mkF mm_ 19 #[vr ar, vi 1, vr q, vi (-1), vi 0] [(.ref r0)])
 refine sp_ (fun t_ k_ => XS.aloadN X0.here hx rfl (B_ dk63) rfl rfl k_) ?_
 show Go_ s₁ (mkF mm_ 20 #[vr ar, vi 1, vr q, vi (-1), vi 0] [(.ref q), (.ref r0)])
 by_cases hr2 : r0 = q
 · skip
   refine sp_ (fun t_ k_ => Jvm.RoadKit.acmp (g := (mkF mm_ 20 #[vr ar, vi 1, vr q, vi (-1), vi 0] [(.ref q), (.ref r0)])) X0 hx rfl rfl rfl (pc0 := 20) (pc' := 34) (same := true) rfl (B_ dk64) rfl (decide_eq_true (congrArg Value.ref hr2)) (by decide) (by decide) (XS.iload X0.here hx rfl (B_ dk73) rfl  (XS.istoreN X0.here hx rfl (B_ dk74) rfl (l' := #[vr ar, vi 1, vr q, vi 0, vi 0]) rfl (XS.iinc X0.here hx rfl (B_ dk71) rfl (l' := #[vr ar, vi 1, vr q, vi 0, vi 1]) rfl (XS.goto X0.here hx rfl (pc0 := 40) (pc' := 5) rfl (B_ dk72) (by decide) (by decide) (XS.iload X0.here hx rfl (B_ dk46) rfl  (XS.iloadN X0.here hx rfl (B_ dk47) rfl  k_))))))) ?_
   show Go_ s₁ (mkF mm_ 8 #[vr ar, vi 1, vr q, vi 0, vi 1] [(.int 1), (.int 1)])
   refine sp_ (fun t_ k_ => XS.icmpYes X0.here hx rfl (pc0 := 8) (pc' := 43) rfl (B_ dk48) rfl (flt (by decide : ¬ ((1 : Int32) < (1 : Int32)))).2.1 (by decide) (by decide) k_) ?_
   show Go_ s₁ (mkF mm_ 43 #[vr ar, vi 1, vr q, vi 0, vi 1] [])
   refine sp_ (fun t_ k_ => XS.iloadN X0.here hx rfl (B_ dk49) rfl  k_) ?_
   show Go_ s₁ (mkF mm_ 44 #[vr ar, vi 1, vr q, vi 0, vi 1] [(.int 0)])
   obtain ⟨fs, hr, hrun, hended, hW, hsame⟩ := X0.leave (v := some (.int 0)) (rN Bd.returns)
   refine ⟨_, _, ?_, hrun, hended, _, _, rfl, ?_, ⟨_, rfl⟩, hW, hsame.mono (by decide) (by decide)⟩
   · exact retI X0 hx Bd.returns (B_ dk50) hr
   · show QrmIx1_0 Z ar q k z r0 v0 u h0 n0 (some (.int 0)) s₁.heap _
     rw [e0]
     exact ⟨rfl, rfl, rfl⟩
 · skip
   refine sp_ (fun t_ k_ => Jvm.RoadKit.acmp (g := (mkF mm_ 20 #[vr ar, vi 1, vr q, vi (-1), vi 0] [(.ref q), (.ref r0)])) X0 hx rfl rfl rfl (pc0 := 20) (pc' := 23) (same := false) rfl (B_ dk64) rfl (decide_eq_false fun q => hr2 (Value.ref.inj q)) (by decide) (by decide) (XS.aloadN X0.here hx rfl (B_ dk65) rfl rfl (XS.iload X0.here hx rfl (B_ dk66) rfl  k_))) ?_
   obtain ⟨cl3, Ar3, q3, S3, M3, H3, G3⟩ := id pr0
   have hin3 : ¬ ((0 : Int32) < 0 ∨ cl3.slots.size ≤ ((0 : Int32)).toNatClampNeg) := inb_of S3 ⟨by decide, hz0⟩
   have hat3 : cl3.slots[((0 : Int32)).toNatClampNeg]? = some (.ref r0) := Has.at H3 hin3 rfl
   refine sp_ (fun t_ k_ => X0.aaload hx (j := (0 : Int32)) (v := (.ref r0)) (by rw [e0]; exact Ar3.1) (State.isArrayOf_alike hZ.alike Ar3.2.1) rfl Ar3.2.2 hin3 hat3 (g := (mkF mm_ 26 #[vr ar, vi 1, vr q, vi (-1), vi 0] [(.int 0), (.ref ar)])) rfl rfl (B_ dk67) t_ k_) ?_
   show Go_ s₁ (mkF mm_ 27 #[vr ar, vi 1, vr q, vi (-1), vi 0] [(.ref r0)])
   refine sp_ (fun t_ k_ => XS.aloadN X0.here hx rfl (B_ dk68) rfl rfl k_) ?_
   obtain ⟨_, T4, Lc4, X4, hQ4, st4⟩ := own_cV X0 hx hZ hown (w_ hw 52 rfl) (w_ hw 53 rfl) (own_nf (args := #[]) (mvT hZ (w_ hw 77 rfl)) rfl) (w_ hw 55 rfl) (w_ hw 56 rfl) (by decide) (backOf (W := 0) (rmEqT l Z a0 hw [] r0 q v0 u h0 n0 O0 pr2 pr4 pr3 pr5 hy) hZ (w_ hw 57 rfl) (w_ hw 30 rfl) (by decide) (by decide)) pr2 (g := (mkF mm_ 28 #[vr ar, vi 1, vr q, vi (-1), vi 0] [(.ref q), (.ref r0)])) rfl hml.symm (argsL := [(.ref q)]) (rest := []) (lenOf pd_4 rfl) rfl (Nat.le_of_eq rfl) (B_ dk69) rfl e0 (by decide) (by decide)
   obtain ⟨rfl, rfl, Eh4⟩ := hQ4
   have N4 := Fr.app N0 (Fr.nil n0)
   refine jp_ st4 ?_
   show Go_ T4 (mkF mm_ 31 #[vr ar, vi 1, vr q, vi (-1), vi 0] [(.int 1)])
   refine sp_ (fun t_ k_ => XS.ifNo X4.here hx rfl (B_ dk70) rfl ((if0 _ _).trans (feq (by decide : ¬ ((1 : Int32) = (0 : Int32)))).1) k_) ?_
   show Go_ T4 (mkF mm_ 34 #[vr ar, vi 1, vr q, vi (-1), vi 0] [])
   refine sp_ (fun t_ k_ => XS.iload X4.here hx rfl (B_ dk73) rfl  (XS.istoreN X4.here hx rfl (B_ dk74) rfl (l' := #[vr ar, vi 1, vr q, vi 0, vi 0]) rfl (XS.iinc X4.here hx rfl (B_ dk71) rfl (l' := #[vr ar, vi 1, vr q, vi 0, vi 1]) rfl (XS.goto X4.here hx rfl (pc0 := 40) (pc' := 5) rfl (B_ dk72) (by decide) (by decide) (XS.iload X4.here hx rfl (B_ dk46) rfl  (XS.iloadN X4.here hx rfl (B_ dk47) rfl  k_)))))) ?_
   show Go_ T4 (mkF mm_ 8 #[vr ar, vi 1, vr q, vi 0, vi 1] [(.int 1), (.int 1)])
   refine sp_ (fun t_ k_ => XS.icmpYes X4.here hx rfl (pc0 := 8) (pc' := 43) rfl (B_ dk48) rfl (flt (by decide : ¬ ((1 : Int32) < (1 : Int32)))).2.1 (by decide) (by decide) k_) ?_
   show Go_ T4 (mkF mm_ 43 #[vr ar, vi 1, vr q, vi 0, vi 1] [])
   refine sp_ (fun t_ k_ => XS.iloadN X4.here hx rfl (B_ dk49) rfl  k_) ?_
   show Go_ T4 (mkF mm_ 44 #[vr ar, vi 1, vr q, vi 0, vi 1] [(.int 0)])
   obtain ⟨fs, hr, hrun, hended, hW, hsame⟩ := X4.leave (v := some (.int 0)) (rN Bd.returns)
   refine ⟨_, _, ?_, hrun, hended, _, _, rfl, ?_, ⟨_, rfl⟩, hW, hsame.mono (by decide) (by decide)⟩
   · exact retI X4 hx Bd.returns (B_ dk50) hr
   · show QrmIx1_0 Z ar q k z r0 v0 u h0 n0 (some (.int 0)) T4.heap _
     rw [Eh4]
     exact ⟨rfl, rfl, rfl⟩
theorem ef_rmPx1_0 (mm_ : MethodId) (x : Addr) (q : Addr) : entryFrame mm_ #[(.ref x), (.ref q)] 2 = (mkF mm_ 0 #[vr x, vr q] []) := by first | (simp [entryFrame, mkF, argsToLocals, Value.category]; done) | rfl
def QrmPx1_0 (Z : State) (x : Addr) (q : Addr) (ar : Addr) (k : ClassId) (z : Int32) (r0 : Addr) (v0 : Int32) (u : Int32) (h0 : Heap) (n0 : Nat) (vv_ : Option Value) (hh_ : Heap) (LL_ : List Loc) : Prop := (vv_ = some (.int 0)) ∧ (LL_ = []) ∧ (hh_ = h0)
theorem rmPx1_0 (l : Launch) (Z : State) (a0 : Array Value) (hw : own_Hw a0 Z) (ws : List Jvm.Cond) (x : Addr) (q : Addr) (ar : Addr) (k : ClassId) (z : Int32) (r0 : Addr) (v0 : Int32) (u : Int32) (h0 : Heap) (n0 : Nat) (O0 : Old Z n0 h0) (pr0 : Fld Z h0 x sc1 "members" sc3 (.ref ar)) (pr1 : Fld Z h0 x sc1 "size" "I" (.int 1)) (pr2 : Arv Z h0 ar k (.object sc2) z [(.ref r0)] .null) (hz0 : (0 : Int32) < z) (pr4 : Exa Z h0 r0 sc0) (pr5 : Fld Z h0 r0 sc0 "value" "I" (.int v0)) (pr6 : Exa Z h0 q sc0) (pr7 : Fld Z h0 q sc0 "value" "I" (.int u)) (hy : v0 = u) :
 own_MF l Z ym2 J6 2 (some .int) ws (rm_ 3 0 0 42) #[(.ref x), (.ref q)] h0 (QrmPx1_0 Z x q ar k z r0 v0 u h0 n0) := by
 refine own_met (plainFor_of_name pn_com_example_compact_abox_compactabox_ArraySet) (fun m_ => ef_rmPx1_0 m_ x q) fun pp_ ee_ ss_ mm_ bb_ me_ cc_ s₁ Bd hx hby hml hown hZ hh X0 e0 => ?_
 have B_ {q_ : Nat} {r_ : _} (h_ : decode _ q_ = r_) := hb hby h_
 have hown : ss_.vm.findClass sc1 = some mm_.cls := hown
 have N0 := Fr.nil n0
 have Z0 : n0 ≤ h0.size := by have q := O0.2.1; rw [O0.1] at q; exact q
 have K0 : Keep h0 h0 [] := Keep.refl _ _
 show Go_ s₁ (mkF mm_ 0 #[vr x, vr q] [])
 refine sp_ (fun t_ k_ => XS.aloadN X0.here hx rfl (B_ dk51) rfl rfl k_) ?_
 obtain ⟨T1, X1, e1, st1⟩ := getF X0 hx hZ hown (host := "") (Or.inl (w_ hw 26 rfl)) Via.refl e0 pr0 (g := (mkF mm_ 1 #[vr x, vr q] [(.ref x)])) rfl rfl (B_ dk52)
 refine sp_ st1 ?_
 show Go_ T1 (mkF mm_ 4 #[vr x, vr q] [(.ref ar)])
 refine sp_ (fun t_ k_ => XS.aloadN X1.here hx rfl (B_ dk53) rfl rfl k_) ?_
 obtain ⟨T2, X2, e2, st2⟩ := getF X1 hx hZ hown (host := "") (Or.inl (w_ hw 46 rfl)) Via.refl e1 pr1 (g := (mkF mm_ 5 #[vr x, vr q] [(.ref x), (.ref ar)])) rfl rfl (B_ dk54)
 refine sp_ st2 ?_
 show Go_ T2 (mkF mm_ 8 #[vr x, vr q] [(.int 1), (.ref ar)])
 refine sp_ (fun t_ k_ => XS.aloadN X2.here hx rfl (B_ dk55) rfl rfl k_) ?_
 obtain ⟨_, T3, Lc3, X3, hQ3, st3⟩ := own_cS X2 hx hZ hown (w_ hw 48 rfl) (w_ hw 49 rfl) (w_ hw 2 rfl) (w_ hw 50 rfl) (by decide) (backOf (W := 0) (rmIx1_0 l Z a0 hw [] ar q k z r0 v0 u h0 n0 O0 pr2 hz0 pr4 pr5 pr6 pr7 hy) hZ (w_ hw 50 rfl) (w_ hw 2 rfl) (by decide) (by decide)) (g := (mkF mm_ 9 #[vr x, vr q] [(.ref q), (.int 1), (.ref ar)])) rfl hml.symm (argsL := [(.ref ar), (.int 1), (.ref q)]) (rest := []) (lenOf pd_3 rfl) rfl (Nat.le_of_eq rfl) (B_ dk56) rfl e2 (by decide) (by decide)
 obtain ⟨rfl, rfl, Eh3⟩ := hQ3
 have N3 := Fr.app N0 (Fr.nil n0)
 refine jp_ st3 ?_
 show Go_ T3 (mkF mm_ 12 #[vr x, vr q] [(.int 0)])
 obtain ⟨fs, hr, hrun, hended, hW, hsame⟩ := X3.leave (v := some (.int 0)) (rN Bd.returns)
 refine ⟨_, _, ?_, hrun, hended, _, _, rfl, ?_, ⟨_, rfl⟩, hW, hsame.mono (by decide) (by decide)⟩
 · exact retI X3 hx Bd.returns (B_ dk57) hr
 · show QrmPx1_0 Z x q ar k z r0 v0 u h0 n0 (some (.int 0)) T3.heap _
   rw [Eh3]
   exact ⟨rfl, rfl, rfl⟩
theorem ef_rmIx2_0 (mm_ : MethodId) (ar : Addr) (q : Addr) : entryFrame mm_ #[(.ref ar), (.int 2), (.ref q)] 5 = (mkF mm_ 0 #[vr ar, vi 2, vr q, un, un] []) := by first | (simp [entryFrame, mkF, argsToLocals, Value.category]; done) | rfl
def QrmIx2_0 (Z : State) (ar : Addr) (q : Addr) (k : ClassId) (z : Int32) (r0 : Addr) (r1 : Addr) (v0 : Int32) (v1 : Int32) (u : Int32) (h0 : Heap) (n0 : Nat) (vv_ : Option Value) (hh_ : Heap) (LL_ : List Loc) : Prop := (vv_ = some (.int 0)) ∧ (LL_ = []) ∧ (hh_ = h0)
theorem rmIx2_0 (l : Launch) (Z : State) (a0 : Array Value) (hw : own_Hw a0 Z) (ws : List Jvm.Cond) (ar : Addr) (q : Addr) (k : ClassId) (z : Int32) (r0 : Addr) (r1 : Addr) (v0 : Int32) (v1 : Int32) (u : Int32) (h0 : Heap) (n0 : Nat) (O0 : Old Z n0 h0) (pr0 : Arv Z h0 ar k (.object sc2) z [(.ref r0), (.ref r1)] .null) (hz0 : (0 : Int32) < z) (hz1 : (1 : Int32) < z) (pr3 : Exa Z h0 r0 sc0) (pr4 : Fld Z h0 r0 sc0 "value" "I" (.int v0)) (pr5 : Exa Z h0 r1 sc0) (pr6 : Fld Z h0 r1 sc0 "value" "I" (.int v1)) (pr7 : Exa Z h0 q sc0) (pr8 : Fld Z h0 q sc0 "value" "I" (.int u)) (hy : v0 = u) :
 own_MF l Z ym1 J5 5 (some .int) ws (rm_ 2 0 0 26) #[(.ref ar), (.int 2), (.ref q)] h0 (QrmIx2_0 Z ar q k z r0 r1 v0 v1 u h0 n0) := by
 refine own_met (plainFor_of_name pn_com_example_compact_abox_compactabox_ArraySet) (fun m_ => ef_rmIx2_0 m_ ar q) fun pp_ ee_ ss_ mm_ bb_ me_ cc_ s₁ Bd hx hby hml hown hZ hh X0 e0 => ?_
 have B_ {q_ : Nat} {r_ : _} (h_ : decode _ q_ = r_) := hb hby h_
 have hown : ss_.vm.findClass sc1 = some mm_.cls := hown
 have N0 := Fr.nil n0
 have Z0 : n0 ≤ h0.size := by have q := O0.2.1; rw [O0.1] at q; exact q
 have K0 : Keep h0 h0 [] := Keep.refl _ _
 show Go_ s₁ (mkF mm_ 0 #[vr ar, vi 2, vr q, un, un] [])
 refine sp_ (fun t_ k_ => XS.iconst X0.here hx rfl (B_ dk42) (XS.istoreN X0.here hx rfl (B_ dk43) rfl (l' := #[vr ar, vi 2, vr q, vi (-1), un]) rfl (XS.iconst X0.here hx rfl (B_ dk44) (XS.istore X0.here hx rfl (B_ dk45) rfl (l' := #[vr ar, vi 2, vr q, vi (-1), vi 0]) rfl (XS.iload X0.here hx rfl (B_ dk46) rfl  (XS.iloadN X0.here hx rfl (B_ dk47) rfl  k_)))))) ?_
 show Go_ s₁ (mkF mm_ 8 #[vr ar, vi 2, vr q, vi (-1), vi 0] [(.int 2), (.int 0)])
 refine sp_ (fun t_ k_ => XS.icmpNo X0.here hx rfl (B_ dk48) rfl (tlt (by decide : (0 : Int32) < (2 : Int32))).2.1 k_) ?_
 show Go_ s₁ (mkF mm_ 11 #[vr ar, vi 2, vr q, vi (-1), vi 0] [])
 refine sp_ (fun t_ k_ => XS.iloadN X0.here hx rfl (B_ dk58) rfl  k_) ?_
 show Go_ s₁ (mkF mm_ 12 #[vr ar, vi 2, vr q, vi (-1), vi 0] [(.int (-1))])
 refine sp_ (fun t_ k_ => XS.ifNo X0.here hx rfl (B_ dk59) rfl ((if0 _ _).trans (tlt (by decide : (-1 : Int32) < (0 : Int32))).2.1) k_) ?_
 show Go_ s₁ (mkF mm_ 15 #[vr ar, vi 2, vr q, vi (-1), vi 0] [])
 refine sp_ (fun t_ k_ => XS.aloadN X0.here hx rfl (B_ dk60) rfl rfl (XS.iload X0.here hx rfl (B_ dk61) rfl  k_)) ?_
 obtain ⟨cl1, Ar1, q1, S1, M1, H1, G1⟩ := id pr0
 have hin1 : ¬ ((0 : Int32) < 0 ∨ cl1.slots.size ≤ ((0 : Int32)).toNatClampNeg) := inb_of S1 ⟨by decide, hz0⟩
 have hat1 : cl1.slots[((0 : Int32)).toNatClampNeg]? = some (.ref r0) := Has.at H1 hin1 rfl
 refine sp_ (fun t_ k_ => X0.aaload hx (j := (0 : Int32)) (v := (.ref r0)) (by rw [e0]; exact Ar1.1) (State.isArrayOf_alike hZ.alike Ar1.2.1) rfl Ar1.2.2 hin1 hat1 (g := (mkF mm_ 18 #[vr ar, vi 2, vr q, vi (-1), vi 0] [(.int 0), (.ref ar)])) rfl rfl (B_ dk62) t_ k_) ?_
 show Go_ s₁ (mkF mm_ 19 #[vr ar, vi 2, vr q, vi (-1), vi 0] [(.ref r0)])
 refine sp_ (fun t_ k_ => XS.aloadN X0.here hx rfl (B_ dk63) rfl rfl k_) ?_
 show Go_ s₁ (mkF mm_ 20 #[vr ar, vi 2, vr q, vi (-1), vi 0] [(.ref q), (.ref r0)])
 by_cases hr2 : r0 = q
 · skip
   refine sp_ (fun t_ k_ => Jvm.RoadKit.acmp (g := (mkF mm_ 20 #[vr ar, vi 2, vr q, vi (-1), vi 0] [(.ref q), (.ref r0)])) X0 hx rfl rfl rfl (pc0 := 20) (pc' := 34) (same := true) rfl (B_ dk64) rfl (decide_eq_true (congrArg Value.ref hr2)) (by decide) (by decide) (XS.iload X0.here hx rfl (B_ dk73) rfl  (XS.istoreN X0.here hx rfl (B_ dk74) rfl (l' := #[vr ar, vi 2, vr q, vi 0, vi 0]) rfl (XS.iinc X0.here hx rfl (B_ dk71) rfl (l' := #[vr ar, vi 2, vr q, vi 0, vi 1]) rfl (XS.goto X0.here hx rfl (pc0 := 40) (pc' := 5) rfl (B_ dk72) (by decide) (by decide) (XS.iload X0.here hx rfl (B_ dk46) rfl  (XS.iloadN X0.here hx rfl (B_ dk47) rfl  k_))))))) ?_
   show Go_ s₁ (mkF mm_ 8 #[vr ar, vi 2, vr q, vi 0, vi 1] [(.int 2), (.int 1)])
   refine sp_ (fun t_ k_ => XS.icmpNo X0.here hx rfl (B_ dk48) rfl (tlt (by decide : (1 : Int32) < (2 : Int32))).2.1 k_) ?_
   show Go_ s₁ (mkF mm_ 11 #[vr ar, vi 2, vr q, vi 0, vi 1] [])
   refine sp_ (fun t_ k_ => XS.iloadN X0.here hx rfl (B_ dk58) rfl  k_) ?_
   show Go_ s₁ (mkF mm_ 12 #[vr ar, vi 2, vr q, vi 0, vi 1] [(.int 0)])
   refine sp_ (fun t_ k_ => XS.ifYes X0.here hx rfl (pc0 := 12) (pc' := 43) rfl (B_ dk59) rfl ((if0 _ _).trans (flt (by decide : ¬ ((0 : Int32) < (0 : Int32)))).2.1) (by decide) (by decide) k_) ?_
   show Go_ s₁ (mkF mm_ 43 #[vr ar, vi 2, vr q, vi 0, vi 1] [])
   refine sp_ (fun t_ k_ => XS.iloadN X0.here hx rfl (B_ dk49) rfl  k_) ?_
   show Go_ s₁ (mkF mm_ 44 #[vr ar, vi 2, vr q, vi 0, vi 1] [(.int 0)])
   obtain ⟨fs, hr, hrun, hended, hW, hsame⟩ := X0.leave (v := some (.int 0)) (rN Bd.returns)
   refine ⟨_, _, ?_, hrun, hended, _, _, rfl, ?_, ⟨_, rfl⟩, hW, hsame.mono (by decide) (by decide)⟩
   · exact retI X0 hx Bd.returns (B_ dk50) hr
   · show QrmIx2_0 Z ar q k z r0 r1 v0 v1 u h0 n0 (some (.int 0)) s₁.heap _
     rw [e0]
     exact ⟨rfl, rfl, rfl⟩
 · skip
   refine sp_ (fun t_ k_ => Jvm.RoadKit.acmp (g := (mkF mm_ 20 #[vr ar, vi 2, vr q, vi (-1), vi 0] [(.ref q), (.ref r0)])) X0 hx rfl rfl rfl (pc0 := 20) (pc' := 23) (same := false) rfl (B_ dk64) rfl (decide_eq_false fun q => hr2 (Value.ref.inj q)) (by decide) (by decide) (XS.aloadN X0.here hx rfl (B_ dk65) rfl rfl (XS.iload X0.here hx rfl (B_ dk66) rfl  k_))) ?_
   obtain ⟨cl3, Ar3, q3, S3, M3, H3, G3⟩ := id pr0
   have hin3 : ¬ ((0 : Int32) < 0 ∨ cl3.slots.size ≤ ((0 : Int32)).toNatClampNeg) := inb_of S3 ⟨by decide, hz0⟩
   have hat3 : cl3.slots[((0 : Int32)).toNatClampNeg]? = some (.ref r0) := Has.at H3 hin3 rfl
   refine sp_ (fun t_ k_ => X0.aaload hx (j := (0 : Int32)) (v := (.ref r0)) (by rw [e0]; exact Ar3.1) (State.isArrayOf_alike hZ.alike Ar3.2.1) rfl Ar3.2.2 hin3 hat3 (g := (mkF mm_ 26 #[vr ar, vi 2, vr q, vi (-1), vi 0] [(.int 0), (.ref ar)])) rfl rfl (B_ dk67) t_ k_) ?_
   show Go_ s₁ (mkF mm_ 27 #[vr ar, vi 2, vr q, vi (-1), vi 0] [(.ref r0)])
   refine sp_ (fun t_ k_ => XS.aloadN X0.here hx rfl (B_ dk68) rfl rfl k_) ?_
   obtain ⟨_, T4, Lc4, X4, hQ4, st4⟩ := own_cV X0 hx hZ hown (w_ hw 52 rfl) (w_ hw 53 rfl) (own_nf (args := #[]) (mvT hZ (w_ hw 77 rfl)) rfl) (w_ hw 55 rfl) (w_ hw 56 rfl) (by decide) (backOf (W := 0) (rmEqT l Z a0 hw [] r0 q v0 u h0 n0 O0 pr3 pr7 pr4 pr8 hy) hZ (w_ hw 57 rfl) (w_ hw 30 rfl) (by decide) (by decide)) pr3 (g := (mkF mm_ 28 #[vr ar, vi 2, vr q, vi (-1), vi 0] [(.ref q), (.ref r0)])) rfl hml.symm (argsL := [(.ref q)]) (rest := []) (lenOf pd_4 rfl) rfl (Nat.le_of_eq rfl) (B_ dk69) rfl e0 (by decide) (by decide)
   obtain ⟨rfl, rfl, Eh4⟩ := hQ4
   have N4 := Fr.app N0 (Fr.nil n0)
   refine jp_ st4 ?_
   show Go_ T4 (mkF mm_ 31 #[vr ar, vi 2, vr q, vi (-1), vi 0] [(.int 1)])
   refine sp_ (fun t_ k_ => XS.ifNo X4.here hx rfl (B_ dk70) rfl ((if0 _ _).trans (feq (by decide : ¬ ((1 : Int32) = (0 : Int32)))).1) k_) ?_
   show Go_ T4 (mkF mm_ 34 #[vr ar, vi 2, vr q, vi (-1), vi 0] [])
   refine sp_ (fun t_ k_ => XS.iload X4.here hx rfl (B_ dk73) rfl  (XS.istoreN X4.here hx rfl (B_ dk74) rfl (l' := #[vr ar, vi 2, vr q, vi 0, vi 0]) rfl (XS.iinc X4.here hx rfl (B_ dk71) rfl (l' := #[vr ar, vi 2, vr q, vi 0, vi 1]) rfl (XS.goto X4.here hx rfl (pc0 := 40) (pc' := 5) rfl (B_ dk72) (by decide) (by decide) (XS.iload X4.here hx rfl (B_ dk46) rfl  (XS.iloadN X4.here hx rfl (B_ dk47) rfl  k_)))))) ?_
   show Go_ T4 (mkF mm_ 8 #[vr ar, vi 2, vr q, vi 0, vi 1] [(.int 2), (.int 1)])
   refine sp_ (fun t_ k_ => XS.icmpNo X4.here hx rfl (B_ dk48) rfl (tlt (by decide : (1 : Int32) < (2 : Int32))).2.1 k_) ?_
   show Go_ T4 (mkF mm_ 11 #[vr ar, vi 2, vr q, vi 0, vi 1] [])
   refine sp_ (fun t_ k_ => XS.iloadN X4.here hx rfl (B_ dk58) rfl  k_) ?_
   show Go_ T4 (mkF mm_ 12 #[vr ar, vi 2, vr q, vi 0, vi 1] [(.int 0)])
   refine sp_ (fun t_ k_ => XS.ifYes X4.here hx rfl (pc0 := 12) (pc' := 43) rfl (B_ dk59) rfl ((if0 _ _).trans (flt (by decide : ¬ ((0 : Int32) < (0 : Int32)))).2.1) (by decide) (by decide) k_) ?_
   show Go_ T4 (mkF mm_ 43 #[vr ar, vi 2, vr q, vi 0, vi 1] [])
   refine sp_ (fun t_ k_ => XS.iloadN X4.here hx rfl (B_ dk49) rfl  k_) ?_
   show Go_ T4 (mkF mm_ 44 #[vr ar, vi 2, vr q, vi 0, vi 1] [(.int 0)])
   obtain ⟨fs, hr, hrun, hended, hW, hsame⟩ := X4.leave (v := some (.int 0)) (rN Bd.returns)
   refine ⟨_, _, ?_, hrun, hended, _, _, rfl, ?_, ⟨_, rfl⟩, hW, hsame.mono (by decide) (by decide)⟩
   · exact retI X4 hx Bd.returns (B_ dk50) hr
   · show QrmIx2_0 Z ar q k z r0 r1 v0 v1 u h0 n0 (some (.int 0)) T4.heap _
     rw [Eh4]
     exact ⟨rfl, rfl, rfl⟩
theorem ef_rmPx2_0 (mm_ : MethodId) (x : Addr) (q : Addr) : entryFrame mm_ #[(.ref x), (.ref q)] 2 = (mkF mm_ 0 #[vr x, vr q] []) := by first | (simp [entryFrame, mkF, argsToLocals, Value.category]; done) | rfl
def QrmPx2_0 (Z : State) (x : Addr) (q : Addr) (ar : Addr) (k : ClassId) (z : Int32) (r0 : Addr) (r1 : Addr) (v0 : Int32) (v1 : Int32) (u : Int32) (h0 : Heap) (n0 : Nat) (vv_ : Option Value) (hh_ : Heap) (LL_ : List Loc) : Prop := (vv_ = some (.int 0)) ∧ (LL_ = []) ∧ (hh_ = h0)
theorem rmPx2_0 (l : Launch) (Z : State) (a0 : Array Value) (hw : own_Hw a0 Z) (ws : List Jvm.Cond) (x : Addr) (q : Addr) (ar : Addr) (k : ClassId) (z : Int32) (r0 : Addr) (r1 : Addr) (v0 : Int32) (v1 : Int32) (u : Int32) (h0 : Heap) (n0 : Nat) (O0 : Old Z n0 h0) (pr0 : Fld Z h0 x sc1 "members" sc3 (.ref ar)) (pr1 : Fld Z h0 x sc1 "size" "I" (.int 2)) (pr2 : Arv Z h0 ar k (.object sc2) z [(.ref r0), (.ref r1)] .null) (hz0 : (0 : Int32) < z) (hz1 : (1 : Int32) < z) (pr5 : Exa Z h0 r0 sc0) (pr6 : Fld Z h0 r0 sc0 "value" "I" (.int v0)) (pr7 : Exa Z h0 r1 sc0) (pr8 : Fld Z h0 r1 sc0 "value" "I" (.int v1)) (pr9 : Exa Z h0 q sc0) (pr10 : Fld Z h0 q sc0 "value" "I" (.int u)) (hy : v0 = u) :
 own_MF l Z ym2 J6 2 (some .int) ws (rm_ 3 0 0 42) #[(.ref x), (.ref q)] h0 (QrmPx2_0 Z x q ar k z r0 r1 v0 v1 u h0 n0) := by
 refine own_met (plainFor_of_name pn_com_example_compact_abox_compactabox_ArraySet) (fun m_ => ef_rmPx2_0 m_ x q) fun pp_ ee_ ss_ mm_ bb_ me_ cc_ s₁ Bd hx hby hml hown hZ hh X0 e0 => ?_
 have B_ {q_ : Nat} {r_ : _} (h_ : decode _ q_ = r_) := hb hby h_
 have hown : ss_.vm.findClass sc1 = some mm_.cls := hown
 have N0 := Fr.nil n0
 have Z0 : n0 ≤ h0.size := by have q := O0.2.1; rw [O0.1] at q; exact q
 have K0 : Keep h0 h0 [] := Keep.refl _ _
 show Go_ s₁ (mkF mm_ 0 #[vr x, vr q] [])
 refine sp_ (fun t_ k_ => XS.aloadN X0.here hx rfl (B_ dk51) rfl rfl k_) ?_
 obtain ⟨T1, X1, e1, st1⟩ := getF X0 hx hZ hown (host := "") (Or.inl (w_ hw 26 rfl)) Via.refl e0 pr0 (g := (mkF mm_ 1 #[vr x, vr q] [(.ref x)])) rfl rfl (B_ dk52)
 refine sp_ st1 ?_
 show Go_ T1 (mkF mm_ 4 #[vr x, vr q] [(.ref ar)])
 refine sp_ (fun t_ k_ => XS.aloadN X1.here hx rfl (B_ dk53) rfl rfl k_) ?_
 obtain ⟨T2, X2, e2, st2⟩ := getF X1 hx hZ hown (host := "") (Or.inl (w_ hw 46 rfl)) Via.refl e1 pr1 (g := (mkF mm_ 5 #[vr x, vr q] [(.ref x), (.ref ar)])) rfl rfl (B_ dk54)
 refine sp_ st2 ?_
 show Go_ T2 (mkF mm_ 8 #[vr x, vr q] [(.int 2), (.ref ar)])
 refine sp_ (fun t_ k_ => XS.aloadN X2.here hx rfl (B_ dk55) rfl rfl k_) ?_
 obtain ⟨_, T3, Lc3, X3, hQ3, st3⟩ := own_cS X2 hx hZ hown (w_ hw 48 rfl) (w_ hw 49 rfl) (w_ hw 2 rfl) (w_ hw 50 rfl) (by decide) (backOf (W := 0) (rmIx2_0 l Z a0 hw [] ar q k z r0 r1 v0 v1 u h0 n0 O0 pr2 hz0 hz1 pr5 pr6 pr7 pr8 pr9 pr10 hy) hZ (w_ hw 50 rfl) (w_ hw 2 rfl) (by decide) (by decide)) (g := (mkF mm_ 9 #[vr x, vr q] [(.ref q), (.int 2), (.ref ar)])) rfl hml.symm (argsL := [(.ref ar), (.int 2), (.ref q)]) (rest := []) (lenOf pd_3 rfl) rfl (Nat.le_of_eq rfl) (B_ dk56) rfl e2 (by decide) (by decide)
 obtain ⟨rfl, rfl, Eh3⟩ := hQ3
 have N3 := Fr.app N0 (Fr.nil n0)
 refine jp_ st3 ?_
 show Go_ T3 (mkF mm_ 12 #[vr x, vr q] [(.int 0)])
 obtain ⟨fs, hr, hrun, hended, hW, hsame⟩ := X3.leave (v := some (.int 0)) (rN Bd.returns)
 refine ⟨_, _, ?_, hrun, hended, _, _, rfl, ?_, ⟨_, rfl⟩, hW, hsame.mono (by decide) (by decide)⟩
 · exact retI X3 hx Bd.returns (B_ dk57) hr
 · show QrmPx2_0 Z x q ar k z r0 r1 v0 v1 u h0 n0 (some (.int 0)) T3.heap _
   rw [Eh3]
   exact ⟨rfl, rfl, rfl⟩
theorem ef_rmIx2_1 (mm_ : MethodId) (ar : Addr) (q : Addr) : entryFrame mm_ #[(.ref ar), (.int 2), (.ref q)] 5 = (mkF mm_ 0 #[vr ar, vi 2, vr q, un, un] []) := by first | (simp [entryFrame, mkF, argsToLocals, Value.category]; done) | rfl
def QrmIx2_1 (Z : State) (ar : Addr) (q : Addr) (k : ClassId) (z : Int32) (r0 : Addr) (r1 : Addr) (v0 : Int32) (v1 : Int32) (u : Int32) (h0 : Heap) (n0 : Nat) (vv_ : Option Value) (hh_ : Heap) (LL_ : List Loc) : Prop := (vv_ = some (.int 1)) ∧ (LL_ = []) ∧ (hh_ = h0)
theorem rmIx2_1 (l : Launch) (Z : State) (a0 : Array Value) (hw : own_Hw a0 Z) (ws : List Jvm.Cond) (ar : Addr) (q : Addr) (k : ClassId) (z : Int32) (r0 : Addr) (r1 : Addr) (v0 : Int32) (v1 : Int32) (u : Int32) (h0 : Heap) (n0 : Nat) (O0 : Old Z n0 h0) (pr0 : Arv Z h0 ar k (.object sc2) z [(.ref r0), (.ref r1)] .null) (hz0 : (0 : Int32) < z) (hz1 : (1 : Int32) < z) (pr3 : Exa Z h0 r0 sc0) (pr4 : Fld Z h0 r0 sc0 "value" "I" (.int v0)) (pr5 : Exa Z h0 r1 sc0) (pr6 : Fld Z h0 r1 sc0 "value" "I" (.int v1)) (pr7 : Exa Z h0 q sc0) (pr8 : Fld Z h0 q sc0 "value" "I" (.int u)) (hn0 : ¬ (v0 = u)) (hy : v1 = u) :
 own_MF l Z ym1 J5 5 (some .int) ws (rm_ 2 0 0 26) #[(.ref ar), (.int 2), (.ref q)] h0 (QrmIx2_1 Z ar q k z r0 r1 v0 v1 u h0 n0) := by
 refine own_met (plainFor_of_name pn_com_example_compact_abox_compactabox_ArraySet) (fun m_ => ef_rmIx2_1 m_ ar q) fun pp_ ee_ ss_ mm_ bb_ me_ cc_ s₁ Bd hx hby hml hown hZ hh X0 e0 => ?_
 have B_ {q_ : Nat} {r_ : _} (h_ : decode _ q_ = r_) := hb hby h_
 have hown : ss_.vm.findClass sc1 = some mm_.cls := hown
 have N0 := Fr.nil n0
 have Z0 : n0 ≤ h0.size := by have q := O0.2.1; rw [O0.1] at q; exact q
 have K0 : Keep h0 h0 [] := Keep.refl _ _
 show Go_ s₁ (mkF mm_ 0 #[vr ar, vi 2, vr q, un, un] [])
 refine sp_ (fun t_ k_ => XS.iconst X0.here hx rfl (B_ dk42) (XS.istoreN X0.here hx rfl (B_ dk43) rfl (l' := #[vr ar, vi 2, vr q, vi (-1), un]) rfl (XS.iconst X0.here hx rfl (B_ dk44) (XS.istore X0.here hx rfl (B_ dk45) rfl (l' := #[vr ar, vi 2, vr q, vi (-1), vi 0]) rfl (XS.iload X0.here hx rfl (B_ dk46) rfl  (XS.iloadN X0.here hx rfl (B_ dk47) rfl  k_)))))) ?_
 show Go_ s₁ (mkF mm_ 8 #[vr ar, vi 2, vr q, vi (-1), vi 0] [(.int 2), (.int 0)])
 refine sp_ (fun t_ k_ => XS.icmpNo X0.here hx rfl (B_ dk48) rfl (tlt (by decide : (0 : Int32) < (2 : Int32))).2.1 k_) ?_
 show Go_ s₁ (mkF mm_ 11 #[vr ar, vi 2, vr q, vi (-1), vi 0] [])
 refine sp_ (fun t_ k_ => XS.iloadN X0.here hx rfl (B_ dk58) rfl  k_) ?_
 show Go_ s₁ (mkF mm_ 12 #[vr ar, vi 2, vr q, vi (-1), vi 0] [(.int (-1))])
 refine sp_ (fun t_ k_ => XS.ifNo X0.here hx rfl (B_ dk59) rfl ((if0 _ _).trans (tlt (by decide : (-1 : Int32) < (0 : Int32))).2.1) k_) ?_
 show Go_ s₁ (mkF mm_ 15 #[vr ar, vi 2, vr q, vi (-1), vi 0] [])
 refine sp_ (fun t_ k_ => XS.aloadN X0.here hx rfl (B_ dk60) rfl rfl (XS.iload X0.here hx rfl (B_ dk61) rfl  k_)) ?_
 obtain ⟨cl1, Ar1, q1, S1, M1, H1, G1⟩ := id pr0
 have hin1 : ¬ ((0 : Int32) < 0 ∨ cl1.slots.size ≤ ((0 : Int32)).toNatClampNeg) := inb_of S1 ⟨by decide, hz0⟩
 have hat1 : cl1.slots[((0 : Int32)).toNatClampNeg]? = some (.ref r0) := Has.at H1 hin1 rfl
 refine sp_ (fun t_ k_ => X0.aaload hx (j := (0 : Int32)) (v := (.ref r0)) (by rw [e0]; exact Ar1.1) (State.isArrayOf_alike hZ.alike Ar1.2.1) rfl Ar1.2.2 hin1 hat1 (g := (mkF mm_ 18 #[vr ar, vi 2, vr q, vi (-1), vi 0] [(.int 0), (.ref ar)])) rfl rfl (B_ dk62) t_ k_) ?_
 show Go_ s₁ (mkF mm_ 19 #[vr ar, vi 2, vr q, vi (-1), vi 0] [(.ref r0)])
 refine sp_ (fun t_ k_ => XS.aloadN X0.here hx rfl (B_ dk63) rfl rfl k_) ?_
 show Go_ s₁ (mkF mm_ 20 #[vr ar, vi 2, vr q, vi (-1), vi 0] [(.ref q), (.ref r0)])
 refine sp_ (fun t_ k_ => Jvm.RoadKit.acmp (g := (mkF mm_ 20 #[vr ar, vi 2, vr q, vi (-1), vi 0] [(.ref q), (.ref r0)])) X0 hx rfl rfl rfl (pc0 := 20) (pc' := 23) (same := false) rfl (B_ dk64) rfl (decide_eq_false fun q => (Fld.ne pr4 pr8 (fun q_ => hn0 (Value.int.inj q_))) (Value.ref.inj q)) (by decide) (by decide) (XS.aloadN X0.here hx rfl (B_ dk65) rfl rfl (XS.iload X0.here hx rfl (B_ dk66) rfl  k_))) ?_
 obtain ⟨cl2, Ar2, q2, S2, M2, H2, G2⟩ := id pr0
 have hin2 : ¬ ((0 : Int32) < 0 ∨ cl2.slots.size ≤ ((0 : Int32)).toNatClampNeg) := inb_of S2 ⟨by decide, hz0⟩
 have hat2 : cl2.slots[((0 : Int32)).toNatClampNeg]? = some (.ref r0) := Has.at H2 hin2 rfl
 refine sp_ (fun t_ k_ => X0.aaload hx (j := (0 : Int32)) (v := (.ref r0)) (by rw [e0]; exact Ar2.1) (State.isArrayOf_alike hZ.alike Ar2.2.1) rfl Ar2.2.2 hin2 hat2 (g := (mkF mm_ 26 #[vr ar, vi 2, vr q, vi (-1), vi 0] [(.int 0), (.ref ar)])) rfl rfl (B_ dk67) t_ k_) ?_
 show Go_ s₁ (mkF mm_ 27 #[vr ar, vi 2, vr q, vi (-1), vi 0] [(.ref r0)])
 refine sp_ (fun t_ k_ => XS.aloadN X0.here hx rfl (B_ dk68) rfl rfl k_) ?_
 obtain ⟨_, T3, Lc3, X3, hQ3, st3⟩ := own_cV X0 hx hZ hown (w_ hw 52 rfl) (w_ hw 53 rfl) (own_nf (args := #[]) (mvT hZ (w_ hw 77 rfl)) rfl) (w_ hw 55 rfl) (w_ hw 56 rfl) (by decide) (backOf (W := 0) (rmEqF l Z a0 hw [] r0 q v0 u h0 n0 O0 pr3 pr7 pr4 pr8 hn0) hZ (w_ hw 57 rfl) (w_ hw 30 rfl) (by decide) (by decide)) pr3 (g := (mkF mm_ 28 #[vr ar, vi 2, vr q, vi (-1), vi 0] [(.ref q), (.ref r0)])) rfl hml.symm (argsL := [(.ref q)]) (rest := []) (lenOf pd_4 rfl) rfl (Nat.le_of_eq rfl) (B_ dk69) rfl e0 (by decide) (by decide)
 obtain ⟨rfl, rfl, Eh3⟩ := hQ3
 have N3 := Fr.app N0 (Fr.nil n0)
 refine jp_ st3 ?_
 show Go_ T3 (mkF mm_ 31 #[vr ar, vi 2, vr q, vi (-1), vi 0] [(.int 0)])
 refine sp_ (fun t_ k_ => XS.ifYes X3.here hx rfl (pc0 := 31) (pc' := 37) rfl (B_ dk70) rfl ((if0 _ _).trans (teq (by decide : (0 : Int32) = (0 : Int32))).1) (by decide) (by decide) k_) ?_
 show Go_ T3 (mkF mm_ 37 #[vr ar, vi 2, vr q, vi (-1), vi 0] [])
 refine sp_ (fun t_ k_ => XS.iinc X3.here hx rfl (B_ dk71) rfl (l' := #[vr ar, vi 2, vr q, vi (-1), vi 1]) rfl (XS.goto X3.here hx rfl (pc0 := 40) (pc' := 5) rfl (B_ dk72) (by decide) (by decide) (XS.iload X3.here hx rfl (B_ dk46) rfl  (XS.iloadN X3.here hx rfl (B_ dk47) rfl  k_)))) ?_
 show Go_ T3 (mkF mm_ 8 #[vr ar, vi 2, vr q, vi (-1), vi 1] [(.int 2), (.int 1)])
 refine sp_ (fun t_ k_ => XS.icmpNo X3.here hx rfl (B_ dk48) rfl (tlt (by decide : (1 : Int32) < (2 : Int32))).2.1 k_) ?_
 show Go_ T3 (mkF mm_ 11 #[vr ar, vi 2, vr q, vi (-1), vi 1] [])
 refine sp_ (fun t_ k_ => XS.iloadN X3.here hx rfl (B_ dk58) rfl  k_) ?_
 show Go_ T3 (mkF mm_ 12 #[vr ar, vi 2, vr q, vi (-1), vi 1] [(.int (-1))])
 refine sp_ (fun t_ k_ => XS.ifNo X3.here hx rfl (B_ dk59) rfl ((if0 _ _).trans (tlt (by decide : (-1 : Int32) < (0 : Int32))).2.1) k_) ?_
 show Go_ T3 (mkF mm_ 15 #[vr ar, vi 2, vr q, vi (-1), vi 1] [])
 refine sp_ (fun t_ k_ => XS.aloadN X3.here hx rfl (B_ dk60) rfl rfl (XS.iload X3.here hx rfl (B_ dk61) rfl  k_)) ?_
 obtain ⟨cl4, Ar4, q4, S4, M4, H4, G4⟩ := id pr0
 have hin4 : ¬ ((1 : Int32) < 0 ∨ cl4.slots.size ≤ ((1 : Int32)).toNatClampNeg) := inb_of S4 ⟨by decide, hz1⟩
 have hat4 : cl4.slots[((1 : Int32)).toNatClampNeg]? = some (.ref r1) := Has.at H4 hin4 rfl
 refine sp_ (fun t_ k_ => X3.aaload hx (j := (1 : Int32)) (v := (.ref r1)) (by rw [Eh3]; exact Ar4.1) (State.isArrayOf_alike hZ.alike Ar4.2.1) rfl Ar4.2.2 hin4 hat4 (g := (mkF mm_ 18 #[vr ar, vi 2, vr q, vi (-1), vi 1] [(.int 1), (.ref ar)])) rfl rfl (B_ dk62) t_ k_) ?_
 show Go_ T3 (mkF mm_ 19 #[vr ar, vi 2, vr q, vi (-1), vi 1] [(.ref r1)])
 refine sp_ (fun t_ k_ => XS.aloadN X3.here hx rfl (B_ dk63) rfl rfl k_) ?_
 show Go_ T3 (mkF mm_ 20 #[vr ar, vi 2, vr q, vi (-1), vi 1] [(.ref q), (.ref r1)])
 by_cases hr5 : r1 = q
 · skip
   refine sp_ (fun t_ k_ => Jvm.RoadKit.acmp (g := (mkF mm_ 20 #[vr ar, vi 2, vr q, vi (-1), vi 1] [(.ref q), (.ref r1)])) X3 hx rfl rfl rfl (pc0 := 20) (pc' := 34) (same := true) rfl (B_ dk64) rfl (decide_eq_true (congrArg Value.ref hr5)) (by decide) (by decide) (XS.iload X3.here hx rfl (B_ dk73) rfl  (XS.istoreN X3.here hx rfl (B_ dk74) rfl (l' := #[vr ar, vi 2, vr q, vi 1, vi 1]) rfl (XS.iinc X3.here hx rfl (B_ dk71) rfl (l' := #[vr ar, vi 2, vr q, vi 1, vi 2]) rfl (XS.goto X3.here hx rfl (pc0 := 40) (pc' := 5) rfl (B_ dk72) (by decide) (by decide) (XS.iload X3.here hx rfl (B_ dk46) rfl  (XS.iloadN X3.here hx rfl (B_ dk47) rfl  k_))))))) ?_
   show Go_ T3 (mkF mm_ 8 #[vr ar, vi 2, vr q, vi 1, vi 2] [(.int 2), (.int 2)])
   refine sp_ (fun t_ k_ => XS.icmpYes X3.here hx rfl (pc0 := 8) (pc' := 43) rfl (B_ dk48) rfl (flt (by decide : ¬ ((2 : Int32) < (2 : Int32)))).2.1 (by decide) (by decide) k_) ?_
   show Go_ T3 (mkF mm_ 43 #[vr ar, vi 2, vr q, vi 1, vi 2] [])
   refine sp_ (fun t_ k_ => XS.iloadN X3.here hx rfl (B_ dk49) rfl  k_) ?_
   show Go_ T3 (mkF mm_ 44 #[vr ar, vi 2, vr q, vi 1, vi 2] [(.int 1)])
   obtain ⟨fs, hr, hrun, hended, hW, hsame⟩ := X3.leave (v := some (.int 1)) (rN Bd.returns)
   refine ⟨_, _, ?_, hrun, hended, _, _, rfl, ?_, ⟨_, rfl⟩, hW, hsame.mono (by decide) (by decide)⟩
   · exact retI X3 hx Bd.returns (B_ dk50) hr
   · show QrmIx2_1 Z ar q k z r0 r1 v0 v1 u h0 n0 (some (.int 1)) T3.heap _
     rw [Eh3]
     exact ⟨rfl, rfl, rfl⟩
 · skip
   refine sp_ (fun t_ k_ => Jvm.RoadKit.acmp (g := (mkF mm_ 20 #[vr ar, vi 2, vr q, vi (-1), vi 1] [(.ref q), (.ref r1)])) X3 hx rfl rfl rfl (pc0 := 20) (pc' := 23) (same := false) rfl (B_ dk64) rfl (decide_eq_false fun q => hr5 (Value.ref.inj q)) (by decide) (by decide) (XS.aloadN X3.here hx rfl (B_ dk65) rfl rfl (XS.iload X3.here hx rfl (B_ dk66) rfl  k_))) ?_
   obtain ⟨cl6, Ar6, q6, S6, M6, H6, G6⟩ := id pr0
   have hin6 : ¬ ((1 : Int32) < 0 ∨ cl6.slots.size ≤ ((1 : Int32)).toNatClampNeg) := inb_of S6 ⟨by decide, hz1⟩
   have hat6 : cl6.slots[((1 : Int32)).toNatClampNeg]? = some (.ref r1) := Has.at H6 hin6 rfl
   refine sp_ (fun t_ k_ => X3.aaload hx (j := (1 : Int32)) (v := (.ref r1)) (by rw [Eh3]; exact Ar6.1) (State.isArrayOf_alike hZ.alike Ar6.2.1) rfl Ar6.2.2 hin6 hat6 (g := (mkF mm_ 26 #[vr ar, vi 2, vr q, vi (-1), vi 1] [(.int 1), (.ref ar)])) rfl rfl (B_ dk67) t_ k_) ?_
   show Go_ T3 (mkF mm_ 27 #[vr ar, vi 2, vr q, vi (-1), vi 1] [(.ref r1)])
   refine sp_ (fun t_ k_ => XS.aloadN X3.here hx rfl (B_ dk68) rfl rfl k_) ?_
   obtain ⟨_, T7, Lc7, X7, hQ7, st7⟩ := own_cV X3 hx hZ hown (w_ hw 52 rfl) (w_ hw 53 rfl) (own_nf (args := #[]) (mvT hZ (w_ hw 77 rfl)) rfl) (w_ hw 55 rfl) (w_ hw 56 rfl) (by decide) (backOf (W := 0) (rmEqT l Z a0 hw [] r1 q v1 u h0 n0 O0 pr5 pr7 pr6 pr8 hy) hZ (w_ hw 57 rfl) (w_ hw 30 rfl) (by decide) (by decide)) pr5 (g := (mkF mm_ 28 #[vr ar, vi 2, vr q, vi (-1), vi 1] [(.ref q), (.ref r1)])) rfl hml.symm (argsL := [(.ref q)]) (rest := []) (lenOf pd_4 rfl) rfl (Nat.le_of_eq rfl) (B_ dk69) rfl Eh3 (by decide) (by decide)
   obtain ⟨rfl, rfl, Eh7⟩ := hQ7
   have N7 := Fr.app N3 (Fr.nil n0)
   refine jp_ st7 ?_
   show Go_ T7 (mkF mm_ 31 #[vr ar, vi 2, vr q, vi (-1), vi 1] [(.int 1)])
   refine sp_ (fun t_ k_ => XS.ifNo X7.here hx rfl (B_ dk70) rfl ((if0 _ _).trans (feq (by decide : ¬ ((1 : Int32) = (0 : Int32)))).1) k_) ?_
   show Go_ T7 (mkF mm_ 34 #[vr ar, vi 2, vr q, vi (-1), vi 1] [])
   refine sp_ (fun t_ k_ => XS.iload X7.here hx rfl (B_ dk73) rfl  (XS.istoreN X7.here hx rfl (B_ dk74) rfl (l' := #[vr ar, vi 2, vr q, vi 1, vi 1]) rfl (XS.iinc X7.here hx rfl (B_ dk71) rfl (l' := #[vr ar, vi 2, vr q, vi 1, vi 2]) rfl (XS.goto X7.here hx rfl (pc0 := 40) (pc' := 5) rfl (B_ dk72) (by decide) (by decide) (XS.iload X7.here hx rfl (B_ dk46) rfl  (XS.iloadN X7.here hx rfl (B_ dk47) rfl  k_)))))) ?_
   show Go_ T7 (mkF mm_ 8 #[vr ar, vi 2, vr q, vi 1, vi 2] [(.int 2), (.int 2)])
   refine sp_ (fun t_ k_ => XS.icmpYes X7.here hx rfl (pc0 := 8) (pc' := 43) rfl (B_ dk48) rfl (flt (by decide : ¬ ((2 : Int32) < (2 : Int32)))).2.1 (by decide) (by decide) k_) ?_
   show Go_ T7 (mkF mm_ 43 #[vr ar, vi 2, vr q, vi 1, vi 2] [])
   refine sp_ (fun t_ k_ => XS.iloadN X7.here hx rfl (B_ dk49) rfl  k_) ?_
   show Go_ T7 (mkF mm_ 44 #[vr ar, vi 2, vr q, vi 1, vi 2] [(.int 1)])
   obtain ⟨fs, hr, hrun, hended, hW, hsame⟩ := X7.leave (v := some (.int 1)) (rN Bd.returns)
   refine ⟨_, _, ?_, hrun, hended, _, _, rfl, ?_, ⟨_, rfl⟩, hW, hsame.mono (by decide) (by decide)⟩
   · exact retI X7 hx Bd.returns (B_ dk50) hr
   · show QrmIx2_1 Z ar q k z r0 r1 v0 v1 u h0 n0 (some (.int 1)) T7.heap _
     rw [Eh7]
     exact ⟨rfl, rfl, rfl⟩
theorem ef_rmPx2_1 (mm_ : MethodId) (x : Addr) (q : Addr) : entryFrame mm_ #[(.ref x), (.ref q)] 2 = (mkF mm_ 0 #[vr x, vr q] []) := by first | (simp [entryFrame, mkF, argsToLocals, Value.category]; done) | rfl
def QrmPx2_1 (Z : State) (x : Addr) (q : Addr) (ar : Addr) (k : ClassId) (z : Int32) (r0 : Addr) (r1 : Addr) (v0 : Int32) (v1 : Int32) (u : Int32) (h0 : Heap) (n0 : Nat) (vv_ : Option Value) (hh_ : Heap) (LL_ : List Loc) : Prop := (vv_ = some (.int 1)) ∧ (LL_ = []) ∧ (hh_ = h0)
theorem rmPx2_1 (l : Launch) (Z : State) (a0 : Array Value) (hw : own_Hw a0 Z) (ws : List Jvm.Cond) (x : Addr) (q : Addr) (ar : Addr) (k : ClassId) (z : Int32) (r0 : Addr) (r1 : Addr) (v0 : Int32) (v1 : Int32) (u : Int32) (h0 : Heap) (n0 : Nat) (O0 : Old Z n0 h0) (pr0 : Fld Z h0 x sc1 "members" sc3 (.ref ar)) (pr1 : Fld Z h0 x sc1 "size" "I" (.int 2)) (pr2 : Arv Z h0 ar k (.object sc2) z [(.ref r0), (.ref r1)] .null) (hz0 : (0 : Int32) < z) (hz1 : (1 : Int32) < z) (pr5 : Exa Z h0 r0 sc0) (pr6 : Fld Z h0 r0 sc0 "value" "I" (.int v0)) (pr7 : Exa Z h0 r1 sc0) (pr8 : Fld Z h0 r1 sc0 "value" "I" (.int v1)) (pr9 : Exa Z h0 q sc0) (pr10 : Fld Z h0 q sc0 "value" "I" (.int u)) (hn0 : ¬ (v0 = u)) (hy : v1 = u) :
 own_MF l Z ym2 J6 2 (some .int) ws (rm_ 3 0 0 42) #[(.ref x), (.ref q)] h0 (QrmPx2_1 Z x q ar k z r0 r1 v0 v1 u h0 n0) := by
 refine own_met (plainFor_of_name pn_com_example_compact_abox_compactabox_ArraySet) (fun m_ => ef_rmPx2_1 m_ x q) fun pp_ ee_ ss_ mm_ bb_ me_ cc_ s₁ Bd hx hby hml hown hZ hh X0 e0 => ?_
 have B_ {q_ : Nat} {r_ : _} (h_ : decode _ q_ = r_) := hb hby h_
 have hown : ss_.vm.findClass sc1 = some mm_.cls := hown
 have N0 := Fr.nil n0
 have Z0 : n0 ≤ h0.size := by have q := O0.2.1; rw [O0.1] at q; exact q
 have K0 : Keep h0 h0 [] := Keep.refl _ _
 show Go_ s₁ (mkF mm_ 0 #[vr x, vr q] [])
 refine sp_ (fun t_ k_ => XS.aloadN X0.here hx rfl (B_ dk51) rfl rfl k_) ?_
 obtain ⟨T1, X1, e1, st1⟩ := getF X0 hx hZ hown (host := "") (Or.inl (w_ hw 26 rfl)) Via.refl e0 pr0 (g := (mkF mm_ 1 #[vr x, vr q] [(.ref x)])) rfl rfl (B_ dk52)
 refine sp_ st1 ?_
 show Go_ T1 (mkF mm_ 4 #[vr x, vr q] [(.ref ar)])
 refine sp_ (fun t_ k_ => XS.aloadN X1.here hx rfl (B_ dk53) rfl rfl k_) ?_
 obtain ⟨T2, X2, e2, st2⟩ := getF X1 hx hZ hown (host := "") (Or.inl (w_ hw 46 rfl)) Via.refl e1 pr1 (g := (mkF mm_ 5 #[vr x, vr q] [(.ref x), (.ref ar)])) rfl rfl (B_ dk54)
 refine sp_ st2 ?_
 show Go_ T2 (mkF mm_ 8 #[vr x, vr q] [(.int 2), (.ref ar)])
 refine sp_ (fun t_ k_ => XS.aloadN X2.here hx rfl (B_ dk55) rfl rfl k_) ?_
 obtain ⟨_, T3, Lc3, X3, hQ3, st3⟩ := own_cS X2 hx hZ hown (w_ hw 48 rfl) (w_ hw 49 rfl) (w_ hw 2 rfl) (w_ hw 50 rfl) (by decide) (backOf (W := 0) (rmIx2_1 l Z a0 hw [] ar q k z r0 r1 v0 v1 u h0 n0 O0 pr2 hz0 hz1 pr5 pr6 pr7 pr8 pr9 pr10 hn0 hy) hZ (w_ hw 50 rfl) (w_ hw 2 rfl) (by decide) (by decide)) (g := (mkF mm_ 9 #[vr x, vr q] [(.ref q), (.int 2), (.ref ar)])) rfl hml.symm (argsL := [(.ref ar), (.int 2), (.ref q)]) (rest := []) (lenOf pd_3 rfl) rfl (Nat.le_of_eq rfl) (B_ dk56) rfl e2 (by decide) (by decide)
 obtain ⟨rfl, rfl, Eh3⟩ := hQ3
 have N3 := Fr.app N0 (Fr.nil n0)
 refine jp_ st3 ?_
 show Go_ T3 (mkF mm_ 12 #[vr x, vr q] [(.int 1)])
 obtain ⟨fs, hr, hrun, hended, hW, hsame⟩ := X3.leave (v := some (.int 1)) (rN Bd.returns)
 refine ⟨_, _, ?_, hrun, hended, _, _, rfl, ?_, ⟨_, rfl⟩, hW, hsame.mono (by decide) (by decide)⟩
 · exact retI X3 hx Bd.returns (B_ dk57) hr
 · show QrmPx2_1 Z x q ar k z r0 r1 v0 v1 u h0 n0 (some (.int 1)) T3.heap _
   rw [Eh3]
   exact ⟨rfl, rfl, rfl⟩
theorem ef_rmIx3_0 (mm_ : MethodId) (ar : Addr) (q : Addr) : entryFrame mm_ #[(.ref ar), (.int 3), (.ref q)] 5 = (mkF mm_ 0 #[vr ar, vi 3, vr q, un, un] []) := by first | (simp [entryFrame, mkF, argsToLocals, Value.category]; done) | rfl
def QrmIx3_0 (Z : State) (ar : Addr) (q : Addr) (k : ClassId) (z : Int32) (r0 : Addr) (r1 : Addr) (r2 : Addr) (v0 : Int32) (v1 : Int32) (v2 : Int32) (u : Int32) (h0 : Heap) (n0 : Nat) (vv_ : Option Value) (hh_ : Heap) (LL_ : List Loc) : Prop := (vv_ = some (.int 0)) ∧ (LL_ = []) ∧ (hh_ = h0)
theorem rmIx3_0 (l : Launch) (Z : State) (a0 : Array Value) (hw : own_Hw a0 Z) (ws : List Jvm.Cond) (ar : Addr) (q : Addr) (k : ClassId) (z : Int32) (r0 : Addr) (r1 : Addr) (r2 : Addr) (v0 : Int32) (v1 : Int32) (v2 : Int32) (u : Int32) (h0 : Heap) (n0 : Nat) (O0 : Old Z n0 h0) (pr0 : Arv Z h0 ar k (.object sc2) z [(.ref r0), (.ref r1), (.ref r2)] .null) (hz0 : (0 : Int32) < z) (hz1 : (1 : Int32) < z) (hz2 : (2 : Int32) < z) (pr4 : Exa Z h0 r0 sc0) (pr5 : Fld Z h0 r0 sc0 "value" "I" (.int v0)) (pr6 : Exa Z h0 r1 sc0) (pr7 : Fld Z h0 r1 sc0 "value" "I" (.int v1)) (pr8 : Exa Z h0 r2 sc0) (pr9 : Fld Z h0 r2 sc0 "value" "I" (.int v2)) (pr10 : Exa Z h0 q sc0) (pr11 : Fld Z h0 q sc0 "value" "I" (.int u)) (hy : v0 = u) :
 own_MF l Z ym1 J5 5 (some .int) ws (rm_ 2 0 0 26) #[(.ref ar), (.int 3), (.ref q)] h0 (QrmIx3_0 Z ar q k z r0 r1 r2 v0 v1 v2 u h0 n0) := by
 refine own_met (plainFor_of_name pn_com_example_compact_abox_compactabox_ArraySet) (fun m_ => ef_rmIx3_0 m_ ar q) fun pp_ ee_ ss_ mm_ bb_ me_ cc_ s₁ Bd hx hby hml hown hZ hh X0 e0 => ?_
 have B_ {q_ : Nat} {r_ : _} (h_ : decode _ q_ = r_) := hb hby h_
 have hown : ss_.vm.findClass sc1 = some mm_.cls := hown
 have N0 := Fr.nil n0
 have Z0 : n0 ≤ h0.size := by have q := O0.2.1; rw [O0.1] at q; exact q
 have K0 : Keep h0 h0 [] := Keep.refl _ _
 show Go_ s₁ (mkF mm_ 0 #[vr ar, vi 3, vr q, un, un] [])
 refine sp_ (fun t_ k_ => XS.iconst X0.here hx rfl (B_ dk42) (XS.istoreN X0.here hx rfl (B_ dk43) rfl (l' := #[vr ar, vi 3, vr q, vi (-1), un]) rfl (XS.iconst X0.here hx rfl (B_ dk44) (XS.istore X0.here hx rfl (B_ dk45) rfl (l' := #[vr ar, vi 3, vr q, vi (-1), vi 0]) rfl (XS.iload X0.here hx rfl (B_ dk46) rfl  (XS.iloadN X0.here hx rfl (B_ dk47) rfl  k_)))))) ?_
 show Go_ s₁ (mkF mm_ 8 #[vr ar, vi 3, vr q, vi (-1), vi 0] [(.int 3), (.int 0)])
 refine sp_ (fun t_ k_ => XS.icmpNo X0.here hx rfl (B_ dk48) rfl (tlt (by decide : (0 : Int32) < (3 : Int32))).2.1 k_) ?_
 show Go_ s₁ (mkF mm_ 11 #[vr ar, vi 3, vr q, vi (-1), vi 0] [])
 refine sp_ (fun t_ k_ => XS.iloadN X0.here hx rfl (B_ dk58) rfl  k_) ?_
 show Go_ s₁ (mkF mm_ 12 #[vr ar, vi 3, vr q, vi (-1), vi 0] [(.int (-1))])
 refine sp_ (fun t_ k_ => XS.ifNo X0.here hx rfl (B_ dk59) rfl ((if0 _ _).trans (tlt (by decide : (-1 : Int32) < (0 : Int32))).2.1) k_) ?_
 show Go_ s₁ (mkF mm_ 15 #[vr ar, vi 3, vr q, vi (-1), vi 0] [])
 refine sp_ (fun t_ k_ => XS.aloadN X0.here hx rfl (B_ dk60) rfl rfl (XS.iload X0.here hx rfl (B_ dk61) rfl  k_)) ?_
 obtain ⟨cl1, Ar1, q1, S1, M1, H1, G1⟩ := id pr0
 have hin1 : ¬ ((0 : Int32) < 0 ∨ cl1.slots.size ≤ ((0 : Int32)).toNatClampNeg) := inb_of S1 ⟨by decide, hz0⟩
 have hat1 : cl1.slots[((0 : Int32)).toNatClampNeg]? = some (.ref r0) := Has.at H1 hin1 rfl
 refine sp_ (fun t_ k_ => X0.aaload hx (j := (0 : Int32)) (v := (.ref r0)) (by rw [e0]; exact Ar1.1) (State.isArrayOf_alike hZ.alike Ar1.2.1) rfl Ar1.2.2 hin1 hat1 (g := (mkF mm_ 18 #[vr ar, vi 3, vr q, vi (-1), vi 0] [(.int 0), (.ref ar)])) rfl rfl (B_ dk62) t_ k_) ?_
 show Go_ s₁ (mkF mm_ 19 #[vr ar, vi 3, vr q, vi (-1), vi 0] [(.ref r0)])
 refine sp_ (fun t_ k_ => XS.aloadN X0.here hx rfl (B_ dk63) rfl rfl k_) ?_
 show Go_ s₁ (mkF mm_ 20 #[vr ar, vi 3, vr q, vi (-1), vi 0] [(.ref q), (.ref r0)])
 by_cases hr2 : r0 = q
 · skip
   refine sp_ (fun t_ k_ => Jvm.RoadKit.acmp (g := (mkF mm_ 20 #[vr ar, vi 3, vr q, vi (-1), vi 0] [(.ref q), (.ref r0)])) X0 hx rfl rfl rfl (pc0 := 20) (pc' := 34) (same := true) rfl (B_ dk64) rfl (decide_eq_true (congrArg Value.ref hr2)) (by decide) (by decide) (XS.iload X0.here hx rfl (B_ dk73) rfl  (XS.istoreN X0.here hx rfl (B_ dk74) rfl (l' := #[vr ar, vi 3, vr q, vi 0, vi 0]) rfl (XS.iinc X0.here hx rfl (B_ dk71) rfl (l' := #[vr ar, vi 3, vr q, vi 0, vi 1]) rfl (XS.goto X0.here hx rfl (pc0 := 40) (pc' := 5) rfl (B_ dk72) (by decide) (by decide) (XS.iload X0.here hx rfl (B_ dk46) rfl  (XS.iloadN X0.here hx rfl (B_ dk47) rfl  k_))))))) ?_
   show Go_ s₁ (mkF mm_ 8 #[vr ar, vi 3, vr q, vi 0, vi 1] [(.int 3), (.int 1)])
   refine sp_ (fun t_ k_ => XS.icmpNo X0.here hx rfl (B_ dk48) rfl (tlt (by decide : (1 : Int32) < (3 : Int32))).2.1 k_) ?_
   show Go_ s₁ (mkF mm_ 11 #[vr ar, vi 3, vr q, vi 0, vi 1] [])
   refine sp_ (fun t_ k_ => XS.iloadN X0.here hx rfl (B_ dk58) rfl  k_) ?_
   show Go_ s₁ (mkF mm_ 12 #[vr ar, vi 3, vr q, vi 0, vi 1] [(.int 0)])
   refine sp_ (fun t_ k_ => XS.ifYes X0.here hx rfl (pc0 := 12) (pc' := 43) rfl (B_ dk59) rfl ((if0 _ _).trans (flt (by decide : ¬ ((0 : Int32) < (0 : Int32)))).2.1) (by decide) (by decide) k_) ?_
   show Go_ s₁ (mkF mm_ 43 #[vr ar, vi 3, vr q, vi 0, vi 1] [])
   refine sp_ (fun t_ k_ => XS.iloadN X0.here hx rfl (B_ dk49) rfl  k_) ?_
   show Go_ s₁ (mkF mm_ 44 #[vr ar, vi 3, vr q, vi 0, vi 1] [(.int 0)])
   obtain ⟨fs, hr, hrun, hended, hW, hsame⟩ := X0.leave (v := some (.int 0)) (rN Bd.returns)
   refine ⟨_, _, ?_, hrun, hended, _, _, rfl, ?_, ⟨_, rfl⟩, hW, hsame.mono (by decide) (by decide)⟩
   · exact retI X0 hx Bd.returns (B_ dk50) hr
   · show QrmIx3_0 Z ar q k z r0 r1 r2 v0 v1 v2 u h0 n0 (some (.int 0)) s₁.heap _
     rw [e0]
     exact ⟨rfl, rfl, rfl⟩
 · skip
   refine sp_ (fun t_ k_ => Jvm.RoadKit.acmp (g := (mkF mm_ 20 #[vr ar, vi 3, vr q, vi (-1), vi 0] [(.ref q), (.ref r0)])) X0 hx rfl rfl rfl (pc0 := 20) (pc' := 23) (same := false) rfl (B_ dk64) rfl (decide_eq_false fun q => hr2 (Value.ref.inj q)) (by decide) (by decide) (XS.aloadN X0.here hx rfl (B_ dk65) rfl rfl (XS.iload X0.here hx rfl (B_ dk66) rfl  k_))) ?_
   obtain ⟨cl3, Ar3, q3, S3, M3, H3, G3⟩ := id pr0
   have hin3 : ¬ ((0 : Int32) < 0 ∨ cl3.slots.size ≤ ((0 : Int32)).toNatClampNeg) := inb_of S3 ⟨by decide, hz0⟩
   have hat3 : cl3.slots[((0 : Int32)).toNatClampNeg]? = some (.ref r0) := Has.at H3 hin3 rfl
   refine sp_ (fun t_ k_ => X0.aaload hx (j := (0 : Int32)) (v := (.ref r0)) (by rw [e0]; exact Ar3.1) (State.isArrayOf_alike hZ.alike Ar3.2.1) rfl Ar3.2.2 hin3 hat3 (g := (mkF mm_ 26 #[vr ar, vi 3, vr q, vi (-1), vi 0] [(.int 0), (.ref ar)])) rfl rfl (B_ dk67) t_ k_) ?_
   show Go_ s₁ (mkF mm_ 27 #[vr ar, vi 3, vr q, vi (-1), vi 0] [(.ref r0)])
   refine sp_ (fun t_ k_ => XS.aloadN X0.here hx rfl (B_ dk68) rfl rfl k_) ?_
   obtain ⟨_, T4, Lc4, X4, hQ4, st4⟩ := own_cV X0 hx hZ hown (w_ hw 52 rfl) (w_ hw 53 rfl) (own_nf (args := #[]) (mvT hZ (w_ hw 77 rfl)) rfl) (w_ hw 55 rfl) (w_ hw 56 rfl) (by decide) (backOf (W := 0) (rmEqT l Z a0 hw [] r0 q v0 u h0 n0 O0 pr4 pr10 pr5 pr11 hy) hZ (w_ hw 57 rfl) (w_ hw 30 rfl) (by decide) (by decide)) pr4 (g := (mkF mm_ 28 #[vr ar, vi 3, vr q, vi (-1), vi 0] [(.ref q), (.ref r0)])) rfl hml.symm (argsL := [(.ref q)]) (rest := []) (lenOf pd_4 rfl) rfl (Nat.le_of_eq rfl) (B_ dk69) rfl e0 (by decide) (by decide)
   obtain ⟨rfl, rfl, Eh4⟩ := hQ4
   have N4 := Fr.app N0 (Fr.nil n0)
   refine jp_ st4 ?_
   show Go_ T4 (mkF mm_ 31 #[vr ar, vi 3, vr q, vi (-1), vi 0] [(.int 1)])
   refine sp_ (fun t_ k_ => XS.ifNo X4.here hx rfl (B_ dk70) rfl ((if0 _ _).trans (feq (by decide : ¬ ((1 : Int32) = (0 : Int32)))).1) k_) ?_
   show Go_ T4 (mkF mm_ 34 #[vr ar, vi 3, vr q, vi (-1), vi 0] [])
   refine sp_ (fun t_ k_ => XS.iload X4.here hx rfl (B_ dk73) rfl  (XS.istoreN X4.here hx rfl (B_ dk74) rfl (l' := #[vr ar, vi 3, vr q, vi 0, vi 0]) rfl (XS.iinc X4.here hx rfl (B_ dk71) rfl (l' := #[vr ar, vi 3, vr q, vi 0, vi 1]) rfl (XS.goto X4.here hx rfl (pc0 := 40) (pc' := 5) rfl (B_ dk72) (by decide) (by decide) (XS.iload X4.here hx rfl (B_ dk46) rfl  (XS.iloadN X4.here hx rfl (B_ dk47) rfl  k_)))))) ?_
   show Go_ T4 (mkF mm_ 8 #[vr ar, vi 3, vr q, vi 0, vi 1] [(.int 3), (.int 1)])
   refine sp_ (fun t_ k_ => XS.icmpNo X4.here hx rfl (B_ dk48) rfl (tlt (by decide : (1 : Int32) < (3 : Int32))).2.1 k_) ?_
   show Go_ T4 (mkF mm_ 11 #[vr ar, vi 3, vr q, vi 0, vi 1] [])
   refine sp_ (fun t_ k_ => XS.iloadN X4.here hx rfl (B_ dk58) rfl  k_) ?_
   show Go_ T4 (mkF mm_ 12 #[vr ar, vi 3, vr q, vi 0, vi 1] [(.int 0)])
   refine sp_ (fun t_ k_ => XS.ifYes X4.here hx rfl (pc0 := 12) (pc' := 43) rfl (B_ dk59) rfl ((if0 _ _).trans (flt (by decide : ¬ ((0 : Int32) < (0 : Int32)))).2.1) (by decide) (by decide) k_) ?_
   show Go_ T4 (mkF mm_ 43 #[vr ar, vi 3, vr q, vi 0, vi 1] [])
   refine sp_ (fun t_ k_ => XS.iloadN X4.here hx rfl (B_ dk49) rfl  k_) ?_
   show Go_ T4 (mkF mm_ 44 #[vr ar, vi 3, vr q, vi 0, vi 1] [(.int 0)])
   obtain ⟨fs, hr, hrun, hended, hW, hsame⟩ := X4.leave (v := some (.int 0)) (rN Bd.returns)
   refine ⟨_, _, ?_, hrun, hended, _, _, rfl, ?_, ⟨_, rfl⟩, hW, hsame.mono (by decide) (by decide)⟩
   · exact retI X4 hx Bd.returns (B_ dk50) hr
   · show QrmIx3_0 Z ar q k z r0 r1 r2 v0 v1 v2 u h0 n0 (some (.int 0)) T4.heap _
     rw [Eh4]
     exact ⟨rfl, rfl, rfl⟩
theorem ef_rmPx3_0 (mm_ : MethodId) (x : Addr) (q : Addr) : entryFrame mm_ #[(.ref x), (.ref q)] 2 = (mkF mm_ 0 #[vr x, vr q] []) := by first | (simp [entryFrame, mkF, argsToLocals, Value.category]; done) | rfl
def QrmPx3_0 (Z : State) (x : Addr) (q : Addr) (ar : Addr) (k : ClassId) (z : Int32) (r0 : Addr) (r1 : Addr) (r2 : Addr) (v0 : Int32) (v1 : Int32) (v2 : Int32) (u : Int32) (h0 : Heap) (n0 : Nat) (vv_ : Option Value) (hh_ : Heap) (LL_ : List Loc) : Prop := (vv_ = some (.int 0)) ∧ (LL_ = []) ∧ (hh_ = h0)
theorem rmPx3_0 (l : Launch) (Z : State) (a0 : Array Value) (hw : own_Hw a0 Z) (ws : List Jvm.Cond) (x : Addr) (q : Addr) (ar : Addr) (k : ClassId) (z : Int32) (r0 : Addr) (r1 : Addr) (r2 : Addr) (v0 : Int32) (v1 : Int32) (v2 : Int32) (u : Int32) (h0 : Heap) (n0 : Nat) (O0 : Old Z n0 h0) (pr0 : Fld Z h0 x sc1 "members" sc3 (.ref ar)) (pr1 : Fld Z h0 x sc1 "size" "I" (.int 3)) (pr2 : Arv Z h0 ar k (.object sc2) z [(.ref r0), (.ref r1), (.ref r2)] .null) (hz0 : (0 : Int32) < z) (hz1 : (1 : Int32) < z) (hz2 : (2 : Int32) < z) (pr6 : Exa Z h0 r0 sc0) (pr7 : Fld Z h0 r0 sc0 "value" "I" (.int v0)) (pr8 : Exa Z h0 r1 sc0) (pr9 : Fld Z h0 r1 sc0 "value" "I" (.int v1)) (pr10 : Exa Z h0 r2 sc0) (pr11 : Fld Z h0 r2 sc0 "value" "I" (.int v2)) (pr12 : Exa Z h0 q sc0) (pr13 : Fld Z h0 q sc0 "value" "I" (.int u)) (hy : v0 = u) :
 own_MF l Z ym2 J6 2 (some .int) ws (rm_ 3 0 0 42) #[(.ref x), (.ref q)] h0 (QrmPx3_0 Z x q ar k z r0 r1 r2 v0 v1 v2 u h0 n0) := by
 refine own_met (plainFor_of_name pn_com_example_compact_abox_compactabox_ArraySet) (fun m_ => ef_rmPx3_0 m_ x q) fun pp_ ee_ ss_ mm_ bb_ me_ cc_ s₁ Bd hx hby hml hown hZ hh X0 e0 => ?_
 have B_ {q_ : Nat} {r_ : _} (h_ : decode _ q_ = r_) := hb hby h_
 have hown : ss_.vm.findClass sc1 = some mm_.cls := hown
 have N0 := Fr.nil n0
 have Z0 : n0 ≤ h0.size := by have q := O0.2.1; rw [O0.1] at q; exact q
 have K0 : Keep h0 h0 [] := Keep.refl _ _
 show Go_ s₁ (mkF mm_ 0 #[vr x, vr q] [])
 refine sp_ (fun t_ k_ => XS.aloadN X0.here hx rfl (B_ dk51) rfl rfl k_) ?_
 obtain ⟨T1, X1, e1, st1⟩ := getF X0 hx hZ hown (host := "") (Or.inl (w_ hw 26 rfl)) Via.refl e0 pr0 (g := (mkF mm_ 1 #[vr x, vr q] [(.ref x)])) rfl rfl (B_ dk52)
 refine sp_ st1 ?_
 show Go_ T1 (mkF mm_ 4 #[vr x, vr q] [(.ref ar)])
 refine sp_ (fun t_ k_ => XS.aloadN X1.here hx rfl (B_ dk53) rfl rfl k_) ?_
 obtain ⟨T2, X2, e2, st2⟩ := getF X1 hx hZ hown (host := "") (Or.inl (w_ hw 46 rfl)) Via.refl e1 pr1 (g := (mkF mm_ 5 #[vr x, vr q] [(.ref x), (.ref ar)])) rfl rfl (B_ dk54)
 refine sp_ st2 ?_
 show Go_ T2 (mkF mm_ 8 #[vr x, vr q] [(.int 3), (.ref ar)])
 refine sp_ (fun t_ k_ => XS.aloadN X2.here hx rfl (B_ dk55) rfl rfl k_) ?_
 obtain ⟨_, T3, Lc3, X3, hQ3, st3⟩ := own_cS X2 hx hZ hown (w_ hw 48 rfl) (w_ hw 49 rfl) (w_ hw 2 rfl) (w_ hw 50 rfl) (by decide) (backOf (W := 0) (rmIx3_0 l Z a0 hw [] ar q k z r0 r1 r2 v0 v1 v2 u h0 n0 O0 pr2 hz0 hz1 hz2 pr6 pr7 pr8 pr9 pr10 pr11 pr12 pr13 hy) hZ (w_ hw 50 rfl) (w_ hw 2 rfl) (by decide) (by decide)) (g := (mkF mm_ 9 #[vr x, vr q] [(.ref q), (.int 3), (.ref ar)])) rfl hml.symm (argsL := [(.ref ar), (.int 3), (.ref q)]) (rest := []) (lenOf pd_3 rfl) rfl (Nat.le_of_eq rfl) (B_ dk56) rfl e2 (by decide) (by decide)
 obtain ⟨rfl, rfl, Eh3⟩ := hQ3
 have N3 := Fr.app N0 (Fr.nil n0)
 refine jp_ st3 ?_
 show Go_ T3 (mkF mm_ 12 #[vr x, vr q] [(.int 0)])
 obtain ⟨fs, hr, hrun, hended, hW, hsame⟩ := X3.leave (v := some (.int 0)) (rN Bd.returns)
 refine ⟨_, _, ?_, hrun, hended, _, _, rfl, ?_, ⟨_, rfl⟩, hW, hsame.mono (by decide) (by decide)⟩
 · exact retI X3 hx Bd.returns (B_ dk57) hr
 · show QrmPx3_0 Z x q ar k z r0 r1 r2 v0 v1 v2 u h0 n0 (some (.int 0)) T3.heap _
   rw [Eh3]
   exact ⟨rfl, rfl, rfl⟩
theorem ef_rmIx3_1 (mm_ : MethodId) (ar : Addr) (q : Addr) : entryFrame mm_ #[(.ref ar), (.int 3), (.ref q)] 5 = (mkF mm_ 0 #[vr ar, vi 3, vr q, un, un] []) := by first | (simp [entryFrame, mkF, argsToLocals, Value.category]; done) | rfl
def QrmIx3_1 (Z : State) (ar : Addr) (q : Addr) (k : ClassId) (z : Int32) (r0 : Addr) (r1 : Addr) (r2 : Addr) (v0 : Int32) (v1 : Int32) (v2 : Int32) (u : Int32) (h0 : Heap) (n0 : Nat) (vv_ : Option Value) (hh_ : Heap) (LL_ : List Loc) : Prop := (vv_ = some (.int 1)) ∧ (LL_ = []) ∧ (hh_ = h0)
theorem rmIx3_1 (l : Launch) (Z : State) (a0 : Array Value) (hw : own_Hw a0 Z) (ws : List Jvm.Cond) (ar : Addr) (q : Addr) (k : ClassId) (z : Int32) (r0 : Addr) (r1 : Addr) (r2 : Addr) (v0 : Int32) (v1 : Int32) (v2 : Int32) (u : Int32) (h0 : Heap) (n0 : Nat) (O0 : Old Z n0 h0) (pr0 : Arv Z h0 ar k (.object sc2) z [(.ref r0), (.ref r1), (.ref r2)] .null) (hz0 : (0 : Int32) < z) (hz1 : (1 : Int32) < z) (hz2 : (2 : Int32) < z) (pr4 : Exa Z h0 r0 sc0) (pr5 : Fld Z h0 r0 sc0 "value" "I" (.int v0)) (pr6 : Exa Z h0 r1 sc0) (pr7 : Fld Z h0 r1 sc0 "value" "I" (.int v1)) (pr8 : Exa Z h0 r2 sc0) (pr9 : Fld Z h0 r2 sc0 "value" "I" (.int v2)) (pr10 : Exa Z h0 q sc0) (pr11 : Fld Z h0 q sc0 "value" "I" (.int u)) (hn0 : ¬ (v0 = u)) (hy : v1 = u) :
 own_MF l Z ym1 J5 5 (some .int) ws (rm_ 2 0 0 26) #[(.ref ar), (.int 3), (.ref q)] h0 (QrmIx3_1 Z ar q k z r0 r1 r2 v0 v1 v2 u h0 n0) := by
 refine own_met (plainFor_of_name pn_com_example_compact_abox_compactabox_ArraySet) (fun m_ => ef_rmIx3_1 m_ ar q) fun pp_ ee_ ss_ mm_ bb_ me_ cc_ s₁ Bd hx hby hml hown hZ hh X0 e0 => ?_
 have B_ {q_ : Nat} {r_ : _} (h_ : decode _ q_ = r_) := hb hby h_
 have hown : ss_.vm.findClass sc1 = some mm_.cls := hown
 have N0 := Fr.nil n0
 have Z0 : n0 ≤ h0.size := by have q := O0.2.1; rw [O0.1] at q; exact q
 have K0 : Keep h0 h0 [] := Keep.refl _ _
 show Go_ s₁ (mkF mm_ 0 #[vr ar, vi 3, vr q, un, un] [])
 refine sp_ (fun t_ k_ => XS.iconst X0.here hx rfl (B_ dk42) (XS.istoreN X0.here hx rfl (B_ dk43) rfl (l' := #[vr ar, vi 3, vr q, vi (-1), un]) rfl (XS.iconst X0.here hx rfl (B_ dk44) (XS.istore X0.here hx rfl (B_ dk45) rfl (l' := #[vr ar, vi 3, vr q, vi (-1), vi 0]) rfl (XS.iload X0.here hx rfl (B_ dk46) rfl  (XS.iloadN X0.here hx rfl (B_ dk47) rfl  k_)))))) ?_
 show Go_ s₁ (mkF mm_ 8 #[vr ar, vi 3, vr q, vi (-1), vi 0] [(.int 3), (.int 0)])
 refine sp_ (fun t_ k_ => XS.icmpNo X0.here hx rfl (B_ dk48) rfl (tlt (by decide : (0 : Int32) < (3 : Int32))).2.1 k_) ?_
 show Go_ s₁ (mkF mm_ 11 #[vr ar, vi 3, vr q, vi (-1), vi 0] [])
 refine sp_ (fun t_ k_ => XS.iloadN X0.here hx rfl (B_ dk58) rfl  k_) ?_
 show Go_ s₁ (mkF mm_ 12 #[vr ar, vi 3, vr q, vi (-1), vi 0] [(.int (-1))])
 refine sp_ (fun t_ k_ => XS.ifNo X0.here hx rfl (B_ dk59) rfl ((if0 _ _).trans (tlt (by decide : (-1 : Int32) < (0 : Int32))).2.1) k_) ?_
 show Go_ s₁ (mkF mm_ 15 #[vr ar, vi 3, vr q, vi (-1), vi 0] [])
 refine sp_ (fun t_ k_ => XS.aloadN X0.here hx rfl (B_ dk60) rfl rfl (XS.iload X0.here hx rfl (B_ dk61) rfl  k_)) ?_
 obtain ⟨cl1, Ar1, q1, S1, M1, H1, G1⟩ := id pr0
 have hin1 : ¬ ((0 : Int32) < 0 ∨ cl1.slots.size ≤ ((0 : Int32)).toNatClampNeg) := inb_of S1 ⟨by decide, hz0⟩
 have hat1 : cl1.slots[((0 : Int32)).toNatClampNeg]? = some (.ref r0) := Has.at H1 hin1 rfl
 refine sp_ (fun t_ k_ => X0.aaload hx (j := (0 : Int32)) (v := (.ref r0)) (by rw [e0]; exact Ar1.1) (State.isArrayOf_alike hZ.alike Ar1.2.1) rfl Ar1.2.2 hin1 hat1 (g := (mkF mm_ 18 #[vr ar, vi 3, vr q, vi (-1), vi 0] [(.int 0), (.ref ar)])) rfl rfl (B_ dk62) t_ k_) ?_
 show Go_ s₁ (mkF mm_ 19 #[vr ar, vi 3, vr q, vi (-1), vi 0] [(.ref r0)])
 refine sp_ (fun t_ k_ => XS.aloadN X0.here hx rfl (B_ dk63) rfl rfl k_) ?_
 show Go_ s₁ (mkF mm_ 20 #[vr ar, vi 3, vr q, vi (-1), vi 0] [(.ref q), (.ref r0)])
 refine sp_ (fun t_ k_ => Jvm.RoadKit.acmp (g := (mkF mm_ 20 #[vr ar, vi 3, vr q, vi (-1), vi 0] [(.ref q), (.ref r0)])) X0 hx rfl rfl rfl (pc0 := 20) (pc' := 23) (same := false) rfl (B_ dk64) rfl (decide_eq_false fun q => (Fld.ne pr5 pr11 (fun q_ => hn0 (Value.int.inj q_))) (Value.ref.inj q)) (by decide) (by decide) (XS.aloadN X0.here hx rfl (B_ dk65) rfl rfl (XS.iload X0.here hx rfl (B_ dk66) rfl  k_))) ?_
 obtain ⟨cl2, Ar2, q2, S2, M2, H2, G2⟩ := id pr0
 have hin2 : ¬ ((0 : Int32) < 0 ∨ cl2.slots.size ≤ ((0 : Int32)).toNatClampNeg) := inb_of S2 ⟨by decide, hz0⟩
 have hat2 : cl2.slots[((0 : Int32)).toNatClampNeg]? = some (.ref r0) := Has.at H2 hin2 rfl
 refine sp_ (fun t_ k_ => X0.aaload hx (j := (0 : Int32)) (v := (.ref r0)) (by rw [e0]; exact Ar2.1) (State.isArrayOf_alike hZ.alike Ar2.2.1) rfl Ar2.2.2 hin2 hat2 (g := (mkF mm_ 26 #[vr ar, vi 3, vr q, vi (-1), vi 0] [(.int 0), (.ref ar)])) rfl rfl (B_ dk67) t_ k_) ?_
 show Go_ s₁ (mkF mm_ 27 #[vr ar, vi 3, vr q, vi (-1), vi 0] [(.ref r0)])
 refine sp_ (fun t_ k_ => XS.aloadN X0.here hx rfl (B_ dk68) rfl rfl k_) ?_
 obtain ⟨_, T3, Lc3, X3, hQ3, st3⟩ := own_cV X0 hx hZ hown (w_ hw 52 rfl) (w_ hw 53 rfl) (own_nf (args := #[]) (mvT hZ (w_ hw 77 rfl)) rfl) (w_ hw 55 rfl) (w_ hw 56 rfl) (by decide) (backOf (W := 0) (rmEqF l Z a0 hw [] r0 q v0 u h0 n0 O0 pr4 pr10 pr5 pr11 hn0) hZ (w_ hw 57 rfl) (w_ hw 30 rfl) (by decide) (by decide)) pr4 (g := (mkF mm_ 28 #[vr ar, vi 3, vr q, vi (-1), vi 0] [(.ref q), (.ref r0)])) rfl hml.symm (argsL := [(.ref q)]) (rest := []) (lenOf pd_4 rfl) rfl (Nat.le_of_eq rfl) (B_ dk69) rfl e0 (by decide) (by decide)
 obtain ⟨rfl, rfl, Eh3⟩ := hQ3
 have N3 := Fr.app N0 (Fr.nil n0)
 refine jp_ st3 ?_
 show Go_ T3 (mkF mm_ 31 #[vr ar, vi 3, vr q, vi (-1), vi 0] [(.int 0)])
 refine sp_ (fun t_ k_ => XS.ifYes X3.here hx rfl (pc0 := 31) (pc' := 37) rfl (B_ dk70) rfl ((if0 _ _).trans (teq (by decide : (0 : Int32) = (0 : Int32))).1) (by decide) (by decide) k_) ?_
 show Go_ T3 (mkF mm_ 37 #[vr ar, vi 3, vr q, vi (-1), vi 0] [])
 refine sp_ (fun t_ k_ => XS.iinc X3.here hx rfl (B_ dk71) rfl (l' := #[vr ar, vi 3, vr q, vi (-1), vi 1]) rfl (XS.goto X3.here hx rfl (pc0 := 40) (pc' := 5) rfl (B_ dk72) (by decide) (by decide) (XS.iload X3.here hx rfl (B_ dk46) rfl  (XS.iloadN X3.here hx rfl (B_ dk47) rfl  k_)))) ?_
 show Go_ T3 (mkF mm_ 8 #[vr ar, vi 3, vr q, vi (-1), vi 1] [(.int 3), (.int 1)])
 refine sp_ (fun t_ k_ => XS.icmpNo X3.here hx rfl (B_ dk48) rfl (tlt (by decide : (1 : Int32) < (3 : Int32))).2.1 k_) ?_
 show Go_ T3 (mkF mm_ 11 #[vr ar, vi 3, vr q, vi (-1), vi 1] [])
 refine sp_ (fun t_ k_ => XS.iloadN X3.here hx rfl (B_ dk58) rfl  k_) ?_
 show Go_ T3 (mkF mm_ 12 #[vr ar, vi 3, vr q, vi (-1), vi 1] [(.int (-1))])
 refine sp_ (fun t_ k_ => XS.ifNo X3.here hx rfl (B_ dk59) rfl ((if0 _ _).trans (tlt (by decide : (-1 : Int32) < (0 : Int32))).2.1) k_) ?_
 show Go_ T3 (mkF mm_ 15 #[vr ar, vi 3, vr q, vi (-1), vi 1] [])
 refine sp_ (fun t_ k_ => XS.aloadN X3.here hx rfl (B_ dk60) rfl rfl (XS.iload X3.here hx rfl (B_ dk61) rfl  k_)) ?_
 obtain ⟨cl4, Ar4, q4, S4, M4, H4, G4⟩ := id pr0
 have hin4 : ¬ ((1 : Int32) < 0 ∨ cl4.slots.size ≤ ((1 : Int32)).toNatClampNeg) := inb_of S4 ⟨by decide, hz1⟩
 have hat4 : cl4.slots[((1 : Int32)).toNatClampNeg]? = some (.ref r1) := Has.at H4 hin4 rfl
 refine sp_ (fun t_ k_ => X3.aaload hx (j := (1 : Int32)) (v := (.ref r1)) (by rw [Eh3]; exact Ar4.1) (State.isArrayOf_alike hZ.alike Ar4.2.1) rfl Ar4.2.2 hin4 hat4 (g := (mkF mm_ 18 #[vr ar, vi 3, vr q, vi (-1), vi 1] [(.int 1), (.ref ar)])) rfl rfl (B_ dk62) t_ k_) ?_
 show Go_ T3 (mkF mm_ 19 #[vr ar, vi 3, vr q, vi (-1), vi 1] [(.ref r1)])
 refine sp_ (fun t_ k_ => XS.aloadN X3.here hx rfl (B_ dk63) rfl rfl k_) ?_
 show Go_ T3 (mkF mm_ 20 #[vr ar, vi 3, vr q, vi (-1), vi 1] [(.ref q), (.ref r1)])
 by_cases hr5 : r1 = q
 · skip
   refine sp_ (fun t_ k_ => Jvm.RoadKit.acmp (g := (mkF mm_ 20 #[vr ar, vi 3, vr q, vi (-1), vi 1] [(.ref q), (.ref r1)])) X3 hx rfl rfl rfl (pc0 := 20) (pc' := 34) (same := true) rfl (B_ dk64) rfl (decide_eq_true (congrArg Value.ref hr5)) (by decide) (by decide) (XS.iload X3.here hx rfl (B_ dk73) rfl  (XS.istoreN X3.here hx rfl (B_ dk74) rfl (l' := #[vr ar, vi 3, vr q, vi 1, vi 1]) rfl (XS.iinc X3.here hx rfl (B_ dk71) rfl (l' := #[vr ar, vi 3, vr q, vi 1, vi 2]) rfl (XS.goto X3.here hx rfl (pc0 := 40) (pc' := 5) rfl (B_ dk72) (by decide) (by decide) (XS.iload X3.here hx rfl (B_ dk46) rfl  (XS.iloadN X3.here hx rfl (B_ dk47) rfl  k_))))))) ?_
   show Go_ T3 (mkF mm_ 8 #[vr ar, vi 3, vr q, vi 1, vi 2] [(.int 3), (.int 2)])
   refine sp_ (fun t_ k_ => XS.icmpNo X3.here hx rfl (B_ dk48) rfl (tlt (by decide : (2 : Int32) < (3 : Int32))).2.1 k_) ?_
   show Go_ T3 (mkF mm_ 11 #[vr ar, vi 3, vr q, vi 1, vi 2] [])
   refine sp_ (fun t_ k_ => XS.iloadN X3.here hx rfl (B_ dk58) rfl  k_) ?_
   show Go_ T3 (mkF mm_ 12 #[vr ar, vi 3, vr q, vi 1, vi 2] [(.int 1)])
   refine sp_ (fun t_ k_ => XS.ifYes X3.here hx rfl (pc0 := 12) (pc' := 43) rfl (B_ dk59) rfl ((if0 _ _).trans (flt (by decide : ¬ ((1 : Int32) < (0 : Int32)))).2.1) (by decide) (by decide) k_) ?_
   show Go_ T3 (mkF mm_ 43 #[vr ar, vi 3, vr q, vi 1, vi 2] [])
   refine sp_ (fun t_ k_ => XS.iloadN X3.here hx rfl (B_ dk49) rfl  k_) ?_
   show Go_ T3 (mkF mm_ 44 #[vr ar, vi 3, vr q, vi 1, vi 2] [(.int 1)])
   obtain ⟨fs, hr, hrun, hended, hW, hsame⟩ := X3.leave (v := some (.int 1)) (rN Bd.returns)
   refine ⟨_, _, ?_, hrun, hended, _, _, rfl, ?_, ⟨_, rfl⟩, hW, hsame.mono (by decide) (by decide)⟩
   · exact retI X3 hx Bd.returns (B_ dk50) hr
   · show QrmIx3_1 Z ar q k z r0 r1 r2 v0 v1 v2 u h0 n0 (some (.int 1)) T3.heap _
     rw [Eh3]
     exact ⟨rfl, rfl, rfl⟩
 · skip
   refine sp_ (fun t_ k_ => Jvm.RoadKit.acmp (g := (mkF mm_ 20 #[vr ar, vi 3, vr q, vi (-1), vi 1] [(.ref q), (.ref r1)])) X3 hx rfl rfl rfl (pc0 := 20) (pc' := 23) (same := false) rfl (B_ dk64) rfl (decide_eq_false fun q => hr5 (Value.ref.inj q)) (by decide) (by decide) (XS.aloadN X3.here hx rfl (B_ dk65) rfl rfl (XS.iload X3.here hx rfl (B_ dk66) rfl  k_))) ?_
   obtain ⟨cl6, Ar6, q6, S6, M6, H6, G6⟩ := id pr0
   have hin6 : ¬ ((1 : Int32) < 0 ∨ cl6.slots.size ≤ ((1 : Int32)).toNatClampNeg) := inb_of S6 ⟨by decide, hz1⟩
   have hat6 : cl6.slots[((1 : Int32)).toNatClampNeg]? = some (.ref r1) := Has.at H6 hin6 rfl
   refine sp_ (fun t_ k_ => X3.aaload hx (j := (1 : Int32)) (v := (.ref r1)) (by rw [Eh3]; exact Ar6.1) (State.isArrayOf_alike hZ.alike Ar6.2.1) rfl Ar6.2.2 hin6 hat6 (g := (mkF mm_ 26 #[vr ar, vi 3, vr q, vi (-1), vi 1] [(.int 1), (.ref ar)])) rfl rfl (B_ dk67) t_ k_) ?_
   show Go_ T3 (mkF mm_ 27 #[vr ar, vi 3, vr q, vi (-1), vi 1] [(.ref r1)])
   refine sp_ (fun t_ k_ => XS.aloadN X3.here hx rfl (B_ dk68) rfl rfl k_) ?_
   obtain ⟨_, T7, Lc7, X7, hQ7, st7⟩ := own_cV X3 hx hZ hown (w_ hw 52 rfl) (w_ hw 53 rfl) (own_nf (args := #[]) (mvT hZ (w_ hw 77 rfl)) rfl) (w_ hw 55 rfl) (w_ hw 56 rfl) (by decide) (backOf (W := 0) (rmEqT l Z a0 hw [] r1 q v1 u h0 n0 O0 pr6 pr10 pr7 pr11 hy) hZ (w_ hw 57 rfl) (w_ hw 30 rfl) (by decide) (by decide)) pr6 (g := (mkF mm_ 28 #[vr ar, vi 3, vr q, vi (-1), vi 1] [(.ref q), (.ref r1)])) rfl hml.symm (argsL := [(.ref q)]) (rest := []) (lenOf pd_4 rfl) rfl (Nat.le_of_eq rfl) (B_ dk69) rfl Eh3 (by decide) (by decide)
   obtain ⟨rfl, rfl, Eh7⟩ := hQ7
   have N7 := Fr.app N3 (Fr.nil n0)
   refine jp_ st7 ?_
   show Go_ T7 (mkF mm_ 31 #[vr ar, vi 3, vr q, vi (-1), vi 1] [(.int 1)])
   refine sp_ (fun t_ k_ => XS.ifNo X7.here hx rfl (B_ dk70) rfl ((if0 _ _).trans (feq (by decide : ¬ ((1 : Int32) = (0 : Int32)))).1) k_) ?_
   show Go_ T7 (mkF mm_ 34 #[vr ar, vi 3, vr q, vi (-1), vi 1] [])
   refine sp_ (fun t_ k_ => XS.iload X7.here hx rfl (B_ dk73) rfl  (XS.istoreN X7.here hx rfl (B_ dk74) rfl (l' := #[vr ar, vi 3, vr q, vi 1, vi 1]) rfl (XS.iinc X7.here hx rfl (B_ dk71) rfl (l' := #[vr ar, vi 3, vr q, vi 1, vi 2]) rfl (XS.goto X7.here hx rfl (pc0 := 40) (pc' := 5) rfl (B_ dk72) (by decide) (by decide) (XS.iload X7.here hx rfl (B_ dk46) rfl  (XS.iloadN X7.here hx rfl (B_ dk47) rfl  k_)))))) ?_
   show Go_ T7 (mkF mm_ 8 #[vr ar, vi 3, vr q, vi 1, vi 2] [(.int 3), (.int 2)])
   refine sp_ (fun t_ k_ => XS.icmpNo X7.here hx rfl (B_ dk48) rfl (tlt (by decide : (2 : Int32) < (3 : Int32))).2.1 k_) ?_
   show Go_ T7 (mkF mm_ 11 #[vr ar, vi 3, vr q, vi 1, vi 2] [])
   refine sp_ (fun t_ k_ => XS.iloadN X7.here hx rfl (B_ dk58) rfl  k_) ?_
   show Go_ T7 (mkF mm_ 12 #[vr ar, vi 3, vr q, vi 1, vi 2] [(.int 1)])
   refine sp_ (fun t_ k_ => XS.ifYes X7.here hx rfl (pc0 := 12) (pc' := 43) rfl (B_ dk59) rfl ((if0 _ _).trans (flt (by decide : ¬ ((1 : Int32) < (0 : Int32)))).2.1) (by decide) (by decide) k_) ?_
   show Go_ T7 (mkF mm_ 43 #[vr ar, vi 3, vr q, vi 1, vi 2] [])
   refine sp_ (fun t_ k_ => XS.iloadN X7.here hx rfl (B_ dk49) rfl  k_) ?_
   show Go_ T7 (mkF mm_ 44 #[vr ar, vi 3, vr q, vi 1, vi 2] [(.int 1)])
   obtain ⟨fs, hr, hrun, hended, hW, hsame⟩ := X7.leave (v := some (.int 1)) (rN Bd.returns)
   refine ⟨_, _, ?_, hrun, hended, _, _, rfl, ?_, ⟨_, rfl⟩, hW, hsame.mono (by decide) (by decide)⟩
   · exact retI X7 hx Bd.returns (B_ dk50) hr
   · show QrmIx3_1 Z ar q k z r0 r1 r2 v0 v1 v2 u h0 n0 (some (.int 1)) T7.heap _
     rw [Eh7]
     exact ⟨rfl, rfl, rfl⟩
theorem ef_rmPx3_1 (mm_ : MethodId) (x : Addr) (q : Addr) : entryFrame mm_ #[(.ref x), (.ref q)] 2 = (mkF mm_ 0 #[vr x, vr q] []) := by first | (simp [entryFrame, mkF, argsToLocals, Value.category]; done) | rfl
def QrmPx3_1 (Z : State) (x : Addr) (q : Addr) (ar : Addr) (k : ClassId) (z : Int32) (r0 : Addr) (r1 : Addr) (r2 : Addr) (v0 : Int32) (v1 : Int32) (v2 : Int32) (u : Int32) (h0 : Heap) (n0 : Nat) (vv_ : Option Value) (hh_ : Heap) (LL_ : List Loc) : Prop := (vv_ = some (.int 1)) ∧ (LL_ = []) ∧ (hh_ = h0)
theorem rmPx3_1 (l : Launch) (Z : State) (a0 : Array Value) (hw : own_Hw a0 Z) (ws : List Jvm.Cond) (x : Addr) (q : Addr) (ar : Addr) (k : ClassId) (z : Int32) (r0 : Addr) (r1 : Addr) (r2 : Addr) (v0 : Int32) (v1 : Int32) (v2 : Int32) (u : Int32) (h0 : Heap) (n0 : Nat) (O0 : Old Z n0 h0) (pr0 : Fld Z h0 x sc1 "members" sc3 (.ref ar)) (pr1 : Fld Z h0 x sc1 "size" "I" (.int 3)) (pr2 : Arv Z h0 ar k (.object sc2) z [(.ref r0), (.ref r1), (.ref r2)] .null) (hz0 : (0 : Int32) < z) (hz1 : (1 : Int32) < z) (hz2 : (2 : Int32) < z) (pr6 : Exa Z h0 r0 sc0) (pr7 : Fld Z h0 r0 sc0 "value" "I" (.int v0)) (pr8 : Exa Z h0 r1 sc0) (pr9 : Fld Z h0 r1 sc0 "value" "I" (.int v1)) (pr10 : Exa Z h0 r2 sc0) (pr11 : Fld Z h0 r2 sc0 "value" "I" (.int v2)) (pr12 : Exa Z h0 q sc0) (pr13 : Fld Z h0 q sc0 "value" "I" (.int u)) (hn0 : ¬ (v0 = u)) (hy : v1 = u) :
 own_MF l Z ym2 J6 2 (some .int) ws (rm_ 3 0 0 42) #[(.ref x), (.ref q)] h0 (QrmPx3_1 Z x q ar k z r0 r1 r2 v0 v1 v2 u h0 n0) := by
 refine own_met (plainFor_of_name pn_com_example_compact_abox_compactabox_ArraySet) (fun m_ => ef_rmPx3_1 m_ x q) fun pp_ ee_ ss_ mm_ bb_ me_ cc_ s₁ Bd hx hby hml hown hZ hh X0 e0 => ?_
 have B_ {q_ : Nat} {r_ : _} (h_ : decode _ q_ = r_) := hb hby h_
 have hown : ss_.vm.findClass sc1 = some mm_.cls := hown
 have N0 := Fr.nil n0
 have Z0 : n0 ≤ h0.size := by have q := O0.2.1; rw [O0.1] at q; exact q
 have K0 : Keep h0 h0 [] := Keep.refl _ _
 show Go_ s₁ (mkF mm_ 0 #[vr x, vr q] [])
 refine sp_ (fun t_ k_ => XS.aloadN X0.here hx rfl (B_ dk51) rfl rfl k_) ?_
 obtain ⟨T1, X1, e1, st1⟩ := getF X0 hx hZ hown (host := "") (Or.inl (w_ hw 26 rfl)) Via.refl e0 pr0 (g := (mkF mm_ 1 #[vr x, vr q] [(.ref x)])) rfl rfl (B_ dk52)
 refine sp_ st1 ?_
 show Go_ T1 (mkF mm_ 4 #[vr x, vr q] [(.ref ar)])
 refine sp_ (fun t_ k_ => XS.aloadN X1.here hx rfl (B_ dk53) rfl rfl k_) ?_
 obtain ⟨T2, X2, e2, st2⟩ := getF X1 hx hZ hown (host := "") (Or.inl (w_ hw 46 rfl)) Via.refl e1 pr1 (g := (mkF mm_ 5 #[vr x, vr q] [(.ref x), (.ref ar)])) rfl rfl (B_ dk54)
 refine sp_ st2 ?_
 show Go_ T2 (mkF mm_ 8 #[vr x, vr q] [(.int 3), (.ref ar)])
 refine sp_ (fun t_ k_ => XS.aloadN X2.here hx rfl (B_ dk55) rfl rfl k_) ?_
 obtain ⟨_, T3, Lc3, X3, hQ3, st3⟩ := own_cS X2 hx hZ hown (w_ hw 48 rfl) (w_ hw 49 rfl) (w_ hw 2 rfl) (w_ hw 50 rfl) (by decide) (backOf (W := 0) (rmIx3_1 l Z a0 hw [] ar q k z r0 r1 r2 v0 v1 v2 u h0 n0 O0 pr2 hz0 hz1 hz2 pr6 pr7 pr8 pr9 pr10 pr11 pr12 pr13 hn0 hy) hZ (w_ hw 50 rfl) (w_ hw 2 rfl) (by decide) (by decide)) (g := (mkF mm_ 9 #[vr x, vr q] [(.ref q), (.int 3), (.ref ar)])) rfl hml.symm (argsL := [(.ref ar), (.int 3), (.ref q)]) (rest := []) (lenOf pd_3 rfl) rfl (Nat.le_of_eq rfl) (B_ dk56) rfl e2 (by decide) (by decide)
 obtain ⟨rfl, rfl, Eh3⟩ := hQ3
 have N3 := Fr.app N0 (Fr.nil n0)
 refine jp_ st3 ?_
 show Go_ T3 (mkF mm_ 12 #[vr x, vr q] [(.int 1)])
 obtain ⟨fs, hr, hrun, hended, hW, hsame⟩ := X3.leave (v := some (.int 1)) (rN Bd.returns)
 refine ⟨_, _, ?_, hrun, hended, _, _, rfl, ?_, ⟨_, rfl⟩, hW, hsame.mono (by decide) (by decide)⟩
 · exact retI X3 hx Bd.returns (B_ dk57) hr
 · show QrmPx3_1 Z x q ar k z r0 r1 r2 v0 v1 v2 u h0 n0 (some (.int 1)) T3.heap _
   rw [Eh3]
   exact ⟨rfl, rfl, rfl⟩
theorem ef_rmIx3_2 (mm_ : MethodId) (ar : Addr) (q : Addr) : entryFrame mm_ #[(.ref ar), (.int 3), (.ref q)] 5 = (mkF mm_ 0 #[vr ar, vi 3, vr q, un, un] []) := by first | (simp [entryFrame, mkF, argsToLocals, Value.category]; done) | rfl
def QrmIx3_2 (Z : State) (ar : Addr) (q : Addr) (k : ClassId) (z : Int32) (r0 : Addr) (r1 : Addr) (r2 : Addr) (v0 : Int32) (v1 : Int32) (v2 : Int32) (u : Int32) (h0 : Heap) (n0 : Nat) (vv_ : Option Value) (hh_ : Heap) (LL_ : List Loc) : Prop := (vv_ = some (.int 2)) ∧ (LL_ = []) ∧ (hh_ = h0)
theorem rmIx3_2 (l : Launch) (Z : State) (a0 : Array Value) (hw : own_Hw a0 Z) (ws : List Jvm.Cond) (ar : Addr) (q : Addr) (k : ClassId) (z : Int32) (r0 : Addr) (r1 : Addr) (r2 : Addr) (v0 : Int32) (v1 : Int32) (v2 : Int32) (u : Int32) (h0 : Heap) (n0 : Nat) (O0 : Old Z n0 h0) (pr0 : Arv Z h0 ar k (.object sc2) z [(.ref r0), (.ref r1), (.ref r2)] .null) (hz0 : (0 : Int32) < z) (hz1 : (1 : Int32) < z) (hz2 : (2 : Int32) < z) (pr4 : Exa Z h0 r0 sc0) (pr5 : Fld Z h0 r0 sc0 "value" "I" (.int v0)) (pr6 : Exa Z h0 r1 sc0) (pr7 : Fld Z h0 r1 sc0 "value" "I" (.int v1)) (pr8 : Exa Z h0 r2 sc0) (pr9 : Fld Z h0 r2 sc0 "value" "I" (.int v2)) (pr10 : Exa Z h0 q sc0) (pr11 : Fld Z h0 q sc0 "value" "I" (.int u)) (hn0 : ¬ (v0 = u)) (hn1 : ¬ (v1 = u)) (hy : v2 = u) :
 own_MF l Z ym1 J5 5 (some .int) ws (rm_ 2 0 0 26) #[(.ref ar), (.int 3), (.ref q)] h0 (QrmIx3_2 Z ar q k z r0 r1 r2 v0 v1 v2 u h0 n0) := by
 refine own_met (plainFor_of_name pn_com_example_compact_abox_compactabox_ArraySet) (fun m_ => ef_rmIx3_2 m_ ar q) fun pp_ ee_ ss_ mm_ bb_ me_ cc_ s₁ Bd hx hby hml hown hZ hh X0 e0 => ?_
 have B_ {q_ : Nat} {r_ : _} (h_ : decode _ q_ = r_) := hb hby h_
 have hown : ss_.vm.findClass sc1 = some mm_.cls := hown
 have N0 := Fr.nil n0
 have Z0 : n0 ≤ h0.size := by have q := O0.2.1; rw [O0.1] at q; exact q
 have K0 : Keep h0 h0 [] := Keep.refl _ _
 show Go_ s₁ (mkF mm_ 0 #[vr ar, vi 3, vr q, un, un] [])
 refine sp_ (fun t_ k_ => XS.iconst X0.here hx rfl (B_ dk42) (XS.istoreN X0.here hx rfl (B_ dk43) rfl (l' := #[vr ar, vi 3, vr q, vi (-1), un]) rfl (XS.iconst X0.here hx rfl (B_ dk44) (XS.istore X0.here hx rfl (B_ dk45) rfl (l' := #[vr ar, vi 3, vr q, vi (-1), vi 0]) rfl (XS.iload X0.here hx rfl (B_ dk46) rfl  (XS.iloadN X0.here hx rfl (B_ dk47) rfl  k_)))))) ?_
 show Go_ s₁ (mkF mm_ 8 #[vr ar, vi 3, vr q, vi (-1), vi 0] [(.int 3), (.int 0)])
 refine sp_ (fun t_ k_ => XS.icmpNo X0.here hx rfl (B_ dk48) rfl (tlt (by decide : (0 : Int32) < (3 : Int32))).2.1 k_) ?_
 show Go_ s₁ (mkF mm_ 11 #[vr ar, vi 3, vr q, vi (-1), vi 0] [])
 refine sp_ (fun t_ k_ => XS.iloadN X0.here hx rfl (B_ dk58) rfl  k_) ?_
 show Go_ s₁ (mkF mm_ 12 #[vr ar, vi 3, vr q, vi (-1), vi 0] [(.int (-1))])
 refine sp_ (fun t_ k_ => XS.ifNo X0.here hx rfl (B_ dk59) rfl ((if0 _ _).trans (tlt (by decide : (-1 : Int32) < (0 : Int32))).2.1) k_) ?_
 show Go_ s₁ (mkF mm_ 15 #[vr ar, vi 3, vr q, vi (-1), vi 0] [])
 refine sp_ (fun t_ k_ => XS.aloadN X0.here hx rfl (B_ dk60) rfl rfl (XS.iload X0.here hx rfl (B_ dk61) rfl  k_)) ?_
 obtain ⟨cl1, Ar1, q1, S1, M1, H1, G1⟩ := id pr0
 have hin1 : ¬ ((0 : Int32) < 0 ∨ cl1.slots.size ≤ ((0 : Int32)).toNatClampNeg) := inb_of S1 ⟨by decide, hz0⟩
 have hat1 : cl1.slots[((0 : Int32)).toNatClampNeg]? = some (.ref r0) := Has.at H1 hin1 rfl
 refine sp_ (fun t_ k_ => X0.aaload hx (j := (0 : Int32)) (v := (.ref r0)) (by rw [e0]; exact Ar1.1) (State.isArrayOf_alike hZ.alike Ar1.2.1) rfl Ar1.2.2 hin1 hat1 (g := (mkF mm_ 18 #[vr ar, vi 3, vr q, vi (-1), vi 0] [(.int 0), (.ref ar)])) rfl rfl (B_ dk62) t_ k_) ?_
 show Go_ s₁ (mkF mm_ 19 #[vr ar, vi 3, vr q, vi (-1), vi 0] [(.ref r0)])
 refine sp_ (fun t_ k_ => XS.aloadN X0.here hx rfl (B_ dk63) rfl rfl k_) ?_
 show Go_ s₁ (mkF mm_ 20 #[vr ar, vi 3, vr q, vi (-1), vi 0] [(.ref q), (.ref r0)])
 refine sp_ (fun t_ k_ => Jvm.RoadKit.acmp (g := (mkF mm_ 20 #[vr ar, vi 3, vr q, vi (-1), vi 0] [(.ref q), (.ref r0)])) X0 hx rfl rfl rfl (pc0 := 20) (pc' := 23) (same := false) rfl (B_ dk64) rfl (decide_eq_false fun q => (Fld.ne pr5 pr11 (fun q_ => hn0 (Value.int.inj q_))) (Value.ref.inj q)) (by decide) (by decide) (XS.aloadN X0.here hx rfl (B_ dk65) rfl rfl (XS.iload X0.here hx rfl (B_ dk66) rfl  k_))) ?_
 obtain ⟨cl2, Ar2, q2, S2, M2, H2, G2⟩ := id pr0
 have hin2 : ¬ ((0 : Int32) < 0 ∨ cl2.slots.size ≤ ((0 : Int32)).toNatClampNeg) := inb_of S2 ⟨by decide, hz0⟩
 have hat2 : cl2.slots[((0 : Int32)).toNatClampNeg]? = some (.ref r0) := Has.at H2 hin2 rfl
 refine sp_ (fun t_ k_ => X0.aaload hx (j := (0 : Int32)) (v := (.ref r0)) (by rw [e0]; exact Ar2.1) (State.isArrayOf_alike hZ.alike Ar2.2.1) rfl Ar2.2.2 hin2 hat2 (g := (mkF mm_ 26 #[vr ar, vi 3, vr q, vi (-1), vi 0] [(.int 0), (.ref ar)])) rfl rfl (B_ dk67) t_ k_) ?_
 show Go_ s₁ (mkF mm_ 27 #[vr ar, vi 3, vr q, vi (-1), vi 0] [(.ref r0)])
 refine sp_ (fun t_ k_ => XS.aloadN X0.here hx rfl (B_ dk68) rfl rfl k_) ?_
 obtain ⟨_, T3, Lc3, X3, hQ3, st3⟩ := own_cV X0 hx hZ hown (w_ hw 52 rfl) (w_ hw 53 rfl) (own_nf (args := #[]) (mvT hZ (w_ hw 77 rfl)) rfl) (w_ hw 55 rfl) (w_ hw 56 rfl) (by decide) (backOf (W := 0) (rmEqF l Z a0 hw [] r0 q v0 u h0 n0 O0 pr4 pr10 pr5 pr11 hn0) hZ (w_ hw 57 rfl) (w_ hw 30 rfl) (by decide) (by decide)) pr4 (g := (mkF mm_ 28 #[vr ar, vi 3, vr q, vi (-1), vi 0] [(.ref q), (.ref r0)])) rfl hml.symm (argsL := [(.ref q)]) (rest := []) (lenOf pd_4 rfl) rfl (Nat.le_of_eq rfl) (B_ dk69) rfl e0 (by decide) (by decide)
 obtain ⟨rfl, rfl, Eh3⟩ := hQ3
 have N3 := Fr.app N0 (Fr.nil n0)
 refine jp_ st3 ?_
 show Go_ T3 (mkF mm_ 31 #[vr ar, vi 3, vr q, vi (-1), vi 0] [(.int 0)])
 refine sp_ (fun t_ k_ => XS.ifYes X3.here hx rfl (pc0 := 31) (pc' := 37) rfl (B_ dk70) rfl ((if0 _ _).trans (teq (by decide : (0 : Int32) = (0 : Int32))).1) (by decide) (by decide) k_) ?_
 show Go_ T3 (mkF mm_ 37 #[vr ar, vi 3, vr q, vi (-1), vi 0] [])
 refine sp_ (fun t_ k_ => XS.iinc X3.here hx rfl (B_ dk71) rfl (l' := #[vr ar, vi 3, vr q, vi (-1), vi 1]) rfl (XS.goto X3.here hx rfl (pc0 := 40) (pc' := 5) rfl (B_ dk72) (by decide) (by decide) (XS.iload X3.here hx rfl (B_ dk46) rfl  (XS.iloadN X3.here hx rfl (B_ dk47) rfl  k_)))) ?_
 show Go_ T3 (mkF mm_ 8 #[vr ar, vi 3, vr q, vi (-1), vi 1] [(.int 3), (.int 1)])
 refine sp_ (fun t_ k_ => XS.icmpNo X3.here hx rfl (B_ dk48) rfl (tlt (by decide : (1 : Int32) < (3 : Int32))).2.1 k_) ?_
 show Go_ T3 (mkF mm_ 11 #[vr ar, vi 3, vr q, vi (-1), vi 1] [])
 refine sp_ (fun t_ k_ => XS.iloadN X3.here hx rfl (B_ dk58) rfl  k_) ?_
 show Go_ T3 (mkF mm_ 12 #[vr ar, vi 3, vr q, vi (-1), vi 1] [(.int (-1))])
 refine sp_ (fun t_ k_ => XS.ifNo X3.here hx rfl (B_ dk59) rfl ((if0 _ _).trans (tlt (by decide : (-1 : Int32) < (0 : Int32))).2.1) k_) ?_
 show Go_ T3 (mkF mm_ 15 #[vr ar, vi 3, vr q, vi (-1), vi 1] [])
 refine sp_ (fun t_ k_ => XS.aloadN X3.here hx rfl (B_ dk60) rfl rfl (XS.iload X3.here hx rfl (B_ dk61) rfl  k_)) ?_
 obtain ⟨cl4, Ar4, q4, S4, M4, H4, G4⟩ := id pr0
 have hin4 : ¬ ((1 : Int32) < 0 ∨ cl4.slots.size ≤ ((1 : Int32)).toNatClampNeg) := inb_of S4 ⟨by decide, hz1⟩
 have hat4 : cl4.slots[((1 : Int32)).toNatClampNeg]? = some (.ref r1) := Has.at H4 hin4 rfl
 refine sp_ (fun t_ k_ => X3.aaload hx (j := (1 : Int32)) (v := (.ref r1)) (by rw [Eh3]; exact Ar4.1) (State.isArrayOf_alike hZ.alike Ar4.2.1) rfl Ar4.2.2 hin4 hat4 (g := (mkF mm_ 18 #[vr ar, vi 3, vr q, vi (-1), vi 1] [(.int 1), (.ref ar)])) rfl rfl (B_ dk62) t_ k_) ?_
 show Go_ T3 (mkF mm_ 19 #[vr ar, vi 3, vr q, vi (-1), vi 1] [(.ref r1)])
 refine sp_ (fun t_ k_ => XS.aloadN X3.here hx rfl (B_ dk63) rfl rfl k_) ?_
 show Go_ T3 (mkF mm_ 20 #[vr ar, vi 3, vr q, vi (-1), vi 1] [(.ref q), (.ref r1)])
 refine sp_ (fun t_ k_ => Jvm.RoadKit.acmp (g := (mkF mm_ 20 #[vr ar, vi 3, vr q, vi (-1), vi 1] [(.ref q), (.ref r1)])) X3 hx rfl rfl rfl (pc0 := 20) (pc' := 23) (same := false) rfl (B_ dk64) rfl (decide_eq_false fun q => (Fld.ne pr7 pr11 (fun q_ => hn1 (Value.int.inj q_))) (Value.ref.inj q)) (by decide) (by decide) (XS.aloadN X3.here hx rfl (B_ dk65) rfl rfl (XS.iload X3.here hx rfl (B_ dk66) rfl  k_))) ?_
 obtain ⟨cl5, Ar5, q5, S5, M5, H5, G5⟩ := id pr0
 have hin5 : ¬ ((1 : Int32) < 0 ∨ cl5.slots.size ≤ ((1 : Int32)).toNatClampNeg) := inb_of S5 ⟨by decide, hz1⟩
 have hat5 : cl5.slots[((1 : Int32)).toNatClampNeg]? = some (.ref r1) := Has.at H5 hin5 rfl
 refine sp_ (fun t_ k_ => X3.aaload hx (j := (1 : Int32)) (v := (.ref r1)) (by rw [Eh3]; exact Ar5.1) (State.isArrayOf_alike hZ.alike Ar5.2.1) rfl Ar5.2.2 hin5 hat5 (g := (mkF mm_ 26 #[vr ar, vi 3, vr q, vi (-1), vi 1] [(.int 1), (.ref ar)])) rfl rfl (B_ dk67) t_ k_) ?_
 show Go_ T3 (mkF mm_ 27 #[vr ar, vi 3, vr q, vi (-1), vi 1] [(.ref r1)])
 refine sp_ (fun t_ k_ => XS.aloadN X3.here hx rfl (B_ dk68) rfl rfl k_) ?_
 obtain ⟨_, T6, Lc6, X6, hQ6, st6⟩ := own_cV X3 hx hZ hown (w_ hw 52 rfl) (w_ hw 53 rfl) (own_nf (args := #[]) (mvT hZ (w_ hw 77 rfl)) rfl) (w_ hw 55 rfl) (w_ hw 56 rfl) (by decide) (backOf (W := 0) (rmEqF l Z a0 hw [] r1 q v1 u h0 n0 O0 pr6 pr10 pr7 pr11 hn1) hZ (w_ hw 57 rfl) (w_ hw 30 rfl) (by decide) (by decide)) pr6 (g := (mkF mm_ 28 #[vr ar, vi 3, vr q, vi (-1), vi 1] [(.ref q), (.ref r1)])) rfl hml.symm (argsL := [(.ref q)]) (rest := []) (lenOf pd_4 rfl) rfl (Nat.le_of_eq rfl) (B_ dk69) rfl Eh3 (by decide) (by decide)
 obtain ⟨rfl, rfl, Eh6⟩ := hQ6
 have N6 := Fr.app N3 (Fr.nil n0)
 refine jp_ st6 ?_
 show Go_ T6 (mkF mm_ 31 #[vr ar, vi 3, vr q, vi (-1), vi 1] [(.int 0)])
 refine sp_ (fun t_ k_ => XS.ifYes X6.here hx rfl (pc0 := 31) (pc' := 37) rfl (B_ dk70) rfl ((if0 _ _).trans (teq (by decide : (0 : Int32) = (0 : Int32))).1) (by decide) (by decide) k_) ?_
 show Go_ T6 (mkF mm_ 37 #[vr ar, vi 3, vr q, vi (-1), vi 1] [])
 refine sp_ (fun t_ k_ => XS.iinc X6.here hx rfl (B_ dk71) rfl (l' := #[vr ar, vi 3, vr q, vi (-1), vi 2]) rfl (XS.goto X6.here hx rfl (pc0 := 40) (pc' := 5) rfl (B_ dk72) (by decide) (by decide) (XS.iload X6.here hx rfl (B_ dk46) rfl  (XS.iloadN X6.here hx rfl (B_ dk47) rfl  k_)))) ?_
 show Go_ T6 (mkF mm_ 8 #[vr ar, vi 3, vr q, vi (-1), vi 2] [(.int 3), (.int 2)])
 refine sp_ (fun t_ k_ => XS.icmpNo X6.here hx rfl (B_ dk48) rfl (tlt (by decide : (2 : Int32) < (3 : Int32))).2.1 k_) ?_
 show Go_ T6 (mkF mm_ 11 #[vr ar, vi 3, vr q, vi (-1), vi 2] [])
 refine sp_ (fun t_ k_ => XS.iloadN X6.here hx rfl (B_ dk58) rfl  k_) ?_
 show Go_ T6 (mkF mm_ 12 #[vr ar, vi 3, vr q, vi (-1), vi 2] [(.int (-1))])
 refine sp_ (fun t_ k_ => XS.ifNo X6.here hx rfl (B_ dk59) rfl ((if0 _ _).trans (tlt (by decide : (-1 : Int32) < (0 : Int32))).2.1) k_) ?_
 show Go_ T6 (mkF mm_ 15 #[vr ar, vi 3, vr q, vi (-1), vi 2] [])
 refine sp_ (fun t_ k_ => XS.aloadN X6.here hx rfl (B_ dk60) rfl rfl (XS.iload X6.here hx rfl (B_ dk61) rfl  k_)) ?_
 obtain ⟨cl7, Ar7, q7, S7, M7, H7, G7⟩ := id pr0
 have hin7 : ¬ ((2 : Int32) < 0 ∨ cl7.slots.size ≤ ((2 : Int32)).toNatClampNeg) := inb_of S7 ⟨by decide, hz2⟩
 have hat7 : cl7.slots[((2 : Int32)).toNatClampNeg]? = some (.ref r2) := Has.at H7 hin7 rfl
 refine sp_ (fun t_ k_ => X6.aaload hx (j := (2 : Int32)) (v := (.ref r2)) (by rw [Eh6]; exact Ar7.1) (State.isArrayOf_alike hZ.alike Ar7.2.1) rfl Ar7.2.2 hin7 hat7 (g := (mkF mm_ 18 #[vr ar, vi 3, vr q, vi (-1), vi 2] [(.int 2), (.ref ar)])) rfl rfl (B_ dk62) t_ k_) ?_
 show Go_ T6 (mkF mm_ 19 #[vr ar, vi 3, vr q, vi (-1), vi 2] [(.ref r2)])
 refine sp_ (fun t_ k_ => XS.aloadN X6.here hx rfl (B_ dk63) rfl rfl k_) ?_
 show Go_ T6 (mkF mm_ 20 #[vr ar, vi 3, vr q, vi (-1), vi 2] [(.ref q), (.ref r2)])
 by_cases hr8 : r2 = q
 · skip
   refine sp_ (fun t_ k_ => Jvm.RoadKit.acmp (g := (mkF mm_ 20 #[vr ar, vi 3, vr q, vi (-1), vi 2] [(.ref q), (.ref r2)])) X6 hx rfl rfl rfl (pc0 := 20) (pc' := 34) (same := true) rfl (B_ dk64) rfl (decide_eq_true (congrArg Value.ref hr8)) (by decide) (by decide) (XS.iload X6.here hx rfl (B_ dk73) rfl  (XS.istoreN X6.here hx rfl (B_ dk74) rfl (l' := #[vr ar, vi 3, vr q, vi 2, vi 2]) rfl (XS.iinc X6.here hx rfl (B_ dk71) rfl (l' := #[vr ar, vi 3, vr q, vi 2, vi 3]) rfl (XS.goto X6.here hx rfl (pc0 := 40) (pc' := 5) rfl (B_ dk72) (by decide) (by decide) (XS.iload X6.here hx rfl (B_ dk46) rfl  (XS.iloadN X6.here hx rfl (B_ dk47) rfl  k_))))))) ?_
   show Go_ T6 (mkF mm_ 8 #[vr ar, vi 3, vr q, vi 2, vi 3] [(.int 3), (.int 3)])
   refine sp_ (fun t_ k_ => XS.icmpYes X6.here hx rfl (pc0 := 8) (pc' := 43) rfl (B_ dk48) rfl (flt (by decide : ¬ ((3 : Int32) < (3 : Int32)))).2.1 (by decide) (by decide) k_) ?_
   show Go_ T6 (mkF mm_ 43 #[vr ar, vi 3, vr q, vi 2, vi 3] [])
   refine sp_ (fun t_ k_ => XS.iloadN X6.here hx rfl (B_ dk49) rfl  k_) ?_
   show Go_ T6 (mkF mm_ 44 #[vr ar, vi 3, vr q, vi 2, vi 3] [(.int 2)])
   obtain ⟨fs, hr, hrun, hended, hW, hsame⟩ := X6.leave (v := some (.int 2)) (rN Bd.returns)
   refine ⟨_, _, ?_, hrun, hended, _, _, rfl, ?_, ⟨_, rfl⟩, hW, hsame.mono (by decide) (by decide)⟩
   · exact retI X6 hx Bd.returns (B_ dk50) hr
   · show QrmIx3_2 Z ar q k z r0 r1 r2 v0 v1 v2 u h0 n0 (some (.int 2)) T6.heap _
     rw [Eh6]
     exact ⟨rfl, rfl, rfl⟩
 · skip
   refine sp_ (fun t_ k_ => Jvm.RoadKit.acmp (g := (mkF mm_ 20 #[vr ar, vi 3, vr q, vi (-1), vi 2] [(.ref q), (.ref r2)])) X6 hx rfl rfl rfl (pc0 := 20) (pc' := 23) (same := false) rfl (B_ dk64) rfl (decide_eq_false fun q => hr8 (Value.ref.inj q)) (by decide) (by decide) (XS.aloadN X6.here hx rfl (B_ dk65) rfl rfl (XS.iload X6.here hx rfl (B_ dk66) rfl  k_))) ?_
   obtain ⟨cl9, Ar9, q9, S9, M9, H9, G9⟩ := id pr0
   have hin9 : ¬ ((2 : Int32) < 0 ∨ cl9.slots.size ≤ ((2 : Int32)).toNatClampNeg) := inb_of S9 ⟨by decide, hz2⟩
   have hat9 : cl9.slots[((2 : Int32)).toNatClampNeg]? = some (.ref r2) := Has.at H9 hin9 rfl
   refine sp_ (fun t_ k_ => X6.aaload hx (j := (2 : Int32)) (v := (.ref r2)) (by rw [Eh6]; exact Ar9.1) (State.isArrayOf_alike hZ.alike Ar9.2.1) rfl Ar9.2.2 hin9 hat9 (g := (mkF mm_ 26 #[vr ar, vi 3, vr q, vi (-1), vi 2] [(.int 2), (.ref ar)])) rfl rfl (B_ dk67) t_ k_) ?_
   show Go_ T6 (mkF mm_ 27 #[vr ar, vi 3, vr q, vi (-1), vi 2] [(.ref r2)])
   refine sp_ (fun t_ k_ => XS.aloadN X6.here hx rfl (B_ dk68) rfl rfl k_) ?_
   obtain ⟨_, T10, Lc10, X10, hQ10, st10⟩ := own_cV X6 hx hZ hown (w_ hw 52 rfl) (w_ hw 53 rfl) (own_nf (args := #[]) (mvT hZ (w_ hw 77 rfl)) rfl) (w_ hw 55 rfl) (w_ hw 56 rfl) (by decide) (backOf (W := 0) (rmEqT l Z a0 hw [] r2 q v2 u h0 n0 O0 pr8 pr10 pr9 pr11 hy) hZ (w_ hw 57 rfl) (w_ hw 30 rfl) (by decide) (by decide)) pr8 (g := (mkF mm_ 28 #[vr ar, vi 3, vr q, vi (-1), vi 2] [(.ref q), (.ref r2)])) rfl hml.symm (argsL := [(.ref q)]) (rest := []) (lenOf pd_4 rfl) rfl (Nat.le_of_eq rfl) (B_ dk69) rfl Eh6 (by decide) (by decide)
   obtain ⟨rfl, rfl, Eh10⟩ := hQ10
   have N10 := Fr.app N6 (Fr.nil n0)
   refine jp_ st10 ?_
   show Go_ T10 (mkF mm_ 31 #[vr ar, vi 3, vr q, vi (-1), vi 2] [(.int 1)])
   refine sp_ (fun t_ k_ => XS.ifNo X10.here hx rfl (B_ dk70) rfl ((if0 _ _).trans (feq (by decide : ¬ ((1 : Int32) = (0 : Int32)))).1) k_) ?_
   show Go_ T10 (mkF mm_ 34 #[vr ar, vi 3, vr q, vi (-1), vi 2] [])
   refine sp_ (fun t_ k_ => XS.iload X10.here hx rfl (B_ dk73) rfl  (XS.istoreN X10.here hx rfl (B_ dk74) rfl (l' := #[vr ar, vi 3, vr q, vi 2, vi 2]) rfl (XS.iinc X10.here hx rfl (B_ dk71) rfl (l' := #[vr ar, vi 3, vr q, vi 2, vi 3]) rfl (XS.goto X10.here hx rfl (pc0 := 40) (pc' := 5) rfl (B_ dk72) (by decide) (by decide) (XS.iload X10.here hx rfl (B_ dk46) rfl  (XS.iloadN X10.here hx rfl (B_ dk47) rfl  k_)))))) ?_
   show Go_ T10 (mkF mm_ 8 #[vr ar, vi 3, vr q, vi 2, vi 3] [(.int 3), (.int 3)])
   refine sp_ (fun t_ k_ => XS.icmpYes X10.here hx rfl (pc0 := 8) (pc' := 43) rfl (B_ dk48) rfl (flt (by decide : ¬ ((3 : Int32) < (3 : Int32)))).2.1 (by decide) (by decide) k_) ?_
   show Go_ T10 (mkF mm_ 43 #[vr ar, vi 3, vr q, vi 2, vi 3] [])
   refine sp_ (fun t_ k_ => XS.iloadN X10.here hx rfl (B_ dk49) rfl  k_) ?_
   show Go_ T10 (mkF mm_ 44 #[vr ar, vi 3, vr q, vi 2, vi 3] [(.int 2)])
   obtain ⟨fs, hr, hrun, hended, hW, hsame⟩ := X10.leave (v := some (.int 2)) (rN Bd.returns)
   refine ⟨_, _, ?_, hrun, hended, _, _, rfl, ?_, ⟨_, rfl⟩, hW, hsame.mono (by decide) (by decide)⟩
   · exact retI X10 hx Bd.returns (B_ dk50) hr
   · show QrmIx3_2 Z ar q k z r0 r1 r2 v0 v1 v2 u h0 n0 (some (.int 2)) T10.heap _
     rw [Eh10]
     exact ⟨rfl, rfl, rfl⟩
theorem ef_rmPx3_2 (mm_ : MethodId) (x : Addr) (q : Addr) : entryFrame mm_ #[(.ref x), (.ref q)] 2 = (mkF mm_ 0 #[vr x, vr q] []) := by first | (simp [entryFrame, mkF, argsToLocals, Value.category]; done) | rfl
def QrmPx3_2 (Z : State) (x : Addr) (q : Addr) (ar : Addr) (k : ClassId) (z : Int32) (r0 : Addr) (r1 : Addr) (r2 : Addr) (v0 : Int32) (v1 : Int32) (v2 : Int32) (u : Int32) (h0 : Heap) (n0 : Nat) (vv_ : Option Value) (hh_ : Heap) (LL_ : List Loc) : Prop := (vv_ = some (.int 2)) ∧ (LL_ = []) ∧ (hh_ = h0)
theorem rmPx3_2 (l : Launch) (Z : State) (a0 : Array Value) (hw : own_Hw a0 Z) (ws : List Jvm.Cond) (x : Addr) (q : Addr) (ar : Addr) (k : ClassId) (z : Int32) (r0 : Addr) (r1 : Addr) (r2 : Addr) (v0 : Int32) (v1 : Int32) (v2 : Int32) (u : Int32) (h0 : Heap) (n0 : Nat) (O0 : Old Z n0 h0) (pr0 : Fld Z h0 x sc1 "members" sc3 (.ref ar)) (pr1 : Fld Z h0 x sc1 "size" "I" (.int 3)) (pr2 : Arv Z h0 ar k (.object sc2) z [(.ref r0), (.ref r1), (.ref r2)] .null) (hz0 : (0 : Int32) < z) (hz1 : (1 : Int32) < z) (hz2 : (2 : Int32) < z) (pr6 : Exa Z h0 r0 sc0) (pr7 : Fld Z h0 r0 sc0 "value" "I" (.int v0)) (pr8 : Exa Z h0 r1 sc0) (pr9 : Fld Z h0 r1 sc0 "value" "I" (.int v1)) (pr10 : Exa Z h0 r2 sc0) (pr11 : Fld Z h0 r2 sc0 "value" "I" (.int v2)) (pr12 : Exa Z h0 q sc0) (pr13 : Fld Z h0 q sc0 "value" "I" (.int u)) (hn0 : ¬ (v0 = u)) (hn1 : ¬ (v1 = u)) (hy : v2 = u) :
 own_MF l Z ym2 J6 2 (some .int) ws (rm_ 3 0 0 42) #[(.ref x), (.ref q)] h0 (QrmPx3_2 Z x q ar k z r0 r1 r2 v0 v1 v2 u h0 n0) := by
 refine own_met (plainFor_of_name pn_com_example_compact_abox_compactabox_ArraySet) (fun m_ => ef_rmPx3_2 m_ x q) fun pp_ ee_ ss_ mm_ bb_ me_ cc_ s₁ Bd hx hby hml hown hZ hh X0 e0 => ?_
 have B_ {q_ : Nat} {r_ : _} (h_ : decode _ q_ = r_) := hb hby h_
 have hown : ss_.vm.findClass sc1 = some mm_.cls := hown
 have N0 := Fr.nil n0
 have Z0 : n0 ≤ h0.size := by have q := O0.2.1; rw [O0.1] at q; exact q
 have K0 : Keep h0 h0 [] := Keep.refl _ _
 show Go_ s₁ (mkF mm_ 0 #[vr x, vr q] [])
 refine sp_ (fun t_ k_ => XS.aloadN X0.here hx rfl (B_ dk51) rfl rfl k_) ?_
 obtain ⟨T1, X1, e1, st1⟩ := getF X0 hx hZ hown (host := "") (Or.inl (w_ hw 26 rfl)) Via.refl e0 pr0 (g := (mkF mm_ 1 #[vr x, vr q] [(.ref x)])) rfl rfl (B_ dk52)
 refine sp_ st1 ?_
 show Go_ T1 (mkF mm_ 4 #[vr x, vr q] [(.ref ar)])
 refine sp_ (fun t_ k_ => XS.aloadN X1.here hx rfl (B_ dk53) rfl rfl k_) ?_
 obtain ⟨T2, X2, e2, st2⟩ := getF X1 hx hZ hown (host := "") (Or.inl (w_ hw 46 rfl)) Via.refl e1 pr1 (g := (mkF mm_ 5 #[vr x, vr q] [(.ref x), (.ref ar)])) rfl rfl (B_ dk54)
 refine sp_ st2 ?_
 show Go_ T2 (mkF mm_ 8 #[vr x, vr q] [(.int 3), (.ref ar)])
 refine sp_ (fun t_ k_ => XS.aloadN X2.here hx rfl (B_ dk55) rfl rfl k_) ?_
 obtain ⟨_, T3, Lc3, X3, hQ3, st3⟩ := own_cS X2 hx hZ hown (w_ hw 48 rfl) (w_ hw 49 rfl) (w_ hw 2 rfl) (w_ hw 50 rfl) (by decide) (backOf (W := 0) (rmIx3_2 l Z a0 hw [] ar q k z r0 r1 r2 v0 v1 v2 u h0 n0 O0 pr2 hz0 hz1 hz2 pr6 pr7 pr8 pr9 pr10 pr11 pr12 pr13 hn0 hn1 hy) hZ (w_ hw 50 rfl) (w_ hw 2 rfl) (by decide) (by decide)) (g := (mkF mm_ 9 #[vr x, vr q] [(.ref q), (.int 3), (.ref ar)])) rfl hml.symm (argsL := [(.ref ar), (.int 3), (.ref q)]) (rest := []) (lenOf pd_3 rfl) rfl (Nat.le_of_eq rfl) (B_ dk56) rfl e2 (by decide) (by decide)
 obtain ⟨rfl, rfl, Eh3⟩ := hQ3
 have N3 := Fr.app N0 (Fr.nil n0)
 refine jp_ st3 ?_
 show Go_ T3 (mkF mm_ 12 #[vr x, vr q] [(.int 2)])
 obtain ⟨fs, hr, hrun, hended, hW, hsame⟩ := X3.leave (v := some (.int 2)) (rN Bd.returns)
 refine ⟨_, _, ?_, hrun, hended, _, _, rfl, ?_, ⟨_, rfl⟩, hW, hsame.mono (by decide) (by decide)⟩
 · exact retI X3 hx Bd.returns (B_ dk57) hr
 · show QrmPx3_2 Z x q ar k z r0 r1 r2 v0 v1 v2 u h0 n0 (some (.int 2)) T3.heap _
   rw [Eh3]
   exact ⟨rfl, rfl, rfl⟩
theorem dk75 : decode J7 0 = .ok (.iload_n 0, 1) := by decide +kernel
theorem dk76 : decode J7 1 = .ok (.iload_n 1, 1) := by decide +kernel
theorem dk77 : decode J7 2 = .ok (.if_icmp .gt 7, 3) := by decide +kernel
theorem dk78 : decode J7 5 = .ok (.iload_n 0, 1) := by decide +kernel
theorem dk79 : decode J7 6 = .ok (.goto 4, 3) := by decide +kernel
theorem dk80 : decode J7 10 = .ok (.ireturn, 1) := by decide +kernel
theorem ef_rmMin8_0 (mm_ : MethodId)  : entryFrame mm_ #[(.int 0), (.int 8)] 2 = (mkF mm_ 0 #[vi 0, vi 8] []) := by first | (simp [entryFrame, mkF, argsToLocals, Value.category]; done) | rfl
def QrmMin8_0 (Z : State)  (h0 : Heap) (n0 : Nat) (vv_ : Option Value) (hh_ : Heap) (LL_ : List Loc) : Prop := (vv_ = some (.int 0)) ∧ (LL_ = []) ∧ (hh_ = h0)
theorem rmMin8_0 (l : Launch) (Z : State) (a0 : Array Value) (hw : own_Hw a0 Z) (ws : List Jvm.Cond)  (h0 : Heap) (n0 : Nat) (O0 : Old Z n0 h0) :
 own_MF l Z ym0 J7 2 (some .int) ws (rm_ 0 0 0 0) #[(.int 0), (.int 8)] h0 (QrmMin8_0 Z  h0 n0) := by
 refine own_met (by decide +kernel : plainFor ym0 = true) (fun m_ => ef_rmMin8_0 m_ ) fun pp_ ee_ ss_ mm_ bb_ me_ cc_ s₁ Bd hx hby hml hown hZ hh X0 e0 => ?_
 have B_ {q_ : Nat} {r_ : _} (h_ : decode _ q_ = r_) := hb hby h_
 have hown : ss_.vm.findClass sc7 = some mm_.cls := hown
 have N0 := Fr.nil n0
 have Z0 : n0 ≤ h0.size := by have q := O0.2.1; rw [O0.1] at q; exact q
 have K0 : Keep h0 h0 [] := Keep.refl _ _
 show Go_ s₁ (mkF mm_ 0 #[vi 0, vi 8] [])
 refine sp_ (fun t_ k_ => XS.iloadN X0.here hx rfl (B_ dk75) rfl  (XS.iloadN X0.here hx rfl (B_ dk76) rfl  k_)) ?_
 show Go_ s₁ (mkF mm_ 2 #[vi 0, vi 8] [(.int 8), (.int 0)])
 refine sp_ (fun t_ k_ => XS.icmpNo X0.here hx rfl (B_ dk77) rfl (flt (by decide : ¬ ((8 : Int32) < (0 : Int32)))).2.2.1 k_) ?_
 show Go_ s₁ (mkF mm_ 5 #[vi 0, vi 8] [])
 refine sp_ (fun t_ k_ => XS.iloadN X0.here hx rfl (B_ dk78) rfl  (XS.goto X0.here hx rfl (pc0 := 6) (pc' := 10) rfl (B_ dk79) (by decide) (by decide) k_)) ?_
 show Go_ s₁ (mkF mm_ 10 #[vi 0, vi 8] [(.int 0)])
 obtain ⟨fs, hr, hrun, hended, hW, hsame⟩ := X0.leave (v := some (.int 0)) (rN Bd.returns)
 refine ⟨_, _, ?_, hrun, hended, _, _, rfl, ?_, ⟨_, rfl⟩, hW, hsame.mono (by decide) (by decide)⟩
 · exact retI X0 hx Bd.returns (B_ dk80) hr
 · show QrmMin8_0 Z  h0 n0 (some (.int 0)) s₁.heap _
   rw [e0]
   exact ⟨rfl, rfl, rfl⟩
theorem ef_rmMin8_1 (mm_ : MethodId)  : entryFrame mm_ #[(.int 1), (.int 8)] 2 = (mkF mm_ 0 #[vi 1, vi 8] []) := by first | (simp [entryFrame, mkF, argsToLocals, Value.category]; done) | rfl
def QrmMin8_1 (Z : State)  (h0 : Heap) (n0 : Nat) (vv_ : Option Value) (hh_ : Heap) (LL_ : List Loc) : Prop := (vv_ = some (.int 1)) ∧ (LL_ = []) ∧ (hh_ = h0)
theorem rmMin8_1 (l : Launch) (Z : State) (a0 : Array Value) (hw : own_Hw a0 Z) (ws : List Jvm.Cond)  (h0 : Heap) (n0 : Nat) (O0 : Old Z n0 h0) :
 own_MF l Z ym0 J7 2 (some .int) ws (rm_ 0 0 0 0) #[(.int 1), (.int 8)] h0 (QrmMin8_1 Z  h0 n0) := by
 refine own_met (by decide +kernel : plainFor ym0 = true) (fun m_ => ef_rmMin8_1 m_ ) fun pp_ ee_ ss_ mm_ bb_ me_ cc_ s₁ Bd hx hby hml hown hZ hh X0 e0 => ?_
 have B_ {q_ : Nat} {r_ : _} (h_ : decode _ q_ = r_) := hb hby h_
 have hown : ss_.vm.findClass sc7 = some mm_.cls := hown
 have N0 := Fr.nil n0
 have Z0 : n0 ≤ h0.size := by have q := O0.2.1; rw [O0.1] at q; exact q
 have K0 : Keep h0 h0 [] := Keep.refl _ _
 show Go_ s₁ (mkF mm_ 0 #[vi 1, vi 8] [])
 refine sp_ (fun t_ k_ => XS.iloadN X0.here hx rfl (B_ dk75) rfl  (XS.iloadN X0.here hx rfl (B_ dk76) rfl  k_)) ?_
 show Go_ s₁ (mkF mm_ 2 #[vi 1, vi 8] [(.int 8), (.int 1)])
 refine sp_ (fun t_ k_ => XS.icmpNo X0.here hx rfl (B_ dk77) rfl (flt (by decide : ¬ ((8 : Int32) < (1 : Int32)))).2.2.1 k_) ?_
 show Go_ s₁ (mkF mm_ 5 #[vi 1, vi 8] [])
 refine sp_ (fun t_ k_ => XS.iloadN X0.here hx rfl (B_ dk78) rfl  (XS.goto X0.here hx rfl (pc0 := 6) (pc' := 10) rfl (B_ dk79) (by decide) (by decide) k_)) ?_
 show Go_ s₁ (mkF mm_ 10 #[vi 1, vi 8] [(.int 1)])
 obtain ⟨fs, hr, hrun, hended, hW, hsame⟩ := X0.leave (v := some (.int 1)) (rN Bd.returns)
 refine ⟨_, _, ?_, hrun, hended, _, _, rfl, ?_, ⟨_, rfl⟩, hW, hsame.mono (by decide) (by decide)⟩
 · exact retI X0 hx Bd.returns (B_ dk80) hr
 · show QrmMin8_1 Z  h0 n0 (some (.int 1)) s₁.heap _
   rw [e0]
   exact ⟨rfl, rfl, rfl⟩
theorem ef_rmMin8_2 (mm_ : MethodId)  : entryFrame mm_ #[(.int 2), (.int 8)] 2 = (mkF mm_ 0 #[vi 2, vi 8] []) := by first | (simp [entryFrame, mkF, argsToLocals, Value.category]; done) | rfl
def QrmMin8_2 (Z : State)  (h0 : Heap) (n0 : Nat) (vv_ : Option Value) (hh_ : Heap) (LL_ : List Loc) : Prop := (vv_ = some (.int 2)) ∧ (LL_ = []) ∧ (hh_ = h0)
theorem rmMin8_2 (l : Launch) (Z : State) (a0 : Array Value) (hw : own_Hw a0 Z) (ws : List Jvm.Cond)  (h0 : Heap) (n0 : Nat) (O0 : Old Z n0 h0) :
 own_MF l Z ym0 J7 2 (some .int) ws (rm_ 0 0 0 0) #[(.int 2), (.int 8)] h0 (QrmMin8_2 Z  h0 n0) := by
 refine own_met (by decide +kernel : plainFor ym0 = true) (fun m_ => ef_rmMin8_2 m_ ) fun pp_ ee_ ss_ mm_ bb_ me_ cc_ s₁ Bd hx hby hml hown hZ hh X0 e0 => ?_
 have B_ {q_ : Nat} {r_ : _} (h_ : decode _ q_ = r_) := hb hby h_
 have hown : ss_.vm.findClass sc7 = some mm_.cls := hown
 have N0 := Fr.nil n0
 have Z0 : n0 ≤ h0.size := by have q := O0.2.1; rw [O0.1] at q; exact q
 have K0 : Keep h0 h0 [] := Keep.refl _ _
 show Go_ s₁ (mkF mm_ 0 #[vi 2, vi 8] [])
 refine sp_ (fun t_ k_ => XS.iloadN X0.here hx rfl (B_ dk75) rfl  (XS.iloadN X0.here hx rfl (B_ dk76) rfl  k_)) ?_
 show Go_ s₁ (mkF mm_ 2 #[vi 2, vi 8] [(.int 8), (.int 2)])
 refine sp_ (fun t_ k_ => XS.icmpNo X0.here hx rfl (B_ dk77) rfl (flt (by decide : ¬ ((8 : Int32) < (2 : Int32)))).2.2.1 k_) ?_
 show Go_ s₁ (mkF mm_ 5 #[vi 2, vi 8] [])
 refine sp_ (fun t_ k_ => XS.iloadN X0.here hx rfl (B_ dk78) rfl  (XS.goto X0.here hx rfl (pc0 := 6) (pc' := 10) rfl (B_ dk79) (by decide) (by decide) k_)) ?_
 show Go_ s₁ (mkF mm_ 10 #[vi 2, vi 8] [(.int 2)])
 obtain ⟨fs, hr, hrun, hended, hW, hsame⟩ := X0.leave (v := some (.int 2)) (rN Bd.returns)
 refine ⟨_, _, ?_, hrun, hended, _, _, rfl, ?_, ⟨_, rfl⟩, hW, hsame.mono (by decide) (by decide)⟩
 · exact retI X0 hx Bd.returns (B_ dk80) hr
 · show QrmMin8_2 Z  h0 n0 (some (.int 2)) s₁.heap _
   rw [e0]
   exact ⟨rfl, rfl, rfl⟩
theorem ef_rmMin8_3 (mm_ : MethodId)  : entryFrame mm_ #[(.int 3), (.int 8)] 2 = (mkF mm_ 0 #[vi 3, vi 8] []) := by first | (simp [entryFrame, mkF, argsToLocals, Value.category]; done) | rfl
def QrmMin8_3 (Z : State)  (h0 : Heap) (n0 : Nat) (vv_ : Option Value) (hh_ : Heap) (LL_ : List Loc) : Prop := (vv_ = some (.int 3)) ∧ (LL_ = []) ∧ (hh_ = h0)
theorem rmMin8_3 (l : Launch) (Z : State) (a0 : Array Value) (hw : own_Hw a0 Z) (ws : List Jvm.Cond)  (h0 : Heap) (n0 : Nat) (O0 : Old Z n0 h0) :
 own_MF l Z ym0 J7 2 (some .int) ws (rm_ 0 0 0 0) #[(.int 3), (.int 8)] h0 (QrmMin8_3 Z  h0 n0) := by
 refine own_met (by decide +kernel : plainFor ym0 = true) (fun m_ => ef_rmMin8_3 m_ ) fun pp_ ee_ ss_ mm_ bb_ me_ cc_ s₁ Bd hx hby hml hown hZ hh X0 e0 => ?_
 have B_ {q_ : Nat} {r_ : _} (h_ : decode _ q_ = r_) := hb hby h_
 have hown : ss_.vm.findClass sc7 = some mm_.cls := hown
 have N0 := Fr.nil n0
 have Z0 : n0 ≤ h0.size := by have q := O0.2.1; rw [O0.1] at q; exact q
 have K0 : Keep h0 h0 [] := Keep.refl _ _
 show Go_ s₁ (mkF mm_ 0 #[vi 3, vi 8] [])
 refine sp_ (fun t_ k_ => XS.iloadN X0.here hx rfl (B_ dk75) rfl  (XS.iloadN X0.here hx rfl (B_ dk76) rfl  k_)) ?_
 show Go_ s₁ (mkF mm_ 2 #[vi 3, vi 8] [(.int 8), (.int 3)])
 refine sp_ (fun t_ k_ => XS.icmpNo X0.here hx rfl (B_ dk77) rfl (flt (by decide : ¬ ((8 : Int32) < (3 : Int32)))).2.2.1 k_) ?_
 show Go_ s₁ (mkF mm_ 5 #[vi 3, vi 8] [])
 refine sp_ (fun t_ k_ => XS.iloadN X0.here hx rfl (B_ dk78) rfl  (XS.goto X0.here hx rfl (pc0 := 6) (pc' := 10) rfl (B_ dk79) (by decide) (by decide) k_)) ?_
 show Go_ s₁ (mkF mm_ 10 #[vi 3, vi 8] [(.int 3)])
 obtain ⟨fs, hr, hrun, hended, hW, hsame⟩ := X0.leave (v := some (.int 3)) (rN Bd.returns)
 refine ⟨_, _, ?_, hrun, hended, _, _, rfl, ?_, ⟨_, rfl⟩, hW, hsame.mono (by decide) (by decide)⟩
 · exact retI X0 hx Bd.returns (B_ dk80) hr
 · show QrmMin8_3 Z  h0 n0 (some (.int 3)) s₁.heap _
   rw [e0]
   exact ⟨rfl, rfl, rfl⟩
theorem ef_rmMin0_1 (mm_ : MethodId)  : entryFrame mm_ #[(.int 0), (.int 1)] 2 = (mkF mm_ 0 #[vi 0, vi 1] []) := by first | (simp [entryFrame, mkF, argsToLocals, Value.category]; done) | rfl
def QrmMin0_1 (Z : State)  (h0 : Heap) (n0 : Nat) (vv_ : Option Value) (hh_ : Heap) (LL_ : List Loc) : Prop := (vv_ = some (.int 0)) ∧ (LL_ = []) ∧ (hh_ = h0)
theorem rmMin0_1 (l : Launch) (Z : State) (a0 : Array Value) (hw : own_Hw a0 Z) (ws : List Jvm.Cond)  (h0 : Heap) (n0 : Nat) (O0 : Old Z n0 h0) :
 own_MF l Z ym0 J7 2 (some .int) ws (rm_ 0 0 0 0) #[(.int 0), (.int 1)] h0 (QrmMin0_1 Z  h0 n0) := by
 refine own_met (by decide +kernel : plainFor ym0 = true) (fun m_ => ef_rmMin0_1 m_ ) fun pp_ ee_ ss_ mm_ bb_ me_ cc_ s₁ Bd hx hby hml hown hZ hh X0 e0 => ?_
 have B_ {q_ : Nat} {r_ : _} (h_ : decode _ q_ = r_) := hb hby h_
 have hown : ss_.vm.findClass sc7 = some mm_.cls := hown
 have N0 := Fr.nil n0
 have Z0 : n0 ≤ h0.size := by have q := O0.2.1; rw [O0.1] at q; exact q
 have K0 : Keep h0 h0 [] := Keep.refl _ _
 show Go_ s₁ (mkF mm_ 0 #[vi 0, vi 1] [])
 refine sp_ (fun t_ k_ => XS.iloadN X0.here hx rfl (B_ dk75) rfl  (XS.iloadN X0.here hx rfl (B_ dk76) rfl  k_)) ?_
 show Go_ s₁ (mkF mm_ 2 #[vi 0, vi 1] [(.int 1), (.int 0)])
 refine sp_ (fun t_ k_ => XS.icmpNo X0.here hx rfl (B_ dk77) rfl (flt (by decide : ¬ ((1 : Int32) < (0 : Int32)))).2.2.1 k_) ?_
 show Go_ s₁ (mkF mm_ 5 #[vi 0, vi 1] [])
 refine sp_ (fun t_ k_ => XS.iloadN X0.here hx rfl (B_ dk78) rfl  (XS.goto X0.here hx rfl (pc0 := 6) (pc' := 10) rfl (B_ dk79) (by decide) (by decide) k_)) ?_
 show Go_ s₁ (mkF mm_ 10 #[vi 0, vi 1] [(.int 0)])
 obtain ⟨fs, hr, hrun, hended, hW, hsame⟩ := X0.leave (v := some (.int 0)) (rN Bd.returns)
 refine ⟨_, _, ?_, hrun, hended, _, _, rfl, ?_, ⟨_, rfl⟩, hW, hsame.mono (by decide) (by decide)⟩
 · exact retI X0 hx Bd.returns (B_ dk80) hr
 · show QrmMin0_1 Z  h0 n0 (some (.int 0)) s₁.heap _
   rw [e0]
   exact ⟨rfl, rfl, rfl⟩
theorem ef_rmMin1_2 (mm_ : MethodId)  : entryFrame mm_ #[(.int 1), (.int 2)] 2 = (mkF mm_ 0 #[vi 1, vi 2] []) := by first | (simp [entryFrame, mkF, argsToLocals, Value.category]; done) | rfl
def QrmMin1_2 (Z : State)  (h0 : Heap) (n0 : Nat) (vv_ : Option Value) (hh_ : Heap) (LL_ : List Loc) : Prop := (vv_ = some (.int 1)) ∧ (LL_ = []) ∧ (hh_ = h0)
theorem rmMin1_2 (l : Launch) (Z : State) (a0 : Array Value) (hw : own_Hw a0 Z) (ws : List Jvm.Cond)  (h0 : Heap) (n0 : Nat) (O0 : Old Z n0 h0) :
 own_MF l Z ym0 J7 2 (some .int) ws (rm_ 0 0 0 0) #[(.int 1), (.int 2)] h0 (QrmMin1_2 Z  h0 n0) := by
 refine own_met (by decide +kernel : plainFor ym0 = true) (fun m_ => ef_rmMin1_2 m_ ) fun pp_ ee_ ss_ mm_ bb_ me_ cc_ s₁ Bd hx hby hml hown hZ hh X0 e0 => ?_
 have B_ {q_ : Nat} {r_ : _} (h_ : decode _ q_ = r_) := hb hby h_
 have hown : ss_.vm.findClass sc7 = some mm_.cls := hown
 have N0 := Fr.nil n0
 have Z0 : n0 ≤ h0.size := by have q := O0.2.1; rw [O0.1] at q; exact q
 have K0 : Keep h0 h0 [] := Keep.refl _ _
 show Go_ s₁ (mkF mm_ 0 #[vi 1, vi 2] [])
 refine sp_ (fun t_ k_ => XS.iloadN X0.here hx rfl (B_ dk75) rfl  (XS.iloadN X0.here hx rfl (B_ dk76) rfl  k_)) ?_
 show Go_ s₁ (mkF mm_ 2 #[vi 1, vi 2] [(.int 2), (.int 1)])
 refine sp_ (fun t_ k_ => XS.icmpNo X0.here hx rfl (B_ dk77) rfl (flt (by decide : ¬ ((2 : Int32) < (1 : Int32)))).2.2.1 k_) ?_
 show Go_ s₁ (mkF mm_ 5 #[vi 1, vi 2] [])
 refine sp_ (fun t_ k_ => XS.iloadN X0.here hx rfl (B_ dk78) rfl  (XS.goto X0.here hx rfl (pc0 := 6) (pc' := 10) rfl (B_ dk79) (by decide) (by decide) k_)) ?_
 show Go_ s₁ (mkF mm_ 10 #[vi 1, vi 2] [(.int 1)])
 obtain ⟨fs, hr, hrun, hended, hW, hsame⟩ := X0.leave (v := some (.int 1)) (rN Bd.returns)
 refine ⟨_, _, ?_, hrun, hended, _, _, rfl, ?_, ⟨_, rfl⟩, hW, hsame.mono (by decide) (by decide)⟩
 · exact retI X0 hx Bd.returns (B_ dk80) hr
 · show QrmMin1_2 Z  h0 n0 (some (.int 1)) s₁.heap _
   rw [e0]
   exact ⟨rfl, rfl, rfl⟩
theorem ef_rmMin2_4 (mm_ : MethodId)  : entryFrame mm_ #[(.int 2), (.int 4)] 2 = (mkF mm_ 0 #[vi 2, vi 4] []) := by first | (simp [entryFrame, mkF, argsToLocals, Value.category]; done) | rfl
def QrmMin2_4 (Z : State)  (h0 : Heap) (n0 : Nat) (vv_ : Option Value) (hh_ : Heap) (LL_ : List Loc) : Prop := (vv_ = some (.int 2)) ∧ (LL_ = []) ∧ (hh_ = h0)
theorem rmMin2_4 (l : Launch) (Z : State) (a0 : Array Value) (hw : own_Hw a0 Z) (ws : List Jvm.Cond)  (h0 : Heap) (n0 : Nat) (O0 : Old Z n0 h0) :
 own_MF l Z ym0 J7 2 (some .int) ws (rm_ 0 0 0 0) #[(.int 2), (.int 4)] h0 (QrmMin2_4 Z  h0 n0) := by
 refine own_met (by decide +kernel : plainFor ym0 = true) (fun m_ => ef_rmMin2_4 m_ ) fun pp_ ee_ ss_ mm_ bb_ me_ cc_ s₁ Bd hx hby hml hown hZ hh X0 e0 => ?_
 have B_ {q_ : Nat} {r_ : _} (h_ : decode _ q_ = r_) := hb hby h_
 have hown : ss_.vm.findClass sc7 = some mm_.cls := hown
 have N0 := Fr.nil n0
 have Z0 : n0 ≤ h0.size := by have q := O0.2.1; rw [O0.1] at q; exact q
 have K0 : Keep h0 h0 [] := Keep.refl _ _
 show Go_ s₁ (mkF mm_ 0 #[vi 2, vi 4] [])
 refine sp_ (fun t_ k_ => XS.iloadN X0.here hx rfl (B_ dk75) rfl  (XS.iloadN X0.here hx rfl (B_ dk76) rfl  k_)) ?_
 show Go_ s₁ (mkF mm_ 2 #[vi 2, vi 4] [(.int 4), (.int 2)])
 refine sp_ (fun t_ k_ => XS.icmpNo X0.here hx rfl (B_ dk77) rfl (flt (by decide : ¬ ((4 : Int32) < (2 : Int32)))).2.2.1 k_) ?_
 show Go_ s₁ (mkF mm_ 5 #[vi 2, vi 4] [])
 refine sp_ (fun t_ k_ => XS.iloadN X0.here hx rfl (B_ dk78) rfl  (XS.goto X0.here hx rfl (pc0 := 6) (pc' := 10) rfl (B_ dk79) (by decide) (by decide) k_)) ?_
 show Go_ s₁ (mkF mm_ 10 #[vi 2, vi 4] [(.int 2)])
 obtain ⟨fs, hr, hrun, hended, hW, hsame⟩ := X0.leave (v := some (.int 2)) (rN Bd.returns)
 refine ⟨_, _, ?_, hrun, hended, _, _, rfl, ?_, ⟨_, rfl⟩, hW, hsame.mono (by decide) (by decide)⟩
 · exact retI X0 hx Bd.returns (B_ dk80) hr
 · show QrmMin2_4 Z  h0 n0 (some (.int 2)) s₁.heap _
   rw [e0]
   exact ⟨rfl, rfl, rfl⟩
theorem dk81 : decode J8 0 = .ok (.iload_n 0, 1) := by decide +kernel
theorem dk82 : decode J8 1 = .ok (.iload_n 1, 1) := by decide +kernel
theorem dk83 : decode J8 2 = .ok (.if_icmp .lt 7, 3) := by decide +kernel
theorem dk84 : decode J8 5 = .ok (.iload_n 0, 1) := by decide +kernel
theorem dk85 : decode J8 6 = .ok (.goto 4, 3) := by decide +kernel
theorem dk86 : decode J8 10 = .ok (.ireturn, 1) := by decide +kernel
theorem ef_rmMax0 (mm_ : MethodId)  : entryFrame mm_ #[(.int 1), (.int 0)] 2 = (mkF mm_ 0 #[vi 1, vi 0] []) := by first | (simp [entryFrame, mkF, argsToLocals, Value.category]; done) | rfl
def QrmMax0 (Z : State)  (h0 : Heap) (n0 : Nat) (vv_ : Option Value) (hh_ : Heap) (LL_ : List Loc) : Prop := (vv_ = some (.int 1)) ∧ (LL_ = []) ∧ (hh_ = h0)
theorem rmMax0 (l : Launch) (Z : State) (a0 : Array Value) (hw : own_Hw a0 Z) (ws : List Jvm.Cond)  (h0 : Heap) (n0 : Nat) (O0 : Old Z n0 h0) :
 own_MF l Z ym4 J8 2 (some .int) ws (rm_ 0 0 0 0) #[(.int 1), (.int 0)] h0 (QrmMax0 Z  h0 n0) := by
 refine own_met (by decide +kernel : plainFor ym4 = true) (fun m_ => ef_rmMax0 m_ ) fun pp_ ee_ ss_ mm_ bb_ me_ cc_ s₁ Bd hx hby hml hown hZ hh X0 e0 => ?_
 have B_ {q_ : Nat} {r_ : _} (h_ : decode _ q_ = r_) := hb hby h_
 have hown : ss_.vm.findClass sc7 = some mm_.cls := hown
 have N0 := Fr.nil n0
 have Z0 : n0 ≤ h0.size := by have q := O0.2.1; rw [O0.1] at q; exact q
 have K0 : Keep h0 h0 [] := Keep.refl _ _
 show Go_ s₁ (mkF mm_ 0 #[vi 1, vi 0] [])
 refine sp_ (fun t_ k_ => XS.iloadN X0.here hx rfl (B_ dk81) rfl  (XS.iloadN X0.here hx rfl (B_ dk82) rfl  k_)) ?_
 show Go_ s₁ (mkF mm_ 2 #[vi 1, vi 0] [(.int 0), (.int 1)])
 refine sp_ (fun t_ k_ => XS.icmpNo X0.here hx rfl (B_ dk83) rfl (flt (by decide : ¬ ((1 : Int32) < (0 : Int32)))).1 k_) ?_
 show Go_ s₁ (mkF mm_ 5 #[vi 1, vi 0] [])
 refine sp_ (fun t_ k_ => XS.iloadN X0.here hx rfl (B_ dk84) rfl  (XS.goto X0.here hx rfl (pc0 := 6) (pc' := 10) rfl (B_ dk85) (by decide) (by decide) k_)) ?_
 show Go_ s₁ (mkF mm_ 10 #[vi 1, vi 0] [(.int 1)])
 obtain ⟨fs, hr, hrun, hended, hW, hsame⟩ := X0.leave (v := some (.int 1)) (rN Bd.returns)
 refine ⟨_, _, ?_, hrun, hended, _, _, rfl, ?_, ⟨_, rfl⟩, hW, hsame.mono (by decide) (by decide)⟩
 · exact retI X0 hx Bd.returns (B_ dk86) hr
 · show QrmMax0 Z  h0 n0 (some (.int 1)) s₁.heap _
   rw [e0]
   exact ⟨rfl, rfl, rfl⟩
theorem dk87 : decode J8 9 = .ok (.iload_n 1, 1) := by decide +kernel
theorem ef_rmMax1 (mm_ : MethodId)  : entryFrame mm_ #[(.int 1), (.int 2)] 2 = (mkF mm_ 0 #[vi 1, vi 2] []) := by first | (simp [entryFrame, mkF, argsToLocals, Value.category]; done) | rfl
def QrmMax1 (Z : State)  (h0 : Heap) (n0 : Nat) (vv_ : Option Value) (hh_ : Heap) (LL_ : List Loc) : Prop := (vv_ = some (.int 2)) ∧ (LL_ = []) ∧ (hh_ = h0)
theorem rmMax1 (l : Launch) (Z : State) (a0 : Array Value) (hw : own_Hw a0 Z) (ws : List Jvm.Cond)  (h0 : Heap) (n0 : Nat) (O0 : Old Z n0 h0) :
 own_MF l Z ym4 J8 2 (some .int) ws (rm_ 0 0 0 0) #[(.int 1), (.int 2)] h0 (QrmMax1 Z  h0 n0) := by
 refine own_met (by decide +kernel : plainFor ym4 = true) (fun m_ => ef_rmMax1 m_ ) fun pp_ ee_ ss_ mm_ bb_ me_ cc_ s₁ Bd hx hby hml hown hZ hh X0 e0 => ?_
 have B_ {q_ : Nat} {r_ : _} (h_ : decode _ q_ = r_) := hb hby h_
 have hown : ss_.vm.findClass sc7 = some mm_.cls := hown
 have N0 := Fr.nil n0
 have Z0 : n0 ≤ h0.size := by have q := O0.2.1; rw [O0.1] at q; exact q
 have K0 : Keep h0 h0 [] := Keep.refl _ _
 show Go_ s₁ (mkF mm_ 0 #[vi 1, vi 2] [])
 refine sp_ (fun t_ k_ => XS.iloadN X0.here hx rfl (B_ dk81) rfl  (XS.iloadN X0.here hx rfl (B_ dk82) rfl  k_)) ?_
 show Go_ s₁ (mkF mm_ 2 #[vi 1, vi 2] [(.int 2), (.int 1)])
 refine sp_ (fun t_ k_ => XS.icmpYes X0.here hx rfl (pc0 := 2) (pc' := 9) rfl (B_ dk83) rfl (tlt (by decide : (1 : Int32) < (2 : Int32))).1 (by decide) (by decide) k_) ?_
 show Go_ s₁ (mkF mm_ 9 #[vi 1, vi 2] [])
 refine sp_ (fun t_ k_ => XS.iloadN X0.here hx rfl (B_ dk87) rfl  k_) ?_
 show Go_ s₁ (mkF mm_ 10 #[vi 1, vi 2] [(.int 2)])
 obtain ⟨fs, hr, hrun, hended, hW, hsame⟩ := X0.leave (v := some (.int 2)) (rN Bd.returns)
 refine ⟨_, _, ?_, hrun, hended, _, _, rfl, ?_, ⟨_, rfl⟩, hW, hsame.mono (by decide) (by decide)⟩
 · exact retI X0 hx Bd.returns (B_ dk86) hr
 · show QrmMax1 Z  h0 n0 (some (.int 2)) s₁.heap _
   rw [e0]
   exact ⟨rfl, rfl, rfl⟩
theorem ef_rmMax2 (mm_ : MethodId)  : entryFrame mm_ #[(.int 1), (.int 4)] 2 = (mkF mm_ 0 #[vi 1, vi 4] []) := by first | (simp [entryFrame, mkF, argsToLocals, Value.category]; done) | rfl
def QrmMax2 (Z : State)  (h0 : Heap) (n0 : Nat) (vv_ : Option Value) (hh_ : Heap) (LL_ : List Loc) : Prop := (vv_ = some (.int 4)) ∧ (LL_ = []) ∧ (hh_ = h0)
theorem rmMax2 (l : Launch) (Z : State) (a0 : Array Value) (hw : own_Hw a0 Z) (ws : List Jvm.Cond)  (h0 : Heap) (n0 : Nat) (O0 : Old Z n0 h0) :
 own_MF l Z ym4 J8 2 (some .int) ws (rm_ 0 0 0 0) #[(.int 1), (.int 4)] h0 (QrmMax2 Z  h0 n0) := by
 refine own_met (by decide +kernel : plainFor ym4 = true) (fun m_ => ef_rmMax2 m_ ) fun pp_ ee_ ss_ mm_ bb_ me_ cc_ s₁ Bd hx hby hml hown hZ hh X0 e0 => ?_
 have B_ {q_ : Nat} {r_ : _} (h_ : decode _ q_ = r_) := hb hby h_
 have hown : ss_.vm.findClass sc7 = some mm_.cls := hown
 have N0 := Fr.nil n0
 have Z0 : n0 ≤ h0.size := by have q := O0.2.1; rw [O0.1] at q; exact q
 have K0 : Keep h0 h0 [] := Keep.refl _ _
 show Go_ s₁ (mkF mm_ 0 #[vi 1, vi 4] [])
 refine sp_ (fun t_ k_ => XS.iloadN X0.here hx rfl (B_ dk81) rfl  (XS.iloadN X0.here hx rfl (B_ dk82) rfl  k_)) ?_
 show Go_ s₁ (mkF mm_ 2 #[vi 1, vi 4] [(.int 4), (.int 1)])
 refine sp_ (fun t_ k_ => XS.icmpYes X0.here hx rfl (pc0 := 2) (pc' := 9) rfl (B_ dk83) rfl (tlt (by decide : (1 : Int32) < (4 : Int32))).1 (by decide) (by decide) k_) ?_
 show Go_ s₁ (mkF mm_ 9 #[vi 1, vi 4] [])
 refine sp_ (fun t_ k_ => XS.iloadN X0.here hx rfl (B_ dk87) rfl  k_) ?_
 show Go_ s₁ (mkF mm_ 10 #[vi 1, vi 4] [(.int 4)])
 obtain ⟨fs, hr, hrun, hended, hW, hsame⟩ := X0.leave (v := some (.int 4)) (rN Bd.returns)
 refine ⟨_, _, ?_, hrun, hended, _, _, rfl, ?_, ⟨_, rfl⟩, hW, hsame.mono (by decide) (by decide)⟩
 · exact retI X0 hx Bd.returns (B_ dk86) hr
 · show QrmMax2 Z  h0 n0 (some (.int 4)) s₁.heap _
   rw [e0]
   exact ⟨rfl, rfl, rfl⟩
theorem dk88 : decode J9 0 = .ok (.aload_n 2, 1) := by decide +kernel
theorem dk89 : decode J9 1 = .ok (.ldc 110, 2) := by decide +kernel
theorem dk90 : decode J9 3 = .ok (.if_acmp .ne 10, 3) := by decide +kernel
theorem dk91 : decode J9 6 = .ok (.iload_n 1, 1) := by decide +kernel
theorem dk92 : decode J9 7 = .ok (.anewarray 2, 3) := by decide +kernel
theorem dk93 : decode J9 10 = .ok (.goto 14, 3) := by decide +kernel
theorem dk94 : decode J9 24 = .ok (.astore_n 3, 1) := by decide +kernel
theorem dk95 : decode J9 25 = .ok (.aload_n 0, 1) := by decide +kernel
theorem dk96 : decode J9 26 = .ok (.iconst 0, 1) := by decide +kernel
theorem dk97 : decode J9 27 = .ok (.aload_n 3, 1) := by decide +kernel
theorem dk98 : decode J9 28 = .ok (.iconst 0, 1) := by decide +kernel
theorem dk99 : decode J9 29 = .ok (.aload_n 0, 1) := by decide +kernel
theorem dk100 : decode J9 30 = .ok (.arraylength, 1) := by decide +kernel
theorem dk101 : decode J9 31 = .ok (.iload_n 1, 1) := by decide +kernel
theorem dk102 : decode J9 32 = .ok (.invokestatic 304, 3) := by decide +kernel
theorem pd_5 : parseMethodDescriptor "(II)I" = some ⟨[.int, .int], some .int⟩ := by decide +kernel
theorem dk103 : decode J9 35 = .ok (.invokestatic 150, 3) := by decide +kernel
theorem dk104 : decode J9 38 = .ok (.aload_n 3, 1) := by decide +kernel
theorem dk105 : decode J9 39 = .ok (.areturn, 1) := by decide +kernel
theorem pn_java_util_Arrays : plainName "java/util/Arrays" = true := by first | (simp [plainName, overriddenIn]; done) | decide +kernel
theorem ef_rmC3_0 (mm_ : MethodId) (ar : Addr) (mir : Addr) : entryFrame mm_ #[(.ref ar), (.int 1), (.ref mir)] 4 = (mkF mm_ 0 #[vr ar, vi 1, vr mir, un] []) := by first | (simp [entryFrame, mkF, argsToLocals, Value.category]; done) | rfl
def QrmC3_0 (Z : State) (ar : Addr) (mir : Addr) (k : ClassId) (h0 : Heap) (n0 : Nat) (vv_ : Option Value) (hh_ : Heap) (LL_ : List Loc) : Prop := ∃ (nr : Addr), ∃ (k2 : ClassId), (vv_ = some (.ref nr)) ∧ (Fr n0 LL_) ∧ (Keep h0 hh_ []) ∧ (h0.size ≤ nr) ∧ (Exa Z hh_ nr sc3) ∧ (Arv Z hh_ nr k2 (.object sc2) (1 : Int32) [.null] .null) ∧ (Ovr Z k2 sc2)
theorem rmC3_0 (l : Launch) (Z : State) (a0 : Array Value) (hw : own_Hw a0 Z) (ws : List Jvm.Cond) (ar : Addr) (mir : Addr) (k : ClassId) {w_ca : Addr} (h0 : Heap) (n0 : Nat) (O0 : Old Z n0 h0) (G_ : own_St Z w_ca mir) (pr0 : Arv Z h0 ar k (.object sc2) (0 : Int32) [] .null) :
 own_MF l Z ym10 J9 4 (some (.array (.object sc2))) ws (rm_ 1 1 1 60) #[(.ref ar), (.int 1), (.ref mir)] h0 (QrmC3_0 Z ar mir k h0 n0) := by
 refine own_met (plainFor_of_name pn_java_util_Arrays) (fun m_ => ef_rmC3_0 m_ ar mir) fun pp_ ee_ ss_ mm_ bb_ me_ cc_ s₁ Bd hx hby hml hown hZ hh X0 e0 => ?_
 have B_ {q_ : Nat} {r_ : _} (h_ : decode _ q_ = r_) := hb hby h_
 have hown : ss_.vm.findClass sc9 = some mm_.cls := hown
 have N0 := Fr.nil n0
 have Z0 : n0 ≤ h0.size := by have q := O0.2.1; rw [O0.1] at q; exact q
 have K0 : Keep h0 h0 [] := Keep.refl _ _
 obtain ⟨G_hi, G_ca, G_cc, G_mi⟩ := id G_
 show Go_ s₁ (mkF mm_ 0 #[vr ar, vi 1, vr mir, un] [])
 refine sp_ (fun t_ k_ => XS.aloadN X0.here hx rfl (B_ dk88) rfl rfl k_) ?_
 show Go_ s₁ (mkF mm_ 1 #[vr ar, vi 1, vr mir, un] [(.ref mir)])
 obtain ⟨T1, X1, e1, st1⟩ := own_ldcM X0 hx hZ hown (w_ hw 83 rfl) G_mi e0 (g := (mkF mm_ 1 #[vr ar, vi 1, vr mir, un] [(.ref mir)])) rfl (B_ dk89)
 refine sp_ st1 ?_
 show Go_ T1 (mkF mm_ 3 #[vr ar, vi 1, vr mir, un] [(.ref mir), (.ref mir)])
 refine sp_ (fun t_ k_ => Jvm.RoadKit.acmp (g := (mkF mm_ 3 #[vr ar, vi 1, vr mir, un] [(.ref mir), (.ref mir)])) X1 hx rfl rfl rfl (pc0 := 3) (pc' := 6) (same := true) rfl (B_ dk90) rfl (decide_eq_true rfl) (by decide) (by decide) (XS.iloadN X1.here hx rfl (B_ dk91) rfl  k_)) ?_
 obtain ⟨T2, h2, k2, X2, e2, E2, A2, Ex2, Ov2, st2⟩ := newRE X1 hx hZ hown (w_ hw 84 rfl) (w_ hw 25 rfl) e1 (g := (mkF mm_ 7 #[vr ar, vi 1, vr mir, un] [(.int 1)])) rfl (B_ dk92) rfl (by decide) (cap := 1) (by decide) (by decide) (by decide) (by decide) (ad := sc3) (by decide)
 obtain ⟨b2, q2⟩ : ∃ z, z = h0.size := ⟨_, rfl⟩
 rw [← q2] at A2 Ex2 st2
 have lo_b2 : h0.size ≤ b2 := Nat.le_trans K0.1 (Nat.le_of_eq q2.symm)
 have g_b2 : n0 ≤ b2 := Nat.le_trans Z0 lo_b2
 refine sp_ st2 ?_
 have V2 : Arv Z h2 b2 k2 (.object sc2) (1 : Int32) [.null] .null := (Arv.new A2 (by decide)).pad (pad_rep [] .null 1)
 show Go_ T2 (mkF mm_ 10 #[vr ar, vi 1, vr mir, un] [(.ref b2)])
 refine sp_ (fun t_ k_ => XS.goto X2.here hx rfl (pc0 := 10) (pc' := 24) rfl (B_ dk93) (by decide) (by decide) (XS.astoreN X2.here hx rfl (B_ dk94) rfl rfl (l' := #[vr ar, vi 1, vr mir, vr b2]) rfl (XS.aloadN X2.here hx rfl (B_ dk95) rfl rfl (XS.iconst X2.here hx rfl (B_ dk96) (XS.aloadN X2.here hx rfl (B_ dk97) rfl rfl (XS.iconst X2.here hx rfl (B_ dk98) (XS.aloadN X2.here hx rfl (B_ dk99) rfl rfl k_))))))) ?_
 have f3 : Arv Z h2 ar k (.object sc2) (0 : Int32) [] .null := (pr0.ext E2)
 obtain ⟨cl4, Ar4, -, S4, M4, -, -⟩ := id f3
 refine sp_ (fun t_ k_ => X2.arraylength hx (by rw [e2]; exact Ar4.1) (State.isArrayOf_alike hZ.alike Ar4.2.1) (g := (mkF mm_ 30 #[vr ar, vi 1, vr mir, vr b2] [(.ref ar), (.int 0), (.ref b2), (.int 0), (.ref ar)])) rfl rfl (B_ dk100) t_ (by rw [len_of S4 M4]; exact k_)) ?_
 show Go_ T2 (mkF mm_ 31 #[vr ar, vi 1, vr mir, vr b2] [(.int 0), (.int 0), (.ref b2), (.int 0), (.ref ar)])
 refine sp_ (fun t_ k_ => XS.iloadN X2.here hx rfl (B_ dk101) rfl  k_) ?_
 have O6 : Old Z n0 h2 := (O0.ext E2)
 obtain ⟨_, T5, Lc5, X5, hQ5, st5⟩ := own_cS X2 hx hZ hown (w_ hw 85 rfl) (w_ hw 21 rfl) (w_ hw 22 rfl) (w_ hw 23 rfl) (by decide) (backOf (W := 4) (rmMin0_1 l Z a0 hw []  h2 n0 O6 ) hZ (w_ hw 23 rfl) (w_ hw 22 rfl) (by decide) (by decide)) (g := (mkF mm_ 32 #[vr ar, vi 1, vr mir, vr b2] [(.int 1), (.int 0), (.int 0), (.ref b2), (.int 0), (.ref ar)])) rfl hml.symm (argsL := [(.int 0), (.int 1)]) (rest := [(.int 0), (.ref b2), (.int 0), (.ref ar)]) (lenOf pd_5 rfl) rfl (Nat.le_of_eq rfl) (B_ dk102) rfl e2 (by decide) (by decide)
 obtain ⟨rfl, rfl, Eh5⟩ := hQ5
 have N5 := Fr.app N0 (Fr.nil n0)
 refine jp_ st5 ?_
 have Cp7 := cpA (us := []) X5 hx hZ hown (w_ hw 86 rfl) (w_ hw 89 rfl) (w_ hw 87 rfl) (w_ hw 88 rfl) Eh5 f3 (V2 : Arv Z h2 b2 k2 (.object sc2) (1 : Int32) [.null] .null) (Or.inr ⟨rfl, rfl, trivial⟩) (sp := (0 : Int32)) (dp := (0 : Int32)) (nn := (0 : Int32)) (by decide) (by decide) (by decide) (by decide) (by decide) rfl (Nat.le_of_ble_eq_true rfl) N5 g_b2 (g := (mkF mm_ 35 #[vr ar, vi 1, vr mir, vr b2] [(.int 0), (.int 0), (.ref b2), (.int 0), (.ref ar)])) rfl hml.symm rfl (B_ dk103) (by decide) (W := 0) (Nat.le_of_eq rfl) (by decide)
 obtain ⟨T7, h7, L7, X7, e7, N7, K7, V7, st7⟩ := Cp7
 refine sp_ st7 ?_
 have Vr7 : Arv Z h7 b2 k2 (.object sc2) (1 : Int32) [.null] .null := V7
 show Go_ T7 (mkF mm_ 38 #[vr ar, vi 1, vr mir, vr b2] [])
 refine sp_ (fun t_ k_ => XS.aloadN X7.here hx rfl (B_ dk104) rfl rfl k_) ?_
 show Go_ T7 (mkF mm_ 39 #[vr ar, vi 1, vr mir, vr b2] [(.ref b2)])
 have K8 : Keep h0 h7 [] := ((K0.ext E2).trans K7 (allS (Or.inr lo_b2) all0))
 have f9 : Exa Z h7 b2 sc3 := (Ex2.keep K7)
 obtain ⟨fs, hr, hrun, hended, hW, hsame⟩ := X7.leave (v := some (.ref b2)) (rN Bd.returns)
 refine ⟨_, _, ?_, hrun, hended, _, _, rfl, ?_, ⟨_, rfl⟩, hW, hsame.mono (by decide) (by decide)⟩
 · jvm_step X7.here [X7.here.top, hx, (B_ dk105), X7.method', Bd.returns, Value.isRef, FieldType.isReference]
   first | (intro acts; rw [hr _ acts rfl rfl rfl]) | rw [hr _ _ rfl rfl rfl]
   exact Steps.refl _
 · show QrmC3_0 Z ar mir k h0 n0 (some (.ref b2)) T7.heap _
   rw [e7]
   exact ⟨b2, k2, rfl, N7, K8, lo_b2, f9, Vr7, Ov2⟩
theorem dk106 : decode J10 0 = .ok (.aload_n 0, 1) := by decide +kernel
theorem dk107 : decode J10 1 = .ok (.iload_n 1, 1) := by decide +kernel
theorem dk108 : decode J10 2 = .ok (.aload_n 0, 1) := by decide +kernel
theorem dk109 : decode J10 3 = .ok (.invokevirtual 86, 3) := by decide +kernel
theorem dk110 : decode J10 6 = .ok (.invokestatic 300, 3) := by decide +kernel
theorem pd_6 : parseMethodDescriptor "([Ljava/lang/Object;ILjava/lang/Class;)[Ljava/lang/Object;" = some ⟨[(.array (.object "java/lang/Object")), .int, (.object "java/lang/Class")], some (.array (.object "java/lang/Object"))⟩ := by decide +kernel
theorem dk111 : decode J10 9 = .ok (.areturn, 1) := by decide +kernel
theorem ef_rmC2_0 (mm_ : MethodId) (ar : Addr) : entryFrame mm_ #[(.ref ar), (.int 1)] 2 = (mkF mm_ 0 #[vr ar, vi 1] []) := by first | (simp [entryFrame, mkF, argsToLocals, Value.category]; done) | rfl
def QrmC2_0 (Z : State) (ar : Addr) (k : ClassId) (h0 : Heap) (n0 : Nat) (vv_ : Option Value) (hh_ : Heap) (LL_ : List Loc) : Prop := ∃ (nr : Addr), ∃ (k2 : ClassId), (vv_ = some (.ref nr)) ∧ (Fr n0 LL_) ∧ (Keep h0 hh_ []) ∧ (h0.size ≤ nr) ∧ (Exa Z hh_ nr sc3) ∧ (Arv Z hh_ nr k2 (.object sc2) (1 : Int32) [.null] .null) ∧ (Ovr Z k2 sc2)
theorem rmC2_0 (l : Launch) (Z : State) (a0 : Array Value) (hw : own_Hw a0 Z) (ws : List Jvm.Cond) (ar : Addr) (k : ClassId) {w_ca : Addr} {mir : Addr} (h0 : Heap) (n0 : Nat) (O0 : Old Z n0 h0) (G_ : own_St Z w_ca mir) (pr0 : Arv Z h0 ar k (.object sc2) (0 : Int32) [] .null) (pr1 : Exa Z h0 ar sc3) :
 own_MF l Z ym11 J10 2 (some (.array (.object sc2))) ws (rm_ 2 1 1 75) #[(.ref ar), (.int 1)] h0 (QrmC2_0 Z ar k h0 n0) := by
 refine own_met (plainFor_of_name pn_java_util_Arrays) (fun m_ => ef_rmC2_0 m_ ar) fun pp_ ee_ ss_ mm_ bb_ me_ cc_ s₁ Bd hx hby hml hown hZ hh X0 e0 => ?_
 have B_ {q_ : Nat} {r_ : _} (h_ : decode _ q_ = r_) := hb hby h_
 have hown : ss_.vm.findClass sc9 = some mm_.cls := hown
 have N0 := Fr.nil n0
 have Z0 : n0 ≤ h0.size := by have q := O0.2.1; rw [O0.1] at q; exact q
 have K0 : Keep h0 h0 [] := Keep.refl _ _
 obtain ⟨G_hi, G_ca, G_cc, G_mi⟩ := id G_
 show Go_ s₁ (mkF mm_ 0 #[vr ar, vi 1] [])
 refine sp_ (fun t_ k_ => XS.aloadN X0.here hx rfl (B_ dk106) rfl rfl (XS.iloadN X0.here hx rfl (B_ dk107) rfl  (XS.aloadN X0.here hx rfl (B_ dk108) rfl rfl k_))) ?_
 obtain ⟨T1, X1, e1, st1⟩ := own_gcls X0 hx hZ hown (w_ hw 74 rfl) (w_ hw 75 rfl) (w_ hw 77 rfl) (w_ hw 76 rfl) (w_ hw 78 rfl) e0 pr1 G_mi (g := (mkF mm_ 3 #[vr ar, vi 1] [(.ref ar), (.int 1), (.ref ar)])) rfl hml.symm rfl (B_ dk109) (by decide) (W := 2) (Nat.le_of_eq rfl) (by decide)
 refine sp_ st1 ?_
 obtain ⟨_, T2, Lc2, X2, hQ2, st2⟩ := own_cS X1 hx hZ hown (w_ hw 80 rfl) (w_ hw 81 rfl) (w_ hw 72 rfl) (w_ hw 82 rfl) (by decide) (backOf (W := 0) (rmC3_0 l Z a0 hw [] ar mir k h0 n0 O0 G_ pr0) hZ (w_ hw 82 rfl) (w_ hw 72 rfl) (by decide) (by decide)) (g := (mkF mm_ 6 #[vr ar, vi 1] [(.ref mir), (.int 1), (.ref ar)])) rfl hml.symm (argsL := [(.ref ar), (.int 1), (.ref mir)]) (rest := []) (lenOf pd_6 rfl) rfl (Nat.le_of_eq rfl) (B_ dk110) rfl e1 (by decide) (by decide)
 obtain ⟨nr_2, k2_2, rfl, Nq2, Kc2, r2_0, r2_1, r2_2, r2_3⟩ := hQ2
 have N2 := Fr.app N0 Nq2
 have lo_nr_2 : h0.size ≤ nr_2 := Nat.le_trans K0.1 r2_0
 have g_nr_2 : n0 ≤ nr_2 := Nat.le_trans Z0 lo_nr_2
 refine jp_ st2 ?_
 show Go_ T2 (mkF mm_ 9 #[vr ar, vi 1] [(.ref nr_2)])
 have K3 : Keep h0 T2.heap [] := (K0.trans Kc2 all0)
 obtain ⟨fs, hr, hrun, hended, hW, hsame⟩ := X2.leave (v := some (.ref nr_2)) (rN Bd.returns)
 refine ⟨_, _, ?_, hrun, hended, _, _, rfl, ?_, ⟨_, rfl⟩, hW, hsame.mono (by decide) (by decide)⟩
 · jvm_step X2.here [X2.here.top, hx, (B_ dk111), X2.method', Bd.returns, Value.isRef, FieldType.isReference]
   first | (intro acts; rw [hr _ acts rfl rfl rfl]) | rw [hr _ _ rfl rfl rfl]
   exact Steps.refl _
 · show QrmC2_0 Z ar k h0 n0 (some (.ref nr_2)) T2.heap _
   exact ⟨nr_2, k2_2, rfl, N2, K3, lo_nr_2, r2_1, r2_2, r2_3⟩
theorem ef_rmC3_1 (mm_ : MethodId) (ar : Addr) (mir : Addr) : entryFrame mm_ #[(.ref ar), (.int 2), (.ref mir)] 4 = (mkF mm_ 0 #[vr ar, vi 2, vr mir, un] []) := by first | (simp [entryFrame, mkF, argsToLocals, Value.category]; done) | rfl
def QrmC3_1 (Z : State) (ar : Addr) (mir : Addr) (k : ClassId) (r0 : Addr) (h0 : Heap) (n0 : Nat) (vv_ : Option Value) (hh_ : Heap) (LL_ : List Loc) : Prop := ∃ (nr : Addr), ∃ (k2 : ClassId), (vv_ = some (.ref nr)) ∧ (Fr n0 LL_) ∧ (Keep h0 hh_ []) ∧ (h0.size ≤ nr) ∧ (Exa Z hh_ nr sc3) ∧ (Arv Z hh_ nr k2 (.object sc2) (2 : Int32) [(.ref r0), .null] .null) ∧ (Ovr Z k2 sc2)
theorem rmC3_1 (l : Launch) (Z : State) (a0 : Array Value) (hw : own_Hw a0 Z) (ws : List Jvm.Cond) (ar : Addr) (mir : Addr) (k : ClassId) (r0 : Addr) {w_ca : Addr} (h0 : Heap) (n0 : Nat) (O0 : Old Z n0 h0) (G_ : own_St Z w_ca mir) (pr0 : Arv Z h0 ar k (.object sc2) (1 : Int32) [(.ref r0)] .null) (pr1 : Exa Z h0 r0 sc0) :
 own_MF l Z ym10 J9 4 (some (.array (.object sc2))) ws (rm_ 1 1 2 60) #[(.ref ar), (.int 2), (.ref mir)] h0 (QrmC3_1 Z ar mir k r0 h0 n0) := by
 refine own_met (plainFor_of_name pn_java_util_Arrays) (fun m_ => ef_rmC3_1 m_ ar mir) fun pp_ ee_ ss_ mm_ bb_ me_ cc_ s₁ Bd hx hby hml hown hZ hh X0 e0 => ?_
 have B_ {q_ : Nat} {r_ : _} (h_ : decode _ q_ = r_) := hb hby h_
 have hown : ss_.vm.findClass sc9 = some mm_.cls := hown
 have N0 := Fr.nil n0
 have Z0 : n0 ≤ h0.size := by have q := O0.2.1; rw [O0.1] at q; exact q
 have K0 : Keep h0 h0 [] := Keep.refl _ _
 obtain ⟨G_hi, G_ca, G_cc, G_mi⟩ := id G_
 show Go_ s₁ (mkF mm_ 0 #[vr ar, vi 2, vr mir, un] [])
 refine sp_ (fun t_ k_ => XS.aloadN X0.here hx rfl (B_ dk88) rfl rfl k_) ?_
 show Go_ s₁ (mkF mm_ 1 #[vr ar, vi 2, vr mir, un] [(.ref mir)])
 obtain ⟨T1, X1, e1, st1⟩ := own_ldcM X0 hx hZ hown (w_ hw 83 rfl) G_mi e0 (g := (mkF mm_ 1 #[vr ar, vi 2, vr mir, un] [(.ref mir)])) rfl (B_ dk89)
 refine sp_ st1 ?_
 show Go_ T1 (mkF mm_ 3 #[vr ar, vi 2, vr mir, un] [(.ref mir), (.ref mir)])
 refine sp_ (fun t_ k_ => Jvm.RoadKit.acmp (g := (mkF mm_ 3 #[vr ar, vi 2, vr mir, un] [(.ref mir), (.ref mir)])) X1 hx rfl rfl rfl (pc0 := 3) (pc' := 6) (same := true) rfl (B_ dk90) rfl (decide_eq_true rfl) (by decide) (by decide) (XS.iloadN X1.here hx rfl (B_ dk91) rfl  k_)) ?_
 obtain ⟨T2, h2, k2, X2, e2, E2, A2, Ex2, Ov2, st2⟩ := newRE X1 hx hZ hown (w_ hw 84 rfl) (w_ hw 25 rfl) e1 (g := (mkF mm_ 7 #[vr ar, vi 2, vr mir, un] [(.int 2)])) rfl (B_ dk92) rfl (by decide) (cap := 2) (by decide) (by decide) (by decide) (by decide) (ad := sc3) (by decide)
 obtain ⟨b2, q2⟩ : ∃ z, z = h0.size := ⟨_, rfl⟩
 rw [← q2] at A2 Ex2 st2
 have lo_b2 : h0.size ≤ b2 := Nat.le_trans K0.1 (Nat.le_of_eq q2.symm)
 have g_b2 : n0 ≤ b2 := Nat.le_trans Z0 lo_b2
 refine sp_ st2 ?_
 have V2 : Arv Z h2 b2 k2 (.object sc2) (2 : Int32) [.null, .null] .null := (Arv.new A2 (by decide)).pad (pad_rep [] .null 2)
 show Go_ T2 (mkF mm_ 10 #[vr ar, vi 2, vr mir, un] [(.ref b2)])
 refine sp_ (fun t_ k_ => XS.goto X2.here hx rfl (pc0 := 10) (pc' := 24) rfl (B_ dk93) (by decide) (by decide) (XS.astoreN X2.here hx rfl (B_ dk94) rfl rfl (l' := #[vr ar, vi 2, vr mir, vr b2]) rfl (XS.aloadN X2.here hx rfl (B_ dk95) rfl rfl (XS.iconst X2.here hx rfl (B_ dk96) (XS.aloadN X2.here hx rfl (B_ dk97) rfl rfl (XS.iconst X2.here hx rfl (B_ dk98) (XS.aloadN X2.here hx rfl (B_ dk99) rfl rfl k_))))))) ?_
 have f3 : Arv Z h2 ar k (.object sc2) (1 : Int32) [(.ref r0)] .null := (pr0.ext E2)
 obtain ⟨cl4, Ar4, -, S4, M4, -, -⟩ := id f3
 refine sp_ (fun t_ k_ => X2.arraylength hx (by rw [e2]; exact Ar4.1) (State.isArrayOf_alike hZ.alike Ar4.2.1) (g := (mkF mm_ 30 #[vr ar, vi 2, vr mir, vr b2] [(.ref ar), (.int 0), (.ref b2), (.int 0), (.ref ar)])) rfl rfl (B_ dk100) t_ (by rw [len_of S4 M4]; exact k_)) ?_
 show Go_ T2 (mkF mm_ 31 #[vr ar, vi 2, vr mir, vr b2] [(.int 1), (.int 0), (.ref b2), (.int 0), (.ref ar)])
 refine sp_ (fun t_ k_ => XS.iloadN X2.here hx rfl (B_ dk101) rfl  k_) ?_
 have O6 : Old Z n0 h2 := (O0.ext E2)
 obtain ⟨_, T5, Lc5, X5, hQ5, st5⟩ := own_cS X2 hx hZ hown (w_ hw 85 rfl) (w_ hw 21 rfl) (w_ hw 22 rfl) (w_ hw 23 rfl) (by decide) (backOf (W := 4) (rmMin1_2 l Z a0 hw []  h2 n0 O6 ) hZ (w_ hw 23 rfl) (w_ hw 22 rfl) (by decide) (by decide)) (g := (mkF mm_ 32 #[vr ar, vi 2, vr mir, vr b2] [(.int 2), (.int 1), (.int 0), (.ref b2), (.int 0), (.ref ar)])) rfl hml.symm (argsL := [(.int 1), (.int 2)]) (rest := [(.int 0), (.ref b2), (.int 0), (.ref ar)]) (lenOf pd_5 rfl) rfl (Nat.le_of_eq rfl) (B_ dk102) rfl e2 (by decide) (by decide)
 obtain ⟨rfl, rfl, Eh5⟩ := hQ5
 have N5 := Fr.app N0 (Fr.nil n0)
 refine jp_ st5 ?_
 have pB7 := V2
 obtain ⟨clB7, ArB7, qB7, -, -, -, -⟩ := pB7
 have f8 : Exa Z h2 r0 sc0 := (pr1.ext E2)
 have Cp7 := cpA (us := [(.ref r0)]) X5 hx hZ hown (w_ hw 86 rfl) (w_ hw 89 rfl) (w_ hw 87 rfl) (w_ hw 88 rfl) Eh5 f3 (V2 : Arv Z h2 b2 k2 (.object sc2) (2 : Int32) [.null, .null] .null) (Or.inr ⟨rfl, rfl, ⟨(Sto.ofV ArB7 qB7 Ov2 (Ins.of_exa f8 (w_ hw 51 rfl))), trivial⟩⟩) (sp := (0 : Int32)) (dp := (0 : Int32)) (nn := (1 : Int32)) (by decide) (by decide) (by decide) (by decide) (by decide) rfl (Nat.le_of_ble_eq_true rfl) N5 g_b2 (g := (mkF mm_ 35 #[vr ar, vi 2, vr mir, vr b2] [(.int 1), (.int 0), (.ref b2), (.int 0), (.ref ar)])) rfl hml.symm rfl (B_ dk103) (by decide) (W := 0) (Nat.le_of_eq rfl) (by decide)
 obtain ⟨T7, h7, L7, X7, e7, N7, K7, V7, st7⟩ := Cp7
 refine sp_ st7 ?_
 have Vr7 : Arv Z h7 b2 k2 (.object sc2) (2 : Int32) [(.ref r0), .null] .null := V7
 show Go_ T7 (mkF mm_ 38 #[vr ar, vi 2, vr mir, vr b2] [])
 refine sp_ (fun t_ k_ => XS.aloadN X7.here hx rfl (B_ dk104) rfl rfl k_) ?_
 show Go_ T7 (mkF mm_ 39 #[vr ar, vi 2, vr mir, vr b2] [(.ref b2)])
 have K9 : Keep h0 h7 [] := ((K0.ext E2).trans K7 (allS (Or.inr lo_b2) all0))
 have f10 : Exa Z h7 b2 sc3 := (Ex2.keep K7)
 obtain ⟨fs, hr, hrun, hended, hW, hsame⟩ := X7.leave (v := some (.ref b2)) (rN Bd.returns)
 refine ⟨_, _, ?_, hrun, hended, _, _, rfl, ?_, ⟨_, rfl⟩, hW, hsame.mono (by decide) (by decide)⟩
 · jvm_step X7.here [X7.here.top, hx, (B_ dk105), X7.method', Bd.returns, Value.isRef, FieldType.isReference]
   first | (intro acts; rw [hr _ acts rfl rfl rfl]) | rw [hr _ _ rfl rfl rfl]
   exact Steps.refl _
 · show QrmC3_1 Z ar mir k r0 h0 n0 (some (.ref b2)) T7.heap _
   rw [e7]
   exact ⟨b2, k2, rfl, N7, K9, lo_b2, f10, Vr7, Ov2⟩
theorem ef_rmC2_1 (mm_ : MethodId) (ar : Addr) : entryFrame mm_ #[(.ref ar), (.int 2)] 2 = (mkF mm_ 0 #[vr ar, vi 2] []) := by first | (simp [entryFrame, mkF, argsToLocals, Value.category]; done) | rfl
def QrmC2_1 (Z : State) (ar : Addr) (k : ClassId) (r0 : Addr) (h0 : Heap) (n0 : Nat) (vv_ : Option Value) (hh_ : Heap) (LL_ : List Loc) : Prop := ∃ (nr : Addr), ∃ (k2 : ClassId), (vv_ = some (.ref nr)) ∧ (Fr n0 LL_) ∧ (Keep h0 hh_ []) ∧ (h0.size ≤ nr) ∧ (Exa Z hh_ nr sc3) ∧ (Arv Z hh_ nr k2 (.object sc2) (2 : Int32) [(.ref r0), .null] .null) ∧ (Ovr Z k2 sc2)
theorem rmC2_1 (l : Launch) (Z : State) (a0 : Array Value) (hw : own_Hw a0 Z) (ws : List Jvm.Cond) (ar : Addr) (k : ClassId) (r0 : Addr) {w_ca : Addr} {mir : Addr} (h0 : Heap) (n0 : Nat) (O0 : Old Z n0 h0) (G_ : own_St Z w_ca mir) (pr0 : Arv Z h0 ar k (.object sc2) (1 : Int32) [(.ref r0)] .null) (pr1 : Exa Z h0 ar sc3) (pr2 : Exa Z h0 r0 sc0) :
 own_MF l Z ym11 J10 2 (some (.array (.object sc2))) ws (rm_ 2 1 2 75) #[(.ref ar), (.int 2)] h0 (QrmC2_1 Z ar k r0 h0 n0) := by
 refine own_met (plainFor_of_name pn_java_util_Arrays) (fun m_ => ef_rmC2_1 m_ ar) fun pp_ ee_ ss_ mm_ bb_ me_ cc_ s₁ Bd hx hby hml hown hZ hh X0 e0 => ?_
 have B_ {q_ : Nat} {r_ : _} (h_ : decode _ q_ = r_) := hb hby h_
 have hown : ss_.vm.findClass sc9 = some mm_.cls := hown
 have N0 := Fr.nil n0
 have Z0 : n0 ≤ h0.size := by have q := O0.2.1; rw [O0.1] at q; exact q
 have K0 : Keep h0 h0 [] := Keep.refl _ _
 obtain ⟨G_hi, G_ca, G_cc, G_mi⟩ := id G_
 show Go_ s₁ (mkF mm_ 0 #[vr ar, vi 2] [])
 refine sp_ (fun t_ k_ => XS.aloadN X0.here hx rfl (B_ dk106) rfl rfl (XS.iloadN X0.here hx rfl (B_ dk107) rfl  (XS.aloadN X0.here hx rfl (B_ dk108) rfl rfl k_))) ?_
 obtain ⟨T1, X1, e1, st1⟩ := own_gcls X0 hx hZ hown (w_ hw 74 rfl) (w_ hw 75 rfl) (w_ hw 77 rfl) (w_ hw 76 rfl) (w_ hw 78 rfl) e0 pr1 G_mi (g := (mkF mm_ 3 #[vr ar, vi 2] [(.ref ar), (.int 2), (.ref ar)])) rfl hml.symm rfl (B_ dk109) (by decide) (W := 2) (Nat.le_of_eq rfl) (by decide)
 refine sp_ st1 ?_
 obtain ⟨_, T2, Lc2, X2, hQ2, st2⟩ := own_cS X1 hx hZ hown (w_ hw 80 rfl) (w_ hw 81 rfl) (w_ hw 72 rfl) (w_ hw 82 rfl) (by decide) (backOf (W := 0) (rmC3_1 l Z a0 hw [] ar mir k r0 h0 n0 O0 G_ pr0 pr2) hZ (w_ hw 82 rfl) (w_ hw 72 rfl) (by decide) (by decide)) (g := (mkF mm_ 6 #[vr ar, vi 2] [(.ref mir), (.int 2), (.ref ar)])) rfl hml.symm (argsL := [(.ref ar), (.int 2), (.ref mir)]) (rest := []) (lenOf pd_6 rfl) rfl (Nat.le_of_eq rfl) (B_ dk110) rfl e1 (by decide) (by decide)
 obtain ⟨nr_2, k2_2, rfl, Nq2, Kc2, r2_0, r2_1, r2_2, r2_3⟩ := hQ2
 have N2 := Fr.app N0 Nq2
 have lo_nr_2 : h0.size ≤ nr_2 := Nat.le_trans K0.1 r2_0
 have g_nr_2 : n0 ≤ nr_2 := Nat.le_trans Z0 lo_nr_2
 refine jp_ st2 ?_
 show Go_ T2 (mkF mm_ 9 #[vr ar, vi 2] [(.ref nr_2)])
 have K3 : Keep h0 T2.heap [] := (K0.trans Kc2 all0)
 obtain ⟨fs, hr, hrun, hended, hW, hsame⟩ := X2.leave (v := some (.ref nr_2)) (rN Bd.returns)
 refine ⟨_, _, ?_, hrun, hended, _, _, rfl, ?_, ⟨_, rfl⟩, hW, hsame.mono (by decide) (by decide)⟩
 · jvm_step X2.here [X2.here.top, hx, (B_ dk111), X2.method', Bd.returns, Value.isRef, FieldType.isReference]
   first | (intro acts; rw [hr _ acts rfl rfl rfl]) | rw [hr _ _ rfl rfl rfl]
   exact Steps.refl _
 · show QrmC2_1 Z ar k r0 h0 n0 (some (.ref nr_2)) T2.heap _
   exact ⟨nr_2, k2_2, rfl, N2, K3, lo_nr_2, r2_1, r2_2, r2_3⟩
theorem ef_rmC3_2 (mm_ : MethodId) (ar : Addr) (mir : Addr) : entryFrame mm_ #[(.ref ar), (.int 4), (.ref mir)] 4 = (mkF mm_ 0 #[vr ar, vi 4, vr mir, un] []) := by first | (simp [entryFrame, mkF, argsToLocals, Value.category]; done) | rfl
def QrmC3_2 (Z : State) (ar : Addr) (mir : Addr) (k : ClassId) (r0 : Addr) (r1 : Addr) (h0 : Heap) (n0 : Nat) (vv_ : Option Value) (hh_ : Heap) (LL_ : List Loc) : Prop := ∃ (nr : Addr), ∃ (k2 : ClassId), (vv_ = some (.ref nr)) ∧ (Fr n0 LL_) ∧ (Keep h0 hh_ []) ∧ (h0.size ≤ nr) ∧ (Exa Z hh_ nr sc3) ∧ (Arv Z hh_ nr k2 (.object sc2) (4 : Int32) [(.ref r0), (.ref r1), .null, .null] .null) ∧ (Ovr Z k2 sc2)
theorem rmC3_2 (l : Launch) (Z : State) (a0 : Array Value) (hw : own_Hw a0 Z) (ws : List Jvm.Cond) (ar : Addr) (mir : Addr) (k : ClassId) (r0 : Addr) (r1 : Addr) {w_ca : Addr} (h0 : Heap) (n0 : Nat) (O0 : Old Z n0 h0) (G_ : own_St Z w_ca mir) (pr0 : Arv Z h0 ar k (.object sc2) (2 : Int32) [(.ref r0), (.ref r1)] .null) (pr1 : Exa Z h0 r0 sc0) (pr2 : Exa Z h0 r1 sc0) :
 own_MF l Z ym10 J9 4 (some (.array (.object sc2))) ws (rm_ 1 1 4 60) #[(.ref ar), (.int 4), (.ref mir)] h0 (QrmC3_2 Z ar mir k r0 r1 h0 n0) := by
 refine own_met (plainFor_of_name pn_java_util_Arrays) (fun m_ => ef_rmC3_2 m_ ar mir) fun pp_ ee_ ss_ mm_ bb_ me_ cc_ s₁ Bd hx hby hml hown hZ hh X0 e0 => ?_
 have B_ {q_ : Nat} {r_ : _} (h_ : decode _ q_ = r_) := hb hby h_
 have hown : ss_.vm.findClass sc9 = some mm_.cls := hown
 have N0 := Fr.nil n0
 have Z0 : n0 ≤ h0.size := by have q := O0.2.1; rw [O0.1] at q; exact q
 have K0 : Keep h0 h0 [] := Keep.refl _ _
 obtain ⟨G_hi, G_ca, G_cc, G_mi⟩ := id G_
 show Go_ s₁ (mkF mm_ 0 #[vr ar, vi 4, vr mir, un] [])
 refine sp_ (fun t_ k_ => XS.aloadN X0.here hx rfl (B_ dk88) rfl rfl k_) ?_
 show Go_ s₁ (mkF mm_ 1 #[vr ar, vi 4, vr mir, un] [(.ref mir)])
 obtain ⟨T1, X1, e1, st1⟩ := own_ldcM X0 hx hZ hown (w_ hw 83 rfl) G_mi e0 (g := (mkF mm_ 1 #[vr ar, vi 4, vr mir, un] [(.ref mir)])) rfl (B_ dk89)
 refine sp_ st1 ?_
 show Go_ T1 (mkF mm_ 3 #[vr ar, vi 4, vr mir, un] [(.ref mir), (.ref mir)])
 refine sp_ (fun t_ k_ => Jvm.RoadKit.acmp (g := (mkF mm_ 3 #[vr ar, vi 4, vr mir, un] [(.ref mir), (.ref mir)])) X1 hx rfl rfl rfl (pc0 := 3) (pc' := 6) (same := true) rfl (B_ dk90) rfl (decide_eq_true rfl) (by decide) (by decide) (XS.iloadN X1.here hx rfl (B_ dk91) rfl  k_)) ?_
 obtain ⟨T2, h2, k2, X2, e2, E2, A2, Ex2, Ov2, st2⟩ := newRE X1 hx hZ hown (w_ hw 84 rfl) (w_ hw 25 rfl) e1 (g := (mkF mm_ 7 #[vr ar, vi 4, vr mir, un] [(.int 4)])) rfl (B_ dk92) rfl (by decide) (cap := 4) (by decide) (by decide) (by decide) (by decide) (ad := sc3) (by decide)
 obtain ⟨b2, q2⟩ : ∃ z, z = h0.size := ⟨_, rfl⟩
 rw [← q2] at A2 Ex2 st2
 have lo_b2 : h0.size ≤ b2 := Nat.le_trans K0.1 (Nat.le_of_eq q2.symm)
 have g_b2 : n0 ≤ b2 := Nat.le_trans Z0 lo_b2
 refine sp_ st2 ?_
 have V2 : Arv Z h2 b2 k2 (.object sc2) (4 : Int32) [.null, .null, .null, .null] .null := (Arv.new A2 (by decide)).pad (pad_rep [] .null 4)
 show Go_ T2 (mkF mm_ 10 #[vr ar, vi 4, vr mir, un] [(.ref b2)])
 refine sp_ (fun t_ k_ => XS.goto X2.here hx rfl (pc0 := 10) (pc' := 24) rfl (B_ dk93) (by decide) (by decide) (XS.astoreN X2.here hx rfl (B_ dk94) rfl rfl (l' := #[vr ar, vi 4, vr mir, vr b2]) rfl (XS.aloadN X2.here hx rfl (B_ dk95) rfl rfl (XS.iconst X2.here hx rfl (B_ dk96) (XS.aloadN X2.here hx rfl (B_ dk97) rfl rfl (XS.iconst X2.here hx rfl (B_ dk98) (XS.aloadN X2.here hx rfl (B_ dk99) rfl rfl k_))))))) ?_
 have f3 : Arv Z h2 ar k (.object sc2) (2 : Int32) [(.ref r0), (.ref r1)] .null := (pr0.ext E2)
 obtain ⟨cl4, Ar4, -, S4, M4, -, -⟩ := id f3
 refine sp_ (fun t_ k_ => X2.arraylength hx (by rw [e2]; exact Ar4.1) (State.isArrayOf_alike hZ.alike Ar4.2.1) (g := (mkF mm_ 30 #[vr ar, vi 4, vr mir, vr b2] [(.ref ar), (.int 0), (.ref b2), (.int 0), (.ref ar)])) rfl rfl (B_ dk100) t_ (by rw [len_of S4 M4]; exact k_)) ?_
 show Go_ T2 (mkF mm_ 31 #[vr ar, vi 4, vr mir, vr b2] [(.int 2), (.int 0), (.ref b2), (.int 0), (.ref ar)])
 refine sp_ (fun t_ k_ => XS.iloadN X2.here hx rfl (B_ dk101) rfl  k_) ?_
 have O6 : Old Z n0 h2 := (O0.ext E2)
 obtain ⟨_, T5, Lc5, X5, hQ5, st5⟩ := own_cS X2 hx hZ hown (w_ hw 85 rfl) (w_ hw 21 rfl) (w_ hw 22 rfl) (w_ hw 23 rfl) (by decide) (backOf (W := 4) (rmMin2_4 l Z a0 hw []  h2 n0 O6 ) hZ (w_ hw 23 rfl) (w_ hw 22 rfl) (by decide) (by decide)) (g := (mkF mm_ 32 #[vr ar, vi 4, vr mir, vr b2] [(.int 4), (.int 2), (.int 0), (.ref b2), (.int 0), (.ref ar)])) rfl hml.symm (argsL := [(.int 2), (.int 4)]) (rest := [(.int 0), (.ref b2), (.int 0), (.ref ar)]) (lenOf pd_5 rfl) rfl (Nat.le_of_eq rfl) (B_ dk102) rfl e2 (by decide) (by decide)
 obtain ⟨rfl, rfl, Eh5⟩ := hQ5
 have N5 := Fr.app N0 (Fr.nil n0)
 refine jp_ st5 ?_
 have pB7 := V2
 obtain ⟨clB7, ArB7, qB7, -, -, -, -⟩ := pB7
 have f8 : Exa Z h2 r0 sc0 := (pr1.ext E2)
 have f9 : Exa Z h2 r1 sc0 := (pr2.ext E2)
 have Cp7 := cpA (us := [(.ref r0), (.ref r1)]) X5 hx hZ hown (w_ hw 86 rfl) (w_ hw 89 rfl) (w_ hw 87 rfl) (w_ hw 88 rfl) Eh5 f3 (V2 : Arv Z h2 b2 k2 (.object sc2) (4 : Int32) [.null, .null, .null, .null] .null) (Or.inr ⟨rfl, rfl, ⟨(Sto.ofV ArB7 qB7 Ov2 (Ins.of_exa f8 (w_ hw 51 rfl))), (Sto.ofV ArB7 qB7 Ov2 (Ins.of_exa f9 (w_ hw 51 rfl))), trivial⟩⟩) (sp := (0 : Int32)) (dp := (0 : Int32)) (nn := (2 : Int32)) (by decide) (by decide) (by decide) (by decide) (by decide) rfl (Nat.le_of_ble_eq_true rfl) N5 g_b2 (g := (mkF mm_ 35 #[vr ar, vi 4, vr mir, vr b2] [(.int 2), (.int 0), (.ref b2), (.int 0), (.ref ar)])) rfl hml.symm rfl (B_ dk103) (by decide) (W := 0) (Nat.le_of_eq rfl) (by decide)
 obtain ⟨T7, h7, L7, X7, e7, N7, K7, V7, st7⟩ := Cp7
 refine sp_ st7 ?_
 have Vr7 : Arv Z h7 b2 k2 (.object sc2) (4 : Int32) [(.ref r0), (.ref r1), .null, .null] .null := V7
 show Go_ T7 (mkF mm_ 38 #[vr ar, vi 4, vr mir, vr b2] [])
 refine sp_ (fun t_ k_ => XS.aloadN X7.here hx rfl (B_ dk104) rfl rfl k_) ?_
 show Go_ T7 (mkF mm_ 39 #[vr ar, vi 4, vr mir, vr b2] [(.ref b2)])
 have K10 : Keep h0 h7 [] := ((K0.ext E2).trans K7 (allS (Or.inr lo_b2) all0))
 have f11 : Exa Z h7 b2 sc3 := (Ex2.keep K7)
 obtain ⟨fs, hr, hrun, hended, hW, hsame⟩ := X7.leave (v := some (.ref b2)) (rN Bd.returns)
 refine ⟨_, _, ?_, hrun, hended, _, _, rfl, ?_, ⟨_, rfl⟩, hW, hsame.mono (by decide) (by decide)⟩
 · jvm_step X7.here [X7.here.top, hx, (B_ dk105), X7.method', Bd.returns, Value.isRef, FieldType.isReference]
   first | (intro acts; rw [hr _ acts rfl rfl rfl]) | rw [hr _ _ rfl rfl rfl]
   exact Steps.refl _
 · show QrmC3_2 Z ar mir k r0 r1 h0 n0 (some (.ref b2)) T7.heap _
   rw [e7]
   exact ⟨b2, k2, rfl, N7, K10, lo_b2, f11, Vr7, Ov2⟩
theorem ef_rmC2_2 (mm_ : MethodId) (ar : Addr) : entryFrame mm_ #[(.ref ar), (.int 4)] 2 = (mkF mm_ 0 #[vr ar, vi 4] []) := by first | (simp [entryFrame, mkF, argsToLocals, Value.category]; done) | rfl
def QrmC2_2 (Z : State) (ar : Addr) (k : ClassId) (r0 : Addr) (r1 : Addr) (h0 : Heap) (n0 : Nat) (vv_ : Option Value) (hh_ : Heap) (LL_ : List Loc) : Prop := ∃ (nr : Addr), ∃ (k2 : ClassId), (vv_ = some (.ref nr)) ∧ (Fr n0 LL_) ∧ (Keep h0 hh_ []) ∧ (h0.size ≤ nr) ∧ (Exa Z hh_ nr sc3) ∧ (Arv Z hh_ nr k2 (.object sc2) (4 : Int32) [(.ref r0), (.ref r1), .null, .null] .null) ∧ (Ovr Z k2 sc2)
theorem rmC2_2 (l : Launch) (Z : State) (a0 : Array Value) (hw : own_Hw a0 Z) (ws : List Jvm.Cond) (ar : Addr) (k : ClassId) (r0 : Addr) (r1 : Addr) {w_ca : Addr} {mir : Addr} (h0 : Heap) (n0 : Nat) (O0 : Old Z n0 h0) (G_ : own_St Z w_ca mir) (pr0 : Arv Z h0 ar k (.object sc2) (2 : Int32) [(.ref r0), (.ref r1)] .null) (pr1 : Exa Z h0 ar sc3) (pr2 : Exa Z h0 r0 sc0) (pr3 : Exa Z h0 r1 sc0) :
 own_MF l Z ym11 J10 2 (some (.array (.object sc2))) ws (rm_ 2 1 4 75) #[(.ref ar), (.int 4)] h0 (QrmC2_2 Z ar k r0 r1 h0 n0) := by
 refine own_met (plainFor_of_name pn_java_util_Arrays) (fun m_ => ef_rmC2_2 m_ ar) fun pp_ ee_ ss_ mm_ bb_ me_ cc_ s₁ Bd hx hby hml hown hZ hh X0 e0 => ?_
 have B_ {q_ : Nat} {r_ : _} (h_ : decode _ q_ = r_) := hb hby h_
 have hown : ss_.vm.findClass sc9 = some mm_.cls := hown
 have N0 := Fr.nil n0
 have Z0 : n0 ≤ h0.size := by have q := O0.2.1; rw [O0.1] at q; exact q
 have K0 : Keep h0 h0 [] := Keep.refl _ _
 obtain ⟨G_hi, G_ca, G_cc, G_mi⟩ := id G_
 show Go_ s₁ (mkF mm_ 0 #[vr ar, vi 4] [])
 refine sp_ (fun t_ k_ => XS.aloadN X0.here hx rfl (B_ dk106) rfl rfl (XS.iloadN X0.here hx rfl (B_ dk107) rfl  (XS.aloadN X0.here hx rfl (B_ dk108) rfl rfl k_))) ?_
 obtain ⟨T1, X1, e1, st1⟩ := own_gcls X0 hx hZ hown (w_ hw 74 rfl) (w_ hw 75 rfl) (w_ hw 77 rfl) (w_ hw 76 rfl) (w_ hw 78 rfl) e0 pr1 G_mi (g := (mkF mm_ 3 #[vr ar, vi 4] [(.ref ar), (.int 4), (.ref ar)])) rfl hml.symm rfl (B_ dk109) (by decide) (W := 2) (Nat.le_of_eq rfl) (by decide)
 refine sp_ st1 ?_
 obtain ⟨_, T2, Lc2, X2, hQ2, st2⟩ := own_cS X1 hx hZ hown (w_ hw 80 rfl) (w_ hw 81 rfl) (w_ hw 72 rfl) (w_ hw 82 rfl) (by decide) (backOf (W := 0) (rmC3_2 l Z a0 hw [] ar mir k r0 r1 h0 n0 O0 G_ pr0 pr2 pr3) hZ (w_ hw 82 rfl) (w_ hw 72 rfl) (by decide) (by decide)) (g := (mkF mm_ 6 #[vr ar, vi 4] [(.ref mir), (.int 4), (.ref ar)])) rfl hml.symm (argsL := [(.ref ar), (.int 4), (.ref mir)]) (rest := []) (lenOf pd_6 rfl) rfl (Nat.le_of_eq rfl) (B_ dk110) rfl e1 (by decide) (by decide)
 obtain ⟨nr_2, k2_2, rfl, Nq2, Kc2, r2_0, r2_1, r2_2, r2_3⟩ := hQ2
 have N2 := Fr.app N0 Nq2
 have lo_nr_2 : h0.size ≤ nr_2 := Nat.le_trans K0.1 r2_0
 have g_nr_2 : n0 ≤ nr_2 := Nat.le_trans Z0 lo_nr_2
 refine jp_ st2 ?_
 show Go_ T2 (mkF mm_ 9 #[vr ar, vi 4] [(.ref nr_2)])
 have K3 : Keep h0 T2.heap [] := (K0.trans Kc2 all0)
 obtain ⟨fs, hr, hrun, hended, hW, hsame⟩ := X2.leave (v := some (.ref nr_2)) (rN Bd.returns)
 refine ⟨_, _, ?_, hrun, hended, _, _, rfl, ?_, ⟨_, rfl⟩, hW, hsame.mono (by decide) (by decide)⟩
 · jvm_step X2.here [X2.here.top, hx, (B_ dk111), X2.method', Bd.returns, Value.isRef, FieldType.isReference]
   first | (intro acts; rw [hr _ acts rfl rfl rfl]) | rw [hr _ _ rfl rfl rfl]
   exact Steps.refl _
 · show QrmC2_2 Z ar k r0 r1 h0 n0 (some (.ref nr_2)) T2.heap _
   exact ⟨nr_2, k2_2, rfl, N2, K3, lo_nr_2, r2_1, r2_2, r2_3⟩
theorem dk112 : decode J11 0 = .ok (.aload_n 0, 1) := by decide +kernel
theorem dk113 : decode J11 1 = .ok (.invokespecial 1, 3) := by decide +kernel
theorem dk114 : decode J11 4 = .ok (.return_, 1) := by decide +kernel
theorem pn_java_util_AbstractCollection : plainName "java/util/AbstractCollection" = true := by first | (simp [plainName, overriddenIn]; done) | decide +kernel
theorem ef_rmAC (mm_ : MethodId) (x : Addr) : entryFrame mm_ #[(.ref x)] 1 = (mkF mm_ 0 #[vr x] []) := by first | (simp [entryFrame, mkF, argsToLocals, Value.category]; done) | rfl
def QrmAC (Z : State) (x : Addr) (h0 : Heap) (n0 : Nat) (vv_ : Option Value) (hh_ : Heap) (LL_ : List Loc) : Prop := (vv_ = none) ∧ (LL_ = []) ∧ (hh_ = h0)
theorem rmAC (l : Launch) (Z : State) (a0 : Array Value) (hw : own_Hw a0 Z) (ws : List Jvm.Cond) (x : Addr) (h0 : Heap) (n0 : Nat) (O0 : Old Z n0 h0) :
 own_MF l Z (⟨"java/util/AbstractCollection", "<init>", "()V"⟩ : MethodName) J11 1 none ws (rm_ 1 0 0 12) #[(.ref x)] h0 (QrmAC Z x h0 n0) := by
 refine own_met (plainFor_of_name pn_java_util_AbstractCollection) (fun m_ => ef_rmAC m_ x) fun pp_ ee_ ss_ mm_ bb_ me_ cc_ s₁ Bd hx hby hml hown hZ hh X0 e0 => ?_
 have B_ {q_ : Nat} {r_ : _} (h_ : decode _ q_ = r_) := hb hby h_
 have hown : ss_.vm.findClass "java/util/AbstractCollection" = some mm_.cls := hown
 have N0 := Fr.nil n0
 have Z0 : n0 ≤ h0.size := by have q := O0.2.1; rw [O0.1] at q; exact q
 have K0 : Keep h0 h0 [] := Keep.refl _ _
 show Go_ s₁ (mkF mm_ 0 #[vr x] [])
 refine sp_ (fun t_ k_ => XS.aloadN X0.here hx rfl (B_ dk112) rfl rfl k_) ?_
 obtain ⟨T1, X1, e1, st1⟩ := initO X0 hx hZ hown (w_ hw 17 rfl) (w_ hw 18 rfl) (w_ hw 19 rfl) e0 (g := (mkF mm_ 1 #[vr x] [(.ref x)])) rfl hml.symm rfl (B_ dk113) (by decide) (W := 0) (Nat.le_of_eq rfl) (by decide)
 refine sp_ st1 ?_
 show Go_ T1 (mkF mm_ 4 #[vr x] [])
 obtain ⟨fs, hr, hrun, hended, hW, hsame⟩ := X1.leave (v := none) (fun _ => rfl)
 refine ⟨_, _, ?_, hrun, hended, _, _, rfl, ?_, ⟨_, rfl⟩, hW, hsame.mono (by decide) (by decide)⟩
 · exact X1.returnOut hx Bd.returns (B_ dk114) hr
 · show QrmAC Z x h0 n0 none T1.heap _
   rw [e1]
   exact ⟨rfl, rfl, rfl⟩
theorem dk115 : decode J12 0 = .ok (.aload_n 0, 1) := by decide +kernel
theorem dk116 : decode J12 1 = .ok (.invokespecial 1, 3) := by decide +kernel
theorem dk117 : decode J12 4 = .ok (.return_, 1) := by decide +kernel
theorem pn_java_util_AbstractSet : plainName "java/util/AbstractSet" = true := by first | (simp [plainName, overriddenIn]; done) | decide +kernel
theorem ef_rmAbS (mm_ : MethodId) (x : Addr) : entryFrame mm_ #[(.ref x)] 1 = (mkF mm_ 0 #[vr x] []) := by first | (simp [entryFrame, mkF, argsToLocals, Value.category]; done) | rfl
def QrmAbS (Z : State) (x : Addr) (h0 : Heap) (n0 : Nat) (vv_ : Option Value) (hh_ : Heap) (LL_ : List Loc) : Prop := (vv_ = none) ∧ (LL_ = []) ∧ (hh_ = h0)
theorem rmAbS (l : Launch) (Z : State) (a0 : Array Value) (hw : own_Hw a0 Z) (ws : List Jvm.Cond) (x : Addr) (h0 : Heap) (n0 : Nat) (O0 : Old Z n0 h0) :
 own_MF l Z (⟨"java/util/AbstractSet", "<init>", "()V"⟩ : MethodName) J12 1 none ws (rm_ 2 0 0 24) #[(.ref x)] h0 (QrmAbS Z x h0 n0) := by
 refine own_met (plainFor_of_name pn_java_util_AbstractSet) (fun m_ => ef_rmAbS m_ x) fun pp_ ee_ ss_ mm_ bb_ me_ cc_ s₁ Bd hx hby hml hown hZ hh X0 e0 => ?_
 have B_ {q_ : Nat} {r_ : _} (h_ : decode _ q_ = r_) := hb hby h_
 have hown : ss_.vm.findClass "java/util/AbstractSet" = some mm_.cls := hown
 have N0 := Fr.nil n0
 have Z0 : n0 ≤ h0.size := by have q := O0.2.1; rw [O0.1] at q; exact q
 have K0 : Keep h0 h0 [] := Keep.refl _ _
 show Go_ s₁ (mkF mm_ 0 #[vr x] [])
 refine sp_ (fun t_ k_ => XS.aloadN X0.here hx rfl (B_ dk115) rfl rfl k_) ?_
 obtain ⟨_, T1, Lc1, X1, hQ1, st1⟩ := own_cI X0 hx hZ rfl hown (w_ hw 11 rfl) (w_ hw 12 rfl) (w_ hw 16 rfl) (by decide) (backOf (W := 0) (rmAC l Z a0 hw [] x h0 n0 O0 ) hZ (w_ hw 16 rfl) (w_ hw 15 rfl) (by decide) (by decide)) (g := (mkF mm_ 1 #[vr x] [(.ref x)])) rfl hml.symm (a := x) (argsL := []) (rest := []) (lenOf pd_0 rfl) rfl (Nat.le_of_eq rfl) (B_ dk116) rfl e0 (by decide) (by decide)
 obtain ⟨rfl, rfl, Eh1⟩ := hQ1
 have N1 := Fr.app N0 (Fr.nil n0)
 refine jp_ st1 ?_
 show Go_ T1 (mkF mm_ 4 #[vr x] [])
 obtain ⟨fs, hr, hrun, hended, hW, hsame⟩ := X1.leave (v := none) (fun _ => rfl)
 refine ⟨_, _, ?_, hrun, hended, _, _, rfl, ?_, ⟨_, rfl⟩, hW, hsame.mono (by decide) (by decide)⟩
 · exact X1.returnOut hx Bd.returns (B_ dk117) hr
 · show QrmAbS Z x h0 n0 none T1.heap _
   rw [Eh1]
   exact ⟨rfl, rfl, rfl⟩
theorem dk118 : decode J13 0 = .ok (.aload_n 0, 1) := by decide +kernel
theorem dk119 : decode J13 1 = .ok (.invokespecial 1, 3) := by decide +kernel
theorem dk120 : decode J13 4 = .ok (.aload_n 0, 1) := by decide +kernel
theorem dk121 : decode J13 5 = .ok (.iload_n 1, 1) := by decide +kernel
theorem dk122 : decode J13 6 = .ok (.bipush 8, 2) := by decide +kernel
theorem dk123 : decode J13 8 = .ok (.invokestatic 9, 3) := by decide +kernel
theorem dk124 : decode J13 11 = .ok (.anewarray 15, 3) := by decide +kernel
theorem dk125 : decode J13 14 = .ok (.putfield 17, 3) := by decide +kernel
theorem dk126 : decode J13 17 = .ok (.return_, 1) := by decide +kernel
theorem ef_rmSI0 (mm_ : MethodId) (x : Addr) : entryFrame mm_ #[(.ref x), (.int 0)] 2 = (mkF mm_ 0 #[vr x, vi 0] []) := by first | (simp [entryFrame, mkF, argsToLocals, Value.category]; done) | rfl
def QrmSI0 (Z : State) (x : Addr) (h0 : Heap) (n0 : Nat) (vv_ : Option Value) (hh_ : Heap) (LL_ : List Loc) : Prop := ∃ (nr : Addr), ∃ (k2 : ClassId), (vv_ = none) ∧ (Fr n0 LL_) ∧ (Keep h0 hh_ [x]) ∧ (h0.size ≤ nr) ∧ (Exa Z hh_ nr sc3) ∧ (Arv Z hh_ nr k2 (.object sc2) (0 : Int32) [] .null) ∧ (Ovr Z k2 sc2) ∧ (Fld Z hh_ x sc1 "hashed" sc5 .null) ∧ (Fld Z hh_ x sc1 "members" sc3 (.ref nr)) ∧ (Fld Z hh_ x sc1 "size" "I" (.int 0))
theorem rmSI0 (l : Launch) (Z : State) (a0 : Array Value) (hw : own_Hw a0 Z) (ws : List Jvm.Cond) (x : Addr) (h0 : Heap) (n0 : Nat) (O0 : Old Z n0 h0) (pr0 : Exa Z h0 x sc1) (g_x : n0 ≤ x) (pr2 : Fld Z h0 x sc1 "hashed" sc5 .null) (pr3 : Fld Z h0 x sc1 "members" sc3 .null) (pr4 : Fld Z h0 x sc1 "size" "I" (.int 0)) :
 own_MF l Z ym9 J13 2 none ws (rm_ 3 1 0 36) #[(.ref x), (.int 0)] h0 (QrmSI0 Z x h0 n0) := by
 refine own_met (plainFor_of_name pn_com_example_compact_abox_compactabox_ArraySet) (fun m_ => ef_rmSI0 m_ x) fun pp_ ee_ ss_ mm_ bb_ me_ cc_ s₁ Bd hx hby hml hown hZ hh X0 e0 => ?_
 have B_ {q_ : Nat} {r_ : _} (h_ : decode _ q_ = r_) := hb hby h_
 have hown : ss_.vm.findClass sc1 = some mm_.cls := hown
 have N0 := Fr.nil n0
 have Z0 : n0 ≤ h0.size := by have q := O0.2.1; rw [O0.1] at q; exact q
 have K0 : Keep h0 h0 [x] := Keep.refl _ _
 show Go_ s₁ (mkF mm_ 0 #[vr x, vi 0] [])
 refine sp_ (fun t_ k_ => XS.aloadN X0.here hx rfl (B_ dk118) rfl rfl k_) ?_
 obtain ⟨_, T1, Lc1, X1, hQ1, st1⟩ := own_cI X0 hx hZ rfl hown (w_ hw 6 rfl) (w_ hw 7 rfl) (w_ hw 10 rfl) (by decide) (backOf (W := 0) (rmAbS l Z a0 hw [] x h0 n0 O0 ) hZ (w_ hw 10 rfl) (w_ hw 9 rfl) (by decide) (by decide)) (g := (mkF mm_ 1 #[vr x, vi 0] [(.ref x)])) rfl hml.symm (a := x) (argsL := []) (rest := []) (lenOf pd_0 rfl) rfl (Nat.le_of_eq rfl) (B_ dk119) rfl e0 (by decide) (by decide)
 obtain ⟨rfl, rfl, Eh1⟩ := hQ1
 have N1 := Fr.app N0 (Fr.nil n0)
 refine jp_ st1 ?_
 show Go_ T1 (mkF mm_ 4 #[vr x, vi 0] [])
 refine sp_ (fun t_ k_ => XS.aloadN X1.here hx rfl (B_ dk120) rfl rfl (XS.iloadN X1.here hx rfl (B_ dk121) rfl  (XS.bipush X1.here hx rfl (B_ dk122) k_))) ?_
 obtain ⟨_, T2, Lc2, X2, hQ2, st2⟩ := own_cS X1 hx hZ hown (w_ hw 20 rfl) (w_ hw 21 rfl) (w_ hw 22 rfl) (w_ hw 23 rfl) (by decide) (backOf (W := 1) (rmMin8_0 l Z a0 hw []  h0 n0 O0 ) hZ (w_ hw 23 rfl) (w_ hw 22 rfl) (by decide) (by decide)) (g := (mkF mm_ 8 #[vr x, vi 0] [(.int 8), (.int 0), (.ref x)])) rfl hml.symm (argsL := [(.int 0), (.int 8)]) (rest := [(.ref x)]) (lenOf pd_5 rfl) rfl (Nat.le_of_eq rfl) (B_ dk123) rfl Eh1 (by decide) (by decide)
 obtain ⟨rfl, rfl, Eh2⟩ := hQ2
 have N2 := Fr.app N1 (Fr.nil n0)
 refine jp_ st2 ?_
 obtain ⟨T3, h3, k3, X3, e3, E3, A3, Ex3, Ov3, st3⟩ := newRE X2 hx hZ hown (w_ hw 24 rfl) (w_ hw 25 rfl) Eh2 (g := (mkF mm_ 11 #[vr x, vi 0] [(.int 0), (.ref x)])) rfl (B_ dk124) rfl (by decide) (cap := 0) (by decide) (by decide) (by decide) (by decide) (ad := sc3) (by decide)
 obtain ⟨b3, q3⟩ : ∃ z, z = h0.size := ⟨_, rfl⟩
 rw [← q3] at A3 Ex3 st3
 have lo_b3 : h0.size ≤ b3 := Nat.le_trans K0.1 (Nat.le_of_eq q3.symm)
 have g_b3 : n0 ≤ b3 := Nat.le_trans Z0 lo_b3
 refine sp_ st3 ?_
 have V3 : Arv Z h3 b3 k3 (.object sc2) (0 : Int32) [] .null := (Arv.new A3 (by decide)).pad (pad_rep [] .null 0)
 have f4 : Fld Z h3 x sc1 "members" sc3 .null := (pr3.ext E3)
 have f5 : Exa Z h3 x sc1 := (pr0.ext E3)
 obtain ⟨T6, h6, X6, e6, W6, st6⟩ := putF X3 hx hZ hown (host := "") (Or.inl (w_ hw 26 rfl)) Via.refl e3 f4 f5 (Or.inl (w_ hw 27 rfl)) (w_ hw 1 rfl) (ty := (.array (.object sc2))) (by decide) rfl rfl (g := (mkF mm_ 14 #[vr x, vi 0] [(.ref b3), (.ref x)])) rfl rfl (B_ dk125)
 have F6 := f4.same W6
 have N6 := Fr.snoc X6 N2 g_x
 refine sp_ st6 ?_
 show Go_ T6 (mkF mm_ 17 #[vr x, vi 0] [])
 have K7 : Keep h0 h6 [x] := ((K0.ext E3).wr W6 (Or.inl (List.mem_of_getElem? (i := 0) rfl)))
 have f8 : Exa Z h6 b3 sc3 := (Ex3.wr W6)
 have f9 : Arv Z h6 b3 k3 (.object sc2) (0 : Int32) [] .null := (V3.other W6 (Ne.symm (Nat.ne_of_lt (Nat.lt_of_lt_of_le pr0.lt (Nat.le_of_eq q3.symm)))))
 have f10 : Fld Z h6 x sc1 "hashed" sc5 .null := ((pr2.ext E3).other W6 (Or.inr (slot_ne (Or.inl (w_ hw 41 rfl)) (Or.inl (w_ hw 27 rfl)) (by decide) (t := (.object sc6)) (t' := (.array (.object sc2))) (by decide) (by decide))))
 have f11 : Fld Z h6 x sc1 "size" "I" (.int 0) := ((pr4.ext E3).other W6 (Or.inr (slot_ne (Or.inl (w_ hw 47 rfl)) (Or.inl (w_ hw 27 rfl)) (by decide) (t := .int) (t' := (.array (.object sc2))) (by decide) (by decide))))
 obtain ⟨fs, hr, hrun, hended, hW, hsame⟩ := X6.leave (v := none) (fun _ => rfl)
 refine ⟨_, _, ?_, hrun, hended, _, _, rfl, ?_, ⟨_, rfl⟩, hW, hsame.mono (by decide) (by decide)⟩
 · exact X6.returnOut hx Bd.returns (B_ dk126) hr
 · show QrmSI0 Z x h0 n0 none T6.heap _
   rw [e6]
   exact ⟨b3, k3, rfl, N6, K7, lo_b3, f8, f9, Ov3, f10, F6, f11⟩
theorem ef_rmSI1 (mm_ : MethodId) (x : Addr) : entryFrame mm_ #[(.ref x), (.int 1)] 2 = (mkF mm_ 0 #[vr x, vi 1] []) := by first | (simp [entryFrame, mkF, argsToLocals, Value.category]; done) | rfl
def QrmSI1 (Z : State) (x : Addr) (h0 : Heap) (n0 : Nat) (vv_ : Option Value) (hh_ : Heap) (LL_ : List Loc) : Prop := ∃ (nr : Addr), ∃ (k2 : ClassId), (vv_ = none) ∧ (Fr n0 LL_) ∧ (Keep h0 hh_ [x]) ∧ (h0.size ≤ nr) ∧ (Exa Z hh_ nr sc3) ∧ (Arv Z hh_ nr k2 (.object sc2) (1 : Int32) [] .null) ∧ (Ovr Z k2 sc2) ∧ (Fld Z hh_ x sc1 "hashed" sc5 .null) ∧ (Fld Z hh_ x sc1 "members" sc3 (.ref nr)) ∧ (Fld Z hh_ x sc1 "size" "I" (.int 0))
theorem rmSI1 (l : Launch) (Z : State) (a0 : Array Value) (hw : own_Hw a0 Z) (ws : List Jvm.Cond) (x : Addr) (h0 : Heap) (n0 : Nat) (O0 : Old Z n0 h0) (pr0 : Exa Z h0 x sc1) (g_x : n0 ≤ x) (pr2 : Fld Z h0 x sc1 "hashed" sc5 .null) (pr3 : Fld Z h0 x sc1 "members" sc3 .null) (pr4 : Fld Z h0 x sc1 "size" "I" (.int 0)) :
 own_MF l Z ym9 J13 2 none ws (rm_ 3 1 1 36) #[(.ref x), (.int 1)] h0 (QrmSI1 Z x h0 n0) := by
 refine own_met (plainFor_of_name pn_com_example_compact_abox_compactabox_ArraySet) (fun m_ => ef_rmSI1 m_ x) fun pp_ ee_ ss_ mm_ bb_ me_ cc_ s₁ Bd hx hby hml hown hZ hh X0 e0 => ?_
 have B_ {q_ : Nat} {r_ : _} (h_ : decode _ q_ = r_) := hb hby h_
 have hown : ss_.vm.findClass sc1 = some mm_.cls := hown
 have N0 := Fr.nil n0
 have Z0 : n0 ≤ h0.size := by have q := O0.2.1; rw [O0.1] at q; exact q
 have K0 : Keep h0 h0 [x] := Keep.refl _ _
 show Go_ s₁ (mkF mm_ 0 #[vr x, vi 1] [])
 refine sp_ (fun t_ k_ => XS.aloadN X0.here hx rfl (B_ dk118) rfl rfl k_) ?_
 obtain ⟨_, T1, Lc1, X1, hQ1, st1⟩ := own_cI X0 hx hZ rfl hown (w_ hw 6 rfl) (w_ hw 7 rfl) (w_ hw 10 rfl) (by decide) (backOf (W := 0) (rmAbS l Z a0 hw [] x h0 n0 O0 ) hZ (w_ hw 10 rfl) (w_ hw 9 rfl) (by decide) (by decide)) (g := (mkF mm_ 1 #[vr x, vi 1] [(.ref x)])) rfl hml.symm (a := x) (argsL := []) (rest := []) (lenOf pd_0 rfl) rfl (Nat.le_of_eq rfl) (B_ dk119) rfl e0 (by decide) (by decide)
 obtain ⟨rfl, rfl, Eh1⟩ := hQ1
 have N1 := Fr.app N0 (Fr.nil n0)
 refine jp_ st1 ?_
 show Go_ T1 (mkF mm_ 4 #[vr x, vi 1] [])
 refine sp_ (fun t_ k_ => XS.aloadN X1.here hx rfl (B_ dk120) rfl rfl (XS.iloadN X1.here hx rfl (B_ dk121) rfl  (XS.bipush X1.here hx rfl (B_ dk122) k_))) ?_
 obtain ⟨_, T2, Lc2, X2, hQ2, st2⟩ := own_cS X1 hx hZ hown (w_ hw 20 rfl) (w_ hw 21 rfl) (w_ hw 22 rfl) (w_ hw 23 rfl) (by decide) (backOf (W := 1) (rmMin8_1 l Z a0 hw []  h0 n0 O0 ) hZ (w_ hw 23 rfl) (w_ hw 22 rfl) (by decide) (by decide)) (g := (mkF mm_ 8 #[vr x, vi 1] [(.int 8), (.int 1), (.ref x)])) rfl hml.symm (argsL := [(.int 1), (.int 8)]) (rest := [(.ref x)]) (lenOf pd_5 rfl) rfl (Nat.le_of_eq rfl) (B_ dk123) rfl Eh1 (by decide) (by decide)
 obtain ⟨rfl, rfl, Eh2⟩ := hQ2
 have N2 := Fr.app N1 (Fr.nil n0)
 refine jp_ st2 ?_
 obtain ⟨T3, h3, k3, X3, e3, E3, A3, Ex3, Ov3, st3⟩ := newRE X2 hx hZ hown (w_ hw 24 rfl) (w_ hw 25 rfl) Eh2 (g := (mkF mm_ 11 #[vr x, vi 1] [(.int 1), (.ref x)])) rfl (B_ dk124) rfl (by decide) (cap := 1) (by decide) (by decide) (by decide) (by decide) (ad := sc3) (by decide)
 obtain ⟨b3, q3⟩ : ∃ z, z = h0.size := ⟨_, rfl⟩
 rw [← q3] at A3 Ex3 st3
 have lo_b3 : h0.size ≤ b3 := Nat.le_trans K0.1 (Nat.le_of_eq q3.symm)
 have g_b3 : n0 ≤ b3 := Nat.le_trans Z0 lo_b3
 refine sp_ st3 ?_
 have V3 : Arv Z h3 b3 k3 (.object sc2) (1 : Int32) [.null] .null := (Arv.new A3 (by decide)).pad (pad_rep [] .null 1)
 have f4 : Fld Z h3 x sc1 "members" sc3 .null := (pr3.ext E3)
 have f5 : Exa Z h3 x sc1 := (pr0.ext E3)
 obtain ⟨T6, h6, X6, e6, W6, st6⟩ := putF X3 hx hZ hown (host := "") (Or.inl (w_ hw 26 rfl)) Via.refl e3 f4 f5 (Or.inl (w_ hw 27 rfl)) (w_ hw 1 rfl) (ty := (.array (.object sc2))) (by decide) rfl rfl (g := (mkF mm_ 14 #[vr x, vi 1] [(.ref b3), (.ref x)])) rfl rfl (B_ dk125)
 have F6 := f4.same W6
 have N6 := Fr.snoc X6 N2 g_x
 refine sp_ st6 ?_
 show Go_ T6 (mkF mm_ 17 #[vr x, vi 1] [])
 have f8 : Arv Z h6 b3 k3 (.object sc2) (1 : Int32) [.null] .null := (V3.other W6 (Ne.symm (Nat.ne_of_lt (Nat.lt_of_lt_of_le pr0.lt (Nat.le_of_eq q3.symm)))))
 have Vt7 : Arv Z h6 b3 k3 (.object sc2) (1 : Int32) [] .null := f8.pad (fun i_ => (pad_rep [] .null 1 i_).symm)
 have K9 : Keep h0 h6 [x] := ((K0.ext E3).wr W6 (Or.inl (List.mem_of_getElem? (i := 0) rfl)))
 have f10 : Exa Z h6 b3 sc3 := (Ex3.wr W6)
 have f11 : Fld Z h6 x sc1 "hashed" sc5 .null := ((pr2.ext E3).other W6 (Or.inr (slot_ne (Or.inl (w_ hw 41 rfl)) (Or.inl (w_ hw 27 rfl)) (by decide) (t := (.object sc6)) (t' := (.array (.object sc2))) (by decide) (by decide))))
 have f12 : Fld Z h6 x sc1 "size" "I" (.int 0) := ((pr4.ext E3).other W6 (Or.inr (slot_ne (Or.inl (w_ hw 47 rfl)) (Or.inl (w_ hw 27 rfl)) (by decide) (t := .int) (t' := (.array (.object sc2))) (by decide) (by decide))))
 obtain ⟨fs, hr, hrun, hended, hW, hsame⟩ := X6.leave (v := none) (fun _ => rfl)
 refine ⟨_, _, ?_, hrun, hended, _, _, rfl, ?_, ⟨_, rfl⟩, hW, hsame.mono (by decide) (by decide)⟩
 · exact X6.returnOut hx Bd.returns (B_ dk126) hr
 · show QrmSI1 Z x h0 n0 none T6.heap _
   rw [e6]
   exact ⟨b3, k3, rfl, N6, K9, lo_b3, f10, Vt7, Ov3, f11, F6, f12⟩
theorem ef_rmSI2 (mm_ : MethodId) (x : Addr) : entryFrame mm_ #[(.ref x), (.int 2)] 2 = (mkF mm_ 0 #[vr x, vi 2] []) := by first | (simp [entryFrame, mkF, argsToLocals, Value.category]; done) | rfl
def QrmSI2 (Z : State) (x : Addr) (h0 : Heap) (n0 : Nat) (vv_ : Option Value) (hh_ : Heap) (LL_ : List Loc) : Prop := ∃ (nr : Addr), ∃ (k2 : ClassId), (vv_ = none) ∧ (Fr n0 LL_) ∧ (Keep h0 hh_ [x]) ∧ (h0.size ≤ nr) ∧ (Exa Z hh_ nr sc3) ∧ (Arv Z hh_ nr k2 (.object sc2) (2 : Int32) [] .null) ∧ (Ovr Z k2 sc2) ∧ (Fld Z hh_ x sc1 "hashed" sc5 .null) ∧ (Fld Z hh_ x sc1 "members" sc3 (.ref nr)) ∧ (Fld Z hh_ x sc1 "size" "I" (.int 0))
theorem rmSI2 (l : Launch) (Z : State) (a0 : Array Value) (hw : own_Hw a0 Z) (ws : List Jvm.Cond) (x : Addr) (h0 : Heap) (n0 : Nat) (O0 : Old Z n0 h0) (pr0 : Exa Z h0 x sc1) (g_x : n0 ≤ x) (pr2 : Fld Z h0 x sc1 "hashed" sc5 .null) (pr3 : Fld Z h0 x sc1 "members" sc3 .null) (pr4 : Fld Z h0 x sc1 "size" "I" (.int 0)) :
 own_MF l Z ym9 J13 2 none ws (rm_ 3 1 2 36) #[(.ref x), (.int 2)] h0 (QrmSI2 Z x h0 n0) := by
 refine own_met (plainFor_of_name pn_com_example_compact_abox_compactabox_ArraySet) (fun m_ => ef_rmSI2 m_ x) fun pp_ ee_ ss_ mm_ bb_ me_ cc_ s₁ Bd hx hby hml hown hZ hh X0 e0 => ?_
 have B_ {q_ : Nat} {r_ : _} (h_ : decode _ q_ = r_) := hb hby h_
 have hown : ss_.vm.findClass sc1 = some mm_.cls := hown
 have N0 := Fr.nil n0
 have Z0 : n0 ≤ h0.size := by have q := O0.2.1; rw [O0.1] at q; exact q
 have K0 : Keep h0 h0 [x] := Keep.refl _ _
 show Go_ s₁ (mkF mm_ 0 #[vr x, vi 2] [])
 refine sp_ (fun t_ k_ => XS.aloadN X0.here hx rfl (B_ dk118) rfl rfl k_) ?_
 obtain ⟨_, T1, Lc1, X1, hQ1, st1⟩ := own_cI X0 hx hZ rfl hown (w_ hw 6 rfl) (w_ hw 7 rfl) (w_ hw 10 rfl) (by decide) (backOf (W := 0) (rmAbS l Z a0 hw [] x h0 n0 O0 ) hZ (w_ hw 10 rfl) (w_ hw 9 rfl) (by decide) (by decide)) (g := (mkF mm_ 1 #[vr x, vi 2] [(.ref x)])) rfl hml.symm (a := x) (argsL := []) (rest := []) (lenOf pd_0 rfl) rfl (Nat.le_of_eq rfl) (B_ dk119) rfl e0 (by decide) (by decide)
 obtain ⟨rfl, rfl, Eh1⟩ := hQ1
 have N1 := Fr.app N0 (Fr.nil n0)
 refine jp_ st1 ?_
 show Go_ T1 (mkF mm_ 4 #[vr x, vi 2] [])
 refine sp_ (fun t_ k_ => XS.aloadN X1.here hx rfl (B_ dk120) rfl rfl (XS.iloadN X1.here hx rfl (B_ dk121) rfl  (XS.bipush X1.here hx rfl (B_ dk122) k_))) ?_
 obtain ⟨_, T2, Lc2, X2, hQ2, st2⟩ := own_cS X1 hx hZ hown (w_ hw 20 rfl) (w_ hw 21 rfl) (w_ hw 22 rfl) (w_ hw 23 rfl) (by decide) (backOf (W := 1) (rmMin8_2 l Z a0 hw []  h0 n0 O0 ) hZ (w_ hw 23 rfl) (w_ hw 22 rfl) (by decide) (by decide)) (g := (mkF mm_ 8 #[vr x, vi 2] [(.int 8), (.int 2), (.ref x)])) rfl hml.symm (argsL := [(.int 2), (.int 8)]) (rest := [(.ref x)]) (lenOf pd_5 rfl) rfl (Nat.le_of_eq rfl) (B_ dk123) rfl Eh1 (by decide) (by decide)
 obtain ⟨rfl, rfl, Eh2⟩ := hQ2
 have N2 := Fr.app N1 (Fr.nil n0)
 refine jp_ st2 ?_
 obtain ⟨T3, h3, k3, X3, e3, E3, A3, Ex3, Ov3, st3⟩ := newRE X2 hx hZ hown (w_ hw 24 rfl) (w_ hw 25 rfl) Eh2 (g := (mkF mm_ 11 #[vr x, vi 2] [(.int 2), (.ref x)])) rfl (B_ dk124) rfl (by decide) (cap := 2) (by decide) (by decide) (by decide) (by decide) (ad := sc3) (by decide)
 obtain ⟨b3, q3⟩ : ∃ z, z = h0.size := ⟨_, rfl⟩
 rw [← q3] at A3 Ex3 st3
 have lo_b3 : h0.size ≤ b3 := Nat.le_trans K0.1 (Nat.le_of_eq q3.symm)
 have g_b3 : n0 ≤ b3 := Nat.le_trans Z0 lo_b3
 refine sp_ st3 ?_
 have V3 : Arv Z h3 b3 k3 (.object sc2) (2 : Int32) [.null, .null] .null := (Arv.new A3 (by decide)).pad (pad_rep [] .null 2)
 have f4 : Fld Z h3 x sc1 "members" sc3 .null := (pr3.ext E3)
 have f5 : Exa Z h3 x sc1 := (pr0.ext E3)
 obtain ⟨T6, h6, X6, e6, W6, st6⟩ := putF X3 hx hZ hown (host := "") (Or.inl (w_ hw 26 rfl)) Via.refl e3 f4 f5 (Or.inl (w_ hw 27 rfl)) (w_ hw 1 rfl) (ty := (.array (.object sc2))) (by decide) rfl rfl (g := (mkF mm_ 14 #[vr x, vi 2] [(.ref b3), (.ref x)])) rfl rfl (B_ dk125)
 have F6 := f4.same W6
 have N6 := Fr.snoc X6 N2 g_x
 refine sp_ st6 ?_
 show Go_ T6 (mkF mm_ 17 #[vr x, vi 2] [])
 have f8 : Arv Z h6 b3 k3 (.object sc2) (2 : Int32) [.null, .null] .null := (V3.other W6 (Ne.symm (Nat.ne_of_lt (Nat.lt_of_lt_of_le pr0.lt (Nat.le_of_eq q3.symm)))))
 have Vt7 : Arv Z h6 b3 k3 (.object sc2) (2 : Int32) [] .null := f8.pad (fun i_ => (pad_rep [] .null 2 i_).symm)
 have K9 : Keep h0 h6 [x] := ((K0.ext E3).wr W6 (Or.inl (List.mem_of_getElem? (i := 0) rfl)))
 have f10 : Exa Z h6 b3 sc3 := (Ex3.wr W6)
 have f11 : Fld Z h6 x sc1 "hashed" sc5 .null := ((pr2.ext E3).other W6 (Or.inr (slot_ne (Or.inl (w_ hw 41 rfl)) (Or.inl (w_ hw 27 rfl)) (by decide) (t := (.object sc6)) (t' := (.array (.object sc2))) (by decide) (by decide))))
 have f12 : Fld Z h6 x sc1 "size" "I" (.int 0) := ((pr4.ext E3).other W6 (Or.inr (slot_ne (Or.inl (w_ hw 47 rfl)) (Or.inl (w_ hw 27 rfl)) (by decide) (t := .int) (t' := (.array (.object sc2))) (by decide) (by decide))))
 obtain ⟨fs, hr, hrun, hended, hW, hsame⟩ := X6.leave (v := none) (fun _ => rfl)
 refine ⟨_, _, ?_, hrun, hended, _, _, rfl, ?_, ⟨_, rfl⟩, hW, hsame.mono (by decide) (by decide)⟩
 · exact X6.returnOut hx Bd.returns (B_ dk126) hr
 · show QrmSI2 Z x h0 n0 none T6.heap _
   rw [e6]
   exact ⟨b3, k3, rfl, N6, K9, lo_b3, f10, Vt7, Ov3, f11, F6, f12⟩
theorem ef_rmSI3 (mm_ : MethodId) (x : Addr) : entryFrame mm_ #[(.ref x), (.int 3)] 2 = (mkF mm_ 0 #[vr x, vi 3] []) := by first | (simp [entryFrame, mkF, argsToLocals, Value.category]; done) | rfl
def QrmSI3 (Z : State) (x : Addr) (h0 : Heap) (n0 : Nat) (vv_ : Option Value) (hh_ : Heap) (LL_ : List Loc) : Prop := ∃ (nr : Addr), ∃ (k2 : ClassId), (vv_ = none) ∧ (Fr n0 LL_) ∧ (Keep h0 hh_ [x]) ∧ (h0.size ≤ nr) ∧ (Exa Z hh_ nr sc3) ∧ (Arv Z hh_ nr k2 (.object sc2) (3 : Int32) [] .null) ∧ (Ovr Z k2 sc2) ∧ (Fld Z hh_ x sc1 "hashed" sc5 .null) ∧ (Fld Z hh_ x sc1 "members" sc3 (.ref nr)) ∧ (Fld Z hh_ x sc1 "size" "I" (.int 0))
theorem rmSI3 (l : Launch) (Z : State) (a0 : Array Value) (hw : own_Hw a0 Z) (ws : List Jvm.Cond) (x : Addr) (h0 : Heap) (n0 : Nat) (O0 : Old Z n0 h0) (pr0 : Exa Z h0 x sc1) (g_x : n0 ≤ x) (pr2 : Fld Z h0 x sc1 "hashed" sc5 .null) (pr3 : Fld Z h0 x sc1 "members" sc3 .null) (pr4 : Fld Z h0 x sc1 "size" "I" (.int 0)) :
 own_MF l Z ym9 J13 2 none ws (rm_ 3 1 3 36) #[(.ref x), (.int 3)] h0 (QrmSI3 Z x h0 n0) := by
 refine own_met (plainFor_of_name pn_com_example_compact_abox_compactabox_ArraySet) (fun m_ => ef_rmSI3 m_ x) fun pp_ ee_ ss_ mm_ bb_ me_ cc_ s₁ Bd hx hby hml hown hZ hh X0 e0 => ?_
 have B_ {q_ : Nat} {r_ : _} (h_ : decode _ q_ = r_) := hb hby h_
 have hown : ss_.vm.findClass sc1 = some mm_.cls := hown
 have N0 := Fr.nil n0
 have Z0 : n0 ≤ h0.size := by have q := O0.2.1; rw [O0.1] at q; exact q
 have K0 : Keep h0 h0 [x] := Keep.refl _ _
 show Go_ s₁ (mkF mm_ 0 #[vr x, vi 3] [])
 refine sp_ (fun t_ k_ => XS.aloadN X0.here hx rfl (B_ dk118) rfl rfl k_) ?_
 obtain ⟨_, T1, Lc1, X1, hQ1, st1⟩ := own_cI X0 hx hZ rfl hown (w_ hw 6 rfl) (w_ hw 7 rfl) (w_ hw 10 rfl) (by decide) (backOf (W := 0) (rmAbS l Z a0 hw [] x h0 n0 O0 ) hZ (w_ hw 10 rfl) (w_ hw 9 rfl) (by decide) (by decide)) (g := (mkF mm_ 1 #[vr x, vi 3] [(.ref x)])) rfl hml.symm (a := x) (argsL := []) (rest := []) (lenOf pd_0 rfl) rfl (Nat.le_of_eq rfl) (B_ dk119) rfl e0 (by decide) (by decide)
 obtain ⟨rfl, rfl, Eh1⟩ := hQ1
 have N1 := Fr.app N0 (Fr.nil n0)
 refine jp_ st1 ?_
 show Go_ T1 (mkF mm_ 4 #[vr x, vi 3] [])
 refine sp_ (fun t_ k_ => XS.aloadN X1.here hx rfl (B_ dk120) rfl rfl (XS.iloadN X1.here hx rfl (B_ dk121) rfl  (XS.bipush X1.here hx rfl (B_ dk122) k_))) ?_
 obtain ⟨_, T2, Lc2, X2, hQ2, st2⟩ := own_cS X1 hx hZ hown (w_ hw 20 rfl) (w_ hw 21 rfl) (w_ hw 22 rfl) (w_ hw 23 rfl) (by decide) (backOf (W := 1) (rmMin8_3 l Z a0 hw []  h0 n0 O0 ) hZ (w_ hw 23 rfl) (w_ hw 22 rfl) (by decide) (by decide)) (g := (mkF mm_ 8 #[vr x, vi 3] [(.int 8), (.int 3), (.ref x)])) rfl hml.symm (argsL := [(.int 3), (.int 8)]) (rest := [(.ref x)]) (lenOf pd_5 rfl) rfl (Nat.le_of_eq rfl) (B_ dk123) rfl Eh1 (by decide) (by decide)
 obtain ⟨rfl, rfl, Eh2⟩ := hQ2
 have N2 := Fr.app N1 (Fr.nil n0)
 refine jp_ st2 ?_
 obtain ⟨T3, h3, k3, X3, e3, E3, A3, Ex3, Ov3, st3⟩ := newRE X2 hx hZ hown (w_ hw 24 rfl) (w_ hw 25 rfl) Eh2 (g := (mkF mm_ 11 #[vr x, vi 3] [(.int 3), (.ref x)])) rfl (B_ dk124) rfl (by decide) (cap := 3) (by decide) (by decide) (by decide) (by decide) (ad := sc3) (by decide)
 obtain ⟨b3, q3⟩ : ∃ z, z = h0.size := ⟨_, rfl⟩
 rw [← q3] at A3 Ex3 st3
 have lo_b3 : h0.size ≤ b3 := Nat.le_trans K0.1 (Nat.le_of_eq q3.symm)
 have g_b3 : n0 ≤ b3 := Nat.le_trans Z0 lo_b3
 refine sp_ st3 ?_
 have V3 : Arv Z h3 b3 k3 (.object sc2) (3 : Int32) [.null, .null, .null] .null := (Arv.new A3 (by decide)).pad (pad_rep [] .null 3)
 have f4 : Fld Z h3 x sc1 "members" sc3 .null := (pr3.ext E3)
 have f5 : Exa Z h3 x sc1 := (pr0.ext E3)
 obtain ⟨T6, h6, X6, e6, W6, st6⟩ := putF X3 hx hZ hown (host := "") (Or.inl (w_ hw 26 rfl)) Via.refl e3 f4 f5 (Or.inl (w_ hw 27 rfl)) (w_ hw 1 rfl) (ty := (.array (.object sc2))) (by decide) rfl rfl (g := (mkF mm_ 14 #[vr x, vi 3] [(.ref b3), (.ref x)])) rfl rfl (B_ dk125)
 have F6 := f4.same W6
 have N6 := Fr.snoc X6 N2 g_x
 refine sp_ st6 ?_
 show Go_ T6 (mkF mm_ 17 #[vr x, vi 3] [])
 have f8 : Arv Z h6 b3 k3 (.object sc2) (3 : Int32) [.null, .null, .null] .null := (V3.other W6 (Ne.symm (Nat.ne_of_lt (Nat.lt_of_lt_of_le pr0.lt (Nat.le_of_eq q3.symm)))))
 have Vt7 : Arv Z h6 b3 k3 (.object sc2) (3 : Int32) [] .null := f8.pad (fun i_ => (pad_rep [] .null 3 i_).symm)
 have K9 : Keep h0 h6 [x] := ((K0.ext E3).wr W6 (Or.inl (List.mem_of_getElem? (i := 0) rfl)))
 have f10 : Exa Z h6 b3 sc3 := (Ex3.wr W6)
 have f11 : Fld Z h6 x sc1 "hashed" sc5 .null := ((pr2.ext E3).other W6 (Or.inr (slot_ne (Or.inl (w_ hw 41 rfl)) (Or.inl (w_ hw 27 rfl)) (by decide) (t := (.object sc6)) (t' := (.array (.object sc2))) (by decide) (by decide))))
 have f12 : Fld Z h6 x sc1 "size" "I" (.int 0) := ((pr4.ext E3).other W6 (Or.inr (slot_ne (Or.inl (w_ hw 47 rfl)) (Or.inl (w_ hw 27 rfl)) (by decide) (t := .int) (t' := (.array (.object sc2))) (by decide) (by decide))))
 obtain ⟨fs, hr, hrun, hended, hW, hsame⟩ := X6.leave (v := none) (fun _ => rfl)
 refine ⟨_, _, ?_, hrun, hended, _, _, rfl, ?_, ⟨_, rfl⟩, hW, hsame.mono (by decide) (by decide)⟩
 · exact X6.returnOut hx Bd.returns (B_ dk126) hr
 · show QrmSI3 Z x h0 n0 none T6.heap _
   rw [e6]
   exact ⟨b3, k3, rfl, N6, K9, lo_b3, f10, Vt7, Ov3, f11, F6, f12⟩
theorem dk127 : decode J14 0 = .ok (.aload_n 0, 1) := by decide +kernel
theorem dk128 : decode J14 1 = .ok (.getfield 21, 3) := by decide +kernel
theorem dk129 : decode J14 4 = .ok (.ifnull 14, 3) := by decide +kernel
theorem dk130 : decode J14 18 = .ok (.aload_n 0, 1) := by decide +kernel
theorem dk131 : decode J14 19 = .ok (.aload_n 1, 1) := by decide +kernel
theorem dk132 : decode J14 20 = .ok (.invokevirtual 31, 3) := by decide +kernel
theorem pd_7 : parseMethodDescriptor "(Ljava/lang/Object;)I" = some ⟨[(.object "java/lang/Object")], some .int⟩ := by decide +kernel
theorem dk133 : decode J14 23 = .ok (.ifCond .lt 5, 3) := by decide +kernel
theorem dk134 : decode J14 26 = .ok (.iconst 0, 1) := by decide +kernel
theorem dk135 : decode J14 27 = .ok (.ireturn, 1) := by decide +kernel
theorem ef_rmAdF1_0 (mm_ : MethodId) (x : Addr) (q : Addr) : entryFrame mm_ #[(.ref x), (.ref q)] 2 = (mkF mm_ 0 #[vr x, vr q] []) := by first | (simp [entryFrame, mkF, argsToLocals, Value.category]; done) | rfl
def QrmAdF1_0 (Z : State) (x : Addr) (q : Addr) (ar : Addr) (k : ClassId) (z : Int32) (r0 : Addr) (v0 : Int32) (u : Int32) (h0 : Heap) (n0 : Nat) (vv_ : Option Value) (hh_ : Heap) (LL_ : List Loc) : Prop := (vv_ = some (.int 0)) ∧ (LL_ = []) ∧ (hh_ = h0)
theorem rmAdF1_0 (l : Launch) (Z : State) (a0 : Array Value) (hw : own_Hw a0 Z) (ws : List Jvm.Cond) (x : Addr) (q : Addr) (ar : Addr) (k : ClassId) (z : Int32) (r0 : Addr) (v0 : Int32) (u : Int32) (h0 : Heap) (n0 : Nat) (O0 : Old Z n0 h0) (pr0 : Exa Z h0 x sc1) (pr1 : Fld Z h0 x sc1 "hashed" sc5 .null) (pr2 : Fld Z h0 x sc1 "members" sc3 (.ref ar)) (pr3 : Fld Z h0 x sc1 "size" "I" (.int 1)) (pr4 : Arv Z h0 ar k (.object sc2) z [(.ref r0)] .null) (pr5 : Exa Z h0 ar sc3) (hz0 : (0 : Int32) < z) (pr7 : Exa Z h0 r0 sc0) (pr8 : Fld Z h0 r0 sc0 "value" "I" (.int v0)) (pr9 : Exa Z h0 q sc0) (pr10 : Fld Z h0 q sc0 "value" "I" (.int u)) (hy : v0 = u) :
 own_MF l Z ym5 J14 2 (some .boolean) ws (rm_ 4 0 0 55) #[(.ref x), (.ref q)] h0 (QrmAdF1_0 Z x q ar k z r0 v0 u h0 n0) := by
 refine own_met (plainFor_of_name pn_com_example_compact_abox_compactabox_ArraySet) (fun m_ => ef_rmAdF1_0 m_ x q) fun pp_ ee_ ss_ mm_ bb_ me_ cc_ s₁ Bd hx hby hml hown hZ hh X0 e0 => ?_
 have B_ {q_ : Nat} {r_ : _} (h_ : decode _ q_ = r_) := hb hby h_
 have hown : ss_.vm.findClass sc1 = some mm_.cls := hown
 have N0 := Fr.nil n0
 have Z0 : n0 ≤ h0.size := by have q := O0.2.1; rw [O0.1] at q; exact q
 have K0 : Keep h0 h0 [] := Keep.refl _ _
 show Go_ s₁ (mkF mm_ 0 #[vr x, vr q] [])
 refine sp_ (fun t_ k_ => XS.aloadN X0.here hx rfl (B_ dk127) rfl rfl k_) ?_
 obtain ⟨T1, X1, e1, st1⟩ := getF X0 hx hZ hown (host := "") (Or.inl (w_ hw 40 rfl)) Via.refl e0 pr1 (g := (mkF mm_ 1 #[vr x, vr q] [(.ref x)])) rfl rfl (B_ dk128)
 refine sp_ st1 ?_
 show Go_ T1 (mkF mm_ 4 #[vr x, vr q] [.null])
 refine sp_ (fun t_ k_ => XS.ifnullYes X1.here hx rfl (pc0 := 4) (pc' := 18) rfl (B_ dk129) rfl (by decide) (by decide) (XS.aloadN X1.here hx rfl (B_ dk130) rfl rfl (XS.aloadN X1.here hx rfl (B_ dk131) rfl rfl k_))) ?_
 obtain ⟨cq2, qq2, qq2'⟩ := pr0.cell
 obtain ⟨_, T2, Lc2, X2, hQ2, st2⟩ := own_cP X1 hx hZ hown (w_ hw 42 rfl) (w_ hw 43 rfl) (own_selP (w_ hw 38 rfl) rfl (w_ hw 43 rfl) (w_ hw 44 rfl) (by decide)) (w_ hw 44 rfl) (w_ hw 45 rfl) (by decide) (backOf (W := 0) (rmPx1_0 l Z a0 hw [] x q ar k z r0 v0 u h0 n0 O0 pr2 pr3 pr4 hz0 pr7 pr8 pr9 pr10 hy) hZ (w_ hw 45 rfl) (w_ hw 2 rfl) (by decide) (by decide)) (by rw [e1]; exact qq2) qq2' (g := (mkF mm_ 20 #[vr x, vr q] [(.ref q), (.ref x)])) rfl hml.symm (argsL := [(.ref q)]) (rest := []) (lenOf pd_7 rfl) rfl (Nat.le_of_eq rfl) (B_ dk132) rfl e1 (by decide) (by decide)
 obtain ⟨rfl, rfl, Eh2⟩ := hQ2
 have N2 := Fr.app N0 (Fr.nil n0)
 refine jp_ st2 ?_
 show Go_ T2 (mkF mm_ 23 #[vr x, vr q] [(.int 0)])
 refine sp_ (fun t_ k_ => XS.ifNo X2.here hx rfl (B_ dk133) rfl ((if0 _ _).trans (flt (by decide : ¬ ((0 : Int32) < (0 : Int32)))).1) k_) ?_
 show Go_ T2 (mkF mm_ 26 #[vr x, vr q] [])
 refine sp_ (fun t_ k_ => XS.iconst X2.here hx rfl (B_ dk134) k_) ?_
 show Go_ T2 (mkF mm_ 27 #[vr x, vr q] [(.int 0)])
 obtain ⟨fs, hr, hrun, hended, hW, hsame⟩ := X2.leave (v := some (.int 0)) (rN Bd.returns)
 refine ⟨_, _, ?_, hrun, hended, _, _, rfl, ?_, ⟨_, rfl⟩, hW, hsame.mono (by decide) (by decide)⟩
 · exact retN X2 hx (t := .boolean) Bd.returns (by simp) (B_ dk135) hr
 · show QrmAdF1_0 Z x q ar k z r0 v0 u h0 n0 (some (.int 0)) T2.heap _
   rw [Eh2]
   exact ⟨rfl, rfl, rfl⟩
theorem ef_rmAdF2_0 (mm_ : MethodId) (x : Addr) (q : Addr) : entryFrame mm_ #[(.ref x), (.ref q)] 2 = (mkF mm_ 0 #[vr x, vr q] []) := by first | (simp [entryFrame, mkF, argsToLocals, Value.category]; done) | rfl
def QrmAdF2_0 (Z : State) (x : Addr) (q : Addr) (ar : Addr) (k : ClassId) (z : Int32) (r0 : Addr) (r1 : Addr) (v0 : Int32) (v1 : Int32) (u : Int32) (h0 : Heap) (n0 : Nat) (vv_ : Option Value) (hh_ : Heap) (LL_ : List Loc) : Prop := (vv_ = some (.int 0)) ∧ (LL_ = []) ∧ (hh_ = h0)
theorem rmAdF2_0 (l : Launch) (Z : State) (a0 : Array Value) (hw : own_Hw a0 Z) (ws : List Jvm.Cond) (x : Addr) (q : Addr) (ar : Addr) (k : ClassId) (z : Int32) (r0 : Addr) (r1 : Addr) (v0 : Int32) (v1 : Int32) (u : Int32) (h0 : Heap) (n0 : Nat) (O0 : Old Z n0 h0) (pr0 : Exa Z h0 x sc1) (pr1 : Fld Z h0 x sc1 "hashed" sc5 .null) (pr2 : Fld Z h0 x sc1 "members" sc3 (.ref ar)) (pr3 : Fld Z h0 x sc1 "size" "I" (.int 2)) (pr4 : Arv Z h0 ar k (.object sc2) z [(.ref r0), (.ref r1)] .null) (pr5 : Exa Z h0 ar sc3) (hz0 : (0 : Int32) < z) (hz1 : (1 : Int32) < z) (pr8 : Exa Z h0 r0 sc0) (pr9 : Fld Z h0 r0 sc0 "value" "I" (.int v0)) (pr10 : Exa Z h0 r1 sc0) (pr11 : Fld Z h0 r1 sc0 "value" "I" (.int v1)) (pr12 : Exa Z h0 q sc0) (pr13 : Fld Z h0 q sc0 "value" "I" (.int u)) (hy : v0 = u) :
 own_MF l Z ym5 J14 2 (some .boolean) ws (rm_ 4 0 0 55) #[(.ref x), (.ref q)] h0 (QrmAdF2_0 Z x q ar k z r0 r1 v0 v1 u h0 n0) := by
 refine own_met (plainFor_of_name pn_com_example_compact_abox_compactabox_ArraySet) (fun m_ => ef_rmAdF2_0 m_ x q) fun pp_ ee_ ss_ mm_ bb_ me_ cc_ s₁ Bd hx hby hml hown hZ hh X0 e0 => ?_
 have B_ {q_ : Nat} {r_ : _} (h_ : decode _ q_ = r_) := hb hby h_
 have hown : ss_.vm.findClass sc1 = some mm_.cls := hown
 have N0 := Fr.nil n0
 have Z0 : n0 ≤ h0.size := by have q := O0.2.1; rw [O0.1] at q; exact q
 have K0 : Keep h0 h0 [] := Keep.refl _ _
 show Go_ s₁ (mkF mm_ 0 #[vr x, vr q] [])
 refine sp_ (fun t_ k_ => XS.aloadN X0.here hx rfl (B_ dk127) rfl rfl k_) ?_
 obtain ⟨T1, X1, e1, st1⟩ := getF X0 hx hZ hown (host := "") (Or.inl (w_ hw 40 rfl)) Via.refl e0 pr1 (g := (mkF mm_ 1 #[vr x, vr q] [(.ref x)])) rfl rfl (B_ dk128)
 refine sp_ st1 ?_
 show Go_ T1 (mkF mm_ 4 #[vr x, vr q] [.null])
 refine sp_ (fun t_ k_ => XS.ifnullYes X1.here hx rfl (pc0 := 4) (pc' := 18) rfl (B_ dk129) rfl (by decide) (by decide) (XS.aloadN X1.here hx rfl (B_ dk130) rfl rfl (XS.aloadN X1.here hx rfl (B_ dk131) rfl rfl k_))) ?_
 obtain ⟨cq2, qq2, qq2'⟩ := pr0.cell
 obtain ⟨_, T2, Lc2, X2, hQ2, st2⟩ := own_cP X1 hx hZ hown (w_ hw 42 rfl) (w_ hw 43 rfl) (own_selP (w_ hw 38 rfl) rfl (w_ hw 43 rfl) (w_ hw 44 rfl) (by decide)) (w_ hw 44 rfl) (w_ hw 45 rfl) (by decide) (backOf (W := 0) (rmPx2_0 l Z a0 hw [] x q ar k z r0 r1 v0 v1 u h0 n0 O0 pr2 pr3 pr4 hz0 hz1 pr8 pr9 pr10 pr11 pr12 pr13 hy) hZ (w_ hw 45 rfl) (w_ hw 2 rfl) (by decide) (by decide)) (by rw [e1]; exact qq2) qq2' (g := (mkF mm_ 20 #[vr x, vr q] [(.ref q), (.ref x)])) rfl hml.symm (argsL := [(.ref q)]) (rest := []) (lenOf pd_7 rfl) rfl (Nat.le_of_eq rfl) (B_ dk132) rfl e1 (by decide) (by decide)
 obtain ⟨rfl, rfl, Eh2⟩ := hQ2
 have N2 := Fr.app N0 (Fr.nil n0)
 refine jp_ st2 ?_
 show Go_ T2 (mkF mm_ 23 #[vr x, vr q] [(.int 0)])
 refine sp_ (fun t_ k_ => XS.ifNo X2.here hx rfl (B_ dk133) rfl ((if0 _ _).trans (flt (by decide : ¬ ((0 : Int32) < (0 : Int32)))).1) k_) ?_
 show Go_ T2 (mkF mm_ 26 #[vr x, vr q] [])
 refine sp_ (fun t_ k_ => XS.iconst X2.here hx rfl (B_ dk134) k_) ?_
 show Go_ T2 (mkF mm_ 27 #[vr x, vr q] [(.int 0)])
 obtain ⟨fs, hr, hrun, hended, hW, hsame⟩ := X2.leave (v := some (.int 0)) (rN Bd.returns)
 refine ⟨_, _, ?_, hrun, hended, _, _, rfl, ?_, ⟨_, rfl⟩, hW, hsame.mono (by decide) (by decide)⟩
 · exact retN X2 hx (t := .boolean) Bd.returns (by simp) (B_ dk135) hr
 · show QrmAdF2_0 Z x q ar k z r0 r1 v0 v1 u h0 n0 (some (.int 0)) T2.heap _
   rw [Eh2]
   exact ⟨rfl, rfl, rfl⟩
theorem ef_rmAdF2_1 (mm_ : MethodId) (x : Addr) (q : Addr) : entryFrame mm_ #[(.ref x), (.ref q)] 2 = (mkF mm_ 0 #[vr x, vr q] []) := by first | (simp [entryFrame, mkF, argsToLocals, Value.category]; done) | rfl
def QrmAdF2_1 (Z : State) (x : Addr) (q : Addr) (ar : Addr) (k : ClassId) (z : Int32) (r0 : Addr) (r1 : Addr) (v0 : Int32) (v1 : Int32) (u : Int32) (h0 : Heap) (n0 : Nat) (vv_ : Option Value) (hh_ : Heap) (LL_ : List Loc) : Prop := (vv_ = some (.int 0)) ∧ (LL_ = []) ∧ (hh_ = h0)
theorem rmAdF2_1 (l : Launch) (Z : State) (a0 : Array Value) (hw : own_Hw a0 Z) (ws : List Jvm.Cond) (x : Addr) (q : Addr) (ar : Addr) (k : ClassId) (z : Int32) (r0 : Addr) (r1 : Addr) (v0 : Int32) (v1 : Int32) (u : Int32) (h0 : Heap) (n0 : Nat) (O0 : Old Z n0 h0) (pr0 : Exa Z h0 x sc1) (pr1 : Fld Z h0 x sc1 "hashed" sc5 .null) (pr2 : Fld Z h0 x sc1 "members" sc3 (.ref ar)) (pr3 : Fld Z h0 x sc1 "size" "I" (.int 2)) (pr4 : Arv Z h0 ar k (.object sc2) z [(.ref r0), (.ref r1)] .null) (pr5 : Exa Z h0 ar sc3) (hz0 : (0 : Int32) < z) (hz1 : (1 : Int32) < z) (pr8 : Exa Z h0 r0 sc0) (pr9 : Fld Z h0 r0 sc0 "value" "I" (.int v0)) (pr10 : Exa Z h0 r1 sc0) (pr11 : Fld Z h0 r1 sc0 "value" "I" (.int v1)) (pr12 : Exa Z h0 q sc0) (pr13 : Fld Z h0 q sc0 "value" "I" (.int u)) (hn0 : ¬ (v0 = u)) (hy : v1 = u) :
 own_MF l Z ym5 J14 2 (some .boolean) ws (rm_ 4 0 0 55) #[(.ref x), (.ref q)] h0 (QrmAdF2_1 Z x q ar k z r0 r1 v0 v1 u h0 n0) := by
 refine own_met (plainFor_of_name pn_com_example_compact_abox_compactabox_ArraySet) (fun m_ => ef_rmAdF2_1 m_ x q) fun pp_ ee_ ss_ mm_ bb_ me_ cc_ s₁ Bd hx hby hml hown hZ hh X0 e0 => ?_
 have B_ {q_ : Nat} {r_ : _} (h_ : decode _ q_ = r_) := hb hby h_
 have hown : ss_.vm.findClass sc1 = some mm_.cls := hown
 have N0 := Fr.nil n0
 have Z0 : n0 ≤ h0.size := by have q := O0.2.1; rw [O0.1] at q; exact q
 have K0 : Keep h0 h0 [] := Keep.refl _ _
 show Go_ s₁ (mkF mm_ 0 #[vr x, vr q] [])
 refine sp_ (fun t_ k_ => XS.aloadN X0.here hx rfl (B_ dk127) rfl rfl k_) ?_
 obtain ⟨T1, X1, e1, st1⟩ := getF X0 hx hZ hown (host := "") (Or.inl (w_ hw 40 rfl)) Via.refl e0 pr1 (g := (mkF mm_ 1 #[vr x, vr q] [(.ref x)])) rfl rfl (B_ dk128)
 refine sp_ st1 ?_
 show Go_ T1 (mkF mm_ 4 #[vr x, vr q] [.null])
 refine sp_ (fun t_ k_ => XS.ifnullYes X1.here hx rfl (pc0 := 4) (pc' := 18) rfl (B_ dk129) rfl (by decide) (by decide) (XS.aloadN X1.here hx rfl (B_ dk130) rfl rfl (XS.aloadN X1.here hx rfl (B_ dk131) rfl rfl k_))) ?_
 obtain ⟨cq2, qq2, qq2'⟩ := pr0.cell
 obtain ⟨_, T2, Lc2, X2, hQ2, st2⟩ := own_cP X1 hx hZ hown (w_ hw 42 rfl) (w_ hw 43 rfl) (own_selP (w_ hw 38 rfl) rfl (w_ hw 43 rfl) (w_ hw 44 rfl) (by decide)) (w_ hw 44 rfl) (w_ hw 45 rfl) (by decide) (backOf (W := 0) (rmPx2_1 l Z a0 hw [] x q ar k z r0 r1 v0 v1 u h0 n0 O0 pr2 pr3 pr4 hz0 hz1 pr8 pr9 pr10 pr11 pr12 pr13 hn0 hy) hZ (w_ hw 45 rfl) (w_ hw 2 rfl) (by decide) (by decide)) (by rw [e1]; exact qq2) qq2' (g := (mkF mm_ 20 #[vr x, vr q] [(.ref q), (.ref x)])) rfl hml.symm (argsL := [(.ref q)]) (rest := []) (lenOf pd_7 rfl) rfl (Nat.le_of_eq rfl) (B_ dk132) rfl e1 (by decide) (by decide)
 obtain ⟨rfl, rfl, Eh2⟩ := hQ2
 have N2 := Fr.app N0 (Fr.nil n0)
 refine jp_ st2 ?_
 show Go_ T2 (mkF mm_ 23 #[vr x, vr q] [(.int 1)])
 refine sp_ (fun t_ k_ => XS.ifNo X2.here hx rfl (B_ dk133) rfl ((if0 _ _).trans (flt (by decide : ¬ ((1 : Int32) < (0 : Int32)))).1) k_) ?_
 show Go_ T2 (mkF mm_ 26 #[vr x, vr q] [])
 refine sp_ (fun t_ k_ => XS.iconst X2.here hx rfl (B_ dk134) k_) ?_
 show Go_ T2 (mkF mm_ 27 #[vr x, vr q] [(.int 0)])
 obtain ⟨fs, hr, hrun, hended, hW, hsame⟩ := X2.leave (v := some (.int 0)) (rN Bd.returns)
 refine ⟨_, _, ?_, hrun, hended, _, _, rfl, ?_, ⟨_, rfl⟩, hW, hsame.mono (by decide) (by decide)⟩
 · exact retN X2 hx (t := .boolean) Bd.returns (by simp) (B_ dk135) hr
 · show QrmAdF2_1 Z x q ar k z r0 r1 v0 v1 u h0 n0 (some (.int 0)) T2.heap _
   rw [Eh2]
   exact ⟨rfl, rfl, rfl⟩
theorem dk136 : decode J14 28 = .ok (.aload_n 0, 1) := by decide +kernel
theorem dk137 : decode J14 29 = .ok (.getfield 35, 3) := by decide +kernel
theorem dk138 : decode J14 32 = .ok (.bipush 8, 2) := by decide +kernel
theorem dk139 : decode J14 34 = .ok (.if_icmp .ne 34, 3) := by decide +kernel
theorem dk140 : decode J14 68 = .ok (.aload_n 0, 1) := by decide +kernel
theorem dk141 : decode J14 69 = .ok (.getfield 35, 3) := by decide +kernel
theorem dk142 : decode J14 72 = .ok (.aload_n 0, 1) := by decide +kernel
theorem dk143 : decode J14 73 = .ok (.getfield 17, 3) := by decide +kernel
theorem dk144 : decode J14 76 = .ok (.arraylength, 1) := by decide +kernel
theorem dk145 : decode J14 77 = .ok (.if_icmp .ne 24, 3) := by decide +kernel
theorem dk146 : decode J14 80 = .ok (.aload_n 0, 1) := by decide +kernel
theorem dk147 : decode J14 81 = .ok (.aload_n 0, 1) := by decide +kernel
theorem dk148 : decode J14 82 = .ok (.getfield 17, 3) := by decide +kernel
theorem dk149 : decode J14 85 = .ok (.iconst 1, 1) := by decide +kernel
theorem dk150 : decode J14 86 = .ok (.iconst 2, 1) := by decide +kernel
theorem dk151 : decode J14 87 = .ok (.aload_n 0, 1) := by decide +kernel
theorem dk152 : decode J14 88 = .ok (.getfield 35, 3) := by decide +kernel
theorem dk153 : decode J14 91 = .ok (.imul, 1) := by decide +kernel
theorem dk154 : decode J14 92 = .ok (.invokestatic 44, 3) := by decide +kernel
theorem dk155 : decode J14 95 = .ok (.invokestatic 47, 3) := by decide +kernel
theorem pd_8 : parseMethodDescriptor "([Ljava/lang/Object;I)[Ljava/lang/Object;" = some ⟨[(.array (.object "java/lang/Object")), .int], some (.array (.object "java/lang/Object"))⟩ := by decide +kernel
theorem dk156 : decode J14 98 = .ok (.putfield 17, 3) := by decide +kernel
theorem dk157 : decode J14 101 = .ok (.aload_n 0, 1) := by decide +kernel
theorem dk158 : decode J14 102 = .ok (.getfield 17, 3) := by decide +kernel
theorem dk159 : decode J14 105 = .ok (.aload_n 0, 1) := by decide +kernel
theorem dk160 : decode J14 106 = .ok (.dup, 1) := by decide +kernel
theorem dk161 : decode J14 107 = .ok (.getfield 35, 3) := by decide +kernel
theorem dk162 : decode J14 110 = .ok (.dup_x1, 1) := by decide +kernel
theorem dk163 : decode J14 111 = .ok (.iconst 1, 1) := by decide +kernel
theorem dk164 : decode J14 112 = .ok (.iadd, 1) := by decide +kernel
theorem dk165 : decode J14 113 = .ok (.putfield 35, 3) := by decide +kernel
theorem dk166 : decode J14 116 = .ok (.aload_n 1, 1) := by decide +kernel
theorem dk167 : decode J14 117 = .ok (.aastore, 1) := by decide +kernel
theorem dk168 : decode J14 118 = .ok (.iconst 1, 1) := by decide +kernel
theorem dk169 : decode J14 119 = .ok (.ireturn, 1) := by decide +kernel
theorem ef_rmAd0 (mm_ : MethodId) (x : Addr) (q : Addr) : entryFrame mm_ #[(.ref x), (.ref q)] 2 = (mkF mm_ 0 #[vr x, vr q] []) := by first | (simp [entryFrame, mkF, argsToLocals, Value.category]; done) | rfl
def QrmAd0 (Z : State) (x : Addr) (q : Addr) (ar : Addr) (k : ClassId) (z : Int32) (u : Int32) (h0 : Heap) (n0 : Nat) (vv_ : Option Value) (hh_ : Heap) (LL_ : List Loc) : Prop := ∃ (nr : Addr), ∃ (k2 : ClassId), ∃ (z2 : Int32), (vv_ = some (.int 1)) ∧ (Fr n0 LL_) ∧ (Keep h0 hh_ [x, ar]) ∧ (n0 ≤ nr) ∧ (Exa Z hh_ nr sc3) ∧ (Fld Z hh_ x sc1 "hashed" sc5 .null) ∧ (Fld Z hh_ x sc1 "members" sc3 (.ref nr)) ∧ (Fld Z hh_ x sc1 "size" "I" (.int 1)) ∧ (Arv Z hh_ nr k2 (.object sc2) z2 [(.ref q)] .null) ∧ (Ovr Z k2 sc2) ∧ ((0 : Int32) < z2)
theorem rmAd0 (l : Launch) (Z : State) (a0 : Array Value) (hw : own_Hw a0 Z) (ws : List Jvm.Cond) (x : Addr) (q : Addr) (ar : Addr) (k : ClassId) (z : Int32) (u : Int32) {w_ca : Addr} {mir : Addr} (h0 : Heap) (n0 : Nat) (O0 : Old Z n0 h0) (G_ : own_St Z w_ca mir) (pr0 : Exa Z h0 x sc1) (pr1 : Fld Z h0 x sc1 "hashed" sc5 .null) (pr2 : Fld Z h0 x sc1 "members" sc3 (.ref ar)) (pr3 : Fld Z h0 x sc1 "size" "I" (.int 0)) (pr4 : Arv Z h0 ar k (.object sc2) z [] .null) (pr5 : Exa Z h0 ar sc3) (hnz : ¬ (z < (0 : Int32))) (hov : Ovr Z k sc2) (g_x : n0 ≤ x) (g_ar : n0 ≤ ar) (pr10 : Exa Z h0 q sc0) (pr11 : Fld Z h0 q sc0 "value" "I" (.int u)) :
 own_MF l Z ym5 J14 2 (some .boolean) ws (rm_ 3 1 1 89) #[(.ref x), (.ref q)] h0 (QrmAd0 Z x q ar k z u h0 n0) := by
 refine own_met (plainFor_of_name pn_com_example_compact_abox_compactabox_ArraySet) (fun m_ => ef_rmAd0 m_ x q) fun pp_ ee_ ss_ mm_ bb_ me_ cc_ s₁ Bd hx hby hml hown hZ hh X0 e0 => ?_
 have B_ {q_ : Nat} {r_ : _} (h_ : decode _ q_ = r_) := hb hby h_
 have hown : ss_.vm.findClass sc1 = some mm_.cls := hown
 have N0 := Fr.nil n0
 have Z0 : n0 ≤ h0.size := by have q := O0.2.1; rw [O0.1] at q; exact q
 have K0 : Keep h0 h0 [x, ar] := Keep.refl _ _
 obtain ⟨G_hi, G_ca, G_cc, G_mi⟩ := id G_
 show Go_ s₁ (mkF mm_ 0 #[vr x, vr q] [])
 refine sp_ (fun t_ k_ => XS.aloadN X0.here hx rfl (B_ dk127) rfl rfl k_) ?_
 obtain ⟨T1, X1, e1, st1⟩ := getF X0 hx hZ hown (host := "") (Or.inl (w_ hw 40 rfl)) Via.refl e0 pr1 (g := (mkF mm_ 1 #[vr x, vr q] [(.ref x)])) rfl rfl (B_ dk128)
 refine sp_ st1 ?_
 show Go_ T1 (mkF mm_ 4 #[vr x, vr q] [.null])
 refine sp_ (fun t_ k_ => XS.ifnullYes X1.here hx rfl (pc0 := 4) (pc' := 18) rfl (B_ dk129) rfl (by decide) (by decide) (XS.aloadN X1.here hx rfl (B_ dk130) rfl rfl (XS.aloadN X1.here hx rfl (B_ dk131) rfl rfl k_))) ?_
 obtain ⟨cq2, qq2, qq2'⟩ := pr0.cell
 obtain ⟨_, T2, Lc2, X2, hQ2, st2⟩ := own_cP X1 hx hZ hown (w_ hw 42 rfl) (w_ hw 43 rfl) (own_selP (w_ hw 38 rfl) rfl (w_ hw 43 rfl) (w_ hw 44 rfl) (by decide)) (w_ hw 44 rfl) (w_ hw 45 rfl) (by decide) (backOf (W := 0) (rmPx0N l Z a0 hw [] x q ar k z u h0 n0 O0 pr2 pr3 pr4 pr10 pr11) hZ (w_ hw 45 rfl) (w_ hw 2 rfl) (by decide) (by decide)) (by rw [e1]; exact qq2) qq2' (g := (mkF mm_ 20 #[vr x, vr q] [(.ref q), (.ref x)])) rfl hml.symm (argsL := [(.ref q)]) (rest := []) (lenOf pd_7 rfl) rfl (Nat.le_of_eq rfl) (B_ dk132) rfl e1 (by decide) (by decide)
 obtain ⟨rfl, rfl, Eh2⟩ := hQ2
 have N2 := Fr.app N0 (Fr.nil n0)
 refine jp_ st2 ?_
 show Go_ T2 (mkF mm_ 23 #[vr x, vr q] [(.int (-1))])
 refine sp_ (fun t_ k_ => XS.ifYes X2.here hx rfl (pc0 := 23) (pc' := 28) rfl (B_ dk133) rfl ((if0 _ _).trans (tlt (by decide : (-1 : Int32) < (0 : Int32))).1) (by decide) (by decide) k_) ?_
 show Go_ T2 (mkF mm_ 28 #[vr x, vr q] [])
 refine sp_ (fun t_ k_ => XS.aloadN X2.here hx rfl (B_ dk136) rfl rfl k_) ?_
 obtain ⟨T3, X3, e3, st3⟩ := getF X2 hx hZ hown (host := "") (Or.inl (w_ hw 46 rfl)) Via.refl Eh2 pr3 (g := (mkF mm_ 29 #[vr x, vr q] [(.ref x)])) rfl rfl (B_ dk137)
 refine sp_ st3 ?_
 show Go_ T3 (mkF mm_ 32 #[vr x, vr q] [(.int 0)])
 refine sp_ (fun t_ k_ => XS.bipush X3.here hx rfl (B_ dk138) k_) ?_
 show Go_ T3 (mkF mm_ 34 #[vr x, vr q] [(.int 8), (.int 0)])
 refine sp_ (fun t_ k_ => XS.icmpYes X3.here hx rfl (pc0 := 34) (pc' := 68) rfl (B_ dk139) rfl (feq (by decide : ¬ ((0 : Int32) = (8 : Int32)))).2 (by decide) (by decide) k_) ?_
 show Go_ T3 (mkF mm_ 68 #[vr x, vr q] [])
 refine sp_ (fun t_ k_ => XS.aloadN X3.here hx rfl (B_ dk140) rfl rfl k_) ?_
 obtain ⟨T4, X4, e4, st4⟩ := getF X3 hx hZ hown (host := "") (Or.inl (w_ hw 46 rfl)) Via.refl e3 pr3 (g := (mkF mm_ 69 #[vr x, vr q] [(.ref x)])) rfl rfl (B_ dk141)
 refine sp_ st4 ?_
 show Go_ T4 (mkF mm_ 72 #[vr x, vr q] [(.int 0)])
 refine sp_ (fun t_ k_ => XS.aloadN X4.here hx rfl (B_ dk142) rfl rfl k_) ?_
 obtain ⟨T5, X5, e5, st5⟩ := getF X4 hx hZ hown (host := "") (Or.inl (w_ hw 26 rfl)) Via.refl e4 pr2 (g := (mkF mm_ 73 #[vr x, vr q] [(.ref x), (.int 0)])) rfl rfl (B_ dk143)
 refine sp_ st5 ?_
 obtain ⟨cl6, Ar6, -, S6, M6, -, -⟩ := id pr4
 refine sp_ (fun t_ k_ => X5.arraylength hx (by rw [e5]; exact Ar6.1) (State.isArrayOf_alike hZ.alike Ar6.2.1) (g := (mkF mm_ 76 #[vr x, vr q] [(.ref ar), (.int 0)])) rfl rfl (B_ dk144) t_ (by rw [len_of S6 M6]; exact k_)) ?_
 show Go_ T5 (mkF mm_ 77 #[vr x, vr q] [(.int z), (.int 0)])
 by_cases hz_ : (0 : Int32) = z
 · skip
   subst hz_
   show Go_ T5 (mkF mm_ 77 #[vr x, vr q] [(.int 0), (.int 0)])
   refine sp_ (fun t_ k_ => XS.icmpNo X5.here hx rfl (B_ dk145) rfl (teq (by decide : (0 : Int32) = (0 : Int32))).2 k_) ?_
   show Go_ T5 (mkF mm_ 80 #[vr x, vr q] [])
   refine sp_ (fun t_ k_ => XS.aloadN X5.here hx rfl (B_ dk146) rfl rfl (XS.aloadN X5.here hx rfl (B_ dk147) rfl rfl k_)) ?_
   obtain ⟨T7, X7, e7, st7⟩ := getF X5 hx hZ hown (host := "") (Or.inl (w_ hw 26 rfl)) Via.refl e5 pr2 (g := (mkF mm_ 82 #[vr x, vr q] [(.ref x), (.ref x)])) rfl rfl (B_ dk148)
   refine sp_ st7 ?_
   show Go_ T7 (mkF mm_ 85 #[vr x, vr q] [(.ref ar), (.ref x)])
   refine sp_ (fun t_ k_ => XS.iconst X7.here hx rfl (B_ dk149) (XS.iconst X7.here hx rfl (B_ dk150) (XS.aloadN X7.here hx rfl (B_ dk151) rfl rfl k_))) ?_
   obtain ⟨T8, X8, e8, st8⟩ := getF X7 hx hZ hown (host := "") (Or.inl (w_ hw 46 rfl)) Via.refl e7 pr3 (g := (mkF mm_ 88 #[vr x, vr q] [(.ref x), (.int 2), (.int 1), (.ref ar), (.ref x)])) rfl rfl (B_ dk152)
   refine sp_ st8 ?_
   show Go_ T8 (mkF mm_ 91 #[vr x, vr q] [(.int 0), (.int 2), (.int 1), (.ref ar), (.ref x)])
   refine sp_ (fun t_ k_ => XS.imul X8.here hx rfl (B_ dk153) rfl k_) ?_
   obtain ⟨_, T9, Lc9, X9, hQ9, st9⟩ := own_cS X8 hx hZ hown (w_ hw 67 rfl) (w_ hw 68 rfl) (w_ hw 22 rfl) (w_ hw 69 rfl) (by decide) (backOf (W := 2) (rmMax0 l Z a0 hw []  h0 n0 O0 ) hZ (w_ hw 69 rfl) (w_ hw 22 rfl) (by decide) (by decide)) (g := (mkF mm_ 92 #[vr x, vr q] [(.int 0), (.int 1), (.ref ar), (.ref x)])) rfl hml.symm (argsL := [(.int 1), (.int 0)]) (rest := [(.ref ar), (.ref x)]) (lenOf pd_5 rfl) rfl (Nat.le_of_eq rfl) (B_ dk154) rfl e8 (by decide) (by decide)
   obtain ⟨rfl, rfl, Eh9⟩ := hQ9
   have N9 := Fr.app N2 (Fr.nil n0)
   refine jp_ st9 ?_
   obtain ⟨_, T10, Lc10, X10, hQ10, st10⟩ := own_cS X9 hx hZ hown (w_ hw 70 rfl) (w_ hw 71 rfl) (w_ hw 72 rfl) (w_ hw 73 rfl) (by decide) (backOf (W := 1) (rmC2_0 l Z a0 hw [] ar k h0 n0 O0 G_ pr4 pr5) hZ (w_ hw 73 rfl) (w_ hw 72 rfl) (by decide) (by decide)) (g := (mkF mm_ 95 #[vr x, vr q] [(.int 1), (.ref ar), (.ref x)])) rfl hml.symm (argsL := [(.ref ar), (.int 1)]) (rest := [(.ref x)]) (lenOf pd_8 rfl) rfl (Nat.le_of_eq rfl) (B_ dk155) rfl Eh9 (by decide) (by decide)
   obtain ⟨nr_10, k2_10, rfl, Nq10, Kc10, r10_0, r10_1, r10_2, r10_3⟩ := hQ10
   have N10 := Fr.app N9 Nq10
   have lo_nr_10 : h0.size ≤ nr_10 := Nat.le_trans K0.1 r10_0
   have g_nr_10 : n0 ≤ nr_10 := Nat.le_trans Z0 lo_nr_10
   refine jp_ st10 ?_
   have f11 : Fld Z T10.heap x sc1 "members" sc3 (.ref ar) := (pr2.keep Kc10 nin0)
   have f12 : Exa Z T10.heap x sc1 := (pr0.keep Kc10)
   obtain ⟨T13, h13, X13, e13, W13, st13⟩ := putF X10 hx hZ hown (host := "") (Or.inl (w_ hw 26 rfl)) Via.refl rfl f11 f12 (Or.inl (w_ hw 27 rfl)) (w_ hw 1 rfl) (ty := (.array (.object sc2))) (by decide) rfl rfl (g := (mkF mm_ 98 #[vr x, vr q] [(.ref nr_10), (.ref x)])) rfl rfl (B_ dk156)
   have F13 := f11.same W13
   have N13 := Fr.snoc X13 N10 g_x
   refine sp_ st13 ?_
   show Go_ T13 (mkF mm_ 101 #[vr x, vr q] [])
   refine sp_ (fun t_ k_ => XS.aloadN X13.here hx rfl (B_ dk157) rfl rfl k_) ?_
   obtain ⟨T14, X14, e14, st14⟩ := getF X13 hx hZ hown (host := "") (Or.inl (w_ hw 26 rfl)) Via.refl e13 F13 (g := (mkF mm_ 102 #[vr x, vr q] [(.ref x)])) rfl rfl (B_ dk158)
   refine sp_ st14 ?_
   show Go_ T14 (mkF mm_ 105 #[vr x, vr q] [(.ref nr_10)])
   refine sp_ (fun t_ k_ => XS.aloadN X14.here hx rfl (B_ dk159) rfl rfl (XS.dup X14.here hx rfl (B_ dk160) rfl rfl k_)) ?_
   have f15 : Fld Z h13 x sc1 "size" "I" (.int 0) := ((pr3.keep Kc10 nin0).other W13 (Or.inr (slot_ne (Or.inl (w_ hw 47 rfl)) (Or.inl (w_ hw 27 rfl)) (by decide) (t := .int) (t' := (.array (.object sc2))) (by decide) (by decide))))
   obtain ⟨T16, X16, e16, st16⟩ := getF X14 hx hZ hown (host := "") (Or.inl (w_ hw 46 rfl)) Via.refl e14 f15 (g := (mkF mm_ 107 #[vr x, vr q] [(.ref x), (.ref x), (.ref nr_10)])) rfl rfl (B_ dk161)
   refine sp_ st16 ?_
   show Go_ T16 (mkF mm_ 110 #[vr x, vr q] [(.int 0), (.ref x), (.ref nr_10)])
   refine sp_ (fun t_ k_ => XS.dupX1 X16.here hx rfl (B_ dk162) rfl rfl rfl (XS.iconst X16.here hx rfl (B_ dk163) (XS.iadd X16.here hx rfl (B_ dk164) rfl k_))) ?_
   have f17 : Exa Z h13 x sc1 := (f12.wr W13)
   obtain ⟨T18, h18, X18, e18, W18, st18⟩ := putF X16 hx hZ hown (host := "") (Or.inl (w_ hw 46 rfl)) Via.refl e16 f15 f17 (Or.inl (w_ hw 47 rfl)) (w_ hw 1 rfl) (ty := .int) (by decide) rfl rfl (g := (mkF mm_ 113 #[vr x, vr q] [(.int 1), (.ref x), (.int 0), (.ref nr_10)])) rfl rfl (B_ dk165)
   have F18 := f15.same W18
   have N18 := Fr.snoc X18 N13 g_x
   refine sp_ st18 ?_
   show Go_ T18 (mkF mm_ 116 #[vr x, vr q] [(.int 0), (.ref nr_10)])
   refine sp_ (fun t_ k_ => XS.aloadN X18.here hx rfl (B_ dk166) rfl rfl k_) ?_
   have f19 : Arv Z h18 nr_10 k2_10 (.object sc2) (1 : Int32) [.null] .null := ((r10_2.other W13 (Ne.symm (Nat.ne_of_lt (Nat.lt_of_lt_of_le pr0.lt r10_0)))).other W18 (Ne.symm (Nat.ne_of_lt (Nat.lt_of_lt_of_le pr0.lt r10_0))))
   have f21 : Exa Z h18 q sc0 := (((pr10.keep Kc10).wr W13).wr W18)
   obtain ⟨cl20, Ar20, q20, S20, M20, H20, G20⟩ := id (f19 : Arv Z h18 nr_10 k2_10 (.object sc2) (1 : Int32) [.null] .null)
   have hin20 : ¬ ((0 : Int32) < 0 ∨ cl20.slots.size ≤ ((0 : Int32)).toNatClampNeg) := inb_of S20 ⟨by decide, by decide⟩
   obtain ⟨T20, h20, X20, e20, W20, st20⟩ := stR X18 hx hZ e18 Ar20 (j := (0 : Int32)) hin20 rfl (Sto.ofV Ar20 q20 r10_3 (Ins.of_exa f21 (w_ hw 51 rfl))) (g := (mkF mm_ 117 #[vr x, vr q] [(.ref q), (.int 0), (.ref nr_10)])) rfl rfl (B_ dk167)
   have V20 : Arv Z h20 nr_10 k2_10 (.object sc2) (1 : Int32) [(.ref q)] .null := Arv.set Ar20 q20 S20 M20 H20 G20 rfl W20 0 rfl (Nat.le_of_ble_eq_true rfl)
   have N20 := Fr.snoc X20 N18 g_nr_10
   refine sp_ st20 ?_
   show Go_ T20 (mkF mm_ 118 #[vr x, vr q] [])
   refine sp_ (fun t_ k_ => XS.iconst X20.here hx rfl (B_ dk168) k_) ?_
   show Go_ T20 (mkF mm_ 119 #[vr x, vr q] [(.int 1)])
   have K22 : Keep h0 h20 [x, ar] := ((((K0.trans Kc10 all0).wr W13 (Or.inl (List.mem_of_getElem? (i := 0) rfl))).wr W18 (Or.inl (List.mem_of_getElem? (i := 0) rfl))).wr W20 (Or.inr lo_nr_10))
   have f23 : Exa Z h20 nr_10 sc3 := (((r10_1.wr W13).wr W18).wr W20)
   have f24 : Fld Z h20 x sc1 "hashed" sc5 .null := ((((pr1.keep Kc10 nin0).other W13 (Or.inr (slot_ne (Or.inl (w_ hw 41 rfl)) (Or.inl (w_ hw 27 rfl)) (by decide) (t := (.object sc6)) (t' := (.array (.object sc2))) (by decide) (by decide)))).other W18 (Or.inr (slot_ne (Or.inl (w_ hw 41 rfl)) (Or.inl (w_ hw 47 rfl)) (by decide) (t := (.object sc6)) (t' := .int) (by decide) (by decide)))).other W20 (Or.inl (Nat.ne_of_lt (Nat.lt_of_lt_of_le pr0.lt r10_0))))
   have f25 : Fld Z h20 x sc1 "members" sc3 (.ref nr_10) := ((F13.other W18 (Or.inr (slot_ne (Or.inl (w_ hw 27 rfl)) (Or.inl (w_ hw 47 rfl)) (by decide) (t := (.array (.object sc2))) (t' := .int) (by decide) (by decide)))).other W20 (Or.inl (Nat.ne_of_lt (Nat.lt_of_lt_of_le pr0.lt r10_0))))
   have f26 : Fld Z h20 x sc1 "size" "I" (.int 1) := (F18.other W20 (Or.inl (Nat.ne_of_lt (Nat.lt_of_lt_of_le pr0.lt r10_0))))
   obtain ⟨fs, hr, hrun, hended, hW, hsame⟩ := X20.leave (v := some (.int 1)) (rN Bd.returns)
   refine ⟨_, _, ?_, hrun, hended, _, _, rfl, ?_, ⟨_, rfl⟩, hW, hsame.mono (by decide) (by decide)⟩
   · exact retN X20 hx (t := .boolean) Bd.returns (by simp) (B_ dk169) hr
   · show QrmAd0 Z x q ar k (0 : Int32) u h0 n0 (some (.int 1)) T20.heap _
     rw [e20]
     exact ⟨nr_10, k2_10, (1 : Int32), rfl, N20, K22, g_nr_10, f23, f24, f25, f26, V20, r10_3, (by first | assumption | rfl | decide)⟩
 · skip
   have hzl_ := own_ltz hnz hz_
   show Go_ T5 (mkF mm_ 77 #[vr x, vr q] [(.int z), (.int 0)])
   refine sp_ (fun t_ k_ => XS.icmpYes X5.here hx rfl (pc0 := 77) (pc' := 101) rfl (B_ dk145) rfl (feq hz_).2 (by decide) (by decide) k_) ?_
   show Go_ T5 (mkF mm_ 101 #[vr x, vr q] [])
   refine sp_ (fun t_ k_ => XS.aloadN X5.here hx rfl (B_ dk157) rfl rfl k_) ?_
   obtain ⟨T27, X27, e27, st27⟩ := getF X5 hx hZ hown (host := "") (Or.inl (w_ hw 26 rfl)) Via.refl e5 pr2 (g := (mkF mm_ 102 #[vr x, vr q] [(.ref x)])) rfl rfl (B_ dk158)
   refine sp_ st27 ?_
   show Go_ T27 (mkF mm_ 105 #[vr x, vr q] [(.ref ar)])
   refine sp_ (fun t_ k_ => XS.aloadN X27.here hx rfl (B_ dk159) rfl rfl (XS.dup X27.here hx rfl (B_ dk160) rfl rfl k_)) ?_
   obtain ⟨T28, X28, e28, st28⟩ := getF X27 hx hZ hown (host := "") (Or.inl (w_ hw 46 rfl)) Via.refl e27 pr3 (g := (mkF mm_ 107 #[vr x, vr q] [(.ref x), (.ref x), (.ref ar)])) rfl rfl (B_ dk161)
   refine sp_ st28 ?_
   show Go_ T28 (mkF mm_ 110 #[vr x, vr q] [(.int 0), (.ref x), (.ref ar)])
   refine sp_ (fun t_ k_ => XS.dupX1 X28.here hx rfl (B_ dk162) rfl rfl rfl (XS.iconst X28.here hx rfl (B_ dk163) (XS.iadd X28.here hx rfl (B_ dk164) rfl k_))) ?_
   obtain ⟨T29, h29, X29, e29, W29, st29⟩ := putF X28 hx hZ hown (host := "") (Or.inl (w_ hw 46 rfl)) Via.refl e28 pr3 pr0 (Or.inl (w_ hw 47 rfl)) (w_ hw 1 rfl) (ty := .int) (by decide) rfl rfl (g := (mkF mm_ 113 #[vr x, vr q] [(.int 1), (.ref x), (.int 0), (.ref ar)])) rfl rfl (B_ dk165)
   have F29 := pr3.same W29
   have N29 := Fr.snoc X29 N2 g_x
   refine sp_ st29 ?_
   show Go_ T29 (mkF mm_ 116 #[vr x, vr q] [(.int 0), (.ref ar)])
   refine sp_ (fun t_ k_ => XS.aloadN X29.here hx rfl (B_ dk166) rfl rfl k_) ?_
   have f30 : Arv Z h29 ar k (.object sc2) z [] .null := (pr4.other W29 (Exa.ne pr5 pr0 (by decide)))
   have f32 : Exa Z h29 q sc0 := (pr10.wr W29)
   obtain ⟨cl31, Ar31, q31, S31, M31, H31, G31⟩ := id ((f30.pad (pad_rep [] .null 1)) : Arv Z h29 ar k (.object sc2) z [.null] .null)
   have hin31 : ¬ ((0 : Int32) < 0 ∨ cl31.slots.size ≤ ((0 : Int32)).toNatClampNeg) := inb_of S31 ⟨by decide, hzl_⟩
   obtain ⟨T31, h31, X31, e31, W31, st31⟩ := stR X29 hx hZ e29 Ar31 (j := (0 : Int32)) hin31 rfl (Sto.ofV Ar31 q31 hov (Ins.of_exa f32 (w_ hw 51 rfl))) (g := (mkF mm_ 117 #[vr x, vr q] [(.ref q), (.int 0), (.ref ar)])) rfl rfl (B_ dk167)
   have V31 : Arv Z h31 ar k (.object sc2) z [(.ref q)] .null := Arv.set Ar31 q31 S31 M31 H31 G31 rfl W31 0 rfl (Nat.le_of_ble_eq_true rfl)
   have N31 := Fr.snoc X31 N29 g_ar
   refine sp_ st31 ?_
   show Go_ T31 (mkF mm_ 118 #[vr x, vr q] [])
   refine sp_ (fun t_ k_ => XS.iconst X31.here hx rfl (B_ dk168) k_) ?_
   show Go_ T31 (mkF mm_ 119 #[vr x, vr q] [(.int 1)])
   have K33 : Keep h0 h31 [x, ar] := ((K0.wr W29 (Or.inl (List.mem_of_getElem? (i := 0) rfl))).wr W31 (Or.inl (List.mem_of_getElem? (i := 1) rfl)))
   have f34 : Exa Z h31 ar sc3 := ((pr5.wr W29).wr W31)
   have f35 : Fld Z h31 x sc1 "hashed" sc5 .null := ((pr1.other W29 (Or.inr (slot_ne (Or.inl (w_ hw 41 rfl)) (Or.inl (w_ hw 47 rfl)) (by decide) (t := (.object sc6)) (t' := .int) (by decide) (by decide)))).other W31 (Or.inl (Exa.ne (pr0.wr W29) (pr5.wr W29) (by decide))))
   have f36 : Fld Z h31 x sc1 "members" sc3 (.ref ar) := ((pr2.other W29 (Or.inr (slot_ne (Or.inl (w_ hw 27 rfl)) (Or.inl (w_ hw 47 rfl)) (by decide) (t := (.array (.object sc2))) (t' := .int) (by decide) (by decide)))).other W31 (Or.inl (Exa.ne (pr0.wr W29) (pr5.wr W29) (by decide))))
   have f37 : Fld Z h31 x sc1 "size" "I" (.int 1) := (F29.other W31 (Or.inl (Exa.ne (pr0.wr W29) (pr5.wr W29) (by decide))))
   obtain ⟨fs, hr, hrun, hended, hW, hsame⟩ := X31.leave (v := some (.int 1)) (rN Bd.returns)
   refine ⟨_, _, ?_, hrun, hended, _, _, rfl, ?_, ⟨_, rfl⟩, hW, hsame.mono (by decide) (by decide)⟩
   · exact retN X31 hx (t := .boolean) Bd.returns (by simp) (B_ dk169) hr
   · show QrmAd0 Z x q ar k z u h0 n0 (some (.int 1)) T31.heap _
     rw [e31]
     exact ⟨ar, k, z, rfl, N31, K33, g_ar, f34, f35, f36, f37, V31, hov, hzl_⟩
theorem ef_rmAd1 (mm_ : MethodId) (x : Addr) (q : Addr) : entryFrame mm_ #[(.ref x), (.ref q)] 2 = (mkF mm_ 0 #[vr x, vr q] []) := by first | (simp [entryFrame, mkF, argsToLocals, Value.category]; done) | rfl
def QrmAd1 (Z : State) (x : Addr) (q : Addr) (ar : Addr) (k : ClassId) (z : Int32) (r0 : Addr) (v0 : Int32) (u : Int32) (h0 : Heap) (n0 : Nat) (vv_ : Option Value) (hh_ : Heap) (LL_ : List Loc) : Prop := ∃ (nr : Addr), ∃ (k2 : ClassId), ∃ (z2 : Int32), (vv_ = some (.int 1)) ∧ (Fr n0 LL_) ∧ (Keep h0 hh_ [x, ar]) ∧ (n0 ≤ nr) ∧ (Exa Z hh_ nr sc3) ∧ (Fld Z hh_ x sc1 "hashed" sc5 .null) ∧ (Fld Z hh_ x sc1 "members" sc3 (.ref nr)) ∧ (Fld Z hh_ x sc1 "size" "I" (.int 2)) ∧ (Arv Z hh_ nr k2 (.object sc2) z2 [(.ref r0), (.ref q)] .null) ∧ (Ovr Z k2 sc2) ∧ ((0 : Int32) < z2) ∧ ((1 : Int32) < z2)
theorem rmAd1 (l : Launch) (Z : State) (a0 : Array Value) (hw : own_Hw a0 Z) (ws : List Jvm.Cond) (x : Addr) (q : Addr) (ar : Addr) (k : ClassId) (z : Int32) (r0 : Addr) (v0 : Int32) (u : Int32) {w_ca : Addr} {mir : Addr} (h0 : Heap) (n0 : Nat) (O0 : Old Z n0 h0) (G_ : own_St Z w_ca mir) (pr0 : Exa Z h0 x sc1) (pr1 : Fld Z h0 x sc1 "hashed" sc5 .null) (pr2 : Fld Z h0 x sc1 "members" sc3 (.ref ar)) (pr3 : Fld Z h0 x sc1 "size" "I" (.int 1)) (pr4 : Arv Z h0 ar k (.object sc2) z [(.ref r0)] .null) (pr5 : Exa Z h0 ar sc3) (hz0 : (0 : Int32) < z) (hnz : ¬ (z < (1 : Int32))) (hov : Ovr Z k sc2) (g_x : n0 ≤ x) (g_ar : n0 ≤ ar) (pr11 : Exa Z h0 r0 sc0) (pr12 : Fld Z h0 r0 sc0 "value" "I" (.int v0)) (pr13 : Exa Z h0 q sc0) (pr14 : Fld Z h0 q sc0 "value" "I" (.int u)) (hn0 : ¬ (v0 = u)) :
 own_MF l Z ym5 J14 2 (some .boolean) ws (rm_ 4 1 2 89) #[(.ref x), (.ref q)] h0 (QrmAd1 Z x q ar k z r0 v0 u h0 n0) := by
 refine own_met (plainFor_of_name pn_com_example_compact_abox_compactabox_ArraySet) (fun m_ => ef_rmAd1 m_ x q) fun pp_ ee_ ss_ mm_ bb_ me_ cc_ s₁ Bd hx hby hml hown hZ hh X0 e0 => ?_
 have B_ {q_ : Nat} {r_ : _} (h_ : decode _ q_ = r_) := hb hby h_
 have hown : ss_.vm.findClass sc1 = some mm_.cls := hown
 have N0 := Fr.nil n0
 have Z0 : n0 ≤ h0.size := by have q := O0.2.1; rw [O0.1] at q; exact q
 have K0 : Keep h0 h0 [x, ar] := Keep.refl _ _
 obtain ⟨G_hi, G_ca, G_cc, G_mi⟩ := id G_
 show Go_ s₁ (mkF mm_ 0 #[vr x, vr q] [])
 refine sp_ (fun t_ k_ => XS.aloadN X0.here hx rfl (B_ dk127) rfl rfl k_) ?_
 obtain ⟨T1, X1, e1, st1⟩ := getF X0 hx hZ hown (host := "") (Or.inl (w_ hw 40 rfl)) Via.refl e0 pr1 (g := (mkF mm_ 1 #[vr x, vr q] [(.ref x)])) rfl rfl (B_ dk128)
 refine sp_ st1 ?_
 show Go_ T1 (mkF mm_ 4 #[vr x, vr q] [.null])
 refine sp_ (fun t_ k_ => XS.ifnullYes X1.here hx rfl (pc0 := 4) (pc' := 18) rfl (B_ dk129) rfl (by decide) (by decide) (XS.aloadN X1.here hx rfl (B_ dk130) rfl rfl (XS.aloadN X1.here hx rfl (B_ dk131) rfl rfl k_))) ?_
 obtain ⟨cq2, qq2, qq2'⟩ := pr0.cell
 obtain ⟨_, T2, Lc2, X2, hQ2, st2⟩ := own_cP X1 hx hZ hown (w_ hw 42 rfl) (w_ hw 43 rfl) (own_selP (w_ hw 38 rfl) rfl (w_ hw 43 rfl) (w_ hw 44 rfl) (by decide)) (w_ hw 44 rfl) (w_ hw 45 rfl) (by decide) (backOf (W := 0) (rmPx1N l Z a0 hw [] x q ar k z r0 v0 u h0 n0 O0 pr2 pr3 pr4 hz0 pr11 pr12 pr13 pr14 hn0) hZ (w_ hw 45 rfl) (w_ hw 2 rfl) (by decide) (by decide)) (by rw [e1]; exact qq2) qq2' (g := (mkF mm_ 20 #[vr x, vr q] [(.ref q), (.ref x)])) rfl hml.symm (argsL := [(.ref q)]) (rest := []) (lenOf pd_7 rfl) rfl (Nat.le_of_eq rfl) (B_ dk132) rfl e1 (by decide) (by decide)
 obtain ⟨rfl, rfl, Eh2⟩ := hQ2
 have N2 := Fr.app N0 (Fr.nil n0)
 refine jp_ st2 ?_
 show Go_ T2 (mkF mm_ 23 #[vr x, vr q] [(.int (-1))])
 refine sp_ (fun t_ k_ => XS.ifYes X2.here hx rfl (pc0 := 23) (pc' := 28) rfl (B_ dk133) rfl ((if0 _ _).trans (tlt (by decide : (-1 : Int32) < (0 : Int32))).1) (by decide) (by decide) k_) ?_
 show Go_ T2 (mkF mm_ 28 #[vr x, vr q] [])
 refine sp_ (fun t_ k_ => XS.aloadN X2.here hx rfl (B_ dk136) rfl rfl k_) ?_
 obtain ⟨T3, X3, e3, st3⟩ := getF X2 hx hZ hown (host := "") (Or.inl (w_ hw 46 rfl)) Via.refl Eh2 pr3 (g := (mkF mm_ 29 #[vr x, vr q] [(.ref x)])) rfl rfl (B_ dk137)
 refine sp_ st3 ?_
 show Go_ T3 (mkF mm_ 32 #[vr x, vr q] [(.int 1)])
 refine sp_ (fun t_ k_ => XS.bipush X3.here hx rfl (B_ dk138) k_) ?_
 show Go_ T3 (mkF mm_ 34 #[vr x, vr q] [(.int 8), (.int 1)])
 refine sp_ (fun t_ k_ => XS.icmpYes X3.here hx rfl (pc0 := 34) (pc' := 68) rfl (B_ dk139) rfl (feq (by decide : ¬ ((1 : Int32) = (8 : Int32)))).2 (by decide) (by decide) k_) ?_
 show Go_ T3 (mkF mm_ 68 #[vr x, vr q] [])
 refine sp_ (fun t_ k_ => XS.aloadN X3.here hx rfl (B_ dk140) rfl rfl k_) ?_
 obtain ⟨T4, X4, e4, st4⟩ := getF X3 hx hZ hown (host := "") (Or.inl (w_ hw 46 rfl)) Via.refl e3 pr3 (g := (mkF mm_ 69 #[vr x, vr q] [(.ref x)])) rfl rfl (B_ dk141)
 refine sp_ st4 ?_
 show Go_ T4 (mkF mm_ 72 #[vr x, vr q] [(.int 1)])
 refine sp_ (fun t_ k_ => XS.aloadN X4.here hx rfl (B_ dk142) rfl rfl k_) ?_
 obtain ⟨T5, X5, e5, st5⟩ := getF X4 hx hZ hown (host := "") (Or.inl (w_ hw 26 rfl)) Via.refl e4 pr2 (g := (mkF mm_ 73 #[vr x, vr q] [(.ref x), (.int 1)])) rfl rfl (B_ dk143)
 refine sp_ st5 ?_
 obtain ⟨cl6, Ar6, -, S6, M6, -, -⟩ := id pr4
 refine sp_ (fun t_ k_ => X5.arraylength hx (by rw [e5]; exact Ar6.1) (State.isArrayOf_alike hZ.alike Ar6.2.1) (g := (mkF mm_ 76 #[vr x, vr q] [(.ref ar), (.int 1)])) rfl rfl (B_ dk144) t_ (by rw [len_of S6 M6]; exact k_)) ?_
 show Go_ T5 (mkF mm_ 77 #[vr x, vr q] [(.int z), (.int 1)])
 by_cases hz_ : (1 : Int32) = z
 · skip
   subst hz_
   show Go_ T5 (mkF mm_ 77 #[vr x, vr q] [(.int 1), (.int 1)])
   refine sp_ (fun t_ k_ => XS.icmpNo X5.here hx rfl (B_ dk145) rfl (teq (by decide : (1 : Int32) = (1 : Int32))).2 k_) ?_
   show Go_ T5 (mkF mm_ 80 #[vr x, vr q] [])
   refine sp_ (fun t_ k_ => XS.aloadN X5.here hx rfl (B_ dk146) rfl rfl (XS.aloadN X5.here hx rfl (B_ dk147) rfl rfl k_)) ?_
   obtain ⟨T7, X7, e7, st7⟩ := getF X5 hx hZ hown (host := "") (Or.inl (w_ hw 26 rfl)) Via.refl e5 pr2 (g := (mkF mm_ 82 #[vr x, vr q] [(.ref x), (.ref x)])) rfl rfl (B_ dk148)
   refine sp_ st7 ?_
   show Go_ T7 (mkF mm_ 85 #[vr x, vr q] [(.ref ar), (.ref x)])
   refine sp_ (fun t_ k_ => XS.iconst X7.here hx rfl (B_ dk149) (XS.iconst X7.here hx rfl (B_ dk150) (XS.aloadN X7.here hx rfl (B_ dk151) rfl rfl k_))) ?_
   obtain ⟨T8, X8, e8, st8⟩ := getF X7 hx hZ hown (host := "") (Or.inl (w_ hw 46 rfl)) Via.refl e7 pr3 (g := (mkF mm_ 88 #[vr x, vr q] [(.ref x), (.int 2), (.int 1), (.ref ar), (.ref x)])) rfl rfl (B_ dk152)
   refine sp_ st8 ?_
   show Go_ T8 (mkF mm_ 91 #[vr x, vr q] [(.int 1), (.int 2), (.int 1), (.ref ar), (.ref x)])
   refine sp_ (fun t_ k_ => XS.imul X8.here hx rfl (B_ dk153) rfl k_) ?_
   obtain ⟨_, T9, Lc9, X9, hQ9, st9⟩ := own_cS X8 hx hZ hown (w_ hw 67 rfl) (w_ hw 68 rfl) (w_ hw 22 rfl) (w_ hw 69 rfl) (by decide) (backOf (W := 2) (rmMax1 l Z a0 hw []  h0 n0 O0 ) hZ (w_ hw 69 rfl) (w_ hw 22 rfl) (by decide) (by decide)) (g := (mkF mm_ 92 #[vr x, vr q] [(.int 2), (.int 1), (.ref ar), (.ref x)])) rfl hml.symm (argsL := [(.int 1), (.int 2)]) (rest := [(.ref ar), (.ref x)]) (lenOf pd_5 rfl) rfl (Nat.le_of_eq rfl) (B_ dk154) rfl e8 (by decide) (by decide)
   obtain ⟨rfl, rfl, Eh9⟩ := hQ9
   have N9 := Fr.app N2 (Fr.nil n0)
   refine jp_ st9 ?_
   obtain ⟨_, T10, Lc10, X10, hQ10, st10⟩ := own_cS X9 hx hZ hown (w_ hw 70 rfl) (w_ hw 71 rfl) (w_ hw 72 rfl) (w_ hw 73 rfl) (by decide) (backOf (W := 1) (rmC2_1 l Z a0 hw [] ar k r0 h0 n0 O0 G_ pr4 pr5 pr11) hZ (w_ hw 73 rfl) (w_ hw 72 rfl) (by decide) (by decide)) (g := (mkF mm_ 95 #[vr x, vr q] [(.int 2), (.ref ar), (.ref x)])) rfl hml.symm (argsL := [(.ref ar), (.int 2)]) (rest := [(.ref x)]) (lenOf pd_8 rfl) rfl (Nat.le_of_eq rfl) (B_ dk155) rfl Eh9 (by decide) (by decide)
   obtain ⟨nr_10, k2_10, rfl, Nq10, Kc10, r10_0, r10_1, r10_2, r10_3⟩ := hQ10
   have N10 := Fr.app N9 Nq10
   have lo_nr_10 : h0.size ≤ nr_10 := Nat.le_trans K0.1 r10_0
   have g_nr_10 : n0 ≤ nr_10 := Nat.le_trans Z0 lo_nr_10
   refine jp_ st10 ?_
   have f11 : Fld Z T10.heap x sc1 "members" sc3 (.ref ar) := (pr2.keep Kc10 nin0)
   have f12 : Exa Z T10.heap x sc1 := (pr0.keep Kc10)
   obtain ⟨T13, h13, X13, e13, W13, st13⟩ := putF X10 hx hZ hown (host := "") (Or.inl (w_ hw 26 rfl)) Via.refl rfl f11 f12 (Or.inl (w_ hw 27 rfl)) (w_ hw 1 rfl) (ty := (.array (.object sc2))) (by decide) rfl rfl (g := (mkF mm_ 98 #[vr x, vr q] [(.ref nr_10), (.ref x)])) rfl rfl (B_ dk156)
   have F13 := f11.same W13
   have N13 := Fr.snoc X13 N10 g_x
   refine sp_ st13 ?_
   show Go_ T13 (mkF mm_ 101 #[vr x, vr q] [])
   refine sp_ (fun t_ k_ => XS.aloadN X13.here hx rfl (B_ dk157) rfl rfl k_) ?_
   obtain ⟨T14, X14, e14, st14⟩ := getF X13 hx hZ hown (host := "") (Or.inl (w_ hw 26 rfl)) Via.refl e13 F13 (g := (mkF mm_ 102 #[vr x, vr q] [(.ref x)])) rfl rfl (B_ dk158)
   refine sp_ st14 ?_
   show Go_ T14 (mkF mm_ 105 #[vr x, vr q] [(.ref nr_10)])
   refine sp_ (fun t_ k_ => XS.aloadN X14.here hx rfl (B_ dk159) rfl rfl (XS.dup X14.here hx rfl (B_ dk160) rfl rfl k_)) ?_
   have f15 : Fld Z h13 x sc1 "size" "I" (.int 1) := ((pr3.keep Kc10 nin0).other W13 (Or.inr (slot_ne (Or.inl (w_ hw 47 rfl)) (Or.inl (w_ hw 27 rfl)) (by decide) (t := .int) (t' := (.array (.object sc2))) (by decide) (by decide))))
   obtain ⟨T16, X16, e16, st16⟩ := getF X14 hx hZ hown (host := "") (Or.inl (w_ hw 46 rfl)) Via.refl e14 f15 (g := (mkF mm_ 107 #[vr x, vr q] [(.ref x), (.ref x), (.ref nr_10)])) rfl rfl (B_ dk161)
   refine sp_ st16 ?_
   show Go_ T16 (mkF mm_ 110 #[vr x, vr q] [(.int 1), (.ref x), (.ref nr_10)])
   refine sp_ (fun t_ k_ => XS.dupX1 X16.here hx rfl (B_ dk162) rfl rfl rfl (XS.iconst X16.here hx rfl (B_ dk163) (XS.iadd X16.here hx rfl (B_ dk164) rfl k_))) ?_
   have f17 : Exa Z h13 x sc1 := (f12.wr W13)
   obtain ⟨T18, h18, X18, e18, W18, st18⟩ := putF X16 hx hZ hown (host := "") (Or.inl (w_ hw 46 rfl)) Via.refl e16 f15 f17 (Or.inl (w_ hw 47 rfl)) (w_ hw 1 rfl) (ty := .int) (by decide) rfl rfl (g := (mkF mm_ 113 #[vr x, vr q] [(.int 2), (.ref x), (.int 1), (.ref nr_10)])) rfl rfl (B_ dk165)
   have F18 := f15.same W18
   have N18 := Fr.snoc X18 N13 g_x
   refine sp_ st18 ?_
   show Go_ T18 (mkF mm_ 116 #[vr x, vr q] [(.int 1), (.ref nr_10)])
   refine sp_ (fun t_ k_ => XS.aloadN X18.here hx rfl (B_ dk166) rfl rfl k_) ?_
   have f19 : Arv Z h18 nr_10 k2_10 (.object sc2) (2 : Int32) [(.ref r0), .null] .null := ((r10_2.other W13 (Ne.symm (Nat.ne_of_lt (Nat.lt_of_lt_of_le pr0.lt r10_0)))).other W18 (Ne.symm (Nat.ne_of_lt (Nat.lt_of_lt_of_le pr0.lt r10_0))))
   have f21 : Exa Z h18 q sc0 := (((pr13.keep Kc10).wr W13).wr W18)
   obtain ⟨cl20, Ar20, q20, S20, M20, H20, G20⟩ := id (f19 : Arv Z h18 nr_10 k2_10 (.object sc2) (2 : Int32) [(.ref r0), .null] .null)
   have hin20 : ¬ ((1 : Int32) < 0 ∨ cl20.slots.size ≤ ((1 : Int32)).toNatClampNeg) := inb_of S20 ⟨by decide, by decide⟩
   obtain ⟨T20, h20, X20, e20, W20, st20⟩ := stR X18 hx hZ e18 Ar20 (j := (1 : Int32)) hin20 rfl (Sto.ofV Ar20 q20 r10_3 (Ins.of_exa f21 (w_ hw 51 rfl))) (g := (mkF mm_ 117 #[vr x, vr q] [(.ref q), (.int 1), (.ref nr_10)])) rfl rfl (B_ dk167)
   have V20 : Arv Z h20 nr_10 k2_10 (.object sc2) (2 : Int32) [(.ref r0), (.ref q)] .null := Arv.set Ar20 q20 S20 M20 H20 G20 rfl W20 1 rfl (Nat.le_of_ble_eq_true rfl)
   have N20 := Fr.snoc X20 N18 g_nr_10
   refine sp_ st20 ?_
   show Go_ T20 (mkF mm_ 118 #[vr x, vr q] [])
   refine sp_ (fun t_ k_ => XS.iconst X20.here hx rfl (B_ dk168) k_) ?_
   show Go_ T20 (mkF mm_ 119 #[vr x, vr q] [(.int 1)])
   have K22 : Keep h0 h20 [x, ar] := ((((K0.trans Kc10 all0).wr W13 (Or.inl (List.mem_of_getElem? (i := 0) rfl))).wr W18 (Or.inl (List.mem_of_getElem? (i := 0) rfl))).wr W20 (Or.inr lo_nr_10))
   have f23 : Exa Z h20 nr_10 sc3 := (((r10_1.wr W13).wr W18).wr W20)
   have f24 : Fld Z h20 x sc1 "hashed" sc5 .null := ((((pr1.keep Kc10 nin0).other W13 (Or.inr (slot_ne (Or.inl (w_ hw 41 rfl)) (Or.inl (w_ hw 27 rfl)) (by decide) (t := (.object sc6)) (t' := (.array (.object sc2))) (by decide) (by decide)))).other W18 (Or.inr (slot_ne (Or.inl (w_ hw 41 rfl)) (Or.inl (w_ hw 47 rfl)) (by decide) (t := (.object sc6)) (t' := .int) (by decide) (by decide)))).other W20 (Or.inl (Nat.ne_of_lt (Nat.lt_of_lt_of_le pr0.lt r10_0))))
   have f25 : Fld Z h20 x sc1 "members" sc3 (.ref nr_10) := ((F13.other W18 (Or.inr (slot_ne (Or.inl (w_ hw 27 rfl)) (Or.inl (w_ hw 47 rfl)) (by decide) (t := (.array (.object sc2))) (t' := .int) (by decide) (by decide)))).other W20 (Or.inl (Nat.ne_of_lt (Nat.lt_of_lt_of_le pr0.lt r10_0))))
   have f26 : Fld Z h20 x sc1 "size" "I" (.int 2) := (F18.other W20 (Or.inl (Nat.ne_of_lt (Nat.lt_of_lt_of_le pr0.lt r10_0))))
   obtain ⟨fs, hr, hrun, hended, hW, hsame⟩ := X20.leave (v := some (.int 1)) (rN Bd.returns)
   refine ⟨_, _, ?_, hrun, hended, _, _, rfl, ?_, ⟨_, rfl⟩, hW, hsame.mono (by decide) (by decide)⟩
   · exact retN X20 hx (t := .boolean) Bd.returns (by simp) (B_ dk169) hr
   · show QrmAd1 Z x q ar k (1 : Int32) r0 v0 u h0 n0 (some (.int 1)) T20.heap _
     rw [e20]
     exact ⟨nr_10, k2_10, (2 : Int32), rfl, N20, K22, g_nr_10, f23, f24, f25, f26, V20, r10_3, (by first | assumption | rfl | decide), (by first | assumption | rfl | decide)⟩
 · skip
   have hzl_ := own_ltz hnz hz_
   show Go_ T5 (mkF mm_ 77 #[vr x, vr q] [(.int z), (.int 1)])
   refine sp_ (fun t_ k_ => XS.icmpYes X5.here hx rfl (pc0 := 77) (pc' := 101) rfl (B_ dk145) rfl (feq hz_).2 (by decide) (by decide) k_) ?_
   show Go_ T5 (mkF mm_ 101 #[vr x, vr q] [])
   refine sp_ (fun t_ k_ => XS.aloadN X5.here hx rfl (B_ dk157) rfl rfl k_) ?_
   obtain ⟨T27, X27, e27, st27⟩ := getF X5 hx hZ hown (host := "") (Or.inl (w_ hw 26 rfl)) Via.refl e5 pr2 (g := (mkF mm_ 102 #[vr x, vr q] [(.ref x)])) rfl rfl (B_ dk158)
   refine sp_ st27 ?_
   show Go_ T27 (mkF mm_ 105 #[vr x, vr q] [(.ref ar)])
   refine sp_ (fun t_ k_ => XS.aloadN X27.here hx rfl (B_ dk159) rfl rfl (XS.dup X27.here hx rfl (B_ dk160) rfl rfl k_)) ?_
   obtain ⟨T28, X28, e28, st28⟩ := getF X27 hx hZ hown (host := "") (Or.inl (w_ hw 46 rfl)) Via.refl e27 pr3 (g := (mkF mm_ 107 #[vr x, vr q] [(.ref x), (.ref x), (.ref ar)])) rfl rfl (B_ dk161)
   refine sp_ st28 ?_
   show Go_ T28 (mkF mm_ 110 #[vr x, vr q] [(.int 1), (.ref x), (.ref ar)])
   refine sp_ (fun t_ k_ => XS.dupX1 X28.here hx rfl (B_ dk162) rfl rfl rfl (XS.iconst X28.here hx rfl (B_ dk163) (XS.iadd X28.here hx rfl (B_ dk164) rfl k_))) ?_
   obtain ⟨T29, h29, X29, e29, W29, st29⟩ := putF X28 hx hZ hown (host := "") (Or.inl (w_ hw 46 rfl)) Via.refl e28 pr3 pr0 (Or.inl (w_ hw 47 rfl)) (w_ hw 1 rfl) (ty := .int) (by decide) rfl rfl (g := (mkF mm_ 113 #[vr x, vr q] [(.int 2), (.ref x), (.int 1), (.ref ar)])) rfl rfl (B_ dk165)
   have F29 := pr3.same W29
   have N29 := Fr.snoc X29 N2 g_x
   refine sp_ st29 ?_
   show Go_ T29 (mkF mm_ 116 #[vr x, vr q] [(.int 1), (.ref ar)])
   refine sp_ (fun t_ k_ => XS.aloadN X29.here hx rfl (B_ dk166) rfl rfl k_) ?_
   have f30 : Arv Z h29 ar k (.object sc2) z [(.ref r0)] .null := (pr4.other W29 (Exa.ne pr5 pr0 (by decide)))
   have f32 : Exa Z h29 q sc0 := (pr13.wr W29)
   obtain ⟨cl31, Ar31, q31, S31, M31, H31, G31⟩ := id ((f30.pad (pad_rep [(.ref r0)] .null 1)) : Arv Z h29 ar k (.object sc2) z [(.ref r0), .null] .null)
   have hin31 : ¬ ((1 : Int32) < 0 ∨ cl31.slots.size ≤ ((1 : Int32)).toNatClampNeg) := inb_of S31 ⟨by decide, hzl_⟩
   obtain ⟨T31, h31, X31, e31, W31, st31⟩ := stR X29 hx hZ e29 Ar31 (j := (1 : Int32)) hin31 rfl (Sto.ofV Ar31 q31 hov (Ins.of_exa f32 (w_ hw 51 rfl))) (g := (mkF mm_ 117 #[vr x, vr q] [(.ref q), (.int 1), (.ref ar)])) rfl rfl (B_ dk167)
   have V31 : Arv Z h31 ar k (.object sc2) z [(.ref r0), (.ref q)] .null := Arv.set Ar31 q31 S31 M31 H31 G31 rfl W31 1 rfl (Nat.le_of_ble_eq_true rfl)
   have N31 := Fr.snoc X31 N29 g_ar
   refine sp_ st31 ?_
   show Go_ T31 (mkF mm_ 118 #[vr x, vr q] [])
   refine sp_ (fun t_ k_ => XS.iconst X31.here hx rfl (B_ dk168) k_) ?_
   show Go_ T31 (mkF mm_ 119 #[vr x, vr q] [(.int 1)])
   have K33 : Keep h0 h31 [x, ar] := ((K0.wr W29 (Or.inl (List.mem_of_getElem? (i := 0) rfl))).wr W31 (Or.inl (List.mem_of_getElem? (i := 1) rfl)))
   have f34 : Exa Z h31 ar sc3 := ((pr5.wr W29).wr W31)
   have f35 : Fld Z h31 x sc1 "hashed" sc5 .null := ((pr1.other W29 (Or.inr (slot_ne (Or.inl (w_ hw 41 rfl)) (Or.inl (w_ hw 47 rfl)) (by decide) (t := (.object sc6)) (t' := .int) (by decide) (by decide)))).other W31 (Or.inl (Exa.ne (pr0.wr W29) (pr5.wr W29) (by decide))))
   have f36 : Fld Z h31 x sc1 "members" sc3 (.ref ar) := ((pr2.other W29 (Or.inr (slot_ne (Or.inl (w_ hw 27 rfl)) (Or.inl (w_ hw 47 rfl)) (by decide) (t := (.array (.object sc2))) (t' := .int) (by decide) (by decide)))).other W31 (Or.inl (Exa.ne (pr0.wr W29) (pr5.wr W29) (by decide))))
   have f37 : Fld Z h31 x sc1 "size" "I" (.int 2) := (F29.other W31 (Or.inl (Exa.ne (pr0.wr W29) (pr5.wr W29) (by decide))))
   obtain ⟨fs, hr, hrun, hended, hW, hsame⟩ := X31.leave (v := some (.int 1)) (rN Bd.returns)
   refine ⟨_, _, ?_, hrun, hended, _, _, rfl, ?_, ⟨_, rfl⟩, hW, hsame.mono (by decide) (by decide)⟩
   · exact retN X31 hx (t := .boolean) Bd.returns (by simp) (B_ dk169) hr
   · show QrmAd1 Z x q ar k z r0 v0 u h0 n0 (some (.int 1)) T31.heap _
     rw [e31]
     exact ⟨ar, k, z, rfl, N31, K33, g_ar, f34, f35, f36, f37, V31, hov, hz0, hzl_⟩
theorem ef_rmAd2 (mm_ : MethodId) (x : Addr) (q : Addr) : entryFrame mm_ #[(.ref x), (.ref q)] 2 = (mkF mm_ 0 #[vr x, vr q] []) := by first | (simp [entryFrame, mkF, argsToLocals, Value.category]; done) | rfl
def QrmAd2 (Z : State) (x : Addr) (q : Addr) (ar : Addr) (k : ClassId) (z : Int32) (r0 : Addr) (r1 : Addr) (v0 : Int32) (v1 : Int32) (u : Int32) (h0 : Heap) (n0 : Nat) (vv_ : Option Value) (hh_ : Heap) (LL_ : List Loc) : Prop := ∃ (nr : Addr), ∃ (k2 : ClassId), ∃ (z2 : Int32), (vv_ = some (.int 1)) ∧ (Fr n0 LL_) ∧ (Keep h0 hh_ [x, ar]) ∧ (n0 ≤ nr) ∧ (Exa Z hh_ nr sc3) ∧ (Fld Z hh_ x sc1 "hashed" sc5 .null) ∧ (Fld Z hh_ x sc1 "members" sc3 (.ref nr)) ∧ (Fld Z hh_ x sc1 "size" "I" (.int 3)) ∧ (Arv Z hh_ nr k2 (.object sc2) z2 [(.ref r0), (.ref r1), (.ref q)] .null) ∧ (Ovr Z k2 sc2) ∧ ((0 : Int32) < z2) ∧ ((1 : Int32) < z2) ∧ ((2 : Int32) < z2)
theorem rmAd2 (l : Launch) (Z : State) (a0 : Array Value) (hw : own_Hw a0 Z) (ws : List Jvm.Cond) (x : Addr) (q : Addr) (ar : Addr) (k : ClassId) (z : Int32) (r0 : Addr) (r1 : Addr) (v0 : Int32) (v1 : Int32) (u : Int32) {w_ca : Addr} {mir : Addr} (h0 : Heap) (n0 : Nat) (O0 : Old Z n0 h0) (G_ : own_St Z w_ca mir) (pr0 : Exa Z h0 x sc1) (pr1 : Fld Z h0 x sc1 "hashed" sc5 .null) (pr2 : Fld Z h0 x sc1 "members" sc3 (.ref ar)) (pr3 : Fld Z h0 x sc1 "size" "I" (.int 2)) (pr4 : Arv Z h0 ar k (.object sc2) z [(.ref r0), (.ref r1)] .null) (pr5 : Exa Z h0 ar sc3) (hz0 : (0 : Int32) < z) (hz1 : (1 : Int32) < z) (hnz : ¬ (z < (2 : Int32))) (hov : Ovr Z k sc2) (g_x : n0 ≤ x) (g_ar : n0 ≤ ar) (pr12 : Exa Z h0 r0 sc0) (pr13 : Fld Z h0 r0 sc0 "value" "I" (.int v0)) (pr14 : Exa Z h0 r1 sc0) (pr15 : Fld Z h0 r1 sc0 "value" "I" (.int v1)) (pr16 : Exa Z h0 q sc0) (pr17 : Fld Z h0 q sc0 "value" "I" (.int u)) (hn0 : ¬ (v0 = u)) (hn1 : ¬ (v1 = u)) :
 own_MF l Z ym5 J14 2 (some .boolean) ws (rm_ 4 1 4 89) #[(.ref x), (.ref q)] h0 (QrmAd2 Z x q ar k z r0 r1 v0 v1 u h0 n0) := by
 refine own_met (plainFor_of_name pn_com_example_compact_abox_compactabox_ArraySet) (fun m_ => ef_rmAd2 m_ x q) fun pp_ ee_ ss_ mm_ bb_ me_ cc_ s₁ Bd hx hby hml hown hZ hh X0 e0 => ?_
 have B_ {q_ : Nat} {r_ : _} (h_ : decode _ q_ = r_) := hb hby h_
 have hown : ss_.vm.findClass sc1 = some mm_.cls := hown
 have N0 := Fr.nil n0
 have Z0 : n0 ≤ h0.size := by have q := O0.2.1; rw [O0.1] at q; exact q
 have K0 : Keep h0 h0 [x, ar] := Keep.refl _ _
 obtain ⟨G_hi, G_ca, G_cc, G_mi⟩ := id G_
 show Go_ s₁ (mkF mm_ 0 #[vr x, vr q] [])
 refine sp_ (fun t_ k_ => XS.aloadN X0.here hx rfl (B_ dk127) rfl rfl k_) ?_
 obtain ⟨T1, X1, e1, st1⟩ := getF X0 hx hZ hown (host := "") (Or.inl (w_ hw 40 rfl)) Via.refl e0 pr1 (g := (mkF mm_ 1 #[vr x, vr q] [(.ref x)])) rfl rfl (B_ dk128)
 refine sp_ st1 ?_
 show Go_ T1 (mkF mm_ 4 #[vr x, vr q] [.null])
 refine sp_ (fun t_ k_ => XS.ifnullYes X1.here hx rfl (pc0 := 4) (pc' := 18) rfl (B_ dk129) rfl (by decide) (by decide) (XS.aloadN X1.here hx rfl (B_ dk130) rfl rfl (XS.aloadN X1.here hx rfl (B_ dk131) rfl rfl k_))) ?_
 obtain ⟨cq2, qq2, qq2'⟩ := pr0.cell
 obtain ⟨_, T2, Lc2, X2, hQ2, st2⟩ := own_cP X1 hx hZ hown (w_ hw 42 rfl) (w_ hw 43 rfl) (own_selP (w_ hw 38 rfl) rfl (w_ hw 43 rfl) (w_ hw 44 rfl) (by decide)) (w_ hw 44 rfl) (w_ hw 45 rfl) (by decide) (backOf (W := 0) (rmPx2N l Z a0 hw [] x q ar k z r0 r1 v0 v1 u h0 n0 O0 pr2 pr3 pr4 hz0 hz1 pr12 pr13 pr14 pr15 pr16 pr17 hn0 hn1) hZ (w_ hw 45 rfl) (w_ hw 2 rfl) (by decide) (by decide)) (by rw [e1]; exact qq2) qq2' (g := (mkF mm_ 20 #[vr x, vr q] [(.ref q), (.ref x)])) rfl hml.symm (argsL := [(.ref q)]) (rest := []) (lenOf pd_7 rfl) rfl (Nat.le_of_eq rfl) (B_ dk132) rfl e1 (by decide) (by decide)
 obtain ⟨rfl, rfl, Eh2⟩ := hQ2
 have N2 := Fr.app N0 (Fr.nil n0)
 refine jp_ st2 ?_
 show Go_ T2 (mkF mm_ 23 #[vr x, vr q] [(.int (-1))])
 refine sp_ (fun t_ k_ => XS.ifYes X2.here hx rfl (pc0 := 23) (pc' := 28) rfl (B_ dk133) rfl ((if0 _ _).trans (tlt (by decide : (-1 : Int32) < (0 : Int32))).1) (by decide) (by decide) k_) ?_
 show Go_ T2 (mkF mm_ 28 #[vr x, vr q] [])
 refine sp_ (fun t_ k_ => XS.aloadN X2.here hx rfl (B_ dk136) rfl rfl k_) ?_
 obtain ⟨T3, X3, e3, st3⟩ := getF X2 hx hZ hown (host := "") (Or.inl (w_ hw 46 rfl)) Via.refl Eh2 pr3 (g := (mkF mm_ 29 #[vr x, vr q] [(.ref x)])) rfl rfl (B_ dk137)
 refine sp_ st3 ?_
 show Go_ T3 (mkF mm_ 32 #[vr x, vr q] [(.int 2)])
 refine sp_ (fun t_ k_ => XS.bipush X3.here hx rfl (B_ dk138) k_) ?_
 show Go_ T3 (mkF mm_ 34 #[vr x, vr q] [(.int 8), (.int 2)])
 refine sp_ (fun t_ k_ => XS.icmpYes X3.here hx rfl (pc0 := 34) (pc' := 68) rfl (B_ dk139) rfl (feq (by decide : ¬ ((2 : Int32) = (8 : Int32)))).2 (by decide) (by decide) k_) ?_
 show Go_ T3 (mkF mm_ 68 #[vr x, vr q] [])
 refine sp_ (fun t_ k_ => XS.aloadN X3.here hx rfl (B_ dk140) rfl rfl k_) ?_
 obtain ⟨T4, X4, e4, st4⟩ := getF X3 hx hZ hown (host := "") (Or.inl (w_ hw 46 rfl)) Via.refl e3 pr3 (g := (mkF mm_ 69 #[vr x, vr q] [(.ref x)])) rfl rfl (B_ dk141)
 refine sp_ st4 ?_
 show Go_ T4 (mkF mm_ 72 #[vr x, vr q] [(.int 2)])
 refine sp_ (fun t_ k_ => XS.aloadN X4.here hx rfl (B_ dk142) rfl rfl k_) ?_
 obtain ⟨T5, X5, e5, st5⟩ := getF X4 hx hZ hown (host := "") (Or.inl (w_ hw 26 rfl)) Via.refl e4 pr2 (g := (mkF mm_ 73 #[vr x, vr q] [(.ref x), (.int 2)])) rfl rfl (B_ dk143)
 refine sp_ st5 ?_
 obtain ⟨cl6, Ar6, -, S6, M6, -, -⟩ := id pr4
 refine sp_ (fun t_ k_ => X5.arraylength hx (by rw [e5]; exact Ar6.1) (State.isArrayOf_alike hZ.alike Ar6.2.1) (g := (mkF mm_ 76 #[vr x, vr q] [(.ref ar), (.int 2)])) rfl rfl (B_ dk144) t_ (by rw [len_of S6 M6]; exact k_)) ?_
 show Go_ T5 (mkF mm_ 77 #[vr x, vr q] [(.int z), (.int 2)])
 by_cases hz_ : (2 : Int32) = z
 · skip
   subst hz_
   show Go_ T5 (mkF mm_ 77 #[vr x, vr q] [(.int 2), (.int 2)])
   refine sp_ (fun t_ k_ => XS.icmpNo X5.here hx rfl (B_ dk145) rfl (teq (by decide : (2 : Int32) = (2 : Int32))).2 k_) ?_
   show Go_ T5 (mkF mm_ 80 #[vr x, vr q] [])
   refine sp_ (fun t_ k_ => XS.aloadN X5.here hx rfl (B_ dk146) rfl rfl (XS.aloadN X5.here hx rfl (B_ dk147) rfl rfl k_)) ?_
   obtain ⟨T7, X7, e7, st7⟩ := getF X5 hx hZ hown (host := "") (Or.inl (w_ hw 26 rfl)) Via.refl e5 pr2 (g := (mkF mm_ 82 #[vr x, vr q] [(.ref x), (.ref x)])) rfl rfl (B_ dk148)
   refine sp_ st7 ?_
   show Go_ T7 (mkF mm_ 85 #[vr x, vr q] [(.ref ar), (.ref x)])
   refine sp_ (fun t_ k_ => XS.iconst X7.here hx rfl (B_ dk149) (XS.iconst X7.here hx rfl (B_ dk150) (XS.aloadN X7.here hx rfl (B_ dk151) rfl rfl k_))) ?_
   obtain ⟨T8, X8, e8, st8⟩ := getF X7 hx hZ hown (host := "") (Or.inl (w_ hw 46 rfl)) Via.refl e7 pr3 (g := (mkF mm_ 88 #[vr x, vr q] [(.ref x), (.int 2), (.int 1), (.ref ar), (.ref x)])) rfl rfl (B_ dk152)
   refine sp_ st8 ?_
   show Go_ T8 (mkF mm_ 91 #[vr x, vr q] [(.int 2), (.int 2), (.int 1), (.ref ar), (.ref x)])
   refine sp_ (fun t_ k_ => XS.imul X8.here hx rfl (B_ dk153) rfl k_) ?_
   obtain ⟨_, T9, Lc9, X9, hQ9, st9⟩ := own_cS X8 hx hZ hown (w_ hw 67 rfl) (w_ hw 68 rfl) (w_ hw 22 rfl) (w_ hw 69 rfl) (by decide) (backOf (W := 2) (rmMax2 l Z a0 hw []  h0 n0 O0 ) hZ (w_ hw 69 rfl) (w_ hw 22 rfl) (by decide) (by decide)) (g := (mkF mm_ 92 #[vr x, vr q] [(.int 4), (.int 1), (.ref ar), (.ref x)])) rfl hml.symm (argsL := [(.int 1), (.int 4)]) (rest := [(.ref ar), (.ref x)]) (lenOf pd_5 rfl) rfl (Nat.le_of_eq rfl) (B_ dk154) rfl e8 (by decide) (by decide)
   obtain ⟨rfl, rfl, Eh9⟩ := hQ9
   have N9 := Fr.app N2 (Fr.nil n0)
   refine jp_ st9 ?_
   obtain ⟨_, T10, Lc10, X10, hQ10, st10⟩ := own_cS X9 hx hZ hown (w_ hw 70 rfl) (w_ hw 71 rfl) (w_ hw 72 rfl) (w_ hw 73 rfl) (by decide) (backOf (W := 1) (rmC2_2 l Z a0 hw [] ar k r0 r1 h0 n0 O0 G_ pr4 pr5 pr12 pr14) hZ (w_ hw 73 rfl) (w_ hw 72 rfl) (by decide) (by decide)) (g := (mkF mm_ 95 #[vr x, vr q] [(.int 4), (.ref ar), (.ref x)])) rfl hml.symm (argsL := [(.ref ar), (.int 4)]) (rest := [(.ref x)]) (lenOf pd_8 rfl) rfl (Nat.le_of_eq rfl) (B_ dk155) rfl Eh9 (by decide) (by decide)
   obtain ⟨nr_10, k2_10, rfl, Nq10, Kc10, r10_0, r10_1, r10_2, r10_3⟩ := hQ10
   have N10 := Fr.app N9 Nq10
   have lo_nr_10 : h0.size ≤ nr_10 := Nat.le_trans K0.1 r10_0
   have g_nr_10 : n0 ≤ nr_10 := Nat.le_trans Z0 lo_nr_10
   refine jp_ st10 ?_
   have f11 : Fld Z T10.heap x sc1 "members" sc3 (.ref ar) := (pr2.keep Kc10 nin0)
   have f12 : Exa Z T10.heap x sc1 := (pr0.keep Kc10)
   obtain ⟨T13, h13, X13, e13, W13, st13⟩ := putF X10 hx hZ hown (host := "") (Or.inl (w_ hw 26 rfl)) Via.refl rfl f11 f12 (Or.inl (w_ hw 27 rfl)) (w_ hw 1 rfl) (ty := (.array (.object sc2))) (by decide) rfl rfl (g := (mkF mm_ 98 #[vr x, vr q] [(.ref nr_10), (.ref x)])) rfl rfl (B_ dk156)
   have F13 := f11.same W13
   have N13 := Fr.snoc X13 N10 g_x
   refine sp_ st13 ?_
   show Go_ T13 (mkF mm_ 101 #[vr x, vr q] [])
   refine sp_ (fun t_ k_ => XS.aloadN X13.here hx rfl (B_ dk157) rfl rfl k_) ?_
   obtain ⟨T14, X14, e14, st14⟩ := getF X13 hx hZ hown (host := "") (Or.inl (w_ hw 26 rfl)) Via.refl e13 F13 (g := (mkF mm_ 102 #[vr x, vr q] [(.ref x)])) rfl rfl (B_ dk158)
   refine sp_ st14 ?_
   show Go_ T14 (mkF mm_ 105 #[vr x, vr q] [(.ref nr_10)])
   refine sp_ (fun t_ k_ => XS.aloadN X14.here hx rfl (B_ dk159) rfl rfl (XS.dup X14.here hx rfl (B_ dk160) rfl rfl k_)) ?_
   have f15 : Fld Z h13 x sc1 "size" "I" (.int 2) := ((pr3.keep Kc10 nin0).other W13 (Or.inr (slot_ne (Or.inl (w_ hw 47 rfl)) (Or.inl (w_ hw 27 rfl)) (by decide) (t := .int) (t' := (.array (.object sc2))) (by decide) (by decide))))
   obtain ⟨T16, X16, e16, st16⟩ := getF X14 hx hZ hown (host := "") (Or.inl (w_ hw 46 rfl)) Via.refl e14 f15 (g := (mkF mm_ 107 #[vr x, vr q] [(.ref x), (.ref x), (.ref nr_10)])) rfl rfl (B_ dk161)
   refine sp_ st16 ?_
   show Go_ T16 (mkF mm_ 110 #[vr x, vr q] [(.int 2), (.ref x), (.ref nr_10)])
   refine sp_ (fun t_ k_ => XS.dupX1 X16.here hx rfl (B_ dk162) rfl rfl rfl (XS.iconst X16.here hx rfl (B_ dk163) (XS.iadd X16.here hx rfl (B_ dk164) rfl k_))) ?_
   have f17 : Exa Z h13 x sc1 := (f12.wr W13)
   obtain ⟨T18, h18, X18, e18, W18, st18⟩ := putF X16 hx hZ hown (host := "") (Or.inl (w_ hw 46 rfl)) Via.refl e16 f15 f17 (Or.inl (w_ hw 47 rfl)) (w_ hw 1 rfl) (ty := .int) (by decide) rfl rfl (g := (mkF mm_ 113 #[vr x, vr q] [(.int 3), (.ref x), (.int 2), (.ref nr_10)])) rfl rfl (B_ dk165)
   have F18 := f15.same W18
   have N18 := Fr.snoc X18 N13 g_x
   refine sp_ st18 ?_
   show Go_ T18 (mkF mm_ 116 #[vr x, vr q] [(.int 2), (.ref nr_10)])
   refine sp_ (fun t_ k_ => XS.aloadN X18.here hx rfl (B_ dk166) rfl rfl k_) ?_
   have f19 : Arv Z h18 nr_10 k2_10 (.object sc2) (4 : Int32) [(.ref r0), (.ref r1), .null, .null] .null := ((r10_2.other W13 (Ne.symm (Nat.ne_of_lt (Nat.lt_of_lt_of_le pr0.lt r10_0)))).other W18 (Ne.symm (Nat.ne_of_lt (Nat.lt_of_lt_of_le pr0.lt r10_0))))
   have f21 : Exa Z h18 q sc0 := (((pr16.keep Kc10).wr W13).wr W18)
   obtain ⟨cl20, Ar20, q20, S20, M20, H20, G20⟩ := id (f19 : Arv Z h18 nr_10 k2_10 (.object sc2) (4 : Int32) [(.ref r0), (.ref r1), .null, .null] .null)
   have hin20 : ¬ ((2 : Int32) < 0 ∨ cl20.slots.size ≤ ((2 : Int32)).toNatClampNeg) := inb_of S20 ⟨by decide, by decide⟩
   obtain ⟨T20, h20, X20, e20, W20, st20⟩ := stR X18 hx hZ e18 Ar20 (j := (2 : Int32)) hin20 rfl (Sto.ofV Ar20 q20 r10_3 (Ins.of_exa f21 (w_ hw 51 rfl))) (g := (mkF mm_ 117 #[vr x, vr q] [(.ref q), (.int 2), (.ref nr_10)])) rfl rfl (B_ dk167)
   have V20 : Arv Z h20 nr_10 k2_10 (.object sc2) (4 : Int32) [(.ref r0), (.ref r1), (.ref q), .null] .null := Arv.set Ar20 q20 S20 M20 H20 G20 rfl W20 2 rfl (Nat.le_of_ble_eq_true rfl)
   have N20 := Fr.snoc X20 N18 g_nr_10
   refine sp_ st20 ?_
   show Go_ T20 (mkF mm_ 118 #[vr x, vr q] [])
   refine sp_ (fun t_ k_ => XS.iconst X20.here hx rfl (B_ dk168) k_) ?_
   show Go_ T20 (mkF mm_ 119 #[vr x, vr q] [(.int 1)])
   have Vt22 : Arv Z h20 nr_10 k2_10 (.object sc2) (4 : Int32) [(.ref r0), (.ref r1), (.ref q)] .null := V20.pad (fun i_ => (pad_rep [(.ref r0), (.ref r1), (.ref q)] .null 1 i_).symm)
   have K23 : Keep h0 h20 [x, ar] := ((((K0.trans Kc10 all0).wr W13 (Or.inl (List.mem_of_getElem? (i := 0) rfl))).wr W18 (Or.inl (List.mem_of_getElem? (i := 0) rfl))).wr W20 (Or.inr lo_nr_10))
   have f24 : Exa Z h20 nr_10 sc3 := (((r10_1.wr W13).wr W18).wr W20)
   have f25 : Fld Z h20 x sc1 "hashed" sc5 .null := ((((pr1.keep Kc10 nin0).other W13 (Or.inr (slot_ne (Or.inl (w_ hw 41 rfl)) (Or.inl (w_ hw 27 rfl)) (by decide) (t := (.object sc6)) (t' := (.array (.object sc2))) (by decide) (by decide)))).other W18 (Or.inr (slot_ne (Or.inl (w_ hw 41 rfl)) (Or.inl (w_ hw 47 rfl)) (by decide) (t := (.object sc6)) (t' := .int) (by decide) (by decide)))).other W20 (Or.inl (Nat.ne_of_lt (Nat.lt_of_lt_of_le pr0.lt r10_0))))
   have f26 : Fld Z h20 x sc1 "members" sc3 (.ref nr_10) := ((F13.other W18 (Or.inr (slot_ne (Or.inl (w_ hw 27 rfl)) (Or.inl (w_ hw 47 rfl)) (by decide) (t := (.array (.object sc2))) (t' := .int) (by decide) (by decide)))).other W20 (Or.inl (Nat.ne_of_lt (Nat.lt_of_lt_of_le pr0.lt r10_0))))
   have f27 : Fld Z h20 x sc1 "size" "I" (.int 3) := (F18.other W20 (Or.inl (Nat.ne_of_lt (Nat.lt_of_lt_of_le pr0.lt r10_0))))
   obtain ⟨fs, hr, hrun, hended, hW, hsame⟩ := X20.leave (v := some (.int 1)) (rN Bd.returns)
   refine ⟨_, _, ?_, hrun, hended, _, _, rfl, ?_, ⟨_, rfl⟩, hW, hsame.mono (by decide) (by decide)⟩
   · exact retN X20 hx (t := .boolean) Bd.returns (by simp) (B_ dk169) hr
   · show QrmAd2 Z x q ar k (2 : Int32) r0 r1 v0 v1 u h0 n0 (some (.int 1)) T20.heap _
     rw [e20]
     exact ⟨nr_10, k2_10, (4 : Int32), rfl, N20, K23, g_nr_10, f24, f25, f26, f27, Vt22, r10_3, (by first | assumption | rfl | decide), (by first | assumption | rfl | decide), (by first | assumption | rfl | decide)⟩
 · skip
   have hzl_ := own_ltz hnz hz_
   show Go_ T5 (mkF mm_ 77 #[vr x, vr q] [(.int z), (.int 2)])
   refine sp_ (fun t_ k_ => XS.icmpYes X5.here hx rfl (pc0 := 77) (pc' := 101) rfl (B_ dk145) rfl (feq hz_).2 (by decide) (by decide) k_) ?_
   show Go_ T5 (mkF mm_ 101 #[vr x, vr q] [])
   refine sp_ (fun t_ k_ => XS.aloadN X5.here hx rfl (B_ dk157) rfl rfl k_) ?_
   obtain ⟨T28, X28, e28, st28⟩ := getF X5 hx hZ hown (host := "") (Or.inl (w_ hw 26 rfl)) Via.refl e5 pr2 (g := (mkF mm_ 102 #[vr x, vr q] [(.ref x)])) rfl rfl (B_ dk158)
   refine sp_ st28 ?_
   show Go_ T28 (mkF mm_ 105 #[vr x, vr q] [(.ref ar)])
   refine sp_ (fun t_ k_ => XS.aloadN X28.here hx rfl (B_ dk159) rfl rfl (XS.dup X28.here hx rfl (B_ dk160) rfl rfl k_)) ?_
   obtain ⟨T29, X29, e29, st29⟩ := getF X28 hx hZ hown (host := "") (Or.inl (w_ hw 46 rfl)) Via.refl e28 pr3 (g := (mkF mm_ 107 #[vr x, vr q] [(.ref x), (.ref x), (.ref ar)])) rfl rfl (B_ dk161)
   refine sp_ st29 ?_
   show Go_ T29 (mkF mm_ 110 #[vr x, vr q] [(.int 2), (.ref x), (.ref ar)])
   refine sp_ (fun t_ k_ => XS.dupX1 X29.here hx rfl (B_ dk162) rfl rfl rfl (XS.iconst X29.here hx rfl (B_ dk163) (XS.iadd X29.here hx rfl (B_ dk164) rfl k_))) ?_
   obtain ⟨T30, h30, X30, e30, W30, st30⟩ := putF X29 hx hZ hown (host := "") (Or.inl (w_ hw 46 rfl)) Via.refl e29 pr3 pr0 (Or.inl (w_ hw 47 rfl)) (w_ hw 1 rfl) (ty := .int) (by decide) rfl rfl (g := (mkF mm_ 113 #[vr x, vr q] [(.int 3), (.ref x), (.int 2), (.ref ar)])) rfl rfl (B_ dk165)
   have F30 := pr3.same W30
   have N30 := Fr.snoc X30 N2 g_x
   refine sp_ st30 ?_
   show Go_ T30 (mkF mm_ 116 #[vr x, vr q] [(.int 2), (.ref ar)])
   refine sp_ (fun t_ k_ => XS.aloadN X30.here hx rfl (B_ dk166) rfl rfl k_) ?_
   have f31 : Arv Z h30 ar k (.object sc2) z [(.ref r0), (.ref r1)] .null := (pr4.other W30 (Exa.ne pr5 pr0 (by decide)))
   have f33 : Exa Z h30 q sc0 := (pr16.wr W30)
   obtain ⟨cl32, Ar32, q32, S32, M32, H32, G32⟩ := id ((f31.pad (pad_rep [(.ref r0), (.ref r1)] .null 1)) : Arv Z h30 ar k (.object sc2) z [(.ref r0), (.ref r1), .null] .null)
   have hin32 : ¬ ((2 : Int32) < 0 ∨ cl32.slots.size ≤ ((2 : Int32)).toNatClampNeg) := inb_of S32 ⟨by decide, hzl_⟩
   obtain ⟨T32, h32, X32, e32, W32, st32⟩ := stR X30 hx hZ e30 Ar32 (j := (2 : Int32)) hin32 rfl (Sto.ofV Ar32 q32 hov (Ins.of_exa f33 (w_ hw 51 rfl))) (g := (mkF mm_ 117 #[vr x, vr q] [(.ref q), (.int 2), (.ref ar)])) rfl rfl (B_ dk167)
   have V32 : Arv Z h32 ar k (.object sc2) z [(.ref r0), (.ref r1), (.ref q)] .null := Arv.set Ar32 q32 S32 M32 H32 G32 rfl W32 2 rfl (Nat.le_of_ble_eq_true rfl)
   have N32 := Fr.snoc X32 N30 g_ar
   refine sp_ st32 ?_
   show Go_ T32 (mkF mm_ 118 #[vr x, vr q] [])
   refine sp_ (fun t_ k_ => XS.iconst X32.here hx rfl (B_ dk168) k_) ?_
   show Go_ T32 (mkF mm_ 119 #[vr x, vr q] [(.int 1)])
   have K34 : Keep h0 h32 [x, ar] := ((K0.wr W30 (Or.inl (List.mem_of_getElem? (i := 0) rfl))).wr W32 (Or.inl (List.mem_of_getElem? (i := 1) rfl)))
   have f35 : Exa Z h32 ar sc3 := ((pr5.wr W30).wr W32)
   have f36 : Fld Z h32 x sc1 "hashed" sc5 .null := ((pr1.other W30 (Or.inr (slot_ne (Or.inl (w_ hw 41 rfl)) (Or.inl (w_ hw 47 rfl)) (by decide) (t := (.object sc6)) (t' := .int) (by decide) (by decide)))).other W32 (Or.inl (Exa.ne (pr0.wr W30) (pr5.wr W30) (by decide))))
   have f37 : Fld Z h32 x sc1 "members" sc3 (.ref ar) := ((pr2.other W30 (Or.inr (slot_ne (Or.inl (w_ hw 27 rfl)) (Or.inl (w_ hw 47 rfl)) (by decide) (t := (.array (.object sc2))) (t' := .int) (by decide) (by decide)))).other W32 (Or.inl (Exa.ne (pr0.wr W30) (pr5.wr W30) (by decide))))
   have f38 : Fld Z h32 x sc1 "size" "I" (.int 3) := (F30.other W32 (Or.inl (Exa.ne (pr0.wr W30) (pr5.wr W30) (by decide))))
   obtain ⟨fs, hr, hrun, hended, hW, hsame⟩ := X32.leave (v := some (.int 1)) (rN Bd.returns)
   refine ⟨_, _, ?_, hrun, hended, _, _, rfl, ?_, ⟨_, rfl⟩, hW, hsame.mono (by decide) (by decide)⟩
   · exact retN X32 hx (t := .boolean) Bd.returns (by simp) (B_ dk169) hr
   · show QrmAd2 Z x q ar k z r0 r1 v0 v1 u h0 n0 (some (.int 1)) T32.heap _
     rw [e32]
     exact ⟨ar, k, z, rfl, N32, K34, g_ar, f35, f36, f37, f38, V32, hov, hz0, hz1, hzl_⟩
theorem dk170 : decode J15 0 = .ok (.aload_n 0, 1) := by decide +kernel
theorem dk171 : decode J15 1 = .ok (.iload_n 2, 1) := by decide +kernel
theorem dk172 : decode J15 2 = .ok (.iconst 1, 1) := by decide +kernel
theorem dk173 : decode J15 3 = .ok (.iadd, 1) := by decide +kernel
theorem dk174 : decode J15 4 = .ok (.aload_n 0, 1) := by decide +kernel
theorem dk175 : decode J15 5 = .ok (.iload_n 2, 1) := by decide +kernel
theorem dk176 : decode J15 6 = .ok (.iload_n 1, 1) := by decide +kernel
theorem dk177 : decode J15 7 = .ok (.iload_n 2, 1) := by decide +kernel
theorem dk178 : decode J15 8 = .ok (.isub, 1) := by decide +kernel
theorem dk179 : decode J15 9 = .ok (.iconst 1, 1) := by decide +kernel
theorem dk180 : decode J15 10 = .ok (.isub, 1) := by decide +kernel
theorem dk181 : decode J15 11 = .ok (.invokestatic 81, 3) := by decide +kernel
theorem dk182 : decode J15 14 = .ok (.aload_n 0, 1) := by decide +kernel
theorem dk183 : decode J15 15 = .ok (.iload_n 1, 1) := by decide +kernel
theorem dk184 : decode J15 16 = .ok (.iconst 1, 1) := by decide +kernel
theorem dk185 : decode J15 17 = .ok (.isub, 1) := by decide +kernel
theorem dk186 : decode J15 18 = .ok (.aconst_null, 1) := by decide +kernel
theorem dk187 : decode J15 19 = .ok (.aastore, 1) := by decide +kernel
theorem dk188 : decode J15 20 = .ok (.return_, 1) := by decide +kernel
theorem ef_rmRa1_0 (mm_ : MethodId) (ar : Addr) : entryFrame mm_ #[(.ref ar), (.int 1), (.int 0)] 3 = (mkF mm_ 0 #[vr ar, vi 1, vi 0] []) := by first | (simp [entryFrame, mkF, argsToLocals, Value.category]; done) | rfl
def QrmRa1_0 (Z : State) (ar : Addr) (k : ClassId) (z : Int32) (r0 : Addr) (h0 : Heap) (n0 : Nat) (vv_ : Option Value) (hh_ : Heap) (LL_ : List Loc) : Prop := (vv_ = none) ∧ (Fr n0 LL_) ∧ (Keep h0 hh_ [ar]) ∧ (Arv Z hh_ ar k (.object sc2) z [] .null)
theorem rmRa1_0 (l : Launch) (Z : State) (a0 : Array Value) (hw : own_Hw a0 Z) (ws : List Jvm.Cond) (ar : Addr) (k : ClassId) (z : Int32) (r0 : Addr) (h0 : Heap) (n0 : Nat) (O0 : Old Z n0 h0) (pr0 : Arv Z h0 ar k (.object sc2) z [(.ref r0)] .null) (hov : Ovr Z k sc2) (g_ar : n0 ≤ ar) (hz0 : (0 : Int32) < z) (hf0 : 0 ≤ z.toNatClampNeg) (hf1 : 1 ≤ z.toNatClampNeg) (pr6 : Exa Z h0 r0 sc0) :
 own_MF l Z ym6 J15 3 none ws (rm_ 1 0 0 60) #[(.ref ar), (.int 1), (.int 0)] h0 (QrmRa1_0 Z ar k z r0 h0 n0) := by
 refine own_met (plainFor_of_name pn_com_example_compact_abox_compactabox_ArraySet) (fun m_ => ef_rmRa1_0 m_ ar) fun pp_ ee_ ss_ mm_ bb_ me_ cc_ s₁ Bd hx hby hml hown hZ hh X0 e0 => ?_
 have B_ {q_ : Nat} {r_ : _} (h_ : decode _ q_ = r_) := hb hby h_
 have hown : ss_.vm.findClass sc1 = some mm_.cls := hown
 have N0 := Fr.nil n0
 have Z0 : n0 ≤ h0.size := by have q := O0.2.1; rw [O0.1] at q; exact q
 have K0 : Keep h0 h0 [ar] := Keep.refl _ _
 show Go_ s₁ (mkF mm_ 0 #[vr ar, vi 1, vi 0] [])
 refine sp_ (fun t_ k_ => XS.aloadN X0.here hx rfl (B_ dk170) rfl rfl (XS.iloadN X0.here hx rfl (B_ dk171) rfl  (XS.iconst X0.here hx rfl (B_ dk172) (XS.iadd X0.here hx rfl (B_ dk173) rfl (XS.aloadN X0.here hx rfl (B_ dk174) rfl rfl (XS.iloadN X0.here hx rfl (B_ dk175) rfl  (XS.iloadN X0.here hx rfl (B_ dk176) rfl  (XS.iloadN X0.here hx rfl (B_ dk177) rfl  (XS.isub X0.here hx rfl (B_ dk178) rfl (XS.iconst X0.here hx rfl (B_ dk179) (XS.isub X0.here hx rfl (B_ dk180) rfl k_))))))))))) ?_
 have Cp1 := cpA (us := []) X0 hx hZ hown (w_ hw 140 rfl) (w_ hw 89 rfl) (w_ hw 87 rfl) (w_ hw 88 rfl) e0 pr0 (pr0 : Arv Z h0 ar k (.object sc2) z [(.ref r0)] .null) (Or.inr ⟨rfl, rfl, trivial⟩) (sp := (1 : Int32)) (dp := (0 : Int32)) (nn := (0 : Int32)) (by decide) (by decide) (by decide) (Nat.le_trans (by decide) hf1) (Nat.le_trans (by decide) hf0) rfl (Nat.le_of_ble_eq_true rfl) N0 g_ar (g := (mkF mm_ 11 #[vr ar, vi 1, vi 0] [(.int 0), (.int 0), (.ref ar), (.int 1), (.ref ar)])) rfl hml.symm rfl (B_ dk181) (by decide) (W := 0) (Nat.le_of_eq rfl) (by decide)
 obtain ⟨T1, h1, L1, X1, e1, N1, K1, V1, st1⟩ := Cp1
 refine sp_ st1 ?_
 have Vr1 : Arv Z h1 ar k (.object sc2) z [(.ref r0)] .null := V1
 show Go_ T1 (mkF mm_ 14 #[vr ar, vi 1, vi 0] [])
 refine sp_ (fun t_ k_ => XS.aloadN X1.here hx rfl (B_ dk182) rfl rfl (XS.iloadN X1.here hx rfl (B_ dk183) rfl  (XS.iconst X1.here hx rfl (B_ dk184) (XS.isub X1.here hx rfl (B_ dk185) rfl (XS.aconstNull X1.here hx rfl (B_ dk186) k_))))) ?_
 obtain ⟨cl2, Ar2, q2, S2, M2, H2, G2⟩ := id (Vr1 : Arv Z h1 ar k (.object sc2) z [(.ref r0)] .null)
 have hin2 : ¬ ((0 : Int32) < 0 ∨ cl2.slots.size ≤ ((0 : Int32)).toNatClampNeg) := inb_of S2 ⟨by decide, hz0⟩
 obtain ⟨T2, h2, X2, e2, W2, st2⟩ := stR X1 hx hZ e1 Ar2 (j := (0 : Int32)) hin2 rfl (Or.inl rfl) (g := (mkF mm_ 19 #[vr ar, vi 1, vi 0] [.null, (.int 0), (.ref ar)])) rfl rfl (B_ dk187)
 have V2 : Arv Z h2 ar k (.object sc2) z [.null] .null := Arv.set Ar2 q2 S2 M2 H2 G2 rfl W2 0 rfl (Nat.le_of_ble_eq_true rfl)
 have N2 := Fr.snoc X2 N1 g_ar
 refine sp_ st2 ?_
 show Go_ T2 (mkF mm_ 20 #[vr ar, vi 1, vi 0] [])
 have Vt3 : Arv Z h2 ar k (.object sc2) z [] .null := V2.pad (fun i_ => (pad_rep [] .null 1 i_).symm)
 have K4 : Keep h0 h2 [ar] := ((K0.trans K1 (allS (Or.inl (List.mem_of_getElem? (i := 0) rfl)) all0)).wr W2 (Or.inl (List.mem_of_getElem? (i := 0) rfl)))
 obtain ⟨fs, hr, hrun, hended, hW, hsame⟩ := X2.leave (v := none) (fun _ => rfl)
 refine ⟨_, _, ?_, hrun, hended, _, _, rfl, ?_, ⟨_, rfl⟩, hW, hsame.mono (by decide) (by decide)⟩
 · exact X2.returnOut hx Bd.returns (B_ dk188) hr
 · show QrmRa1_0 Z ar k z r0 h0 n0 none T2.heap _
   rw [e2]
   exact ⟨rfl, N2, K4, Vt3⟩
theorem dk189 : decode J16 0 = .ok (.aload_n 0, 1) := by decide +kernel
theorem dk190 : decode J16 1 = .ok (.getfield 21, 3) := by decide +kernel
theorem dk191 : decode J16 4 = .ok (.ifnull 14, 3) := by decide +kernel
theorem dk192 : decode J16 18 = .ok (.aload_n 0, 1) := by decide +kernel
theorem dk193 : decode J16 19 = .ok (.aload_n 1, 1) := by decide +kernel
theorem dk194 : decode J16 20 = .ok (.invokevirtual 31, 3) := by decide +kernel
theorem dk195 : decode J16 23 = .ok (.istore_n 2, 1) := by decide +kernel
theorem dk196 : decode J16 24 = .ok (.iload_n 2, 1) := by decide +kernel
theorem dk197 : decode J16 25 = .ok (.ifCond .ge 5, 3) := by decide +kernel
theorem dk198 : decode J16 30 = .ok (.aload_n 0, 1) := by decide +kernel
theorem dk199 : decode J16 31 = .ok (.getfield 17, 3) := by decide +kernel
theorem dk200 : decode J16 34 = .ok (.aload_n 0, 1) := by decide +kernel
theorem dk201 : decode J16 35 = .ok (.dup, 1) := by decide +kernel
theorem dk202 : decode J16 36 = .ok (.getfield 35, 3) := by decide +kernel
theorem dk203 : decode J16 39 = .ok (.dup_x1, 1) := by decide +kernel
theorem dk204 : decode J16 40 = .ok (.iconst 1, 1) := by decide +kernel
theorem dk205 : decode J16 41 = .ok (.isub, 1) := by decide +kernel
theorem dk206 : decode J16 42 = .ok (.putfield 35, 3) := by decide +kernel
theorem dk207 : decode J16 45 = .ok (.iload_n 2, 1) := by decide +kernel
theorem dk208 : decode J16 46 = .ok (.invokestatic 56, 3) := by decide +kernel
theorem pd_9 : parseMethodDescriptor "([Ljava/lang/Object;II)V" = some ⟨[(.array (.object "java/lang/Object")), .int, .int], none⟩ := by decide +kernel
theorem dk209 : decode J16 49 = .ok (.iconst 1, 1) := by decide +kernel
theorem dk210 : decode J16 50 = .ok (.ireturn, 1) := by decide +kernel
theorem ef_rmRm1_0 (mm_ : MethodId) (x : Addr) (q : Addr) : entryFrame mm_ #[(.ref x), (.ref q)] 3 = (mkF mm_ 0 #[vr x, vr q, un] []) := by first | (simp [entryFrame, mkF, argsToLocals, Value.category]; done) | rfl
def QrmRm1_0 (Z : State) (x : Addr) (q : Addr) (ar : Addr) (k : ClassId) (z : Int32) (r0 : Addr) (v0 : Int32) (u : Int32) (h0 : Heap) (n0 : Nat) (vv_ : Option Value) (hh_ : Heap) (LL_ : List Loc) : Prop := (vv_ = some (.int 1)) ∧ (Fr n0 LL_) ∧ (Keep h0 hh_ [x, ar]) ∧ (Fld Z hh_ x sc1 "hashed" sc5 .null) ∧ (Fld Z hh_ x sc1 "members" sc3 (.ref ar)) ∧ (Fld Z hh_ x sc1 "size" "I" (.int 0)) ∧ (Arv Z hh_ ar k (.object sc2) z [] .null)
theorem rmRm1_0 (l : Launch) (Z : State) (a0 : Array Value) (hw : own_Hw a0 Z) (ws : List Jvm.Cond) (x : Addr) (q : Addr) (ar : Addr) (k : ClassId) (z : Int32) (r0 : Addr) (v0 : Int32) (u : Int32) (h0 : Heap) (n0 : Nat) (O0 : Old Z n0 h0) (pr0 : Exa Z h0 x sc1) (pr1 : Fld Z h0 x sc1 "hashed" sc5 .null) (pr2 : Fld Z h0 x sc1 "members" sc3 (.ref ar)) (pr3 : Fld Z h0 x sc1 "size" "I" (.int 1)) (pr4 : Arv Z h0 ar k (.object sc2) z [(.ref r0)] .null) (pr5 : Exa Z h0 ar sc3) (hov : Ovr Z k sc2) (g_x : n0 ≤ x) (g_ar : n0 ≤ ar) (hz0 : (0 : Int32) < z) (hf0 : 0 ≤ z.toNatClampNeg) (hf1 : 1 ≤ z.toNatClampNeg) (pr12 : Exa Z h0 r0 sc0) (pr13 : Fld Z h0 r0 sc0 "value" "I" (.int v0)) (pr14 : Exa Z h0 q sc0) (pr15 : Fld Z h0 q sc0 "value" "I" (.int u)) (hy : v0 = u) :
 own_MF l Z ym7 J16 3 (some .boolean) ws (rm_ 4 0 0 74) #[(.ref x), (.ref q)] h0 (QrmRm1_0 Z x q ar k z r0 v0 u h0 n0) := by
 refine own_met (plainFor_of_name pn_com_example_compact_abox_compactabox_ArraySet) (fun m_ => ef_rmRm1_0 m_ x q) fun pp_ ee_ ss_ mm_ bb_ me_ cc_ s₁ Bd hx hby hml hown hZ hh X0 e0 => ?_
 have B_ {q_ : Nat} {r_ : _} (h_ : decode _ q_ = r_) := hb hby h_
 have hown : ss_.vm.findClass sc1 = some mm_.cls := hown
 have N0 := Fr.nil n0
 have Z0 : n0 ≤ h0.size := by have q := O0.2.1; rw [O0.1] at q; exact q
 have K0 : Keep h0 h0 [x, ar] := Keep.refl _ _
 show Go_ s₁ (mkF mm_ 0 #[vr x, vr q, un] [])
 refine sp_ (fun t_ k_ => XS.aloadN X0.here hx rfl (B_ dk189) rfl rfl k_) ?_
 obtain ⟨T1, X1, e1, st1⟩ := getF X0 hx hZ hown (host := "") (Or.inl (w_ hw 40 rfl)) Via.refl e0 pr1 (g := (mkF mm_ 1 #[vr x, vr q, un] [(.ref x)])) rfl rfl (B_ dk190)
 refine sp_ st1 ?_
 show Go_ T1 (mkF mm_ 4 #[vr x, vr q, un] [.null])
 refine sp_ (fun t_ k_ => XS.ifnullYes X1.here hx rfl (pc0 := 4) (pc' := 18) rfl (B_ dk191) rfl (by decide) (by decide) (XS.aloadN X1.here hx rfl (B_ dk192) rfl rfl (XS.aloadN X1.here hx rfl (B_ dk193) rfl rfl k_))) ?_
 obtain ⟨cq2, qq2, qq2'⟩ := pr0.cell
 obtain ⟨_, T2, Lc2, X2, hQ2, st2⟩ := own_cP X1 hx hZ hown (w_ hw 42 rfl) (w_ hw 43 rfl) (own_selP (w_ hw 38 rfl) rfl (w_ hw 43 rfl) (w_ hw 44 rfl) (by decide)) (w_ hw 44 rfl) (w_ hw 45 rfl) (by decide) (backOf (W := 0) (rmPx1_0 l Z a0 hw [] x q ar k z r0 v0 u h0 n0 O0 pr2 pr3 pr4 hz0 pr12 pr13 pr14 pr15 hy) hZ (w_ hw 45 rfl) (w_ hw 2 rfl) (by decide) (by decide)) (by rw [e1]; exact qq2) qq2' (g := (mkF mm_ 20 #[vr x, vr q, un] [(.ref q), (.ref x)])) rfl hml.symm (argsL := [(.ref q)]) (rest := []) (lenOf pd_7 rfl) rfl (Nat.le_of_eq rfl) (B_ dk194) rfl e1 (by decide) (by decide)
 obtain ⟨rfl, rfl, Eh2⟩ := hQ2
 have N2 := Fr.app N0 (Fr.nil n0)
 refine jp_ st2 ?_
 show Go_ T2 (mkF mm_ 23 #[vr x, vr q, un] [(.int 0)])
 refine sp_ (fun t_ k_ => XS.istoreN X2.here hx rfl (B_ dk195) rfl (l' := #[vr x, vr q, vi 0]) rfl (XS.iloadN X2.here hx rfl (B_ dk196) rfl  k_)) ?_
 show Go_ T2 (mkF mm_ 25 #[vr x, vr q, vi 0] [(.int 0)])
 refine sp_ (fun t_ k_ => XS.ifYes X2.here hx rfl (pc0 := 25) (pc' := 30) rfl (B_ dk197) rfl ((if0 _ _).trans (flt (by decide : ¬ ((0 : Int32) < (0 : Int32)))).2.1) (by decide) (by decide) k_) ?_
 show Go_ T2 (mkF mm_ 30 #[vr x, vr q, vi 0] [])
 refine sp_ (fun t_ k_ => XS.aloadN X2.here hx rfl (B_ dk198) rfl rfl k_) ?_
 obtain ⟨T3, X3, e3, st3⟩ := getF X2 hx hZ hown (host := "") (Or.inl (w_ hw 26 rfl)) Via.refl Eh2 pr2 (g := (mkF mm_ 31 #[vr x, vr q, vi 0] [(.ref x)])) rfl rfl (B_ dk199)
 refine sp_ st3 ?_
 show Go_ T3 (mkF mm_ 34 #[vr x, vr q, vi 0] [(.ref ar)])
 refine sp_ (fun t_ k_ => XS.aloadN X3.here hx rfl (B_ dk200) rfl rfl (XS.dup X3.here hx rfl (B_ dk201) rfl rfl k_)) ?_
 obtain ⟨T4, X4, e4, st4⟩ := getF X3 hx hZ hown (host := "") (Or.inl (w_ hw 46 rfl)) Via.refl e3 pr3 (g := (mkF mm_ 36 #[vr x, vr q, vi 0] [(.ref x), (.ref x), (.ref ar)])) rfl rfl (B_ dk202)
 refine sp_ st4 ?_
 show Go_ T4 (mkF mm_ 39 #[vr x, vr q, vi 0] [(.int 1), (.ref x), (.ref ar)])
 refine sp_ (fun t_ k_ => XS.dupX1 X4.here hx rfl (B_ dk203) rfl rfl rfl (XS.iconst X4.here hx rfl (B_ dk204) (XS.isub X4.here hx rfl (B_ dk205) rfl k_))) ?_
 obtain ⟨T5, h5, X5, e5, W5, st5⟩ := putF X4 hx hZ hown (host := "") (Or.inl (w_ hw 46 rfl)) Via.refl e4 pr3 pr0 (Or.inl (w_ hw 47 rfl)) (w_ hw 1 rfl) (ty := .int) (by decide) rfl rfl (g := (mkF mm_ 42 #[vr x, vr q, vi 0] [(.int 0), (.ref x), (.int 1), (.ref ar)])) rfl rfl (B_ dk206)
 have F5 := pr3.same W5
 have N5 := Fr.snoc X5 N2 g_x
 refine sp_ st5 ?_
 show Go_ T5 (mkF mm_ 45 #[vr x, vr q, vi 0] [(.int 1), (.ref ar)])
 refine sp_ (fun t_ k_ => XS.iloadN X5.here hx rfl (B_ dk207) rfl  k_) ?_
 have f7 : Arv Z h5 ar k (.object sc2) z [(.ref r0)] .null := (pr4.other W5 (Exa.ne pr5 pr0 (by decide)))
 have f8 : Exa Z h5 r0 sc0 := (pr12.wr W5)
 have O9 : Old Z n0 h5 := (O0.wr W5 g_x)
 obtain ⟨_, T6, Lc6, X6, hQ6, st6⟩ := own_cS X5 hx hZ hown (w_ hw 137 rfl) (w_ hw 138 rfl) (w_ hw 2 rfl) (w_ hw 139 rfl) (by decide) (backOf (W := 0) (rmRa1_0 l Z a0 hw [] ar k z r0 h5 n0 O9 f7 hov g_ar hz0 hf0 hf1 f8) hZ (w_ hw 139 rfl) (w_ hw 2 rfl) (by decide) (by decide)) (g := (mkF mm_ 46 #[vr x, vr q, vi 0] [(.int 0), (.int 1), (.ref ar)])) rfl hml.symm (argsL := [(.ref ar), (.int 1), (.int 0)]) (rest := []) (lenOf pd_9 rfl) rfl (Nat.le_of_eq rfl) (B_ dk208) rfl e5 (by decide) (by decide)
 obtain ⟨rfl, Nq6, Kc6, r6_0⟩ := hQ6
 have N6 := Fr.app N5 Nq6
 refine jp_ st6 ?_
 show Go_ T6 (mkF mm_ 49 #[vr x, vr q, vi 0] [])
 refine sp_ (fun t_ k_ => XS.iconst X6.here hx rfl (B_ dk209) k_) ?_
 show Go_ T6 (mkF mm_ 50 #[vr x, vr q, vi 0] [(.int 1)])
 have K10 : Keep h0 T6.heap [x, ar] := ((K0.wr W5 (Or.inl (List.mem_of_getElem? (i := 0) rfl))).trans Kc6 (allS (Or.inl (List.mem_of_getElem? (i := 1) rfl)) all0))
 have f11 : Fld Z T6.heap x sc1 "hashed" sc5 .null := ((pr1.other W5 (Or.inr (slot_ne (Or.inl (w_ hw 41 rfl)) (Or.inl (w_ hw 47 rfl)) (by decide) (t := (.object sc6)) (t' := .int) (by decide) (by decide)))).keep Kc6 (ninS (Exa.ne (pr0.wr W5) (pr5.wr W5) (by decide)) nin0))
 have f12 : Fld Z T6.heap x sc1 "members" sc3 (.ref ar) := ((pr2.other W5 (Or.inr (slot_ne (Or.inl (w_ hw 27 rfl)) (Or.inl (w_ hw 47 rfl)) (by decide) (t := (.array (.object sc2))) (t' := .int) (by decide) (by decide)))).keep Kc6 (ninS (Exa.ne (pr0.wr W5) (pr5.wr W5) (by decide)) nin0))
 have f13 : Fld Z T6.heap x sc1 "size" "I" (.int 0) := (F5.keep Kc6 (ninS (Exa.ne (pr0.wr W5) (pr5.wr W5) (by decide)) nin0))
 obtain ⟨fs, hr, hrun, hended, hW, hsame⟩ := X6.leave (v := some (.int 1)) (rN Bd.returns)
 refine ⟨_, _, ?_, hrun, hended, _, _, rfl, ?_, ⟨_, rfl⟩, hW, hsame.mono (by decide) (by decide)⟩
 · exact retN X6 hx (t := .boolean) Bd.returns (by simp) (B_ dk210) hr
 · show QrmRm1_0 Z x q ar k z r0 v0 u h0 n0 (some (.int 1)) T6.heap _
   exact ⟨rfl, N6, K10, f11, f12, f13, r6_0⟩
theorem ef_rmRa2_0 (mm_ : MethodId) (ar : Addr) : entryFrame mm_ #[(.ref ar), (.int 2), (.int 0)] 3 = (mkF mm_ 0 #[vr ar, vi 2, vi 0] []) := by first | (simp [entryFrame, mkF, argsToLocals, Value.category]; done) | rfl
def QrmRa2_0 (Z : State) (ar : Addr) (k : ClassId) (z : Int32) (r0 : Addr) (r1 : Addr) (h0 : Heap) (n0 : Nat) (vv_ : Option Value) (hh_ : Heap) (LL_ : List Loc) : Prop := (vv_ = none) ∧ (Fr n0 LL_) ∧ (Keep h0 hh_ [ar]) ∧ (Arv Z hh_ ar k (.object sc2) z [(.ref r1)] .null)
theorem rmRa2_0 (l : Launch) (Z : State) (a0 : Array Value) (hw : own_Hw a0 Z) (ws : List Jvm.Cond) (ar : Addr) (k : ClassId) (z : Int32) (r0 : Addr) (r1 : Addr) (h0 : Heap) (n0 : Nat) (O0 : Old Z n0 h0) (pr0 : Arv Z h0 ar k (.object sc2) z [(.ref r0), (.ref r1)] .null) (hov : Ovr Z k sc2) (g_ar : n0 ≤ ar) (hz0 : (0 : Int32) < z) (hz1 : (1 : Int32) < z) (hf1 : 1 ≤ z.toNatClampNeg) (hf2 : 2 ≤ z.toNatClampNeg) (pr7 : Exa Z h0 r0 sc0) (pr8 : Exa Z h0 r1 sc0) :
 own_MF l Z ym6 J15 3 none ws (rm_ 1 0 0 60) #[(.ref ar), (.int 2), (.int 0)] h0 (QrmRa2_0 Z ar k z r0 r1 h0 n0) := by
 refine own_met (plainFor_of_name pn_com_example_compact_abox_compactabox_ArraySet) (fun m_ => ef_rmRa2_0 m_ ar) fun pp_ ee_ ss_ mm_ bb_ me_ cc_ s₁ Bd hx hby hml hown hZ hh X0 e0 => ?_
 have B_ {q_ : Nat} {r_ : _} (h_ : decode _ q_ = r_) := hb hby h_
 have hown : ss_.vm.findClass sc1 = some mm_.cls := hown
 have N0 := Fr.nil n0
 have Z0 : n0 ≤ h0.size := by have q := O0.2.1; rw [O0.1] at q; exact q
 have K0 : Keep h0 h0 [ar] := Keep.refl _ _
 show Go_ s₁ (mkF mm_ 0 #[vr ar, vi 2, vi 0] [])
 refine sp_ (fun t_ k_ => XS.aloadN X0.here hx rfl (B_ dk170) rfl rfl (XS.iloadN X0.here hx rfl (B_ dk171) rfl  (XS.iconst X0.here hx rfl (B_ dk172) (XS.iadd X0.here hx rfl (B_ dk173) rfl (XS.aloadN X0.here hx rfl (B_ dk174) rfl rfl (XS.iloadN X0.here hx rfl (B_ dk175) rfl  (XS.iloadN X0.here hx rfl (B_ dk176) rfl  (XS.iloadN X0.here hx rfl (B_ dk177) rfl  (XS.isub X0.here hx rfl (B_ dk178) rfl (XS.iconst X0.here hx rfl (B_ dk179) (XS.isub X0.here hx rfl (B_ dk180) rfl k_))))))))))) ?_
 have pB1 := pr0
 obtain ⟨clB1, ArB1, qB1, -, -, -, -⟩ := pB1
 have Cp1 := cpA (us := [(.ref r1)]) X0 hx hZ hown (w_ hw 140 rfl) (w_ hw 89 rfl) (w_ hw 87 rfl) (w_ hw 88 rfl) e0 pr0 (pr0 : Arv Z h0 ar k (.object sc2) z [(.ref r0), (.ref r1)] .null) (Or.inr ⟨rfl, rfl, ⟨(Sto.ofV ArB1 qB1 hov (Ins.of_exa pr8 (w_ hw 51 rfl))), trivial⟩⟩) (sp := (1 : Int32)) (dp := (0 : Int32)) (nn := (1 : Int32)) (by decide) (by decide) (by decide) (Nat.le_trans (by decide) hf2) (Nat.le_trans (by decide) hf1) rfl (Nat.le_of_ble_eq_true rfl) N0 g_ar (g := (mkF mm_ 11 #[vr ar, vi 2, vi 0] [(.int 1), (.int 0), (.ref ar), (.int 1), (.ref ar)])) rfl hml.symm rfl (B_ dk181) (by decide) (W := 0) (Nat.le_of_eq rfl) (by decide)
 obtain ⟨T1, h1, L1, X1, e1, N1, K1, V1, st1⟩ := Cp1
 refine sp_ st1 ?_
 have Vr1 : Arv Z h1 ar k (.object sc2) z [(.ref r1), (.ref r1)] .null := V1
 show Go_ T1 (mkF mm_ 14 #[vr ar, vi 2, vi 0] [])
 refine sp_ (fun t_ k_ => XS.aloadN X1.here hx rfl (B_ dk182) rfl rfl (XS.iloadN X1.here hx rfl (B_ dk183) rfl  (XS.iconst X1.here hx rfl (B_ dk184) (XS.isub X1.here hx rfl (B_ dk185) rfl (XS.aconstNull X1.here hx rfl (B_ dk186) k_))))) ?_
 obtain ⟨cl2, Ar2, q2, S2, M2, H2, G2⟩ := id (Vr1 : Arv Z h1 ar k (.object sc2) z [(.ref r1), (.ref r1)] .null)
 have hin2 : ¬ ((1 : Int32) < 0 ∨ cl2.slots.size ≤ ((1 : Int32)).toNatClampNeg) := inb_of S2 ⟨by decide, hz1⟩
 obtain ⟨T2, h2, X2, e2, W2, st2⟩ := stR X1 hx hZ e1 Ar2 (j := (1 : Int32)) hin2 rfl (Or.inl rfl) (g := (mkF mm_ 19 #[vr ar, vi 2, vi 0] [.null, (.int 1), (.ref ar)])) rfl rfl (B_ dk187)
 have V2 : Arv Z h2 ar k (.object sc2) z [(.ref r1), .null] .null := Arv.set Ar2 q2 S2 M2 H2 G2 rfl W2 1 rfl (Nat.le_of_ble_eq_true rfl)
 have N2 := Fr.snoc X2 N1 g_ar
 refine sp_ st2 ?_
 show Go_ T2 (mkF mm_ 20 #[vr ar, vi 2, vi 0] [])
 have Vt3 : Arv Z h2 ar k (.object sc2) z [(.ref r1)] .null := V2.pad (fun i_ => (pad_rep [(.ref r1)] .null 1 i_).symm)
 have K4 : Keep h0 h2 [ar] := ((K0.trans K1 (allS (Or.inl (List.mem_of_getElem? (i := 0) rfl)) all0)).wr W2 (Or.inl (List.mem_of_getElem? (i := 0) rfl)))
 obtain ⟨fs, hr, hrun, hended, hW, hsame⟩ := X2.leave (v := none) (fun _ => rfl)
 refine ⟨_, _, ?_, hrun, hended, _, _, rfl, ?_, ⟨_, rfl⟩, hW, hsame.mono (by decide) (by decide)⟩
 · exact X2.returnOut hx Bd.returns (B_ dk188) hr
 · show QrmRa2_0 Z ar k z r0 r1 h0 n0 none T2.heap _
   rw [e2]
   exact ⟨rfl, N2, K4, Vt3⟩
theorem ef_rmRm2_0 (mm_ : MethodId) (x : Addr) (q : Addr) : entryFrame mm_ #[(.ref x), (.ref q)] 3 = (mkF mm_ 0 #[vr x, vr q, un] []) := by first | (simp [entryFrame, mkF, argsToLocals, Value.category]; done) | rfl
def QrmRm2_0 (Z : State) (x : Addr) (q : Addr) (ar : Addr) (k : ClassId) (z : Int32) (r0 : Addr) (r1 : Addr) (v0 : Int32) (v1 : Int32) (u : Int32) (h0 : Heap) (n0 : Nat) (vv_ : Option Value) (hh_ : Heap) (LL_ : List Loc) : Prop := (vv_ = some (.int 1)) ∧ (Fr n0 LL_) ∧ (Keep h0 hh_ [x, ar]) ∧ (Fld Z hh_ x sc1 "hashed" sc5 .null) ∧ (Fld Z hh_ x sc1 "members" sc3 (.ref ar)) ∧ (Fld Z hh_ x sc1 "size" "I" (.int 1)) ∧ (Arv Z hh_ ar k (.object sc2) z [(.ref r1)] .null)
theorem rmRm2_0 (l : Launch) (Z : State) (a0 : Array Value) (hw : own_Hw a0 Z) (ws : List Jvm.Cond) (x : Addr) (q : Addr) (ar : Addr) (k : ClassId) (z : Int32) (r0 : Addr) (r1 : Addr) (v0 : Int32) (v1 : Int32) (u : Int32) (h0 : Heap) (n0 : Nat) (O0 : Old Z n0 h0) (pr0 : Exa Z h0 x sc1) (pr1 : Fld Z h0 x sc1 "hashed" sc5 .null) (pr2 : Fld Z h0 x sc1 "members" sc3 (.ref ar)) (pr3 : Fld Z h0 x sc1 "size" "I" (.int 2)) (pr4 : Arv Z h0 ar k (.object sc2) z [(.ref r0), (.ref r1)] .null) (pr5 : Exa Z h0 ar sc3) (hov : Ovr Z k sc2) (g_x : n0 ≤ x) (g_ar : n0 ≤ ar) (hz0 : (0 : Int32) < z) (hz1 : (1 : Int32) < z) (hf1 : 1 ≤ z.toNatClampNeg) (hf2 : 2 ≤ z.toNatClampNeg) (pr13 : Exa Z h0 r0 sc0) (pr14 : Fld Z h0 r0 sc0 "value" "I" (.int v0)) (pr15 : Exa Z h0 r1 sc0) (pr16 : Fld Z h0 r1 sc0 "value" "I" (.int v1)) (pr17 : Exa Z h0 q sc0) (pr18 : Fld Z h0 q sc0 "value" "I" (.int u)) (hy : v0 = u) :
 own_MF l Z ym7 J16 3 (some .boolean) ws (rm_ 4 0 0 74) #[(.ref x), (.ref q)] h0 (QrmRm2_0 Z x q ar k z r0 r1 v0 v1 u h0 n0) := by
 refine own_met (plainFor_of_name pn_com_example_compact_abox_compactabox_ArraySet) (fun m_ => ef_rmRm2_0 m_ x q) fun pp_ ee_ ss_ mm_ bb_ me_ cc_ s₁ Bd hx hby hml hown hZ hh X0 e0 => ?_
 have B_ {q_ : Nat} {r_ : _} (h_ : decode _ q_ = r_) := hb hby h_
 have hown : ss_.vm.findClass sc1 = some mm_.cls := hown
 have N0 := Fr.nil n0
 have Z0 : n0 ≤ h0.size := by have q := O0.2.1; rw [O0.1] at q; exact q
 have K0 : Keep h0 h0 [x, ar] := Keep.refl _ _
 show Go_ s₁ (mkF mm_ 0 #[vr x, vr q, un] [])
 refine sp_ (fun t_ k_ => XS.aloadN X0.here hx rfl (B_ dk189) rfl rfl k_) ?_
 obtain ⟨T1, X1, e1, st1⟩ := getF X0 hx hZ hown (host := "") (Or.inl (w_ hw 40 rfl)) Via.refl e0 pr1 (g := (mkF mm_ 1 #[vr x, vr q, un] [(.ref x)])) rfl rfl (B_ dk190)
 refine sp_ st1 ?_
 show Go_ T1 (mkF mm_ 4 #[vr x, vr q, un] [.null])
 refine sp_ (fun t_ k_ => XS.ifnullYes X1.here hx rfl (pc0 := 4) (pc' := 18) rfl (B_ dk191) rfl (by decide) (by decide) (XS.aloadN X1.here hx rfl (B_ dk192) rfl rfl (XS.aloadN X1.here hx rfl (B_ dk193) rfl rfl k_))) ?_
 obtain ⟨cq2, qq2, qq2'⟩ := pr0.cell
 obtain ⟨_, T2, Lc2, X2, hQ2, st2⟩ := own_cP X1 hx hZ hown (w_ hw 42 rfl) (w_ hw 43 rfl) (own_selP (w_ hw 38 rfl) rfl (w_ hw 43 rfl) (w_ hw 44 rfl) (by decide)) (w_ hw 44 rfl) (w_ hw 45 rfl) (by decide) (backOf (W := 0) (rmPx2_0 l Z a0 hw [] x q ar k z r0 r1 v0 v1 u h0 n0 O0 pr2 pr3 pr4 hz0 hz1 pr13 pr14 pr15 pr16 pr17 pr18 hy) hZ (w_ hw 45 rfl) (w_ hw 2 rfl) (by decide) (by decide)) (by rw [e1]; exact qq2) qq2' (g := (mkF mm_ 20 #[vr x, vr q, un] [(.ref q), (.ref x)])) rfl hml.symm (argsL := [(.ref q)]) (rest := []) (lenOf pd_7 rfl) rfl (Nat.le_of_eq rfl) (B_ dk194) rfl e1 (by decide) (by decide)
 obtain ⟨rfl, rfl, Eh2⟩ := hQ2
 have N2 := Fr.app N0 (Fr.nil n0)
 refine jp_ st2 ?_
 show Go_ T2 (mkF mm_ 23 #[vr x, vr q, un] [(.int 0)])
 refine sp_ (fun t_ k_ => XS.istoreN X2.here hx rfl (B_ dk195) rfl (l' := #[vr x, vr q, vi 0]) rfl (XS.iloadN X2.here hx rfl (B_ dk196) rfl  k_)) ?_
 show Go_ T2 (mkF mm_ 25 #[vr x, vr q, vi 0] [(.int 0)])
 refine sp_ (fun t_ k_ => XS.ifYes X2.here hx rfl (pc0 := 25) (pc' := 30) rfl (B_ dk197) rfl ((if0 _ _).trans (flt (by decide : ¬ ((0 : Int32) < (0 : Int32)))).2.1) (by decide) (by decide) k_) ?_
 show Go_ T2 (mkF mm_ 30 #[vr x, vr q, vi 0] [])
 refine sp_ (fun t_ k_ => XS.aloadN X2.here hx rfl (B_ dk198) rfl rfl k_) ?_
 obtain ⟨T3, X3, e3, st3⟩ := getF X2 hx hZ hown (host := "") (Or.inl (w_ hw 26 rfl)) Via.refl Eh2 pr2 (g := (mkF mm_ 31 #[vr x, vr q, vi 0] [(.ref x)])) rfl rfl (B_ dk199)
 refine sp_ st3 ?_
 show Go_ T3 (mkF mm_ 34 #[vr x, vr q, vi 0] [(.ref ar)])
 refine sp_ (fun t_ k_ => XS.aloadN X3.here hx rfl (B_ dk200) rfl rfl (XS.dup X3.here hx rfl (B_ dk201) rfl rfl k_)) ?_
 obtain ⟨T4, X4, e4, st4⟩ := getF X3 hx hZ hown (host := "") (Or.inl (w_ hw 46 rfl)) Via.refl e3 pr3 (g := (mkF mm_ 36 #[vr x, vr q, vi 0] [(.ref x), (.ref x), (.ref ar)])) rfl rfl (B_ dk202)
 refine sp_ st4 ?_
 show Go_ T4 (mkF mm_ 39 #[vr x, vr q, vi 0] [(.int 2), (.ref x), (.ref ar)])
 refine sp_ (fun t_ k_ => XS.dupX1 X4.here hx rfl (B_ dk203) rfl rfl rfl (XS.iconst X4.here hx rfl (B_ dk204) (XS.isub X4.here hx rfl (B_ dk205) rfl k_))) ?_
 obtain ⟨T5, h5, X5, e5, W5, st5⟩ := putF X4 hx hZ hown (host := "") (Or.inl (w_ hw 46 rfl)) Via.refl e4 pr3 pr0 (Or.inl (w_ hw 47 rfl)) (w_ hw 1 rfl) (ty := .int) (by decide) rfl rfl (g := (mkF mm_ 42 #[vr x, vr q, vi 0] [(.int 1), (.ref x), (.int 2), (.ref ar)])) rfl rfl (B_ dk206)
 have F5 := pr3.same W5
 have N5 := Fr.snoc X5 N2 g_x
 refine sp_ st5 ?_
 show Go_ T5 (mkF mm_ 45 #[vr x, vr q, vi 0] [(.int 2), (.ref ar)])
 refine sp_ (fun t_ k_ => XS.iloadN X5.here hx rfl (B_ dk207) rfl  k_) ?_
 have f7 : Arv Z h5 ar k (.object sc2) z [(.ref r0), (.ref r1)] .null := (pr4.other W5 (Exa.ne pr5 pr0 (by decide)))
 have f8 : Exa Z h5 r0 sc0 := (pr13.wr W5)
 have f9 : Exa Z h5 r1 sc0 := (pr15.wr W5)
 have O10 : Old Z n0 h5 := (O0.wr W5 g_x)
 obtain ⟨_, T6, Lc6, X6, hQ6, st6⟩ := own_cS X5 hx hZ hown (w_ hw 137 rfl) (w_ hw 138 rfl) (w_ hw 2 rfl) (w_ hw 139 rfl) (by decide) (backOf (W := 0) (rmRa2_0 l Z a0 hw [] ar k z r0 r1 h5 n0 O10 f7 hov g_ar hz0 hz1 hf1 hf2 f8 f9) hZ (w_ hw 139 rfl) (w_ hw 2 rfl) (by decide) (by decide)) (g := (mkF mm_ 46 #[vr x, vr q, vi 0] [(.int 0), (.int 2), (.ref ar)])) rfl hml.symm (argsL := [(.ref ar), (.int 2), (.int 0)]) (rest := []) (lenOf pd_9 rfl) rfl (Nat.le_of_eq rfl) (B_ dk208) rfl e5 (by decide) (by decide)
 obtain ⟨rfl, Nq6, Kc6, r6_0⟩ := hQ6
 have N6 := Fr.app N5 Nq6
 refine jp_ st6 ?_
 show Go_ T6 (mkF mm_ 49 #[vr x, vr q, vi 0] [])
 refine sp_ (fun t_ k_ => XS.iconst X6.here hx rfl (B_ dk209) k_) ?_
 show Go_ T6 (mkF mm_ 50 #[vr x, vr q, vi 0] [(.int 1)])
 have K11 : Keep h0 T6.heap [x, ar] := ((K0.wr W5 (Or.inl (List.mem_of_getElem? (i := 0) rfl))).trans Kc6 (allS (Or.inl (List.mem_of_getElem? (i := 1) rfl)) all0))
 have f12 : Fld Z T6.heap x sc1 "hashed" sc5 .null := ((pr1.other W5 (Or.inr (slot_ne (Or.inl (w_ hw 41 rfl)) (Or.inl (w_ hw 47 rfl)) (by decide) (t := (.object sc6)) (t' := .int) (by decide) (by decide)))).keep Kc6 (ninS (Exa.ne (pr0.wr W5) (pr5.wr W5) (by decide)) nin0))
 have f13 : Fld Z T6.heap x sc1 "members" sc3 (.ref ar) := ((pr2.other W5 (Or.inr (slot_ne (Or.inl (w_ hw 27 rfl)) (Or.inl (w_ hw 47 rfl)) (by decide) (t := (.array (.object sc2))) (t' := .int) (by decide) (by decide)))).keep Kc6 (ninS (Exa.ne (pr0.wr W5) (pr5.wr W5) (by decide)) nin0))
 have f14 : Fld Z T6.heap x sc1 "size" "I" (.int 1) := (F5.keep Kc6 (ninS (Exa.ne (pr0.wr W5) (pr5.wr W5) (by decide)) nin0))
 obtain ⟨fs, hr, hrun, hended, hW, hsame⟩ := X6.leave (v := some (.int 1)) (rN Bd.returns)
 refine ⟨_, _, ?_, hrun, hended, _, _, rfl, ?_, ⟨_, rfl⟩, hW, hsame.mono (by decide) (by decide)⟩
 · exact retN X6 hx (t := .boolean) Bd.returns (by simp) (B_ dk210) hr
 · show QrmRm2_0 Z x q ar k z r0 r1 v0 v1 u h0 n0 (some (.int 1)) T6.heap _
   exact ⟨rfl, N6, K11, f12, f13, f14, r6_0⟩
theorem ef_rmRa2_1 (mm_ : MethodId) (ar : Addr) : entryFrame mm_ #[(.ref ar), (.int 2), (.int 1)] 3 = (mkF mm_ 0 #[vr ar, vi 2, vi 1] []) := by first | (simp [entryFrame, mkF, argsToLocals, Value.category]; done) | rfl
def QrmRa2_1 (Z : State) (ar : Addr) (k : ClassId) (z : Int32) (r0 : Addr) (r1 : Addr) (h0 : Heap) (n0 : Nat) (vv_ : Option Value) (hh_ : Heap) (LL_ : List Loc) : Prop := (vv_ = none) ∧ (Fr n0 LL_) ∧ (Keep h0 hh_ [ar]) ∧ (Arv Z hh_ ar k (.object sc2) z [(.ref r0)] .null)
theorem rmRa2_1 (l : Launch) (Z : State) (a0 : Array Value) (hw : own_Hw a0 Z) (ws : List Jvm.Cond) (ar : Addr) (k : ClassId) (z : Int32) (r0 : Addr) (r1 : Addr) (h0 : Heap) (n0 : Nat) (O0 : Old Z n0 h0) (pr0 : Arv Z h0 ar k (.object sc2) z [(.ref r0), (.ref r1)] .null) (hov : Ovr Z k sc2) (g_ar : n0 ≤ ar) (hz0 : (0 : Int32) < z) (hz1 : (1 : Int32) < z) (hf1 : 1 ≤ z.toNatClampNeg) (hf2 : 2 ≤ z.toNatClampNeg) (pr7 : Exa Z h0 r0 sc0) (pr8 : Exa Z h0 r1 sc0) :
 own_MF l Z ym6 J15 3 none ws (rm_ 1 0 0 60) #[(.ref ar), (.int 2), (.int 1)] h0 (QrmRa2_1 Z ar k z r0 r1 h0 n0) := by
 refine own_met (plainFor_of_name pn_com_example_compact_abox_compactabox_ArraySet) (fun m_ => ef_rmRa2_1 m_ ar) fun pp_ ee_ ss_ mm_ bb_ me_ cc_ s₁ Bd hx hby hml hown hZ hh X0 e0 => ?_
 have B_ {q_ : Nat} {r_ : _} (h_ : decode _ q_ = r_) := hb hby h_
 have hown : ss_.vm.findClass sc1 = some mm_.cls := hown
 have N0 := Fr.nil n0
 have Z0 : n0 ≤ h0.size := by have q := O0.2.1; rw [O0.1] at q; exact q
 have K0 : Keep h0 h0 [ar] := Keep.refl _ _
 show Go_ s₁ (mkF mm_ 0 #[vr ar, vi 2, vi 1] [])
 refine sp_ (fun t_ k_ => XS.aloadN X0.here hx rfl (B_ dk170) rfl rfl (XS.iloadN X0.here hx rfl (B_ dk171) rfl  (XS.iconst X0.here hx rfl (B_ dk172) (XS.iadd X0.here hx rfl (B_ dk173) rfl (XS.aloadN X0.here hx rfl (B_ dk174) rfl rfl (XS.iloadN X0.here hx rfl (B_ dk175) rfl  (XS.iloadN X0.here hx rfl (B_ dk176) rfl  (XS.iloadN X0.here hx rfl (B_ dk177) rfl  (XS.isub X0.here hx rfl (B_ dk178) rfl (XS.iconst X0.here hx rfl (B_ dk179) (XS.isub X0.here hx rfl (B_ dk180) rfl k_))))))))))) ?_
 have Cp1 := cpA (us := []) X0 hx hZ hown (w_ hw 140 rfl) (w_ hw 89 rfl) (w_ hw 87 rfl) (w_ hw 88 rfl) e0 pr0 (pr0 : Arv Z h0 ar k (.object sc2) z [(.ref r0), (.ref r1)] .null) (Or.inr ⟨rfl, rfl, trivial⟩) (sp := (2 : Int32)) (dp := (1 : Int32)) (nn := (0 : Int32)) (by decide) (by decide) (by decide) (Nat.le_trans (by decide) hf2) (Nat.le_trans (by decide) hf1) rfl (Nat.le_of_ble_eq_true rfl) N0 g_ar (g := (mkF mm_ 11 #[vr ar, vi 2, vi 1] [(.int 0), (.int 1), (.ref ar), (.int 2), (.ref ar)])) rfl hml.symm rfl (B_ dk181) (by decide) (W := 0) (Nat.le_of_eq rfl) (by decide)
 obtain ⟨T1, h1, L1, X1, e1, N1, K1, V1, st1⟩ := Cp1
 refine sp_ st1 ?_
 have Vr1 : Arv Z h1 ar k (.object sc2) z [(.ref r0), (.ref r1)] .null := V1
 show Go_ T1 (mkF mm_ 14 #[vr ar, vi 2, vi 1] [])
 refine sp_ (fun t_ k_ => XS.aloadN X1.here hx rfl (B_ dk182) rfl rfl (XS.iloadN X1.here hx rfl (B_ dk183) rfl  (XS.iconst X1.here hx rfl (B_ dk184) (XS.isub X1.here hx rfl (B_ dk185) rfl (XS.aconstNull X1.here hx rfl (B_ dk186) k_))))) ?_
 obtain ⟨cl2, Ar2, q2, S2, M2, H2, G2⟩ := id (Vr1 : Arv Z h1 ar k (.object sc2) z [(.ref r0), (.ref r1)] .null)
 have hin2 : ¬ ((1 : Int32) < 0 ∨ cl2.slots.size ≤ ((1 : Int32)).toNatClampNeg) := inb_of S2 ⟨by decide, hz1⟩
 obtain ⟨T2, h2, X2, e2, W2, st2⟩ := stR X1 hx hZ e1 Ar2 (j := (1 : Int32)) hin2 rfl (Or.inl rfl) (g := (mkF mm_ 19 #[vr ar, vi 2, vi 1] [.null, (.int 1), (.ref ar)])) rfl rfl (B_ dk187)
 have V2 : Arv Z h2 ar k (.object sc2) z [(.ref r0), .null] .null := Arv.set Ar2 q2 S2 M2 H2 G2 rfl W2 1 rfl (Nat.le_of_ble_eq_true rfl)
 have N2 := Fr.snoc X2 N1 g_ar
 refine sp_ st2 ?_
 show Go_ T2 (mkF mm_ 20 #[vr ar, vi 2, vi 1] [])
 have Vt3 : Arv Z h2 ar k (.object sc2) z [(.ref r0)] .null := V2.pad (fun i_ => (pad_rep [(.ref r0)] .null 1 i_).symm)
 have K4 : Keep h0 h2 [ar] := ((K0.trans K1 (allS (Or.inl (List.mem_of_getElem? (i := 0) rfl)) all0)).wr W2 (Or.inl (List.mem_of_getElem? (i := 0) rfl)))
 obtain ⟨fs, hr, hrun, hended, hW, hsame⟩ := X2.leave (v := none) (fun _ => rfl)
 refine ⟨_, _, ?_, hrun, hended, _, _, rfl, ?_, ⟨_, rfl⟩, hW, hsame.mono (by decide) (by decide)⟩
 · exact X2.returnOut hx Bd.returns (B_ dk188) hr
 · show QrmRa2_1 Z ar k z r0 r1 h0 n0 none T2.heap _
   rw [e2]
   exact ⟨rfl, N2, K4, Vt3⟩
theorem ef_rmRm2_1 (mm_ : MethodId) (x : Addr) (q : Addr) : entryFrame mm_ #[(.ref x), (.ref q)] 3 = (mkF mm_ 0 #[vr x, vr q, un] []) := by first | (simp [entryFrame, mkF, argsToLocals, Value.category]; done) | rfl
def QrmRm2_1 (Z : State) (x : Addr) (q : Addr) (ar : Addr) (k : ClassId) (z : Int32) (r0 : Addr) (r1 : Addr) (v0 : Int32) (v1 : Int32) (u : Int32) (h0 : Heap) (n0 : Nat) (vv_ : Option Value) (hh_ : Heap) (LL_ : List Loc) : Prop := (vv_ = some (.int 1)) ∧ (Fr n0 LL_) ∧ (Keep h0 hh_ [x, ar]) ∧ (Fld Z hh_ x sc1 "hashed" sc5 .null) ∧ (Fld Z hh_ x sc1 "members" sc3 (.ref ar)) ∧ (Fld Z hh_ x sc1 "size" "I" (.int 1)) ∧ (Arv Z hh_ ar k (.object sc2) z [(.ref r0)] .null)
theorem rmRm2_1 (l : Launch) (Z : State) (a0 : Array Value) (hw : own_Hw a0 Z) (ws : List Jvm.Cond) (x : Addr) (q : Addr) (ar : Addr) (k : ClassId) (z : Int32) (r0 : Addr) (r1 : Addr) (v0 : Int32) (v1 : Int32) (u : Int32) (h0 : Heap) (n0 : Nat) (O0 : Old Z n0 h0) (pr0 : Exa Z h0 x sc1) (pr1 : Fld Z h0 x sc1 "hashed" sc5 .null) (pr2 : Fld Z h0 x sc1 "members" sc3 (.ref ar)) (pr3 : Fld Z h0 x sc1 "size" "I" (.int 2)) (pr4 : Arv Z h0 ar k (.object sc2) z [(.ref r0), (.ref r1)] .null) (pr5 : Exa Z h0 ar sc3) (hov : Ovr Z k sc2) (g_x : n0 ≤ x) (g_ar : n0 ≤ ar) (hz0 : (0 : Int32) < z) (hz1 : (1 : Int32) < z) (hf1 : 1 ≤ z.toNatClampNeg) (hf2 : 2 ≤ z.toNatClampNeg) (pr13 : Exa Z h0 r0 sc0) (pr14 : Fld Z h0 r0 sc0 "value" "I" (.int v0)) (pr15 : Exa Z h0 r1 sc0) (pr16 : Fld Z h0 r1 sc0 "value" "I" (.int v1)) (pr17 : Exa Z h0 q sc0) (pr18 : Fld Z h0 q sc0 "value" "I" (.int u)) (hn0 : ¬ (v0 = u)) (hy : v1 = u) :
 own_MF l Z ym7 J16 3 (some .boolean) ws (rm_ 4 0 0 74) #[(.ref x), (.ref q)] h0 (QrmRm2_1 Z x q ar k z r0 r1 v0 v1 u h0 n0) := by
 refine own_met (plainFor_of_name pn_com_example_compact_abox_compactabox_ArraySet) (fun m_ => ef_rmRm2_1 m_ x q) fun pp_ ee_ ss_ mm_ bb_ me_ cc_ s₁ Bd hx hby hml hown hZ hh X0 e0 => ?_
 have B_ {q_ : Nat} {r_ : _} (h_ : decode _ q_ = r_) := hb hby h_
 have hown : ss_.vm.findClass sc1 = some mm_.cls := hown
 have N0 := Fr.nil n0
 have Z0 : n0 ≤ h0.size := by have q := O0.2.1; rw [O0.1] at q; exact q
 have K0 : Keep h0 h0 [x, ar] := Keep.refl _ _
 show Go_ s₁ (mkF mm_ 0 #[vr x, vr q, un] [])
 refine sp_ (fun t_ k_ => XS.aloadN X0.here hx rfl (B_ dk189) rfl rfl k_) ?_
 obtain ⟨T1, X1, e1, st1⟩ := getF X0 hx hZ hown (host := "") (Or.inl (w_ hw 40 rfl)) Via.refl e0 pr1 (g := (mkF mm_ 1 #[vr x, vr q, un] [(.ref x)])) rfl rfl (B_ dk190)
 refine sp_ st1 ?_
 show Go_ T1 (mkF mm_ 4 #[vr x, vr q, un] [.null])
 refine sp_ (fun t_ k_ => XS.ifnullYes X1.here hx rfl (pc0 := 4) (pc' := 18) rfl (B_ dk191) rfl (by decide) (by decide) (XS.aloadN X1.here hx rfl (B_ dk192) rfl rfl (XS.aloadN X1.here hx rfl (B_ dk193) rfl rfl k_))) ?_
 obtain ⟨cq2, qq2, qq2'⟩ := pr0.cell
 obtain ⟨_, T2, Lc2, X2, hQ2, st2⟩ := own_cP X1 hx hZ hown (w_ hw 42 rfl) (w_ hw 43 rfl) (own_selP (w_ hw 38 rfl) rfl (w_ hw 43 rfl) (w_ hw 44 rfl) (by decide)) (w_ hw 44 rfl) (w_ hw 45 rfl) (by decide) (backOf (W := 0) (rmPx2_1 l Z a0 hw [] x q ar k z r0 r1 v0 v1 u h0 n0 O0 pr2 pr3 pr4 hz0 hz1 pr13 pr14 pr15 pr16 pr17 pr18 hn0 hy) hZ (w_ hw 45 rfl) (w_ hw 2 rfl) (by decide) (by decide)) (by rw [e1]; exact qq2) qq2' (g := (mkF mm_ 20 #[vr x, vr q, un] [(.ref q), (.ref x)])) rfl hml.symm (argsL := [(.ref q)]) (rest := []) (lenOf pd_7 rfl) rfl (Nat.le_of_eq rfl) (B_ dk194) rfl e1 (by decide) (by decide)
 obtain ⟨rfl, rfl, Eh2⟩ := hQ2
 have N2 := Fr.app N0 (Fr.nil n0)
 refine jp_ st2 ?_
 show Go_ T2 (mkF mm_ 23 #[vr x, vr q, un] [(.int 1)])
 refine sp_ (fun t_ k_ => XS.istoreN X2.here hx rfl (B_ dk195) rfl (l' := #[vr x, vr q, vi 1]) rfl (XS.iloadN X2.here hx rfl (B_ dk196) rfl  k_)) ?_
 show Go_ T2 (mkF mm_ 25 #[vr x, vr q, vi 1] [(.int 1)])
 refine sp_ (fun t_ k_ => XS.ifYes X2.here hx rfl (pc0 := 25) (pc' := 30) rfl (B_ dk197) rfl ((if0 _ _).trans (flt (by decide : ¬ ((1 : Int32) < (0 : Int32)))).2.1) (by decide) (by decide) k_) ?_
 show Go_ T2 (mkF mm_ 30 #[vr x, vr q, vi 1] [])
 refine sp_ (fun t_ k_ => XS.aloadN X2.here hx rfl (B_ dk198) rfl rfl k_) ?_
 obtain ⟨T3, X3, e3, st3⟩ := getF X2 hx hZ hown (host := "") (Or.inl (w_ hw 26 rfl)) Via.refl Eh2 pr2 (g := (mkF mm_ 31 #[vr x, vr q, vi 1] [(.ref x)])) rfl rfl (B_ dk199)
 refine sp_ st3 ?_
 show Go_ T3 (mkF mm_ 34 #[vr x, vr q, vi 1] [(.ref ar)])
 refine sp_ (fun t_ k_ => XS.aloadN X3.here hx rfl (B_ dk200) rfl rfl (XS.dup X3.here hx rfl (B_ dk201) rfl rfl k_)) ?_
 obtain ⟨T4, X4, e4, st4⟩ := getF X3 hx hZ hown (host := "") (Or.inl (w_ hw 46 rfl)) Via.refl e3 pr3 (g := (mkF mm_ 36 #[vr x, vr q, vi 1] [(.ref x), (.ref x), (.ref ar)])) rfl rfl (B_ dk202)
 refine sp_ st4 ?_
 show Go_ T4 (mkF mm_ 39 #[vr x, vr q, vi 1] [(.int 2), (.ref x), (.ref ar)])
 refine sp_ (fun t_ k_ => XS.dupX1 X4.here hx rfl (B_ dk203) rfl rfl rfl (XS.iconst X4.here hx rfl (B_ dk204) (XS.isub X4.here hx rfl (B_ dk205) rfl k_))) ?_
 obtain ⟨T5, h5, X5, e5, W5, st5⟩ := putF X4 hx hZ hown (host := "") (Or.inl (w_ hw 46 rfl)) Via.refl e4 pr3 pr0 (Or.inl (w_ hw 47 rfl)) (w_ hw 1 rfl) (ty := .int) (by decide) rfl rfl (g := (mkF mm_ 42 #[vr x, vr q, vi 1] [(.int 1), (.ref x), (.int 2), (.ref ar)])) rfl rfl (B_ dk206)
 have F5 := pr3.same W5
 have N5 := Fr.snoc X5 N2 g_x
 refine sp_ st5 ?_
 show Go_ T5 (mkF mm_ 45 #[vr x, vr q, vi 1] [(.int 2), (.ref ar)])
 refine sp_ (fun t_ k_ => XS.iloadN X5.here hx rfl (B_ dk207) rfl  k_) ?_
 have f7 : Arv Z h5 ar k (.object sc2) z [(.ref r0), (.ref r1)] .null := (pr4.other W5 (Exa.ne pr5 pr0 (by decide)))
 have f8 : Exa Z h5 r0 sc0 := (pr13.wr W5)
 have f9 : Exa Z h5 r1 sc0 := (pr15.wr W5)
 have O10 : Old Z n0 h5 := (O0.wr W5 g_x)
 obtain ⟨_, T6, Lc6, X6, hQ6, st6⟩ := own_cS X5 hx hZ hown (w_ hw 137 rfl) (w_ hw 138 rfl) (w_ hw 2 rfl) (w_ hw 139 rfl) (by decide) (backOf (W := 0) (rmRa2_1 l Z a0 hw [] ar k z r0 r1 h5 n0 O10 f7 hov g_ar hz0 hz1 hf1 hf2 f8 f9) hZ (w_ hw 139 rfl) (w_ hw 2 rfl) (by decide) (by decide)) (g := (mkF mm_ 46 #[vr x, vr q, vi 1] [(.int 1), (.int 2), (.ref ar)])) rfl hml.symm (argsL := [(.ref ar), (.int 2), (.int 1)]) (rest := []) (lenOf pd_9 rfl) rfl (Nat.le_of_eq rfl) (B_ dk208) rfl e5 (by decide) (by decide)
 obtain ⟨rfl, Nq6, Kc6, r6_0⟩ := hQ6
 have N6 := Fr.app N5 Nq6
 refine jp_ st6 ?_
 show Go_ T6 (mkF mm_ 49 #[vr x, vr q, vi 1] [])
 refine sp_ (fun t_ k_ => XS.iconst X6.here hx rfl (B_ dk209) k_) ?_
 show Go_ T6 (mkF mm_ 50 #[vr x, vr q, vi 1] [(.int 1)])
 have K11 : Keep h0 T6.heap [x, ar] := ((K0.wr W5 (Or.inl (List.mem_of_getElem? (i := 0) rfl))).trans Kc6 (allS (Or.inl (List.mem_of_getElem? (i := 1) rfl)) all0))
 have f12 : Fld Z T6.heap x sc1 "hashed" sc5 .null := ((pr1.other W5 (Or.inr (slot_ne (Or.inl (w_ hw 41 rfl)) (Or.inl (w_ hw 47 rfl)) (by decide) (t := (.object sc6)) (t' := .int) (by decide) (by decide)))).keep Kc6 (ninS (Exa.ne (pr0.wr W5) (pr5.wr W5) (by decide)) nin0))
 have f13 : Fld Z T6.heap x sc1 "members" sc3 (.ref ar) := ((pr2.other W5 (Or.inr (slot_ne (Or.inl (w_ hw 27 rfl)) (Or.inl (w_ hw 47 rfl)) (by decide) (t := (.array (.object sc2))) (t' := .int) (by decide) (by decide)))).keep Kc6 (ninS (Exa.ne (pr0.wr W5) (pr5.wr W5) (by decide)) nin0))
 have f14 : Fld Z T6.heap x sc1 "size" "I" (.int 1) := (F5.keep Kc6 (ninS (Exa.ne (pr0.wr W5) (pr5.wr W5) (by decide)) nin0))
 obtain ⟨fs, hr, hrun, hended, hW, hsame⟩ := X6.leave (v := some (.int 1)) (rN Bd.returns)
 refine ⟨_, _, ?_, hrun, hended, _, _, rfl, ?_, ⟨_, rfl⟩, hW, hsame.mono (by decide) (by decide)⟩
 · exact retN X6 hx (t := .boolean) Bd.returns (by simp) (B_ dk210) hr
 · show QrmRm2_1 Z x q ar k z r0 r1 v0 v1 u h0 n0 (some (.int 1)) T6.heap _
   exact ⟨rfl, N6, K11, f12, f13, f14, r6_0⟩
theorem ef_rmRa3_0 (mm_ : MethodId) (ar : Addr) : entryFrame mm_ #[(.ref ar), (.int 3), (.int 0)] 3 = (mkF mm_ 0 #[vr ar, vi 3, vi 0] []) := by first | (simp [entryFrame, mkF, argsToLocals, Value.category]; done) | rfl
def QrmRa3_0 (Z : State) (ar : Addr) (k : ClassId) (z : Int32) (r0 : Addr) (r1 : Addr) (r2 : Addr) (h0 : Heap) (n0 : Nat) (vv_ : Option Value) (hh_ : Heap) (LL_ : List Loc) : Prop := (vv_ = none) ∧ (Fr n0 LL_) ∧ (Keep h0 hh_ [ar]) ∧ (Arv Z hh_ ar k (.object sc2) z [(.ref r1), (.ref r2)] .null)
theorem rmRa3_0 (l : Launch) (Z : State) (a0 : Array Value) (hw : own_Hw a0 Z) (ws : List Jvm.Cond) (ar : Addr) (k : ClassId) (z : Int32) (r0 : Addr) (r1 : Addr) (r2 : Addr) (h0 : Heap) (n0 : Nat) (O0 : Old Z n0 h0) (pr0 : Arv Z h0 ar k (.object sc2) z [(.ref r0), (.ref r1), (.ref r2)] .null) (hov : Ovr Z k sc2) (g_ar : n0 ≤ ar) (hz0 : (0 : Int32) < z) (hz1 : (1 : Int32) < z) (hz2 : (2 : Int32) < z) (hf2 : 2 ≤ z.toNatClampNeg) (hf3 : 3 ≤ z.toNatClampNeg) (pr8 : Exa Z h0 r0 sc0) (pr9 : Exa Z h0 r1 sc0) (pr10 : Exa Z h0 r2 sc0) :
 own_MF l Z ym6 J15 3 none ws (rm_ 1 0 0 60) #[(.ref ar), (.int 3), (.int 0)] h0 (QrmRa3_0 Z ar k z r0 r1 r2 h0 n0) := by
 refine own_met (plainFor_of_name pn_com_example_compact_abox_compactabox_ArraySet) (fun m_ => ef_rmRa3_0 m_ ar) fun pp_ ee_ ss_ mm_ bb_ me_ cc_ s₁ Bd hx hby hml hown hZ hh X0 e0 => ?_
 have B_ {q_ : Nat} {r_ : _} (h_ : decode _ q_ = r_) := hb hby h_
 have hown : ss_.vm.findClass sc1 = some mm_.cls := hown
 have N0 := Fr.nil n0
 have Z0 : n0 ≤ h0.size := by have q := O0.2.1; rw [O0.1] at q; exact q
 have K0 : Keep h0 h0 [ar] := Keep.refl _ _
 show Go_ s₁ (mkF mm_ 0 #[vr ar, vi 3, vi 0] [])
 refine sp_ (fun t_ k_ => XS.aloadN X0.here hx rfl (B_ dk170) rfl rfl (XS.iloadN X0.here hx rfl (B_ dk171) rfl  (XS.iconst X0.here hx rfl (B_ dk172) (XS.iadd X0.here hx rfl (B_ dk173) rfl (XS.aloadN X0.here hx rfl (B_ dk174) rfl rfl (XS.iloadN X0.here hx rfl (B_ dk175) rfl  (XS.iloadN X0.here hx rfl (B_ dk176) rfl  (XS.iloadN X0.here hx rfl (B_ dk177) rfl  (XS.isub X0.here hx rfl (B_ dk178) rfl (XS.iconst X0.here hx rfl (B_ dk179) (XS.isub X0.here hx rfl (B_ dk180) rfl k_))))))))))) ?_
 have pB1 := pr0
 obtain ⟨clB1, ArB1, qB1, -, -, -, -⟩ := pB1
 have Cp1 := cpA (us := [(.ref r1), (.ref r2)]) X0 hx hZ hown (w_ hw 140 rfl) (w_ hw 89 rfl) (w_ hw 87 rfl) (w_ hw 88 rfl) e0 pr0 (pr0 : Arv Z h0 ar k (.object sc2) z [(.ref r0), (.ref r1), (.ref r2)] .null) (Or.inr ⟨rfl, rfl, ⟨(Sto.ofV ArB1 qB1 hov (Ins.of_exa pr9 (w_ hw 51 rfl))), (Sto.ofV ArB1 qB1 hov (Ins.of_exa pr10 (w_ hw 51 rfl))), trivial⟩⟩) (sp := (1 : Int32)) (dp := (0 : Int32)) (nn := (2 : Int32)) (by decide) (by decide) (by decide) (Nat.le_trans (by decide) hf3) (Nat.le_trans (by decide) hf2) rfl (Nat.le_of_ble_eq_true rfl) N0 g_ar (g := (mkF mm_ 11 #[vr ar, vi 3, vi 0] [(.int 2), (.int 0), (.ref ar), (.int 1), (.ref ar)])) rfl hml.symm rfl (B_ dk181) (by decide) (W := 0) (Nat.le_of_eq rfl) (by decide)
 obtain ⟨T1, h1, L1, X1, e1, N1, K1, V1, st1⟩ := Cp1
 refine sp_ st1 ?_
 have Vr1 : Arv Z h1 ar k (.object sc2) z [(.ref r1), (.ref r2), (.ref r2)] .null := V1
 show Go_ T1 (mkF mm_ 14 #[vr ar, vi 3, vi 0] [])
 refine sp_ (fun t_ k_ => XS.aloadN X1.here hx rfl (B_ dk182) rfl rfl (XS.iloadN X1.here hx rfl (B_ dk183) rfl  (XS.iconst X1.here hx rfl (B_ dk184) (XS.isub X1.here hx rfl (B_ dk185) rfl (XS.aconstNull X1.here hx rfl (B_ dk186) k_))))) ?_
 obtain ⟨cl2, Ar2, q2, S2, M2, H2, G2⟩ := id (Vr1 : Arv Z h1 ar k (.object sc2) z [(.ref r1), (.ref r2), (.ref r2)] .null)
 have hin2 : ¬ ((2 : Int32) < 0 ∨ cl2.slots.size ≤ ((2 : Int32)).toNatClampNeg) := inb_of S2 ⟨by decide, hz2⟩
 obtain ⟨T2, h2, X2, e2, W2, st2⟩ := stR X1 hx hZ e1 Ar2 (j := (2 : Int32)) hin2 rfl (Or.inl rfl) (g := (mkF mm_ 19 #[vr ar, vi 3, vi 0] [.null, (.int 2), (.ref ar)])) rfl rfl (B_ dk187)
 have V2 : Arv Z h2 ar k (.object sc2) z [(.ref r1), (.ref r2), .null] .null := Arv.set Ar2 q2 S2 M2 H2 G2 rfl W2 2 rfl (Nat.le_of_ble_eq_true rfl)
 have N2 := Fr.snoc X2 N1 g_ar
 refine sp_ st2 ?_
 show Go_ T2 (mkF mm_ 20 #[vr ar, vi 3, vi 0] [])
 have Vt3 : Arv Z h2 ar k (.object sc2) z [(.ref r1), (.ref r2)] .null := V2.pad (fun i_ => (pad_rep [(.ref r1), (.ref r2)] .null 1 i_).symm)
 have K4 : Keep h0 h2 [ar] := ((K0.trans K1 (allS (Or.inl (List.mem_of_getElem? (i := 0) rfl)) all0)).wr W2 (Or.inl (List.mem_of_getElem? (i := 0) rfl)))
 obtain ⟨fs, hr, hrun, hended, hW, hsame⟩ := X2.leave (v := none) (fun _ => rfl)
 refine ⟨_, _, ?_, hrun, hended, _, _, rfl, ?_, ⟨_, rfl⟩, hW, hsame.mono (by decide) (by decide)⟩
 · exact X2.returnOut hx Bd.returns (B_ dk188) hr
 · show QrmRa3_0 Z ar k z r0 r1 r2 h0 n0 none T2.heap _
   rw [e2]
   exact ⟨rfl, N2, K4, Vt3⟩
theorem ef_rmRm3_0 (mm_ : MethodId) (x : Addr) (q : Addr) : entryFrame mm_ #[(.ref x), (.ref q)] 3 = (mkF mm_ 0 #[vr x, vr q, un] []) := by first | (simp [entryFrame, mkF, argsToLocals, Value.category]; done) | rfl
def QrmRm3_0 (Z : State) (x : Addr) (q : Addr) (ar : Addr) (k : ClassId) (z : Int32) (r0 : Addr) (r1 : Addr) (r2 : Addr) (v0 : Int32) (v1 : Int32) (v2 : Int32) (u : Int32) (h0 : Heap) (n0 : Nat) (vv_ : Option Value) (hh_ : Heap) (LL_ : List Loc) : Prop := (vv_ = some (.int 1)) ∧ (Fr n0 LL_) ∧ (Keep h0 hh_ [x, ar]) ∧ (Fld Z hh_ x sc1 "hashed" sc5 .null) ∧ (Fld Z hh_ x sc1 "members" sc3 (.ref ar)) ∧ (Fld Z hh_ x sc1 "size" "I" (.int 2)) ∧ (Arv Z hh_ ar k (.object sc2) z [(.ref r1), (.ref r2)] .null)
theorem rmRm3_0 (l : Launch) (Z : State) (a0 : Array Value) (hw : own_Hw a0 Z) (ws : List Jvm.Cond) (x : Addr) (q : Addr) (ar : Addr) (k : ClassId) (z : Int32) (r0 : Addr) (r1 : Addr) (r2 : Addr) (v0 : Int32) (v1 : Int32) (v2 : Int32) (u : Int32) (h0 : Heap) (n0 : Nat) (O0 : Old Z n0 h0) (pr0 : Exa Z h0 x sc1) (pr1 : Fld Z h0 x sc1 "hashed" sc5 .null) (pr2 : Fld Z h0 x sc1 "members" sc3 (.ref ar)) (pr3 : Fld Z h0 x sc1 "size" "I" (.int 3)) (pr4 : Arv Z h0 ar k (.object sc2) z [(.ref r0), (.ref r1), (.ref r2)] .null) (pr5 : Exa Z h0 ar sc3) (hov : Ovr Z k sc2) (g_x : n0 ≤ x) (g_ar : n0 ≤ ar) (hz0 : (0 : Int32) < z) (hz1 : (1 : Int32) < z) (hz2 : (2 : Int32) < z) (hf2 : 2 ≤ z.toNatClampNeg) (hf3 : 3 ≤ z.toNatClampNeg) (pr14 : Exa Z h0 r0 sc0) (pr15 : Fld Z h0 r0 sc0 "value" "I" (.int v0)) (pr16 : Exa Z h0 r1 sc0) (pr17 : Fld Z h0 r1 sc0 "value" "I" (.int v1)) (pr18 : Exa Z h0 r2 sc0) (pr19 : Fld Z h0 r2 sc0 "value" "I" (.int v2)) (pr20 : Exa Z h0 q sc0) (pr21 : Fld Z h0 q sc0 "value" "I" (.int u)) (hy : v0 = u) :
 own_MF l Z ym7 J16 3 (some .boolean) ws (rm_ 4 0 0 74) #[(.ref x), (.ref q)] h0 (QrmRm3_0 Z x q ar k z r0 r1 r2 v0 v1 v2 u h0 n0) := by
 refine own_met (plainFor_of_name pn_com_example_compact_abox_compactabox_ArraySet) (fun m_ => ef_rmRm3_0 m_ x q) fun pp_ ee_ ss_ mm_ bb_ me_ cc_ s₁ Bd hx hby hml hown hZ hh X0 e0 => ?_
 have B_ {q_ : Nat} {r_ : _} (h_ : decode _ q_ = r_) := hb hby h_
 have hown : ss_.vm.findClass sc1 = some mm_.cls := hown
 have N0 := Fr.nil n0
 have Z0 : n0 ≤ h0.size := by have q := O0.2.1; rw [O0.1] at q; exact q
 have K0 : Keep h0 h0 [x, ar] := Keep.refl _ _
 show Go_ s₁ (mkF mm_ 0 #[vr x, vr q, un] [])
 refine sp_ (fun t_ k_ => XS.aloadN X0.here hx rfl (B_ dk189) rfl rfl k_) ?_
 obtain ⟨T1, X1, e1, st1⟩ := getF X0 hx hZ hown (host := "") (Or.inl (w_ hw 40 rfl)) Via.refl e0 pr1 (g := (mkF mm_ 1 #[vr x, vr q, un] [(.ref x)])) rfl rfl (B_ dk190)
 refine sp_ st1 ?_
 show Go_ T1 (mkF mm_ 4 #[vr x, vr q, un] [.null])
 refine sp_ (fun t_ k_ => XS.ifnullYes X1.here hx rfl (pc0 := 4) (pc' := 18) rfl (B_ dk191) rfl (by decide) (by decide) (XS.aloadN X1.here hx rfl (B_ dk192) rfl rfl (XS.aloadN X1.here hx rfl (B_ dk193) rfl rfl k_))) ?_
 obtain ⟨cq2, qq2, qq2'⟩ := pr0.cell
 obtain ⟨_, T2, Lc2, X2, hQ2, st2⟩ := own_cP X1 hx hZ hown (w_ hw 42 rfl) (w_ hw 43 rfl) (own_selP (w_ hw 38 rfl) rfl (w_ hw 43 rfl) (w_ hw 44 rfl) (by decide)) (w_ hw 44 rfl) (w_ hw 45 rfl) (by decide) (backOf (W := 0) (rmPx3_0 l Z a0 hw [] x q ar k z r0 r1 r2 v0 v1 v2 u h0 n0 O0 pr2 pr3 pr4 hz0 hz1 hz2 pr14 pr15 pr16 pr17 pr18 pr19 pr20 pr21 hy) hZ (w_ hw 45 rfl) (w_ hw 2 rfl) (by decide) (by decide)) (by rw [e1]; exact qq2) qq2' (g := (mkF mm_ 20 #[vr x, vr q, un] [(.ref q), (.ref x)])) rfl hml.symm (argsL := [(.ref q)]) (rest := []) (lenOf pd_7 rfl) rfl (Nat.le_of_eq rfl) (B_ dk194) rfl e1 (by decide) (by decide)
 obtain ⟨rfl, rfl, Eh2⟩ := hQ2
 have N2 := Fr.app N0 (Fr.nil n0)
 refine jp_ st2 ?_
 show Go_ T2 (mkF mm_ 23 #[vr x, vr q, un] [(.int 0)])
 refine sp_ (fun t_ k_ => XS.istoreN X2.here hx rfl (B_ dk195) rfl (l' := #[vr x, vr q, vi 0]) rfl (XS.iloadN X2.here hx rfl (B_ dk196) rfl  k_)) ?_
 show Go_ T2 (mkF mm_ 25 #[vr x, vr q, vi 0] [(.int 0)])
 refine sp_ (fun t_ k_ => XS.ifYes X2.here hx rfl (pc0 := 25) (pc' := 30) rfl (B_ dk197) rfl ((if0 _ _).trans (flt (by decide : ¬ ((0 : Int32) < (0 : Int32)))).2.1) (by decide) (by decide) k_) ?_
 show Go_ T2 (mkF mm_ 30 #[vr x, vr q, vi 0] [])
 refine sp_ (fun t_ k_ => XS.aloadN X2.here hx rfl (B_ dk198) rfl rfl k_) ?_
 obtain ⟨T3, X3, e3, st3⟩ := getF X2 hx hZ hown (host := "") (Or.inl (w_ hw 26 rfl)) Via.refl Eh2 pr2 (g := (mkF mm_ 31 #[vr x, vr q, vi 0] [(.ref x)])) rfl rfl (B_ dk199)
 refine sp_ st3 ?_
 show Go_ T3 (mkF mm_ 34 #[vr x, vr q, vi 0] [(.ref ar)])
 refine sp_ (fun t_ k_ => XS.aloadN X3.here hx rfl (B_ dk200) rfl rfl (XS.dup X3.here hx rfl (B_ dk201) rfl rfl k_)) ?_
 obtain ⟨T4, X4, e4, st4⟩ := getF X3 hx hZ hown (host := "") (Or.inl (w_ hw 46 rfl)) Via.refl e3 pr3 (g := (mkF mm_ 36 #[vr x, vr q, vi 0] [(.ref x), (.ref x), (.ref ar)])) rfl rfl (B_ dk202)
 refine sp_ st4 ?_
 show Go_ T4 (mkF mm_ 39 #[vr x, vr q, vi 0] [(.int 3), (.ref x), (.ref ar)])
 refine sp_ (fun t_ k_ => XS.dupX1 X4.here hx rfl (B_ dk203) rfl rfl rfl (XS.iconst X4.here hx rfl (B_ dk204) (XS.isub X4.here hx rfl (B_ dk205) rfl k_))) ?_
 obtain ⟨T5, h5, X5, e5, W5, st5⟩ := putF X4 hx hZ hown (host := "") (Or.inl (w_ hw 46 rfl)) Via.refl e4 pr3 pr0 (Or.inl (w_ hw 47 rfl)) (w_ hw 1 rfl) (ty := .int) (by decide) rfl rfl (g := (mkF mm_ 42 #[vr x, vr q, vi 0] [(.int 2), (.ref x), (.int 3), (.ref ar)])) rfl rfl (B_ dk206)
 have F5 := pr3.same W5
 have N5 := Fr.snoc X5 N2 g_x
 refine sp_ st5 ?_
 show Go_ T5 (mkF mm_ 45 #[vr x, vr q, vi 0] [(.int 3), (.ref ar)])
 refine sp_ (fun t_ k_ => XS.iloadN X5.here hx rfl (B_ dk207) rfl  k_) ?_
 have f7 : Arv Z h5 ar k (.object sc2) z [(.ref r0), (.ref r1), (.ref r2)] .null := (pr4.other W5 (Exa.ne pr5 pr0 (by decide)))
 have f8 : Exa Z h5 r0 sc0 := (pr14.wr W5)
 have f9 : Exa Z h5 r1 sc0 := (pr16.wr W5)
 have f10 : Exa Z h5 r2 sc0 := (pr18.wr W5)
 have O11 : Old Z n0 h5 := (O0.wr W5 g_x)
 obtain ⟨_, T6, Lc6, X6, hQ6, st6⟩ := own_cS X5 hx hZ hown (w_ hw 137 rfl) (w_ hw 138 rfl) (w_ hw 2 rfl) (w_ hw 139 rfl) (by decide) (backOf (W := 0) (rmRa3_0 l Z a0 hw [] ar k z r0 r1 r2 h5 n0 O11 f7 hov g_ar hz0 hz1 hz2 hf2 hf3 f8 f9 f10) hZ (w_ hw 139 rfl) (w_ hw 2 rfl) (by decide) (by decide)) (g := (mkF mm_ 46 #[vr x, vr q, vi 0] [(.int 0), (.int 3), (.ref ar)])) rfl hml.symm (argsL := [(.ref ar), (.int 3), (.int 0)]) (rest := []) (lenOf pd_9 rfl) rfl (Nat.le_of_eq rfl) (B_ dk208) rfl e5 (by decide) (by decide)
 obtain ⟨rfl, Nq6, Kc6, r6_0⟩ := hQ6
 have N6 := Fr.app N5 Nq6
 refine jp_ st6 ?_
 show Go_ T6 (mkF mm_ 49 #[vr x, vr q, vi 0] [])
 refine sp_ (fun t_ k_ => XS.iconst X6.here hx rfl (B_ dk209) k_) ?_
 show Go_ T6 (mkF mm_ 50 #[vr x, vr q, vi 0] [(.int 1)])
 have K12 : Keep h0 T6.heap [x, ar] := ((K0.wr W5 (Or.inl (List.mem_of_getElem? (i := 0) rfl))).trans Kc6 (allS (Or.inl (List.mem_of_getElem? (i := 1) rfl)) all0))
 have f13 : Fld Z T6.heap x sc1 "hashed" sc5 .null := ((pr1.other W5 (Or.inr (slot_ne (Or.inl (w_ hw 41 rfl)) (Or.inl (w_ hw 47 rfl)) (by decide) (t := (.object sc6)) (t' := .int) (by decide) (by decide)))).keep Kc6 (ninS (Exa.ne (pr0.wr W5) (pr5.wr W5) (by decide)) nin0))
 have f14 : Fld Z T6.heap x sc1 "members" sc3 (.ref ar) := ((pr2.other W5 (Or.inr (slot_ne (Or.inl (w_ hw 27 rfl)) (Or.inl (w_ hw 47 rfl)) (by decide) (t := (.array (.object sc2))) (t' := .int) (by decide) (by decide)))).keep Kc6 (ninS (Exa.ne (pr0.wr W5) (pr5.wr W5) (by decide)) nin0))
 have f15 : Fld Z T6.heap x sc1 "size" "I" (.int 2) := (F5.keep Kc6 (ninS (Exa.ne (pr0.wr W5) (pr5.wr W5) (by decide)) nin0))
 obtain ⟨fs, hr, hrun, hended, hW, hsame⟩ := X6.leave (v := some (.int 1)) (rN Bd.returns)
 refine ⟨_, _, ?_, hrun, hended, _, _, rfl, ?_, ⟨_, rfl⟩, hW, hsame.mono (by decide) (by decide)⟩
 · exact retN X6 hx (t := .boolean) Bd.returns (by simp) (B_ dk210) hr
 · show QrmRm3_0 Z x q ar k z r0 r1 r2 v0 v1 v2 u h0 n0 (some (.int 1)) T6.heap _
   exact ⟨rfl, N6, K12, f13, f14, f15, r6_0⟩
theorem ef_rmRa3_1 (mm_ : MethodId) (ar : Addr) : entryFrame mm_ #[(.ref ar), (.int 3), (.int 1)] 3 = (mkF mm_ 0 #[vr ar, vi 3, vi 1] []) := by first | (simp [entryFrame, mkF, argsToLocals, Value.category]; done) | rfl
def QrmRa3_1 (Z : State) (ar : Addr) (k : ClassId) (z : Int32) (r0 : Addr) (r1 : Addr) (r2 : Addr) (h0 : Heap) (n0 : Nat) (vv_ : Option Value) (hh_ : Heap) (LL_ : List Loc) : Prop := (vv_ = none) ∧ (Fr n0 LL_) ∧ (Keep h0 hh_ [ar]) ∧ (Arv Z hh_ ar k (.object sc2) z [(.ref r0), (.ref r2)] .null)
theorem rmRa3_1 (l : Launch) (Z : State) (a0 : Array Value) (hw : own_Hw a0 Z) (ws : List Jvm.Cond) (ar : Addr) (k : ClassId) (z : Int32) (r0 : Addr) (r1 : Addr) (r2 : Addr) (h0 : Heap) (n0 : Nat) (O0 : Old Z n0 h0) (pr0 : Arv Z h0 ar k (.object sc2) z [(.ref r0), (.ref r1), (.ref r2)] .null) (hov : Ovr Z k sc2) (g_ar : n0 ≤ ar) (hz0 : (0 : Int32) < z) (hz1 : (1 : Int32) < z) (hz2 : (2 : Int32) < z) (hf2 : 2 ≤ z.toNatClampNeg) (hf3 : 3 ≤ z.toNatClampNeg) (pr8 : Exa Z h0 r0 sc0) (pr9 : Exa Z h0 r1 sc0) (pr10 : Exa Z h0 r2 sc0) :
 own_MF l Z ym6 J15 3 none ws (rm_ 1 0 0 60) #[(.ref ar), (.int 3), (.int 1)] h0 (QrmRa3_1 Z ar k z r0 r1 r2 h0 n0) := by
 refine own_met (plainFor_of_name pn_com_example_compact_abox_compactabox_ArraySet) (fun m_ => ef_rmRa3_1 m_ ar) fun pp_ ee_ ss_ mm_ bb_ me_ cc_ s₁ Bd hx hby hml hown hZ hh X0 e0 => ?_
 have B_ {q_ : Nat} {r_ : _} (h_ : decode _ q_ = r_) := hb hby h_
 have hown : ss_.vm.findClass sc1 = some mm_.cls := hown
 have N0 := Fr.nil n0
 have Z0 : n0 ≤ h0.size := by have q := O0.2.1; rw [O0.1] at q; exact q
 have K0 : Keep h0 h0 [ar] := Keep.refl _ _
 show Go_ s₁ (mkF mm_ 0 #[vr ar, vi 3, vi 1] [])
 refine sp_ (fun t_ k_ => XS.aloadN X0.here hx rfl (B_ dk170) rfl rfl (XS.iloadN X0.here hx rfl (B_ dk171) rfl  (XS.iconst X0.here hx rfl (B_ dk172) (XS.iadd X0.here hx rfl (B_ dk173) rfl (XS.aloadN X0.here hx rfl (B_ dk174) rfl rfl (XS.iloadN X0.here hx rfl (B_ dk175) rfl  (XS.iloadN X0.here hx rfl (B_ dk176) rfl  (XS.iloadN X0.here hx rfl (B_ dk177) rfl  (XS.isub X0.here hx rfl (B_ dk178) rfl (XS.iconst X0.here hx rfl (B_ dk179) (XS.isub X0.here hx rfl (B_ dk180) rfl k_))))))))))) ?_
 have pB1 := pr0
 obtain ⟨clB1, ArB1, qB1, -, -, -, -⟩ := pB1
 have Cp1 := cpA (us := [(.ref r2)]) X0 hx hZ hown (w_ hw 140 rfl) (w_ hw 89 rfl) (w_ hw 87 rfl) (w_ hw 88 rfl) e0 pr0 (pr0 : Arv Z h0 ar k (.object sc2) z [(.ref r0), (.ref r1), (.ref r2)] .null) (Or.inr ⟨rfl, rfl, ⟨(Sto.ofV ArB1 qB1 hov (Ins.of_exa pr10 (w_ hw 51 rfl))), trivial⟩⟩) (sp := (2 : Int32)) (dp := (1 : Int32)) (nn := (1 : Int32)) (by decide) (by decide) (by decide) (Nat.le_trans (by decide) hf3) (Nat.le_trans (by decide) hf2) rfl (Nat.le_of_ble_eq_true rfl) N0 g_ar (g := (mkF mm_ 11 #[vr ar, vi 3, vi 1] [(.int 1), (.int 1), (.ref ar), (.int 2), (.ref ar)])) rfl hml.symm rfl (B_ dk181) (by decide) (W := 0) (Nat.le_of_eq rfl) (by decide)
 obtain ⟨T1, h1, L1, X1, e1, N1, K1, V1, st1⟩ := Cp1
 refine sp_ st1 ?_
 have Vr1 : Arv Z h1 ar k (.object sc2) z [(.ref r0), (.ref r2), (.ref r2)] .null := V1
 show Go_ T1 (mkF mm_ 14 #[vr ar, vi 3, vi 1] [])
 refine sp_ (fun t_ k_ => XS.aloadN X1.here hx rfl (B_ dk182) rfl rfl (XS.iloadN X1.here hx rfl (B_ dk183) rfl  (XS.iconst X1.here hx rfl (B_ dk184) (XS.isub X1.here hx rfl (B_ dk185) rfl (XS.aconstNull X1.here hx rfl (B_ dk186) k_))))) ?_
 obtain ⟨cl2, Ar2, q2, S2, M2, H2, G2⟩ := id (Vr1 : Arv Z h1 ar k (.object sc2) z [(.ref r0), (.ref r2), (.ref r2)] .null)
 have hin2 : ¬ ((2 : Int32) < 0 ∨ cl2.slots.size ≤ ((2 : Int32)).toNatClampNeg) := inb_of S2 ⟨by decide, hz2⟩
 obtain ⟨T2, h2, X2, e2, W2, st2⟩ := stR X1 hx hZ e1 Ar2 (j := (2 : Int32)) hin2 rfl (Or.inl rfl) (g := (mkF mm_ 19 #[vr ar, vi 3, vi 1] [.null, (.int 2), (.ref ar)])) rfl rfl (B_ dk187)
 have V2 : Arv Z h2 ar k (.object sc2) z [(.ref r0), (.ref r2), .null] .null := Arv.set Ar2 q2 S2 M2 H2 G2 rfl W2 2 rfl (Nat.le_of_ble_eq_true rfl)
 have N2 := Fr.snoc X2 N1 g_ar
 refine sp_ st2 ?_
 show Go_ T2 (mkF mm_ 20 #[vr ar, vi 3, vi 1] [])
 have Vt3 : Arv Z h2 ar k (.object sc2) z [(.ref r0), (.ref r2)] .null := V2.pad (fun i_ => (pad_rep [(.ref r0), (.ref r2)] .null 1 i_).symm)
 have K4 : Keep h0 h2 [ar] := ((K0.trans K1 (allS (Or.inl (List.mem_of_getElem? (i := 0) rfl)) all0)).wr W2 (Or.inl (List.mem_of_getElem? (i := 0) rfl)))
 obtain ⟨fs, hr, hrun, hended, hW, hsame⟩ := X2.leave (v := none) (fun _ => rfl)
 refine ⟨_, _, ?_, hrun, hended, _, _, rfl, ?_, ⟨_, rfl⟩, hW, hsame.mono (by decide) (by decide)⟩
 · exact X2.returnOut hx Bd.returns (B_ dk188) hr
 · show QrmRa3_1 Z ar k z r0 r1 r2 h0 n0 none T2.heap _
   rw [e2]
   exact ⟨rfl, N2, K4, Vt3⟩
theorem ef_rmRm3_1 (mm_ : MethodId) (x : Addr) (q : Addr) : entryFrame mm_ #[(.ref x), (.ref q)] 3 = (mkF mm_ 0 #[vr x, vr q, un] []) := by first | (simp [entryFrame, mkF, argsToLocals, Value.category]; done) | rfl
def QrmRm3_1 (Z : State) (x : Addr) (q : Addr) (ar : Addr) (k : ClassId) (z : Int32) (r0 : Addr) (r1 : Addr) (r2 : Addr) (v0 : Int32) (v1 : Int32) (v2 : Int32) (u : Int32) (h0 : Heap) (n0 : Nat) (vv_ : Option Value) (hh_ : Heap) (LL_ : List Loc) : Prop := (vv_ = some (.int 1)) ∧ (Fr n0 LL_) ∧ (Keep h0 hh_ [x, ar]) ∧ (Fld Z hh_ x sc1 "hashed" sc5 .null) ∧ (Fld Z hh_ x sc1 "members" sc3 (.ref ar)) ∧ (Fld Z hh_ x sc1 "size" "I" (.int 2)) ∧ (Arv Z hh_ ar k (.object sc2) z [(.ref r0), (.ref r2)] .null)
theorem rmRm3_1 (l : Launch) (Z : State) (a0 : Array Value) (hw : own_Hw a0 Z) (ws : List Jvm.Cond) (x : Addr) (q : Addr) (ar : Addr) (k : ClassId) (z : Int32) (r0 : Addr) (r1 : Addr) (r2 : Addr) (v0 : Int32) (v1 : Int32) (v2 : Int32) (u : Int32) (h0 : Heap) (n0 : Nat) (O0 : Old Z n0 h0) (pr0 : Exa Z h0 x sc1) (pr1 : Fld Z h0 x sc1 "hashed" sc5 .null) (pr2 : Fld Z h0 x sc1 "members" sc3 (.ref ar)) (pr3 : Fld Z h0 x sc1 "size" "I" (.int 3)) (pr4 : Arv Z h0 ar k (.object sc2) z [(.ref r0), (.ref r1), (.ref r2)] .null) (pr5 : Exa Z h0 ar sc3) (hov : Ovr Z k sc2) (g_x : n0 ≤ x) (g_ar : n0 ≤ ar) (hz0 : (0 : Int32) < z) (hz1 : (1 : Int32) < z) (hz2 : (2 : Int32) < z) (hf2 : 2 ≤ z.toNatClampNeg) (hf3 : 3 ≤ z.toNatClampNeg) (pr14 : Exa Z h0 r0 sc0) (pr15 : Fld Z h0 r0 sc0 "value" "I" (.int v0)) (pr16 : Exa Z h0 r1 sc0) (pr17 : Fld Z h0 r1 sc0 "value" "I" (.int v1)) (pr18 : Exa Z h0 r2 sc0) (pr19 : Fld Z h0 r2 sc0 "value" "I" (.int v2)) (pr20 : Exa Z h0 q sc0) (pr21 : Fld Z h0 q sc0 "value" "I" (.int u)) (hn0 : ¬ (v0 = u)) (hy : v1 = u) :
 own_MF l Z ym7 J16 3 (some .boolean) ws (rm_ 4 0 0 74) #[(.ref x), (.ref q)] h0 (QrmRm3_1 Z x q ar k z r0 r1 r2 v0 v1 v2 u h0 n0) := by
 refine own_met (plainFor_of_name pn_com_example_compact_abox_compactabox_ArraySet) (fun m_ => ef_rmRm3_1 m_ x q) fun pp_ ee_ ss_ mm_ bb_ me_ cc_ s₁ Bd hx hby hml hown hZ hh X0 e0 => ?_
 have B_ {q_ : Nat} {r_ : _} (h_ : decode _ q_ = r_) := hb hby h_
 have hown : ss_.vm.findClass sc1 = some mm_.cls := hown
 have N0 := Fr.nil n0
 have Z0 : n0 ≤ h0.size := by have q := O0.2.1; rw [O0.1] at q; exact q
 have K0 : Keep h0 h0 [x, ar] := Keep.refl _ _
 show Go_ s₁ (mkF mm_ 0 #[vr x, vr q, un] [])
 refine sp_ (fun t_ k_ => XS.aloadN X0.here hx rfl (B_ dk189) rfl rfl k_) ?_
 obtain ⟨T1, X1, e1, st1⟩ := getF X0 hx hZ hown (host := "") (Or.inl (w_ hw 40 rfl)) Via.refl e0 pr1 (g := (mkF mm_ 1 #[vr x, vr q, un] [(.ref x)])) rfl rfl (B_ dk190)
 refine sp_ st1 ?_
 show Go_ T1 (mkF mm_ 4 #[vr x, vr q, un] [.null])
 refine sp_ (fun t_ k_ => XS.ifnullYes X1.here hx rfl (pc0 := 4) (pc' := 18) rfl (B_ dk191) rfl (by decide) (by decide) (XS.aloadN X1.here hx rfl (B_ dk192) rfl rfl (XS.aloadN X1.here hx rfl (B_ dk193) rfl rfl k_))) ?_
 obtain ⟨cq2, qq2, qq2'⟩ := pr0.cell
 obtain ⟨_, T2, Lc2, X2, hQ2, st2⟩ := own_cP X1 hx hZ hown (w_ hw 42 rfl) (w_ hw 43 rfl) (own_selP (w_ hw 38 rfl) rfl (w_ hw 43 rfl) (w_ hw 44 rfl) (by decide)) (w_ hw 44 rfl) (w_ hw 45 rfl) (by decide) (backOf (W := 0) (rmPx3_1 l Z a0 hw [] x q ar k z r0 r1 r2 v0 v1 v2 u h0 n0 O0 pr2 pr3 pr4 hz0 hz1 hz2 pr14 pr15 pr16 pr17 pr18 pr19 pr20 pr21 hn0 hy) hZ (w_ hw 45 rfl) (w_ hw 2 rfl) (by decide) (by decide)) (by rw [e1]; exact qq2) qq2' (g := (mkF mm_ 20 #[vr x, vr q, un] [(.ref q), (.ref x)])) rfl hml.symm (argsL := [(.ref q)]) (rest := []) (lenOf pd_7 rfl) rfl (Nat.le_of_eq rfl) (B_ dk194) rfl e1 (by decide) (by decide)
 obtain ⟨rfl, rfl, Eh2⟩ := hQ2
 have N2 := Fr.app N0 (Fr.nil n0)
 refine jp_ st2 ?_
 show Go_ T2 (mkF mm_ 23 #[vr x, vr q, un] [(.int 1)])
 refine sp_ (fun t_ k_ => XS.istoreN X2.here hx rfl (B_ dk195) rfl (l' := #[vr x, vr q, vi 1]) rfl (XS.iloadN X2.here hx rfl (B_ dk196) rfl  k_)) ?_
 show Go_ T2 (mkF mm_ 25 #[vr x, vr q, vi 1] [(.int 1)])
 refine sp_ (fun t_ k_ => XS.ifYes X2.here hx rfl (pc0 := 25) (pc' := 30) rfl (B_ dk197) rfl ((if0 _ _).trans (flt (by decide : ¬ ((1 : Int32) < (0 : Int32)))).2.1) (by decide) (by decide) k_) ?_
 show Go_ T2 (mkF mm_ 30 #[vr x, vr q, vi 1] [])
 refine sp_ (fun t_ k_ => XS.aloadN X2.here hx rfl (B_ dk198) rfl rfl k_) ?_
 obtain ⟨T3, X3, e3, st3⟩ := getF X2 hx hZ hown (host := "") (Or.inl (w_ hw 26 rfl)) Via.refl Eh2 pr2 (g := (mkF mm_ 31 #[vr x, vr q, vi 1] [(.ref x)])) rfl rfl (B_ dk199)
 refine sp_ st3 ?_
 show Go_ T3 (mkF mm_ 34 #[vr x, vr q, vi 1] [(.ref ar)])
 refine sp_ (fun t_ k_ => XS.aloadN X3.here hx rfl (B_ dk200) rfl rfl (XS.dup X3.here hx rfl (B_ dk201) rfl rfl k_)) ?_
 obtain ⟨T4, X4, e4, st4⟩ := getF X3 hx hZ hown (host := "") (Or.inl (w_ hw 46 rfl)) Via.refl e3 pr3 (g := (mkF mm_ 36 #[vr x, vr q, vi 1] [(.ref x), (.ref x), (.ref ar)])) rfl rfl (B_ dk202)
 refine sp_ st4 ?_
 show Go_ T4 (mkF mm_ 39 #[vr x, vr q, vi 1] [(.int 3), (.ref x), (.ref ar)])
 refine sp_ (fun t_ k_ => XS.dupX1 X4.here hx rfl (B_ dk203) rfl rfl rfl (XS.iconst X4.here hx rfl (B_ dk204) (XS.isub X4.here hx rfl (B_ dk205) rfl k_))) ?_
 obtain ⟨T5, h5, X5, e5, W5, st5⟩ := putF X4 hx hZ hown (host := "") (Or.inl (w_ hw 46 rfl)) Via.refl e4 pr3 pr0 (Or.inl (w_ hw 47 rfl)) (w_ hw 1 rfl) (ty := .int) (by decide) rfl rfl (g := (mkF mm_ 42 #[vr x, vr q, vi 1] [(.int 2), (.ref x), (.int 3), (.ref ar)])) rfl rfl (B_ dk206)
 have F5 := pr3.same W5
 have N5 := Fr.snoc X5 N2 g_x
 refine sp_ st5 ?_
 show Go_ T5 (mkF mm_ 45 #[vr x, vr q, vi 1] [(.int 3), (.ref ar)])
 refine sp_ (fun t_ k_ => XS.iloadN X5.here hx rfl (B_ dk207) rfl  k_) ?_
 have f7 : Arv Z h5 ar k (.object sc2) z [(.ref r0), (.ref r1), (.ref r2)] .null := (pr4.other W5 (Exa.ne pr5 pr0 (by decide)))
 have f8 : Exa Z h5 r0 sc0 := (pr14.wr W5)
 have f9 : Exa Z h5 r1 sc0 := (pr16.wr W5)
 have f10 : Exa Z h5 r2 sc0 := (pr18.wr W5)
 have O11 : Old Z n0 h5 := (O0.wr W5 g_x)
 obtain ⟨_, T6, Lc6, X6, hQ6, st6⟩ := own_cS X5 hx hZ hown (w_ hw 137 rfl) (w_ hw 138 rfl) (w_ hw 2 rfl) (w_ hw 139 rfl) (by decide) (backOf (W := 0) (rmRa3_1 l Z a0 hw [] ar k z r0 r1 r2 h5 n0 O11 f7 hov g_ar hz0 hz1 hz2 hf2 hf3 f8 f9 f10) hZ (w_ hw 139 rfl) (w_ hw 2 rfl) (by decide) (by decide)) (g := (mkF mm_ 46 #[vr x, vr q, vi 1] [(.int 1), (.int 3), (.ref ar)])) rfl hml.symm (argsL := [(.ref ar), (.int 3), (.int 1)]) (rest := []) (lenOf pd_9 rfl) rfl (Nat.le_of_eq rfl) (B_ dk208) rfl e5 (by decide) (by decide)
 obtain ⟨rfl, Nq6, Kc6, r6_0⟩ := hQ6
 have N6 := Fr.app N5 Nq6
 refine jp_ st6 ?_
 show Go_ T6 (mkF mm_ 49 #[vr x, vr q, vi 1] [])
 refine sp_ (fun t_ k_ => XS.iconst X6.here hx rfl (B_ dk209) k_) ?_
 show Go_ T6 (mkF mm_ 50 #[vr x, vr q, vi 1] [(.int 1)])
 have K12 : Keep h0 T6.heap [x, ar] := ((K0.wr W5 (Or.inl (List.mem_of_getElem? (i := 0) rfl))).trans Kc6 (allS (Or.inl (List.mem_of_getElem? (i := 1) rfl)) all0))
 have f13 : Fld Z T6.heap x sc1 "hashed" sc5 .null := ((pr1.other W5 (Or.inr (slot_ne (Or.inl (w_ hw 41 rfl)) (Or.inl (w_ hw 47 rfl)) (by decide) (t := (.object sc6)) (t' := .int) (by decide) (by decide)))).keep Kc6 (ninS (Exa.ne (pr0.wr W5) (pr5.wr W5) (by decide)) nin0))
 have f14 : Fld Z T6.heap x sc1 "members" sc3 (.ref ar) := ((pr2.other W5 (Or.inr (slot_ne (Or.inl (w_ hw 27 rfl)) (Or.inl (w_ hw 47 rfl)) (by decide) (t := (.array (.object sc2))) (t' := .int) (by decide) (by decide)))).keep Kc6 (ninS (Exa.ne (pr0.wr W5) (pr5.wr W5) (by decide)) nin0))
 have f15 : Fld Z T6.heap x sc1 "size" "I" (.int 2) := (F5.keep Kc6 (ninS (Exa.ne (pr0.wr W5) (pr5.wr W5) (by decide)) nin0))
 obtain ⟨fs, hr, hrun, hended, hW, hsame⟩ := X6.leave (v := some (.int 1)) (rN Bd.returns)
 refine ⟨_, _, ?_, hrun, hended, _, _, rfl, ?_, ⟨_, rfl⟩, hW, hsame.mono (by decide) (by decide)⟩
 · exact retN X6 hx (t := .boolean) Bd.returns (by simp) (B_ dk210) hr
 · show QrmRm3_1 Z x q ar k z r0 r1 r2 v0 v1 v2 u h0 n0 (some (.int 1)) T6.heap _
   exact ⟨rfl, N6, K12, f13, f14, f15, r6_0⟩
theorem ef_rmRa3_2 (mm_ : MethodId) (ar : Addr) : entryFrame mm_ #[(.ref ar), (.int 3), (.int 2)] 3 = (mkF mm_ 0 #[vr ar, vi 3, vi 2] []) := by first | (simp [entryFrame, mkF, argsToLocals, Value.category]; done) | rfl
def QrmRa3_2 (Z : State) (ar : Addr) (k : ClassId) (z : Int32) (r0 : Addr) (r1 : Addr) (r2 : Addr) (h0 : Heap) (n0 : Nat) (vv_ : Option Value) (hh_ : Heap) (LL_ : List Loc) : Prop := (vv_ = none) ∧ (Fr n0 LL_) ∧ (Keep h0 hh_ [ar]) ∧ (Arv Z hh_ ar k (.object sc2) z [(.ref r0), (.ref r1)] .null)
theorem rmRa3_2 (l : Launch) (Z : State) (a0 : Array Value) (hw : own_Hw a0 Z) (ws : List Jvm.Cond) (ar : Addr) (k : ClassId) (z : Int32) (r0 : Addr) (r1 : Addr) (r2 : Addr) (h0 : Heap) (n0 : Nat) (O0 : Old Z n0 h0) (pr0 : Arv Z h0 ar k (.object sc2) z [(.ref r0), (.ref r1), (.ref r2)] .null) (hov : Ovr Z k sc2) (g_ar : n0 ≤ ar) (hz0 : (0 : Int32) < z) (hz1 : (1 : Int32) < z) (hz2 : (2 : Int32) < z) (hf2 : 2 ≤ z.toNatClampNeg) (hf3 : 3 ≤ z.toNatClampNeg) (pr8 : Exa Z h0 r0 sc0) (pr9 : Exa Z h0 r1 sc0) (pr10 : Exa Z h0 r2 sc0) :
 own_MF l Z ym6 J15 3 none ws (rm_ 1 0 0 60) #[(.ref ar), (.int 3), (.int 2)] h0 (QrmRa3_2 Z ar k z r0 r1 r2 h0 n0) := by
 refine own_met (plainFor_of_name pn_com_example_compact_abox_compactabox_ArraySet) (fun m_ => ef_rmRa3_2 m_ ar) fun pp_ ee_ ss_ mm_ bb_ me_ cc_ s₁ Bd hx hby hml hown hZ hh X0 e0 => ?_
 have B_ {q_ : Nat} {r_ : _} (h_ : decode _ q_ = r_) := hb hby h_
 have hown : ss_.vm.findClass sc1 = some mm_.cls := hown
 have N0 := Fr.nil n0
 have Z0 : n0 ≤ h0.size := by have q := O0.2.1; rw [O0.1] at q; exact q
 have K0 : Keep h0 h0 [ar] := Keep.refl _ _
 show Go_ s₁ (mkF mm_ 0 #[vr ar, vi 3, vi 2] [])
 refine sp_ (fun t_ k_ => XS.aloadN X0.here hx rfl (B_ dk170) rfl rfl (XS.iloadN X0.here hx rfl (B_ dk171) rfl  (XS.iconst X0.here hx rfl (B_ dk172) (XS.iadd X0.here hx rfl (B_ dk173) rfl (XS.aloadN X0.here hx rfl (B_ dk174) rfl rfl (XS.iloadN X0.here hx rfl (B_ dk175) rfl  (XS.iloadN X0.here hx rfl (B_ dk176) rfl  (XS.iloadN X0.here hx rfl (B_ dk177) rfl  (XS.isub X0.here hx rfl (B_ dk178) rfl (XS.iconst X0.here hx rfl (B_ dk179) (XS.isub X0.here hx rfl (B_ dk180) rfl k_))))))))))) ?_
 have Cp1 := cpA (us := []) X0 hx hZ hown (w_ hw 140 rfl) (w_ hw 89 rfl) (w_ hw 87 rfl) (w_ hw 88 rfl) e0 pr0 (pr0 : Arv Z h0 ar k (.object sc2) z [(.ref r0), (.ref r1), (.ref r2)] .null) (Or.inr ⟨rfl, rfl, trivial⟩) (sp := (3 : Int32)) (dp := (2 : Int32)) (nn := (0 : Int32)) (by decide) (by decide) (by decide) (Nat.le_trans (by decide) hf3) (Nat.le_trans (by decide) hf2) rfl (Nat.le_of_ble_eq_true rfl) N0 g_ar (g := (mkF mm_ 11 #[vr ar, vi 3, vi 2] [(.int 0), (.int 2), (.ref ar), (.int 3), (.ref ar)])) rfl hml.symm rfl (B_ dk181) (by decide) (W := 0) (Nat.le_of_eq rfl) (by decide)
 obtain ⟨T1, h1, L1, X1, e1, N1, K1, V1, st1⟩ := Cp1
 refine sp_ st1 ?_
 have Vr1 : Arv Z h1 ar k (.object sc2) z [(.ref r0), (.ref r1), (.ref r2)] .null := V1
 show Go_ T1 (mkF mm_ 14 #[vr ar, vi 3, vi 2] [])
 refine sp_ (fun t_ k_ => XS.aloadN X1.here hx rfl (B_ dk182) rfl rfl (XS.iloadN X1.here hx rfl (B_ dk183) rfl  (XS.iconst X1.here hx rfl (B_ dk184) (XS.isub X1.here hx rfl (B_ dk185) rfl (XS.aconstNull X1.here hx rfl (B_ dk186) k_))))) ?_
 obtain ⟨cl2, Ar2, q2, S2, M2, H2, G2⟩ := id (Vr1 : Arv Z h1 ar k (.object sc2) z [(.ref r0), (.ref r1), (.ref r2)] .null)
 have hin2 : ¬ ((2 : Int32) < 0 ∨ cl2.slots.size ≤ ((2 : Int32)).toNatClampNeg) := inb_of S2 ⟨by decide, hz2⟩
 obtain ⟨T2, h2, X2, e2, W2, st2⟩ := stR X1 hx hZ e1 Ar2 (j := (2 : Int32)) hin2 rfl (Or.inl rfl) (g := (mkF mm_ 19 #[vr ar, vi 3, vi 2] [.null, (.int 2), (.ref ar)])) rfl rfl (B_ dk187)
 have V2 : Arv Z h2 ar k (.object sc2) z [(.ref r0), (.ref r1), .null] .null := Arv.set Ar2 q2 S2 M2 H2 G2 rfl W2 2 rfl (Nat.le_of_ble_eq_true rfl)
 have N2 := Fr.snoc X2 N1 g_ar
 refine sp_ st2 ?_
 show Go_ T2 (mkF mm_ 20 #[vr ar, vi 3, vi 2] [])
 have Vt3 : Arv Z h2 ar k (.object sc2) z [(.ref r0), (.ref r1)] .null := V2.pad (fun i_ => (pad_rep [(.ref r0), (.ref r1)] .null 1 i_).symm)
 have K4 : Keep h0 h2 [ar] := ((K0.trans K1 (allS (Or.inl (List.mem_of_getElem? (i := 0) rfl)) all0)).wr W2 (Or.inl (List.mem_of_getElem? (i := 0) rfl)))
 obtain ⟨fs, hr, hrun, hended, hW, hsame⟩ := X2.leave (v := none) (fun _ => rfl)
 refine ⟨_, _, ?_, hrun, hended, _, _, rfl, ?_, ⟨_, rfl⟩, hW, hsame.mono (by decide) (by decide)⟩
 · exact X2.returnOut hx Bd.returns (B_ dk188) hr
 · show QrmRa3_2 Z ar k z r0 r1 r2 h0 n0 none T2.heap _
   rw [e2]
   exact ⟨rfl, N2, K4, Vt3⟩
theorem ef_rmRm3_2 (mm_ : MethodId) (x : Addr) (q : Addr) : entryFrame mm_ #[(.ref x), (.ref q)] 3 = (mkF mm_ 0 #[vr x, vr q, un] []) := by first | (simp [entryFrame, mkF, argsToLocals, Value.category]; done) | rfl
def QrmRm3_2 (Z : State) (x : Addr) (q : Addr) (ar : Addr) (k : ClassId) (z : Int32) (r0 : Addr) (r1 : Addr) (r2 : Addr) (v0 : Int32) (v1 : Int32) (v2 : Int32) (u : Int32) (h0 : Heap) (n0 : Nat) (vv_ : Option Value) (hh_ : Heap) (LL_ : List Loc) : Prop := (vv_ = some (.int 1)) ∧ (Fr n0 LL_) ∧ (Keep h0 hh_ [x, ar]) ∧ (Fld Z hh_ x sc1 "hashed" sc5 .null) ∧ (Fld Z hh_ x sc1 "members" sc3 (.ref ar)) ∧ (Fld Z hh_ x sc1 "size" "I" (.int 2)) ∧ (Arv Z hh_ ar k (.object sc2) z [(.ref r0), (.ref r1)] .null)
theorem rmRm3_2 (l : Launch) (Z : State) (a0 : Array Value) (hw : own_Hw a0 Z) (ws : List Jvm.Cond) (x : Addr) (q : Addr) (ar : Addr) (k : ClassId) (z : Int32) (r0 : Addr) (r1 : Addr) (r2 : Addr) (v0 : Int32) (v1 : Int32) (v2 : Int32) (u : Int32) (h0 : Heap) (n0 : Nat) (O0 : Old Z n0 h0) (pr0 : Exa Z h0 x sc1) (pr1 : Fld Z h0 x sc1 "hashed" sc5 .null) (pr2 : Fld Z h0 x sc1 "members" sc3 (.ref ar)) (pr3 : Fld Z h0 x sc1 "size" "I" (.int 3)) (pr4 : Arv Z h0 ar k (.object sc2) z [(.ref r0), (.ref r1), (.ref r2)] .null) (pr5 : Exa Z h0 ar sc3) (hov : Ovr Z k sc2) (g_x : n0 ≤ x) (g_ar : n0 ≤ ar) (hz0 : (0 : Int32) < z) (hz1 : (1 : Int32) < z) (hz2 : (2 : Int32) < z) (hf2 : 2 ≤ z.toNatClampNeg) (hf3 : 3 ≤ z.toNatClampNeg) (pr14 : Exa Z h0 r0 sc0) (pr15 : Fld Z h0 r0 sc0 "value" "I" (.int v0)) (pr16 : Exa Z h0 r1 sc0) (pr17 : Fld Z h0 r1 sc0 "value" "I" (.int v1)) (pr18 : Exa Z h0 r2 sc0) (pr19 : Fld Z h0 r2 sc0 "value" "I" (.int v2)) (pr20 : Exa Z h0 q sc0) (pr21 : Fld Z h0 q sc0 "value" "I" (.int u)) (hn0 : ¬ (v0 = u)) (hn1 : ¬ (v1 = u)) (hy : v2 = u) :
 own_MF l Z ym7 J16 3 (some .boolean) ws (rm_ 4 0 0 74) #[(.ref x), (.ref q)] h0 (QrmRm3_2 Z x q ar k z r0 r1 r2 v0 v1 v2 u h0 n0) := by
 refine own_met (plainFor_of_name pn_com_example_compact_abox_compactabox_ArraySet) (fun m_ => ef_rmRm3_2 m_ x q) fun pp_ ee_ ss_ mm_ bb_ me_ cc_ s₁ Bd hx hby hml hown hZ hh X0 e0 => ?_
 have B_ {q_ : Nat} {r_ : _} (h_ : decode _ q_ = r_) := hb hby h_
 have hown : ss_.vm.findClass sc1 = some mm_.cls := hown
 have N0 := Fr.nil n0
 have Z0 : n0 ≤ h0.size := by have q := O0.2.1; rw [O0.1] at q; exact q
 have K0 : Keep h0 h0 [x, ar] := Keep.refl _ _
 show Go_ s₁ (mkF mm_ 0 #[vr x, vr q, un] [])
 refine sp_ (fun t_ k_ => XS.aloadN X0.here hx rfl (B_ dk189) rfl rfl k_) ?_
 obtain ⟨T1, X1, e1, st1⟩ := getF X0 hx hZ hown (host := "") (Or.inl (w_ hw 40 rfl)) Via.refl e0 pr1 (g := (mkF mm_ 1 #[vr x, vr q, un] [(.ref x)])) rfl rfl (B_ dk190)
 refine sp_ st1 ?_
 show Go_ T1 (mkF mm_ 4 #[vr x, vr q, un] [.null])
 refine sp_ (fun t_ k_ => XS.ifnullYes X1.here hx rfl (pc0 := 4) (pc' := 18) rfl (B_ dk191) rfl (by decide) (by decide) (XS.aloadN X1.here hx rfl (B_ dk192) rfl rfl (XS.aloadN X1.here hx rfl (B_ dk193) rfl rfl k_))) ?_
 obtain ⟨cq2, qq2, qq2'⟩ := pr0.cell
 obtain ⟨_, T2, Lc2, X2, hQ2, st2⟩ := own_cP X1 hx hZ hown (w_ hw 42 rfl) (w_ hw 43 rfl) (own_selP (w_ hw 38 rfl) rfl (w_ hw 43 rfl) (w_ hw 44 rfl) (by decide)) (w_ hw 44 rfl) (w_ hw 45 rfl) (by decide) (backOf (W := 0) (rmPx3_2 l Z a0 hw [] x q ar k z r0 r1 r2 v0 v1 v2 u h0 n0 O0 pr2 pr3 pr4 hz0 hz1 hz2 pr14 pr15 pr16 pr17 pr18 pr19 pr20 pr21 hn0 hn1 hy) hZ (w_ hw 45 rfl) (w_ hw 2 rfl) (by decide) (by decide)) (by rw [e1]; exact qq2) qq2' (g := (mkF mm_ 20 #[vr x, vr q, un] [(.ref q), (.ref x)])) rfl hml.symm (argsL := [(.ref q)]) (rest := []) (lenOf pd_7 rfl) rfl (Nat.le_of_eq rfl) (B_ dk194) rfl e1 (by decide) (by decide)
 obtain ⟨rfl, rfl, Eh2⟩ := hQ2
 have N2 := Fr.app N0 (Fr.nil n0)
 refine jp_ st2 ?_
 show Go_ T2 (mkF mm_ 23 #[vr x, vr q, un] [(.int 2)])
 refine sp_ (fun t_ k_ => XS.istoreN X2.here hx rfl (B_ dk195) rfl (l' := #[vr x, vr q, vi 2]) rfl (XS.iloadN X2.here hx rfl (B_ dk196) rfl  k_)) ?_
 show Go_ T2 (mkF mm_ 25 #[vr x, vr q, vi 2] [(.int 2)])
 refine sp_ (fun t_ k_ => XS.ifYes X2.here hx rfl (pc0 := 25) (pc' := 30) rfl (B_ dk197) rfl ((if0 _ _).trans (flt (by decide : ¬ ((2 : Int32) < (0 : Int32)))).2.1) (by decide) (by decide) k_) ?_
 show Go_ T2 (mkF mm_ 30 #[vr x, vr q, vi 2] [])
 refine sp_ (fun t_ k_ => XS.aloadN X2.here hx rfl (B_ dk198) rfl rfl k_) ?_
 obtain ⟨T3, X3, e3, st3⟩ := getF X2 hx hZ hown (host := "") (Or.inl (w_ hw 26 rfl)) Via.refl Eh2 pr2 (g := (mkF mm_ 31 #[vr x, vr q, vi 2] [(.ref x)])) rfl rfl (B_ dk199)
 refine sp_ st3 ?_
 show Go_ T3 (mkF mm_ 34 #[vr x, vr q, vi 2] [(.ref ar)])
 refine sp_ (fun t_ k_ => XS.aloadN X3.here hx rfl (B_ dk200) rfl rfl (XS.dup X3.here hx rfl (B_ dk201) rfl rfl k_)) ?_
 obtain ⟨T4, X4, e4, st4⟩ := getF X3 hx hZ hown (host := "") (Or.inl (w_ hw 46 rfl)) Via.refl e3 pr3 (g := (mkF mm_ 36 #[vr x, vr q, vi 2] [(.ref x), (.ref x), (.ref ar)])) rfl rfl (B_ dk202)
 refine sp_ st4 ?_
 show Go_ T4 (mkF mm_ 39 #[vr x, vr q, vi 2] [(.int 3), (.ref x), (.ref ar)])
 refine sp_ (fun t_ k_ => XS.dupX1 X4.here hx rfl (B_ dk203) rfl rfl rfl (XS.iconst X4.here hx rfl (B_ dk204) (XS.isub X4.here hx rfl (B_ dk205) rfl k_))) ?_
 obtain ⟨T5, h5, X5, e5, W5, st5⟩ := putF X4 hx hZ hown (host := "") (Or.inl (w_ hw 46 rfl)) Via.refl e4 pr3 pr0 (Or.inl (w_ hw 47 rfl)) (w_ hw 1 rfl) (ty := .int) (by decide) rfl rfl (g := (mkF mm_ 42 #[vr x, vr q, vi 2] [(.int 2), (.ref x), (.int 3), (.ref ar)])) rfl rfl (B_ dk206)
 have F5 := pr3.same W5
 have N5 := Fr.snoc X5 N2 g_x
 refine sp_ st5 ?_
 show Go_ T5 (mkF mm_ 45 #[vr x, vr q, vi 2] [(.int 3), (.ref ar)])
 refine sp_ (fun t_ k_ => XS.iloadN X5.here hx rfl (B_ dk207) rfl  k_) ?_
 have f7 : Arv Z h5 ar k (.object sc2) z [(.ref r0), (.ref r1), (.ref r2)] .null := (pr4.other W5 (Exa.ne pr5 pr0 (by decide)))
 have f8 : Exa Z h5 r0 sc0 := (pr14.wr W5)
 have f9 : Exa Z h5 r1 sc0 := (pr16.wr W5)
 have f10 : Exa Z h5 r2 sc0 := (pr18.wr W5)
 have O11 : Old Z n0 h5 := (O0.wr W5 g_x)
 obtain ⟨_, T6, Lc6, X6, hQ6, st6⟩ := own_cS X5 hx hZ hown (w_ hw 137 rfl) (w_ hw 138 rfl) (w_ hw 2 rfl) (w_ hw 139 rfl) (by decide) (backOf (W := 0) (rmRa3_2 l Z a0 hw [] ar k z r0 r1 r2 h5 n0 O11 f7 hov g_ar hz0 hz1 hz2 hf2 hf3 f8 f9 f10) hZ (w_ hw 139 rfl) (w_ hw 2 rfl) (by decide) (by decide)) (g := (mkF mm_ 46 #[vr x, vr q, vi 2] [(.int 2), (.int 3), (.ref ar)])) rfl hml.symm (argsL := [(.ref ar), (.int 3), (.int 2)]) (rest := []) (lenOf pd_9 rfl) rfl (Nat.le_of_eq rfl) (B_ dk208) rfl e5 (by decide) (by decide)
 obtain ⟨rfl, Nq6, Kc6, r6_0⟩ := hQ6
 have N6 := Fr.app N5 Nq6
 refine jp_ st6 ?_
 show Go_ T6 (mkF mm_ 49 #[vr x, vr q, vi 2] [])
 refine sp_ (fun t_ k_ => XS.iconst X6.here hx rfl (B_ dk209) k_) ?_
 show Go_ T6 (mkF mm_ 50 #[vr x, vr q, vi 2] [(.int 1)])
 have K12 : Keep h0 T6.heap [x, ar] := ((K0.wr W5 (Or.inl (List.mem_of_getElem? (i := 0) rfl))).trans Kc6 (allS (Or.inl (List.mem_of_getElem? (i := 1) rfl)) all0))
 have f13 : Fld Z T6.heap x sc1 "hashed" sc5 .null := ((pr1.other W5 (Or.inr (slot_ne (Or.inl (w_ hw 41 rfl)) (Or.inl (w_ hw 47 rfl)) (by decide) (t := (.object sc6)) (t' := .int) (by decide) (by decide)))).keep Kc6 (ninS (Exa.ne (pr0.wr W5) (pr5.wr W5) (by decide)) nin0))
 have f14 : Fld Z T6.heap x sc1 "members" sc3 (.ref ar) := ((pr2.other W5 (Or.inr (slot_ne (Or.inl (w_ hw 27 rfl)) (Or.inl (w_ hw 47 rfl)) (by decide) (t := (.array (.object sc2))) (t' := .int) (by decide) (by decide)))).keep Kc6 (ninS (Exa.ne (pr0.wr W5) (pr5.wr W5) (by decide)) nin0))
 have f15 : Fld Z T6.heap x sc1 "size" "I" (.int 2) := (F5.keep Kc6 (ninS (Exa.ne (pr0.wr W5) (pr5.wr W5) (by decide)) nin0))
 obtain ⟨fs, hr, hrun, hended, hW, hsame⟩ := X6.leave (v := some (.int 1)) (rN Bd.returns)
 refine ⟨_, _, ?_, hrun, hended, _, _, rfl, ?_, ⟨_, rfl⟩, hW, hsame.mono (by decide) (by decide)⟩
 · exact retN X6 hx (t := .boolean) Bd.returns (by simp) (B_ dk210) hr
 · show QrmRm3_2 Z x q ar k z r0 r1 r2 v0 v1 v2 u h0 n0 (some (.int 1)) T6.heap _
   exact ⟨rfl, N6, K12, f13, f14, f15, r6_0⟩
theorem dk211 : decode J17 0 = .ok (.aload_n 0, 1) := by decide +kernel
theorem dk212 : decode J17 1 = .ok (.invokespecial 1, 3) := by decide +kernel
theorem dk213 : decode J17 4 = .ok (.aload_n 0, 1) := by decide +kernel
theorem dk214 : decode J17 5 = .ok (.aload_n 1, 1) := by decide +kernel
theorem dk215 : decode J17 6 = .ok (.putfield 7, 3) := by decide +kernel
theorem dk216 : decode J17 9 = .ok (.aload_n 0, 1) := by decide +kernel
theorem dk217 : decode J17 10 = .ok (.iload_n 2, 1) := by decide +kernel
theorem dk218 : decode J17 11 = .ok (.putfield 13, 3) := by decide +kernel
theorem dk219 : decode J17 14 = .ok (.return_, 1) := by decide +kernel
theorem pn_com_example_compact_abox_compactabox_ArraySet_ArrayIterator : plainName "com/example/compact_abox/compactabox/ArraySet$ArrayIterator" = true := by first | (simp [plainName, overriddenIn]; done) | decide +kernel
theorem ef_rmII (mm_ : MethodId) (x : Addr) (ar : Addr) (nn : Int32) : entryFrame mm_ #[(.ref x), (.ref ar), (.int nn)] 3 = (mkF mm_ 0 #[vr x, vr ar, vi nn] []) := by first | (simp [entryFrame, mkF, argsToLocals, Value.category]; done) | rfl
def QrmII (Z : State) (x : Addr) (ar : Addr) (nn : Int32) (h0 : Heap) (n0 : Nat) (vv_ : Option Value) (hh_ : Heap) (LL_ : List Loc) : Prop := (vv_ = none) ∧ (Fr n0 LL_) ∧ (Keep h0 hh_ [x]) ∧ (Fld Z hh_ x sc4 "members" sc3 (.ref ar)) ∧ (Fld Z hh_ x sc4 "size" "I" (.int nn)) ∧ (Fld Z hh_ x sc4 "next" "I" (.int 0))
theorem rmII (l : Launch) (Z : State) (a0 : Array Value) (hw : own_Hw a0 Z) (ws : List Jvm.Cond) (x : Addr) (ar : Addr) (nn : Int32) (h0 : Heap) (n0 : Nat) (O0 : Old Z n0 h0) (pr0 : Exa Z h0 x sc4) (g_x : n0 ≤ x) (pr2 : Fld Z h0 x sc4 "members" sc3 .null) (pr3 : Fld Z h0 x sc4 "size" "I" (.int 0)) (pr4 : Fld Z h0 x sc4 "next" "I" (.int 0)) :
 own_MF l Z (⟨sc4, "<init>", "([Ljava/lang/Object;I)V"⟩ : MethodName) J17 3 none ws (rm_ 1 0 0 12) #[(.ref x), (.ref ar), (.int nn)] h0 (QrmII Z x ar nn h0 n0) := by
 refine own_met (plainFor_of_name pn_com_example_compact_abox_compactabox_ArraySet_ArrayIterator) (fun m_ => ef_rmII m_ x ar nn) fun pp_ ee_ ss_ mm_ bb_ me_ cc_ s₁ Bd hx hby hml hown hZ hh X0 e0 => ?_
 have B_ {q_ : Nat} {r_ : _} (h_ : decode _ q_ = r_) := hb hby h_
 have hown : ss_.vm.findClass sc4 = some mm_.cls := hown
 have hnm := (name_of_methodNamed Bd.named Bd.method).1
 have N0 := Fr.nil n0
 have Z0 : n0 ≤ h0.size := by have q := O0.2.1; rw [O0.1] at q; exact q
 have K0 : Keep h0 h0 [x] := Keep.refl _ _
 show Go_ s₁ (mkF mm_ 0 #[vr x, vr ar, vi nn] [])
 refine sp_ (fun t_ k_ => XS.aloadN X0.here hx rfl (B_ dk211) rfl rfl k_) ?_
 obtain ⟨T1, X1, e1, st1⟩ := initO X0 hx hZ hown (w_ hw 102 rfl) (w_ hw 18 rfl) (w_ hw 19 rfl) e0 (g := (mkF mm_ 1 #[vr x, vr ar, vi nn] [(.ref x)])) rfl hml.symm rfl (B_ dk212) (by decide) (W := 0) (Nat.le_of_eq rfl) (by decide)
 refine sp_ st1 ?_
 show Go_ T1 (mkF mm_ 4 #[vr x, vr ar, vi nn] [])
 refine sp_ (fun t_ k_ => XS.aloadN X1.here hx rfl (B_ dk213) rfl rfl (XS.aloadN X1.here hx rfl (B_ dk214) rfl rfl k_)) ?_
 obtain ⟨T2, h2, X2, e2, W2, st2⟩ := putF X1 hx hZ hown (host := "") (Or.inl (w_ hw 103 rfl)) Via.refl e1 pr2 pr0 (Or.inr ⟨(w_ hw 104 rfl), rfl, hnm⟩) (w_ hw 97 rfl) (ty := (.array (.object sc2))) (by decide) rfl rfl (g := (mkF mm_ 6 #[vr x, vr ar, vi nn] [(.ref ar), (.ref x)])) rfl rfl (B_ dk215)
 have F2 := pr2.same W2
 have N2 := Fr.snoc X2 N0 g_x
 refine sp_ st2 ?_
 show Go_ T2 (mkF mm_ 9 #[vr x, vr ar, vi nn] [])
 refine sp_ (fun t_ k_ => XS.aloadN X2.here hx rfl (B_ dk216) rfl rfl (XS.iloadN X2.here hx rfl (B_ dk217) rfl  k_)) ?_
 have f3 : Fld Z h2 x sc4 "size" "I" (.int 0) := (pr3.other W2 (Or.inr (slot_ne (Or.inr (w_ hw 106 rfl)) (Or.inr (w_ hw 104 rfl)) (by decide) (t := .int) (t' := (.array (.object sc2))) (by decide) (by decide))))
 have f4 : Exa Z h2 x sc4 := (pr0.wr W2)
 obtain ⟨T5, h5, X5, e5, W5, st5⟩ := putF X2 hx hZ hown (host := "") (Or.inl (w_ hw 105 rfl)) Via.refl e2 f3 f4 (Or.inr ⟨(w_ hw 106 rfl), rfl, hnm⟩) (w_ hw 97 rfl) (ty := .int) (by decide) rfl rfl (g := (mkF mm_ 11 #[vr x, vr ar, vi nn] [(.int nn), (.ref x)])) rfl rfl (B_ dk218)
 have F5 := f3.same W5
 have N5 := Fr.snoc X5 N2 g_x
 refine sp_ st5 ?_
 show Go_ T5 (mkF mm_ 14 #[vr x, vr ar, vi nn] [])
 have K6 : Keep h0 h5 [x] := ((K0.wr W2 (Or.inl (List.mem_of_getElem? (i := 0) rfl))).wr W5 (Or.inl (List.mem_of_getElem? (i := 0) rfl)))
 have f7 : Fld Z h5 x sc4 "members" sc3 (.ref ar) := (F2.other W5 (Or.inr (slot_ne (Or.inr (w_ hw 104 rfl)) (Or.inr (w_ hw 106 rfl)) (by decide) (t := (.array (.object sc2))) (t' := .int) (by decide) (by decide))))
 have f8 : Fld Z h5 x sc4 "next" "I" (.int 0) := ((pr4.other W2 (Or.inr (slot_ne (Or.inl (w_ hw 121 rfl)) (Or.inr (w_ hw 104 rfl)) (by decide) (t := .int) (t' := (.array (.object sc2))) (by decide) (by decide)))).other W5 (Or.inr (slot_ne (Or.inl (w_ hw 121 rfl)) (Or.inr (w_ hw 106 rfl)) (by decide) (t := .int) (t' := .int) (by decide) (by decide))))
 obtain ⟨fs, hr, hrun, hended, hW, hsame⟩ := X5.leave (v := none) (fun _ => rfl)
 refine ⟨_, _, ?_, hrun, hended, _, _, rfl, ?_, ⟨_, rfl⟩, hW, hsame.mono (by decide) (by decide)⟩
 · exact X5.returnOut hx Bd.returns (B_ dk219) hr
 · show QrmII Z x ar nn h0 n0 none T5.heap _
   rw [e5]
   exact ⟨rfl, N5, K6, f7, F5, f8⟩
theorem dk220 : decode J18 0 = .ok (.aload_n 0, 1) := by decide +kernel
theorem dk221 : decode J18 1 = .ok (.getfield 21, 3) := by decide +kernel
theorem dk222 : decode J18 4 = .ok (.ifnull 15, 3) := by decide +kernel
theorem dk223 : decode J18 19 = .ok (.new 70, 3) := by decide +kernel
theorem dk224 : decode J18 22 = .ok (.dup, 1) := by decide +kernel
theorem dk225 : decode J18 23 = .ok (.aload_n 0, 1) := by decide +kernel
theorem dk226 : decode J18 24 = .ok (.getfield 17, 3) := by decide +kernel
theorem dk227 : decode J18 27 = .ok (.aload_n 0, 1) := by decide +kernel
theorem dk228 : decode J18 28 = .ok (.getfield 35, 3) := by decide +kernel
theorem dk229 : decode J18 31 = .ok (.invokespecial 72, 3) := by decide +kernel
theorem pd_10 : parseMethodDescriptor "([Ljava/lang/Object;I)V" = some ⟨[(.array (.object "java/lang/Object")), .int], none⟩ := by decide +kernel
theorem dk230 : decode J18 34 = .ok (.areturn, 1) := by decide +kernel
theorem ef_rmIt (mm_ : MethodId) (x : Addr) : entryFrame mm_ #[(.ref x)] 1 = (mkF mm_ 0 #[vr x] []) := by first | (simp [entryFrame, mkF, argsToLocals, Value.category]; done) | rfl
def QrmIt (Z : State) (x : Addr) (ar : Addr) (nn : Int32) (h0 : Heap) (n0 : Nat) (vv_ : Option Value) (hh_ : Heap) (LL_ : List Loc) : Prop := ∃ (r : Addr), (vv_ = some (.ref r)) ∧ (Fr n0 LL_) ∧ (Keep h0 hh_ []) ∧ (h0.size ≤ r) ∧ (Exa Z hh_ r sc4) ∧ (Fld Z hh_ r sc4 "members" sc3 (.ref ar)) ∧ (Fld Z hh_ r sc4 "size" "I" (.int nn)) ∧ (Fld Z hh_ r sc4 "next" "I" (.int 0))
theorem rmIt (l : Launch) (Z : State) (a0 : Array Value) (hw : own_Hw a0 Z) (ws : List Jvm.Cond) (x : Addr) (ar : Addr) (nn : Int32) (h0 : Heap) (n0 : Nat) (O0 : Old Z n0 h0) (pr0 : Fld Z h0 x sc1 "hashed" sc5 .null) (pr1 : Fld Z h0 x sc1 "members" sc3 (.ref ar)) (pr2 : Fld Z h0 x sc1 "size" "I" (.int nn)) :
 own_MF l Z (⟨sc1, "iterator", "()Ljava/util/Iterator;"⟩ : MethodName) J18 1 (some (.object "java/util/Iterator")) ws (rm_ 2 1 3 27) #[(.ref x)] h0 (QrmIt Z x ar nn h0 n0) := by
 refine own_met (plainFor_of_name pn_com_example_compact_abox_compactabox_ArraySet) (fun m_ => ef_rmIt m_ x) fun pp_ ee_ ss_ mm_ bb_ me_ cc_ s₁ Bd hx hby hml hown hZ hh X0 e0 => ?_
 have B_ {q_ : Nat} {r_ : _} (h_ : decode _ q_ = r_) := hb hby h_
 have hown : ss_.vm.findClass sc1 = some mm_.cls := hown
 have N0 := Fr.nil n0
 have Z0 : n0 ≤ h0.size := by have q := O0.2.1; rw [O0.1] at q; exact q
 have K0 : Keep h0 h0 [] := Keep.refl _ _
 show Go_ s₁ (mkF mm_ 0 #[vr x] [])
 refine sp_ (fun t_ k_ => XS.aloadN X0.here hx rfl (B_ dk220) rfl rfl k_) ?_
 obtain ⟨T1, X1, e1, st1⟩ := getF X0 hx hZ hown (host := "") (Or.inl (w_ hw 40 rfl)) Via.refl e0 pr0 (g := (mkF mm_ 1 #[vr x] [(.ref x)])) rfl rfl (B_ dk221)
 refine sp_ st1 ?_
 show Go_ T1 (mkF mm_ 4 #[vr x] [.null])
 refine sp_ (fun t_ k_ => XS.ifnullYes X1.here hx rfl (pc0 := 4) (pc' := 19) rfl (B_ dk222) rfl (by decide) (by decide) k_) ?_
 obtain ⟨T2, h2, X2, e2, E2, A2, D2, -, st2⟩ := newO X1 hx hZ hown (w_ hw 96 rfl) (w_ hw 97 rfl) (w_ hw 98 rfl) e1 (g := (mkF mm_ 19 #[vr x] [])) rfl (B_ dk223) (by decide) (by decide)
 obtain ⟨b2, q2⟩ : ∃ z, z = h0.size := ⟨_, rfl⟩
 rw [← q2] at A2 D2 st2
 have lo_b2 : h0.size ≤ b2 := Nat.le_trans K0.1 (Nat.le_of_eq q2.symm)
 have g_b2 : n0 ≤ b2 := Nat.le_trans Z0 lo_b2
 refine sp_ st2 ?_
 have F2_members : Fld Z h2 b2 sc4 "members" sc3 .null := D2 (Or.inr (w_ hw 104 rfl)) (ty := (.array (.object sc2))) (by decide)
 have F2_size : Fld Z h2 b2 sc4 "size" "I" (.int 0) := D2 (Or.inr (w_ hw 106 rfl)) (ty := .int) (by decide)
 have F2_next : Fld Z h2 b2 sc4 "next" "I" (.int 0) := D2 (Or.inl (w_ hw 121 rfl)) (ty := .int) (by decide)
 show Go_ T2 (mkF mm_ 22 #[vr x] [(.ref b2)])
 refine sp_ (fun t_ k_ => XS.dup X2.here hx rfl (B_ dk224) rfl rfl (XS.aloadN X2.here hx rfl (B_ dk225) rfl rfl k_)) ?_
 have f3 : Fld Z h2 x sc1 "members" sc3 (.ref ar) := (pr1.ext E2)
 obtain ⟨T4, X4, e4, st4⟩ := getF X2 hx hZ hown (host := "") (Or.inl (w_ hw 26 rfl)) Via.refl e2 f3 (g := (mkF mm_ 24 #[vr x] [(.ref x), (.ref b2), (.ref b2)])) rfl rfl (B_ dk226)
 refine sp_ st4 ?_
 show Go_ T4 (mkF mm_ 27 #[vr x] [(.ref ar), (.ref b2), (.ref b2)])
 refine sp_ (fun t_ k_ => XS.aloadN X4.here hx rfl (B_ dk227) rfl rfl k_) ?_
 have f5 : Fld Z h2 x sc1 "size" "I" (.int nn) := (pr2.ext E2)
 obtain ⟨T6, X6, e6, st6⟩ := getF X4 hx hZ hown (host := "") (Or.inl (w_ hw 46 rfl)) Via.refl e4 f5 (g := (mkF mm_ 28 #[vr x] [(.ref x), (.ref ar), (.ref b2), (.ref b2)])) rfl rfl (B_ dk228)
 refine sp_ st6 ?_
 have O8 : Old Z n0 h2 := (O0.ext E2)
 obtain ⟨_, T7, Lc7, X7, hQ7, st7⟩ := own_cI X6 hx hZ rfl hown (w_ hw 99 rfl) (w_ hw 100 rfl) (w_ hw 101 rfl) (by decide) (backOf (W := 1) (rmII l Z a0 hw [] b2 ar nn h2 n0 O8 A2 g_b2 F2_members F2_size F2_next) hZ (w_ hw 101 rfl) (w_ hw 98 rfl) (by decide) (by decide)) (g := (mkF mm_ 31 #[vr x] [(.int nn), (.ref ar), (.ref b2), (.ref b2)])) rfl hml.symm (a := b2) (argsL := [(.ref ar), (.int nn)]) (rest := [(.ref b2)]) (lenOf pd_10 rfl) rfl (Nat.le_of_eq rfl) (B_ dk229) rfl e6 (by decide) (by decide)
 obtain ⟨rfl, Nq7, Kc7, r7_0, r7_1, r7_2⟩ := hQ7
 have N7 := Fr.app N0 Nq7
 refine jp_ st7 ?_
 show Go_ T7 (mkF mm_ 34 #[vr x] [(.ref b2)])
 have K9 : Keep h0 T7.heap [] := ((K0.ext E2).trans Kc7 (allS (Or.inr lo_b2) all0))
 have f10 : Exa Z T7.heap b2 sc4 := (A2.keep Kc7)
 obtain ⟨fs, hr, hrun, hended, hW, hsame⟩ := X7.leave (v := some (.ref b2)) (rN Bd.returns)
 refine ⟨_, _, ?_, hrun, hended, _, _, rfl, ?_, ⟨_, rfl⟩, hW, hsame.mono (by decide) (by decide)⟩
 · jvm_step X7.here [X7.here.top, hx, (B_ dk230), X7.method', Bd.returns, Value.isRef, FieldType.isReference]
   first | (intro acts; rw [hr _ acts rfl rfl rfl]) | rw [hr _ _ rfl rfl rfl]
   exact Steps.refl _
 · show QrmIt Z x ar nn h0 n0 (some (.ref b2)) T7.heap _
   exact ⟨b2, rfl, N7, K9, lo_b2, f10, r7_0, r7_1, r7_2⟩
theorem dk231 : decode J19 0 = .ok (.aload_n 0, 1) := by decide +kernel
theorem dk232 : decode J19 1 = .ok (.getfield 17, 3) := by decide +kernel
theorem dk233 : decode J19 4 = .ok (.aload_n 0, 1) := by decide +kernel
theorem dk234 : decode J19 5 = .ok (.getfield 13, 3) := by decide +kernel
theorem dk235 : decode J19 8 = .ok (.if_icmp .ge 7, 3) := by decide +kernel
theorem dk236 : decode J19 11 = .ok (.iconst 1, 1) := by decide +kernel
theorem dk237 : decode J19 12 = .ok (.goto 4, 3) := by decide +kernel
theorem dk238 : decode J19 16 = .ok (.ireturn, 1) := by decide +kernel
theorem ef_rmHy (mm_ : MethodId) (a : Addr) : entryFrame mm_ #[(.ref a)] 1 = (mkF mm_ 0 #[vr a] []) := by first | (simp [entryFrame, mkF, argsToLocals, Value.category]; done) | rfl
def QrmHy (Z : State) (a : Addr) (jn : Int32) (nn : Int32) (h0 : Heap) (n0 : Nat) (vv_ : Option Value) (hh_ : Heap) (LL_ : List Loc) : Prop := (vv_ = some (.int 1)) ∧ (LL_ = []) ∧ (hh_ = h0)
theorem rmHy (l : Launch) (Z : State) (a0 : Array Value) (hw : own_Hw a0 Z) (ws : List Jvm.Cond) (a : Addr) (jn : Int32) (nn : Int32) (h0 : Heap) (n0 : Nat) (O0 : Old Z n0 h0) (pr0 : Fld Z h0 a sc4 "next" "I" (.int jn)) (pr1 : Fld Z h0 a sc4 "size" "I" (.int nn)) (hl : jn < nn) :
 own_MF l Z (⟨sc4, "hasNext", "()Z"⟩ : MethodName) J19 1 (some .boolean) ws (rm_ 0 0 0 0) #[(.ref a)] h0 (QrmHy Z a jn nn h0 n0) := by
 refine own_met (plainFor_of_name pn_com_example_compact_abox_compactabox_ArraySet_ArrayIterator) (fun m_ => ef_rmHy m_ a) fun pp_ ee_ ss_ mm_ bb_ me_ cc_ s₁ Bd hx hby hml hown hZ hh X0 e0 => ?_
 have B_ {q_ : Nat} {r_ : _} (h_ : decode _ q_ = r_) := hb hby h_
 have hown : ss_.vm.findClass sc4 = some mm_.cls := hown
 have N0 := Fr.nil n0
 have Z0 : n0 ≤ h0.size := by have q := O0.2.1; rw [O0.1] at q; exact q
 have K0 : Keep h0 h0 [] := Keep.refl _ _
 show Go_ s₁ (mkF mm_ 0 #[vr a] [])
 refine sp_ (fun t_ k_ => XS.aloadN X0.here hx rfl (B_ dk231) rfl rfl k_) ?_
 obtain ⟨T1, X1, e1, st1⟩ := getF X0 hx hZ hown (host := "") (Or.inl (w_ hw 120 rfl)) Via.refl e0 pr0 (g := (mkF mm_ 1 #[vr a] [(.ref a)])) rfl rfl (B_ dk232)
 refine sp_ st1 ?_
 show Go_ T1 (mkF mm_ 4 #[vr a] [(.int jn)])
 refine sp_ (fun t_ k_ => XS.aloadN X1.here hx rfl (B_ dk233) rfl rfl k_) ?_
 obtain ⟨T2, X2, e2, st2⟩ := getF X1 hx hZ hown (host := "") (Or.inl (w_ hw 105 rfl)) Via.refl e1 pr1 (g := (mkF mm_ 5 #[vr a] [(.ref a), (.int jn)])) rfl rfl (B_ dk234)
 refine sp_ st2 ?_
 show Go_ T2 (mkF mm_ 8 #[vr a] [(.int nn), (.int jn)])
 refine sp_ (fun t_ k_ => XS.icmpNo X2.here hx rfl (B_ dk235) rfl (tlt hl).2.1 k_) ?_
 show Go_ T2 (mkF mm_ 11 #[vr a] [])
 refine sp_ (fun t_ k_ => XS.iconst X2.here hx rfl (B_ dk236) (XS.goto X2.here hx rfl (pc0 := 12) (pc' := 16) rfl (B_ dk237) (by decide) (by decide) k_)) ?_
 show Go_ T2 (mkF mm_ 16 #[vr a] [(.int 1)])
 obtain ⟨fs, hr, hrun, hended, hW, hsame⟩ := X2.leave (v := some (.int 1)) (rN Bd.returns)
 refine ⟨_, _, ?_, hrun, hended, _, _, rfl, ?_, ⟨_, rfl⟩, hW, hsame.mono (by decide) (by decide)⟩
 · exact retN X2 hx (t := .boolean) Bd.returns (by simp) (B_ dk238) hr
 · show QrmHy Z a jn nn h0 n0 (some (.int 1)) T2.heap _
   rw [e2]
   exact ⟨rfl, rfl, rfl⟩
theorem dk239 : decode J19 15 = .ok (.iconst 0, 1) := by decide +kernel
theorem ef_rmHn (mm_ : MethodId) (a : Addr) : entryFrame mm_ #[(.ref a)] 1 = (mkF mm_ 0 #[vr a] []) := by first | (simp [entryFrame, mkF, argsToLocals, Value.category]; done) | rfl
def QrmHn (Z : State) (a : Addr) (jn : Int32) (nn : Int32) (h0 : Heap) (n0 : Nat) (vv_ : Option Value) (hh_ : Heap) (LL_ : List Loc) : Prop := (vv_ = some (.int 0)) ∧ (LL_ = []) ∧ (hh_ = h0)
theorem rmHn (l : Launch) (Z : State) (a0 : Array Value) (hw : own_Hw a0 Z) (ws : List Jvm.Cond) (a : Addr) (jn : Int32) (nn : Int32) (h0 : Heap) (n0 : Nat) (O0 : Old Z n0 h0) (pr0 : Fld Z h0 a sc4 "next" "I" (.int jn)) (pr1 : Fld Z h0 a sc4 "size" "I" (.int nn)) (hl : ¬ (jn < nn)) :
 own_MF l Z (⟨sc4, "hasNext", "()Z"⟩ : MethodName) J19 1 (some .boolean) ws (rm_ 0 0 0 0) #[(.ref a)] h0 (QrmHn Z a jn nn h0 n0) := by
 refine own_met (plainFor_of_name pn_com_example_compact_abox_compactabox_ArraySet_ArrayIterator) (fun m_ => ef_rmHn m_ a) fun pp_ ee_ ss_ mm_ bb_ me_ cc_ s₁ Bd hx hby hml hown hZ hh X0 e0 => ?_
 have B_ {q_ : Nat} {r_ : _} (h_ : decode _ q_ = r_) := hb hby h_
 have hown : ss_.vm.findClass sc4 = some mm_.cls := hown
 have N0 := Fr.nil n0
 have Z0 : n0 ≤ h0.size := by have q := O0.2.1; rw [O0.1] at q; exact q
 have K0 : Keep h0 h0 [] := Keep.refl _ _
 show Go_ s₁ (mkF mm_ 0 #[vr a] [])
 refine sp_ (fun t_ k_ => XS.aloadN X0.here hx rfl (B_ dk231) rfl rfl k_) ?_
 obtain ⟨T1, X1, e1, st1⟩ := getF X0 hx hZ hown (host := "") (Or.inl (w_ hw 120 rfl)) Via.refl e0 pr0 (g := (mkF mm_ 1 #[vr a] [(.ref a)])) rfl rfl (B_ dk232)
 refine sp_ st1 ?_
 show Go_ T1 (mkF mm_ 4 #[vr a] [(.int jn)])
 refine sp_ (fun t_ k_ => XS.aloadN X1.here hx rfl (B_ dk233) rfl rfl k_) ?_
 obtain ⟨T2, X2, e2, st2⟩ := getF X1 hx hZ hown (host := "") (Or.inl (w_ hw 105 rfl)) Via.refl e1 pr1 (g := (mkF mm_ 5 #[vr a] [(.ref a), (.int jn)])) rfl rfl (B_ dk234)
 refine sp_ st2 ?_
 show Go_ T2 (mkF mm_ 8 #[vr a] [(.int nn), (.int jn)])
 refine sp_ (fun t_ k_ => XS.icmpYes X2.here hx rfl (pc0 := 8) (pc' := 15) rfl (B_ dk235) rfl (flt hl).2.1 (by decide) (by decide) k_) ?_
 show Go_ T2 (mkF mm_ 15 #[vr a] [])
 refine sp_ (fun t_ k_ => XS.iconst X2.here hx rfl (B_ dk239) k_) ?_
 show Go_ T2 (mkF mm_ 16 #[vr a] [(.int 0)])
 obtain ⟨fs, hr, hrun, hended, hW, hsame⟩ := X2.leave (v := some (.int 0)) (rN Bd.returns)
 refine ⟨_, _, ?_, hrun, hended, _, _, rfl, ?_, ⟨_, rfl⟩, hW, hsame.mono (by decide) (by decide)⟩
 · exact retN X2 hx (t := .boolean) Bd.returns (by simp) (B_ dk238) hr
 · show QrmHn Z a jn nn h0 n0 (some (.int 0)) T2.heap _
   rw [e2]
   exact ⟨rfl, rfl, rfl⟩
theorem dk240 : decode J20 0 = .ok (.aload_n 0, 1) := by decide +kernel
theorem dk241 : decode J20 1 = .ok (.getfield 17, 3) := by decide +kernel
theorem dk242 : decode J20 4 = .ok (.aload_n 0, 1) := by decide +kernel
theorem dk243 : decode J20 5 = .ok (.getfield 13, 3) := by decide +kernel
theorem dk244 : decode J20 8 = .ok (.if_icmp .lt 11, 3) := by decide +kernel
theorem dk245 : decode J20 19 = .ok (.aload_n 0, 1) := by decide +kernel
theorem dk246 : decode J20 20 = .ok (.getfield 7, 3) := by decide +kernel
theorem dk247 : decode J20 23 = .ok (.aload_n 0, 1) := by decide +kernel
theorem dk248 : decode J20 24 = .ok (.dup, 1) := by decide +kernel
theorem dk249 : decode J20 25 = .ok (.getfield 17, 3) := by decide +kernel
theorem dk250 : decode J20 28 = .ok (.dup_x1, 1) := by decide +kernel
theorem dk251 : decode J20 29 = .ok (.iconst 1, 1) := by decide +kernel
theorem dk252 : decode J20 30 = .ok (.iadd, 1) := by decide +kernel
theorem dk253 : decode J20 31 = .ok (.putfield 17, 3) := by decide +kernel
theorem dk254 : decode J20 34 = .ok (.aaload, 1) := by decide +kernel
theorem dk255 : decode J20 35 = .ok (.areturn, 1) := by decide +kernel
theorem ef_rmNx1_0 (mm_ : MethodId) (a : Addr) : entryFrame mm_ #[(.ref a)] 1 = (mkF mm_ 0 #[vr a] []) := by first | (simp [entryFrame, mkF, argsToLocals, Value.category]; done) | rfl
def QrmNx1_0 (Z : State) (a : Addr) (ar : Addr) (k : ClassId) (z : Int32) (r0 : Addr) (h0 : Heap) (n0 : Nat) (vv_ : Option Value) (hh_ : Heap) (LL_ : List Loc) : Prop := (vv_ = some (.ref r0)) ∧ (Fr n0 LL_) ∧ (Keep h0 hh_ [a]) ∧ (Fld Z hh_ a sc4 "members" sc3 (.ref ar)) ∧ (Fld Z hh_ a sc4 "size" "I" (.int 1)) ∧ (Fld Z hh_ a sc4 "next" "I" (.int 1))
theorem rmNx1_0 (l : Launch) (Z : State) (a0 : Array Value) (hw : own_Hw a0 Z) (ws : List Jvm.Cond) (a : Addr) (ar : Addr) (k : ClassId) (z : Int32) (r0 : Addr) (h0 : Heap) (n0 : Nat) (O0 : Old Z n0 h0) (pr0 : Exa Z h0 a sc4) (g_a : n0 ≤ a) (pr2 : Fld Z h0 a sc4 "members" sc3 (.ref ar)) (pr3 : Fld Z h0 a sc4 "size" "I" (.int 1)) (pr4 : Fld Z h0 a sc4 "next" "I" (.int 0)) (pr5 : Arv Z h0 ar k (.object sc2) z [(.ref r0)] .null) (hzj : (0 : Int32) < z) :
 own_MF l Z ym8 J20 1 (some (.object sc2)) ws (rm_ 0 0 0 0) #[(.ref a)] h0 (QrmNx1_0 Z a ar k z r0 h0 n0) := by
 refine own_met (plainFor_of_name pn_com_example_compact_abox_compactabox_ArraySet_ArrayIterator) (fun m_ => ef_rmNx1_0 m_ a) fun pp_ ee_ ss_ mm_ bb_ me_ cc_ s₁ Bd hx hby hml hown hZ hh X0 e0 => ?_
 have B_ {q_ : Nat} {r_ : _} (h_ : decode _ q_ = r_) := hb hby h_
 have hown : ss_.vm.findClass sc4 = some mm_.cls := hown
 have N0 := Fr.nil n0
 have Z0 : n0 ≤ h0.size := by have q := O0.2.1; rw [O0.1] at q; exact q
 have K0 : Keep h0 h0 [a] := Keep.refl _ _
 show Go_ s₁ (mkF mm_ 0 #[vr a] [])
 refine sp_ (fun t_ k_ => XS.aloadN X0.here hx rfl (B_ dk240) rfl rfl k_) ?_
 obtain ⟨T1, X1, e1, st1⟩ := getF X0 hx hZ hown (host := "") (Or.inl (w_ hw 120 rfl)) Via.refl e0 pr4 (g := (mkF mm_ 1 #[vr a] [(.ref a)])) rfl rfl (B_ dk241)
 refine sp_ st1 ?_
 show Go_ T1 (mkF mm_ 4 #[vr a] [(.int 0)])
 refine sp_ (fun t_ k_ => XS.aloadN X1.here hx rfl (B_ dk242) rfl rfl k_) ?_
 obtain ⟨T2, X2, e2, st2⟩ := getF X1 hx hZ hown (host := "") (Or.inl (w_ hw 105 rfl)) Via.refl e1 pr3 (g := (mkF mm_ 5 #[vr a] [(.ref a), (.int 0)])) rfl rfl (B_ dk243)
 refine sp_ st2 ?_
 show Go_ T2 (mkF mm_ 8 #[vr a] [(.int 1), (.int 0)])
 refine sp_ (fun t_ k_ => XS.icmpYes X2.here hx rfl (pc0 := 8) (pc' := 19) rfl (B_ dk244) rfl (tlt (by decide : (0 : Int32) < (1 : Int32))).1 (by decide) (by decide) k_) ?_
 show Go_ T2 (mkF mm_ 19 #[vr a] [])
 refine sp_ (fun t_ k_ => XS.aloadN X2.here hx rfl (B_ dk245) rfl rfl k_) ?_
 obtain ⟨T3, X3, e3, st3⟩ := getF X2 hx hZ hown (host := "") (Or.inl (w_ hw 103 rfl)) Via.refl e2 pr2 (g := (mkF mm_ 20 #[vr a] [(.ref a)])) rfl rfl (B_ dk246)
 refine sp_ st3 ?_
 show Go_ T3 (mkF mm_ 23 #[vr a] [(.ref ar)])
 refine sp_ (fun t_ k_ => XS.aloadN X3.here hx rfl (B_ dk247) rfl rfl (XS.dup X3.here hx rfl (B_ dk248) rfl rfl k_)) ?_
 obtain ⟨T4, X4, e4, st4⟩ := getF X3 hx hZ hown (host := "") (Or.inl (w_ hw 120 rfl)) Via.refl e3 pr4 (g := (mkF mm_ 25 #[vr a] [(.ref a), (.ref a), (.ref ar)])) rfl rfl (B_ dk249)
 refine sp_ st4 ?_
 show Go_ T4 (mkF mm_ 28 #[vr a] [(.int 0), (.ref a), (.ref ar)])
 refine sp_ (fun t_ k_ => XS.dupX1 X4.here hx rfl (B_ dk250) rfl rfl rfl (XS.iconst X4.here hx rfl (B_ dk251) (XS.iadd X4.here hx rfl (B_ dk252) rfl k_))) ?_
 obtain ⟨T5, h5, X5, e5, W5, st5⟩ := putF X4 hx hZ hown (host := "") (Or.inl (w_ hw 120 rfl)) Via.refl e4 pr4 pr0 (Or.inl (w_ hw 121 rfl)) (w_ hw 97 rfl) (ty := .int) (by decide) rfl rfl (g := (mkF mm_ 31 #[vr a] [(.int 1), (.ref a), (.int 0), (.ref ar)])) rfl rfl (B_ dk253)
 have F5 := pr4.same W5
 have N5 := Fr.snoc X5 N0 g_a
 refine sp_ st5 ?_
 have f6 : Arv Z h5 ar k (.object sc2) z [(.ref r0)] .null := (pr5.other W5 (Ne.symm (Exa.neArv pr0 pr5 (w_ hw 97 rfl))))
 obtain ⟨cl7, Ar7, q7, S7, M7, H7, G7⟩ := id f6
 have hin7 : ¬ ((0 : Int32) < 0 ∨ cl7.slots.size ≤ ((0 : Int32)).toNatClampNeg) := inb_of S7 ⟨by decide, hzj⟩
 have hat7 : cl7.slots[((0 : Int32)).toNatClampNeg]? = some (.ref r0) := Has.at H7 hin7 rfl
 refine sp_ (fun t_ k_ => X5.aaload hx (j := (0 : Int32)) (v := (.ref r0)) (by rw [e5]; exact Ar7.1) (State.isArrayOf_alike hZ.alike Ar7.2.1) rfl Ar7.2.2 hin7 hat7 (g := (mkF mm_ 34 #[vr a] [(.int 0), (.ref ar)])) rfl rfl (B_ dk254) t_ k_) ?_
 show Go_ T5 (mkF mm_ 35 #[vr a] [(.ref r0)])
 have K8 : Keep h0 h5 [a] := (K0.wr W5 (Or.inl (List.mem_of_getElem? (i := 0) rfl)))
 have f9 : Fld Z h5 a sc4 "members" sc3 (.ref ar) := (pr2.other W5 (Or.inr (slot_ne (Or.inr (w_ hw 104 rfl)) (Or.inl (w_ hw 121 rfl)) (by decide) (t := (.array (.object sc2))) (t' := .int) (by decide) (by decide))))
 have f10 : Fld Z h5 a sc4 "size" "I" (.int 1) := (pr3.other W5 (Or.inr (slot_ne (Or.inr (w_ hw 106 rfl)) (Or.inl (w_ hw 121 rfl)) (by decide) (t := .int) (t' := .int) (by decide) (by decide))))
 obtain ⟨fs, hr, hrun, hended, hW, hsame⟩ := X5.leave (v := some (.ref r0)) (rN Bd.returns)
 refine ⟨_, _, ?_, hrun, hended, _, _, rfl, ?_, ⟨_, rfl⟩, hW, hsame.mono (by decide) (by decide)⟩
 · jvm_step X5.here [X5.here.top, hx, (B_ dk255), X5.method', Bd.returns, Value.isRef, FieldType.isReference]
   first | (intro acts; rw [hr _ acts rfl rfl rfl]) | rw [hr _ _ rfl rfl rfl]
   exact Steps.refl _
 · show QrmNx1_0 Z a ar k z r0 h0 n0 (some (.ref r0)) T5.heap _
   rw [e5]
   exact ⟨rfl, N5, K8, f9, f10, F5⟩
theorem dk256 : decode J21 0 = .ok (.iload_n 1, 1) := by decide +kernel
theorem dk257 : decode J21 1 = .ok (.ifCond .ne 18, 3) := by decide +kernel
theorem dk258 : decode J21 19 = .ok (.aload_n 0, 1) := by decide +kernel
theorem dk259 : decode J21 20 = .ok (.invokeinterface 7 1, 5) := by decide +kernel
theorem pd_11 : parseMethodDescriptor "()Z" = some ⟨[], some .boolean⟩ := by decide +kernel
theorem dk260 : decode J21 25 = .ok (.ifCond .ne 5, 3) := by decide +kernel
theorem dk261 : decode J21 30 = .ok (.aload_n 0, 1) := by decide +kernel
theorem dk262 : decode J21 31 = .ok (.invokeinterface 13 1, 5) := by decide +kernel
theorem pd_12 : parseMethodDescriptor "()Ljava/lang/Object;" = some ⟨[], some (.object "java/lang/Object")⟩ := by decide +kernel
theorem dk263 : decode J21 36 = .ok (.checkcast 17, 3) := by decide +kernel
theorem dk264 : decode J21 39 = .ok (.astore_n 3, 1) := by decide +kernel
theorem dk265 : decode J21 40 = .ok (.aload_n 3, 1) := by decide +kernel
theorem dk266 : decode J21 41 = .ok (.ifnull 15, 3) := by decide +kernel
theorem dk267 : decode J21 44 = .ok (.aload_n 3, 1) := by decide +kernel
theorem dk268 : decode J21 45 = .ok (.invokevirtual 19, 3) := by decide +kernel
theorem dk269 : decode J21 48 = .ok (.iload_n 2, 1) := by decide +kernel
theorem dk270 : decode J21 49 = .ok (.if_icmp .ne 7, 3) := by decide +kernel
theorem dk271 : decode J21 52 = .ok (.iconst 1, 1) := by decide +kernel
theorem dk272 : decode J21 53 = .ok (.goto 4, 3) := by decide +kernel
theorem dk273 : decode J21 57 = .ok (.ireturn, 1) := by decide +kernel
theorem pn_com_example_compact_abox_compactabox_ArraySetIteratorPinLaw : plainName "com/example/compact_abox/compactabox/ArraySetIteratorPinLaw" = true := by first | (simp [plainName, overriddenIn]; done) | decide +kernel
theorem ef_rmSp1_0 (mm_ : MethodId) (a : Addr) (v0 : Int32) : entryFrame mm_ #[(.ref a), (.int 1), (.int v0)] 4 = (mkF mm_ 0 #[vr a, vi 1, vi v0, un] []) := by first | (simp [entryFrame, mkF, argsToLocals, Value.category]; done) | rfl
def QrmSp1_0 (Z : State) (a : Addr) (v0 : Int32) (ar : Addr) (k : ClassId) (z : Int32) (r0 : Addr) (h0 : Heap) (n0 : Nat) (vv_ : Option Value) (hh_ : Heap) (LL_ : List Loc) : Prop := (vv_ = some (.int 1)) ∧ (Fr n0 LL_) ∧ (Keep h0 hh_ [a]) ∧ (Fld Z hh_ a sc4 "members" sc3 (.ref ar)) ∧ (Fld Z hh_ a sc4 "size" "I" (.int 1)) ∧ (Fld Z hh_ a sc4 "next" "I" (.int 1))
theorem rmSp1_0 (l : Launch) (Z : State) (a0 : Array Value) (hw : own_Hw a0 Z) (ws : List Jvm.Cond) (a : Addr) (v0 : Int32) (ar : Addr) (k : ClassId) (z : Int32) (r0 : Addr) (h0 : Heap) (n0 : Nat) (O0 : Old Z n0 h0) (pr0 : Exa Z h0 a sc4) (g_a : n0 ≤ a) (pr2 : Fld Z h0 a sc4 "members" sc3 (.ref ar)) (pr3 : Fld Z h0 a sc4 "size" "I" (.int 1)) (pr4 : Fld Z h0 a sc4 "next" "I" (.int 0)) (pr5 : Arv Z h0 ar k (.object sc2) z [(.ref r0)] .null) (hzj : (0 : Int32) < z) (pr7 : Exa Z h0 r0 sc0) (pr8 : Fld Z h0 r0 sc0 "value" "I" (.int v0)) :
 own_MF l Z ym3 J21 4 (some .boolean) ws (rm_ 1 0 0 12) #[(.ref a), (.int 1), (.int v0)] h0 (QrmSp1_0 Z a v0 ar k z r0 h0 n0) := by
 refine own_met (plainFor_of_name pn_com_example_compact_abox_compactabox_ArraySetIteratorPinLaw) (fun m_ => ef_rmSp1_0 m_ a v0) fun pp_ ee_ ss_ mm_ bb_ me_ cc_ s₁ Bd hx hby hml hown hZ hh X0 e0 => ?_
 have B_ {q_ : Nat} {r_ : _} (h_ : decode _ q_ = r_) := hb hby h_
 have hown : ss_.vm.findClass sc8 = some mm_.cls := hown
 have N0 := Fr.nil n0
 have Z0 : n0 ≤ h0.size := by have q := O0.2.1; rw [O0.1] at q; exact q
 have K0 : Keep h0 h0 [a] := Keep.refl _ _
 show Go_ s₁ (mkF mm_ 0 #[vr a, vi 1, vi v0, un] [])
 refine sp_ (fun t_ k_ => XS.iloadN X0.here hx rfl (B_ dk256) rfl  k_) ?_
 show Go_ s₁ (mkF mm_ 1 #[vr a, vi 1, vi v0, un] [(.int 1)])
 refine sp_ (fun t_ k_ => XS.ifYes X0.here hx rfl (pc0 := 1) (pc' := 19) rfl (B_ dk257) rfl ((if0 _ _).trans (feq (by decide : ¬ ((1 : Int32) = (0 : Int32)))).2) (by decide) (by decide) k_) ?_
 show Go_ s₁ (mkF mm_ 19 #[vr a, vi 1, vi v0, un] [])
 refine sp_ (fun t_ k_ => XS.aloadN X0.here hx rfl (B_ dk258) rfl rfl k_) ?_
 obtain ⟨_, T1, Lc1, X1, hQ1, st1⟩ := own_cF X0 hx hZ hown (w_ hw 111 rfl) (w_ hw 112 rfl) (w_ hw 113 rfl) (by first | rfl | decide) (w_ hw 114 rfl) (w_ hw 115 rfl) (w_ hw 116 rfl) (w_ hw 117 rfl) (w_ hw 118 rfl) (by decide) (backOf (W := 0) (rmHy l Z a0 hw [] a (0 : Int32) (1 : Int32) h0 n0 O0 pr4 pr3 (by first | assumption | rfl | decide | (simp; done))) hZ (w_ hw 119 rfl) (w_ hw 98 rfl) (by decide) (by decide)) pr0 (g := (mkF mm_ 20 #[vr a, vi 1, vi v0, un] [(.ref a)])) rfl hml.symm (argsL := []) (rest := []) (lenOf pd_11 rfl) rfl (Nat.le_of_eq rfl) (B_ dk259) rfl e0 (by decide) (by decide)
 obtain ⟨rfl, rfl, Eh1⟩ := hQ1
 have N1 := Fr.app N0 (Fr.nil n0)
 refine jp_ st1 ?_
 show Go_ T1 (mkF mm_ 25 #[vr a, vi 1, vi v0, un] [(.int 1)])
 refine sp_ (fun t_ k_ => XS.ifYes X1.here hx rfl (pc0 := 25) (pc' := 30) rfl (B_ dk260) rfl ((if0 _ _).trans (feq (by decide : ¬ ((1 : Int32) = (0 : Int32)))).2) (by decide) (by decide) k_) ?_
 show Go_ T1 (mkF mm_ 30 #[vr a, vi 1, vi v0, un] [])
 refine sp_ (fun t_ k_ => XS.aloadN X1.here hx rfl (B_ dk261) rfl rfl k_) ?_
 obtain ⟨_, T2, Lc2, X2, hQ2, st2⟩ := own_cF X1 hx hZ hown (w_ hw 122 rfl) (w_ hw 123 rfl) (w_ hw 124 rfl) (by first | rfl | decide) (w_ hw 125 rfl) (w_ hw 126 rfl) (w_ hw 127 rfl) (w_ hw 128 rfl) (w_ hw 118 rfl) (by decide) (backOf (W := 0) (rmNx1_0 l Z a0 hw [] a ar k z r0 h0 n0 O0 pr0 g_a pr2 pr3 pr4 pr5 hzj) hZ (w_ hw 129 rfl) (w_ hw 98 rfl) (by decide) (by decide)) pr0 (g := (mkF mm_ 31 #[vr a, vi 1, vi v0, un] [(.ref a)])) rfl hml.symm (argsL := []) (rest := []) (lenOf pd_12 rfl) rfl (Nat.le_of_eq rfl) (B_ dk262) rfl Eh1 (by decide) (by decide)
 obtain ⟨rfl, Nq2, Kc2, r2_0, r2_1, r2_2⟩ := hQ2
 have N2 := Fr.app N1 Nq2
 refine jp_ st2 ?_
 have f4 : Exa Z T2.heap r0 sc0 := (pr7.keep Kc2)
 obtain ⟨T3, X3, e3, st3⟩ := castY X2 hx hZ hown (w_ hw 130 rfl) rfl (Ins.self f4) (g := (mkF mm_ 36 #[vr a, vi 1, vi v0, un] [(.ref r0)])) rfl rfl (B_ dk263)
 refine sp_ st3 ?_
 show Go_ T3 (mkF mm_ 39 #[vr a, vi 1, vi v0, un] [(.ref r0)])
 refine sp_ (fun t_ k_ => XS.astoreN X3.here hx rfl (B_ dk264) rfl rfl (l' := #[vr a, vi 1, vi v0, vr r0]) rfl (XS.aloadN X3.here hx rfl (B_ dk265) rfl rfl k_)) ?_
 show Go_ T3 (mkF mm_ 41 #[vr a, vi 1, vi v0, vr r0] [(.ref r0)])
 refine sp_ (fun t_ k_ => XS.ifnullNo X3.here hx rfl (B_ dk266) rfl (XS.aloadN X3.here hx rfl (B_ dk267) rfl rfl k_)) ?_
 have f6 : Fld Z T2.heap r0 sc0 "value" "I" (.int v0) := (pr8.keep Kc2 (ninS (Exa.ne pr7 pr0 (by decide)) nin0))
 have O7 : Old Z n0 T2.heap := (O0.keep Kc2 (allS g_a all0))
 obtain ⟨_, T5, Lc5, X5, hQ5, st5⟩ := own_cV X3 hx hZ hown (w_ hw 131 rfl) (w_ hw 63 rfl) (notFace_of_selects (args := #[]) (mvT hZ (w_ hw 65 rfl))) (w_ hw 65 rfl) (w_ hw 64 rfl) (by decide) (backOf (W := 0) (rmIV l Z a0 hw [] r0 v0 T2.heap n0 O7 f6) hZ (w_ hw 66 rfl) (w_ hw 30 rfl) (by decide) (by decide)) f4 (g := (mkF mm_ 45 #[vr a, vi 1, vi v0, vr r0] [(.ref r0)])) rfl hml.symm (argsL := []) (rest := []) (lenOf pd_2 rfl) rfl (Nat.le_of_eq rfl) (B_ dk268) rfl e3 (by decide) (by decide)
 obtain ⟨rfl, rfl, Eh5⟩ := hQ5
 have N5 := Fr.app N2 (Fr.nil n0)
 refine jp_ st5 ?_
 show Go_ T5 (mkF mm_ 48 #[vr a, vi 1, vi v0, vr r0] [(.int v0)])
 refine sp_ (fun t_ k_ => XS.iloadN X5.here hx rfl (B_ dk269) rfl  k_) ?_
 show Go_ T5 (mkF mm_ 49 #[vr a, vi 1, vi v0, vr r0] [(.int v0), (.int v0)])
 refine sp_ (fun t_ k_ => XS.icmpNo X5.here hx rfl (B_ dk270) rfl (teq (rfl : v0 = v0)).2 k_) ?_
 show Go_ T5 (mkF mm_ 52 #[vr a, vi 1, vi v0, vr r0] [])
 refine sp_ (fun t_ k_ => XS.iconst X5.here hx rfl (B_ dk271) (XS.goto X5.here hx rfl (pc0 := 53) (pc' := 57) rfl (B_ dk272) (by decide) (by decide) k_)) ?_
 show Go_ T5 (mkF mm_ 57 #[vr a, vi 1, vi v0, vr r0] [(.int 1)])
 have K8 : Keep h0 T2.heap [a] := (K0.trans Kc2 (allS (Or.inl (List.mem_of_getElem? (i := 0) rfl)) all0))
 obtain ⟨fs, hr, hrun, hended, hW, hsame⟩ := X5.leave (v := some (.int 1)) (rN Bd.returns)
 refine ⟨_, _, ?_, hrun, hended, _, _, rfl, ?_, ⟨_, rfl⟩, hW, hsame.mono (by decide) (by decide)⟩
 · exact retN X5 hx (t := .boolean) Bd.returns (by simp) (B_ dk273) hr
 · show QrmSp1_0 Z a v0 ar k z r0 h0 n0 (some (.int 1)) T5.heap _
   rw [Eh5]
   exact ⟨rfl, N5, K8, r2_0, r2_1, r2_2⟩
theorem ef_rmNx2_0 (mm_ : MethodId) (a : Addr) : entryFrame mm_ #[(.ref a)] 1 = (mkF mm_ 0 #[vr a] []) := by first | (simp [entryFrame, mkF, argsToLocals, Value.category]; done) | rfl
def QrmNx2_0 (Z : State) (a : Addr) (ar : Addr) (k : ClassId) (z : Int32) (r0 : Addr) (r1 : Addr) (h0 : Heap) (n0 : Nat) (vv_ : Option Value) (hh_ : Heap) (LL_ : List Loc) : Prop := (vv_ = some (.ref r0)) ∧ (Fr n0 LL_) ∧ (Keep h0 hh_ [a]) ∧ (Fld Z hh_ a sc4 "members" sc3 (.ref ar)) ∧ (Fld Z hh_ a sc4 "size" "I" (.int 2)) ∧ (Fld Z hh_ a sc4 "next" "I" (.int 1))
theorem rmNx2_0 (l : Launch) (Z : State) (a0 : Array Value) (hw : own_Hw a0 Z) (ws : List Jvm.Cond) (a : Addr) (ar : Addr) (k : ClassId) (z : Int32) (r0 : Addr) (r1 : Addr) (h0 : Heap) (n0 : Nat) (O0 : Old Z n0 h0) (pr0 : Exa Z h0 a sc4) (g_a : n0 ≤ a) (pr2 : Fld Z h0 a sc4 "members" sc3 (.ref ar)) (pr3 : Fld Z h0 a sc4 "size" "I" (.int 2)) (pr4 : Fld Z h0 a sc4 "next" "I" (.int 0)) (pr5 : Arv Z h0 ar k (.object sc2) z [(.ref r0), (.ref r1)] .null) (hzj : (0 : Int32) < z) :
 own_MF l Z ym8 J20 1 (some (.object sc2)) ws (rm_ 0 0 0 0) #[(.ref a)] h0 (QrmNx2_0 Z a ar k z r0 r1 h0 n0) := by
 refine own_met (plainFor_of_name pn_com_example_compact_abox_compactabox_ArraySet_ArrayIterator) (fun m_ => ef_rmNx2_0 m_ a) fun pp_ ee_ ss_ mm_ bb_ me_ cc_ s₁ Bd hx hby hml hown hZ hh X0 e0 => ?_
 have B_ {q_ : Nat} {r_ : _} (h_ : decode _ q_ = r_) := hb hby h_
 have hown : ss_.vm.findClass sc4 = some mm_.cls := hown
 have N0 := Fr.nil n0
 have Z0 : n0 ≤ h0.size := by have q := O0.2.1; rw [O0.1] at q; exact q
 have K0 : Keep h0 h0 [a] := Keep.refl _ _
 show Go_ s₁ (mkF mm_ 0 #[vr a] [])
 refine sp_ (fun t_ k_ => XS.aloadN X0.here hx rfl (B_ dk240) rfl rfl k_) ?_
 obtain ⟨T1, X1, e1, st1⟩ := getF X0 hx hZ hown (host := "") (Or.inl (w_ hw 120 rfl)) Via.refl e0 pr4 (g := (mkF mm_ 1 #[vr a] [(.ref a)])) rfl rfl (B_ dk241)
 refine sp_ st1 ?_
 show Go_ T1 (mkF mm_ 4 #[vr a] [(.int 0)])
 refine sp_ (fun t_ k_ => XS.aloadN X1.here hx rfl (B_ dk242) rfl rfl k_) ?_
 obtain ⟨T2, X2, e2, st2⟩ := getF X1 hx hZ hown (host := "") (Or.inl (w_ hw 105 rfl)) Via.refl e1 pr3 (g := (mkF mm_ 5 #[vr a] [(.ref a), (.int 0)])) rfl rfl (B_ dk243)
 refine sp_ st2 ?_
 show Go_ T2 (mkF mm_ 8 #[vr a] [(.int 2), (.int 0)])
 refine sp_ (fun t_ k_ => XS.icmpYes X2.here hx rfl (pc0 := 8) (pc' := 19) rfl (B_ dk244) rfl (tlt (by decide : (0 : Int32) < (2 : Int32))).1 (by decide) (by decide) k_) ?_
 show Go_ T2 (mkF mm_ 19 #[vr a] [])
 refine sp_ (fun t_ k_ => XS.aloadN X2.here hx rfl (B_ dk245) rfl rfl k_) ?_
 obtain ⟨T3, X3, e3, st3⟩ := getF X2 hx hZ hown (host := "") (Or.inl (w_ hw 103 rfl)) Via.refl e2 pr2 (g := (mkF mm_ 20 #[vr a] [(.ref a)])) rfl rfl (B_ dk246)
 refine sp_ st3 ?_
 show Go_ T3 (mkF mm_ 23 #[vr a] [(.ref ar)])
 refine sp_ (fun t_ k_ => XS.aloadN X3.here hx rfl (B_ dk247) rfl rfl (XS.dup X3.here hx rfl (B_ dk248) rfl rfl k_)) ?_
 obtain ⟨T4, X4, e4, st4⟩ := getF X3 hx hZ hown (host := "") (Or.inl (w_ hw 120 rfl)) Via.refl e3 pr4 (g := (mkF mm_ 25 #[vr a] [(.ref a), (.ref a), (.ref ar)])) rfl rfl (B_ dk249)
 refine sp_ st4 ?_
 show Go_ T4 (mkF mm_ 28 #[vr a] [(.int 0), (.ref a), (.ref ar)])
 refine sp_ (fun t_ k_ => XS.dupX1 X4.here hx rfl (B_ dk250) rfl rfl rfl (XS.iconst X4.here hx rfl (B_ dk251) (XS.iadd X4.here hx rfl (B_ dk252) rfl k_))) ?_
 obtain ⟨T5, h5, X5, e5, W5, st5⟩ := putF X4 hx hZ hown (host := "") (Or.inl (w_ hw 120 rfl)) Via.refl e4 pr4 pr0 (Or.inl (w_ hw 121 rfl)) (w_ hw 97 rfl) (ty := .int) (by decide) rfl rfl (g := (mkF mm_ 31 #[vr a] [(.int 1), (.ref a), (.int 0), (.ref ar)])) rfl rfl (B_ dk253)
 have F5 := pr4.same W5
 have N5 := Fr.snoc X5 N0 g_a
 refine sp_ st5 ?_
 have f6 : Arv Z h5 ar k (.object sc2) z [(.ref r0), (.ref r1)] .null := (pr5.other W5 (Ne.symm (Exa.neArv pr0 pr5 (w_ hw 97 rfl))))
 obtain ⟨cl7, Ar7, q7, S7, M7, H7, G7⟩ := id f6
 have hin7 : ¬ ((0 : Int32) < 0 ∨ cl7.slots.size ≤ ((0 : Int32)).toNatClampNeg) := inb_of S7 ⟨by decide, hzj⟩
 have hat7 : cl7.slots[((0 : Int32)).toNatClampNeg]? = some (.ref r0) := Has.at H7 hin7 rfl
 refine sp_ (fun t_ k_ => X5.aaload hx (j := (0 : Int32)) (v := (.ref r0)) (by rw [e5]; exact Ar7.1) (State.isArrayOf_alike hZ.alike Ar7.2.1) rfl Ar7.2.2 hin7 hat7 (g := (mkF mm_ 34 #[vr a] [(.int 0), (.ref ar)])) rfl rfl (B_ dk254) t_ k_) ?_
 show Go_ T5 (mkF mm_ 35 #[vr a] [(.ref r0)])
 have K8 : Keep h0 h5 [a] := (K0.wr W5 (Or.inl (List.mem_of_getElem? (i := 0) rfl)))
 have f9 : Fld Z h5 a sc4 "members" sc3 (.ref ar) := (pr2.other W5 (Or.inr (slot_ne (Or.inr (w_ hw 104 rfl)) (Or.inl (w_ hw 121 rfl)) (by decide) (t := (.array (.object sc2))) (t' := .int) (by decide) (by decide))))
 have f10 : Fld Z h5 a sc4 "size" "I" (.int 2) := (pr3.other W5 (Or.inr (slot_ne (Or.inr (w_ hw 106 rfl)) (Or.inl (w_ hw 121 rfl)) (by decide) (t := .int) (t' := .int) (by decide) (by decide))))
 obtain ⟨fs, hr, hrun, hended, hW, hsame⟩ := X5.leave (v := some (.ref r0)) (rN Bd.returns)
 refine ⟨_, _, ?_, hrun, hended, _, _, rfl, ?_, ⟨_, rfl⟩, hW, hsame.mono (by decide) (by decide)⟩
 · jvm_step X5.here [X5.here.top, hx, (B_ dk255), X5.method', Bd.returns, Value.isRef, FieldType.isReference]
   first | (intro acts; rw [hr _ acts rfl rfl rfl]) | rw [hr _ _ rfl rfl rfl]
   exact Steps.refl _
 · show QrmNx2_0 Z a ar k z r0 r1 h0 n0 (some (.ref r0)) T5.heap _
   rw [e5]
   exact ⟨rfl, N5, K8, f9, f10, F5⟩
theorem ef_rmSp2_0 (mm_ : MethodId) (a : Addr) (v0 : Int32) : entryFrame mm_ #[(.ref a), (.int 1), (.int v0)] 4 = (mkF mm_ 0 #[vr a, vi 1, vi v0, un] []) := by first | (simp [entryFrame, mkF, argsToLocals, Value.category]; done) | rfl
def QrmSp2_0 (Z : State) (a : Addr) (v0 : Int32) (ar : Addr) (k : ClassId) (z : Int32) (r0 : Addr) (r1 : Addr) (h0 : Heap) (n0 : Nat) (vv_ : Option Value) (hh_ : Heap) (LL_ : List Loc) : Prop := (vv_ = some (.int 1)) ∧ (Fr n0 LL_) ∧ (Keep h0 hh_ [a]) ∧ (Fld Z hh_ a sc4 "members" sc3 (.ref ar)) ∧ (Fld Z hh_ a sc4 "size" "I" (.int 2)) ∧ (Fld Z hh_ a sc4 "next" "I" (.int 1))
theorem rmSp2_0 (l : Launch) (Z : State) (a0 : Array Value) (hw : own_Hw a0 Z) (ws : List Jvm.Cond) (a : Addr) (v0 : Int32) (ar : Addr) (k : ClassId) (z : Int32) (r0 : Addr) (r1 : Addr) (h0 : Heap) (n0 : Nat) (O0 : Old Z n0 h0) (pr0 : Exa Z h0 a sc4) (g_a : n0 ≤ a) (pr2 : Fld Z h0 a sc4 "members" sc3 (.ref ar)) (pr3 : Fld Z h0 a sc4 "size" "I" (.int 2)) (pr4 : Fld Z h0 a sc4 "next" "I" (.int 0)) (pr5 : Arv Z h0 ar k (.object sc2) z [(.ref r0), (.ref r1)] .null) (hzj : (0 : Int32) < z) (pr7 : Exa Z h0 r0 sc0) (pr8 : Fld Z h0 r0 sc0 "value" "I" (.int v0)) :
 own_MF l Z ym3 J21 4 (some .boolean) ws (rm_ 1 0 0 12) #[(.ref a), (.int 1), (.int v0)] h0 (QrmSp2_0 Z a v0 ar k z r0 r1 h0 n0) := by
 refine own_met (plainFor_of_name pn_com_example_compact_abox_compactabox_ArraySetIteratorPinLaw) (fun m_ => ef_rmSp2_0 m_ a v0) fun pp_ ee_ ss_ mm_ bb_ me_ cc_ s₁ Bd hx hby hml hown hZ hh X0 e0 => ?_
 have B_ {q_ : Nat} {r_ : _} (h_ : decode _ q_ = r_) := hb hby h_
 have hown : ss_.vm.findClass sc8 = some mm_.cls := hown
 have N0 := Fr.nil n0
 have Z0 : n0 ≤ h0.size := by have q := O0.2.1; rw [O0.1] at q; exact q
 have K0 : Keep h0 h0 [a] := Keep.refl _ _
 show Go_ s₁ (mkF mm_ 0 #[vr a, vi 1, vi v0, un] [])
 refine sp_ (fun t_ k_ => XS.iloadN X0.here hx rfl (B_ dk256) rfl  k_) ?_
 show Go_ s₁ (mkF mm_ 1 #[vr a, vi 1, vi v0, un] [(.int 1)])
 refine sp_ (fun t_ k_ => XS.ifYes X0.here hx rfl (pc0 := 1) (pc' := 19) rfl (B_ dk257) rfl ((if0 _ _).trans (feq (by decide : ¬ ((1 : Int32) = (0 : Int32)))).2) (by decide) (by decide) k_) ?_
 show Go_ s₁ (mkF mm_ 19 #[vr a, vi 1, vi v0, un] [])
 refine sp_ (fun t_ k_ => XS.aloadN X0.here hx rfl (B_ dk258) rfl rfl k_) ?_
 obtain ⟨_, T1, Lc1, X1, hQ1, st1⟩ := own_cF X0 hx hZ hown (w_ hw 111 rfl) (w_ hw 112 rfl) (w_ hw 113 rfl) (by first | rfl | decide) (w_ hw 114 rfl) (w_ hw 115 rfl) (w_ hw 116 rfl) (w_ hw 117 rfl) (w_ hw 118 rfl) (by decide) (backOf (W := 0) (rmHy l Z a0 hw [] a (0 : Int32) (2 : Int32) h0 n0 O0 pr4 pr3 (by first | assumption | rfl | decide | (simp; done))) hZ (w_ hw 119 rfl) (w_ hw 98 rfl) (by decide) (by decide)) pr0 (g := (mkF mm_ 20 #[vr a, vi 1, vi v0, un] [(.ref a)])) rfl hml.symm (argsL := []) (rest := []) (lenOf pd_11 rfl) rfl (Nat.le_of_eq rfl) (B_ dk259) rfl e0 (by decide) (by decide)
 obtain ⟨rfl, rfl, Eh1⟩ := hQ1
 have N1 := Fr.app N0 (Fr.nil n0)
 refine jp_ st1 ?_
 show Go_ T1 (mkF mm_ 25 #[vr a, vi 1, vi v0, un] [(.int 1)])
 refine sp_ (fun t_ k_ => XS.ifYes X1.here hx rfl (pc0 := 25) (pc' := 30) rfl (B_ dk260) rfl ((if0 _ _).trans (feq (by decide : ¬ ((1 : Int32) = (0 : Int32)))).2) (by decide) (by decide) k_) ?_
 show Go_ T1 (mkF mm_ 30 #[vr a, vi 1, vi v0, un] [])
 refine sp_ (fun t_ k_ => XS.aloadN X1.here hx rfl (B_ dk261) rfl rfl k_) ?_
 obtain ⟨_, T2, Lc2, X2, hQ2, st2⟩ := own_cF X1 hx hZ hown (w_ hw 122 rfl) (w_ hw 123 rfl) (w_ hw 124 rfl) (by first | rfl | decide) (w_ hw 125 rfl) (w_ hw 126 rfl) (w_ hw 127 rfl) (w_ hw 128 rfl) (w_ hw 118 rfl) (by decide) (backOf (W := 0) (rmNx2_0 l Z a0 hw [] a ar k z r0 r1 h0 n0 O0 pr0 g_a pr2 pr3 pr4 pr5 hzj) hZ (w_ hw 129 rfl) (w_ hw 98 rfl) (by decide) (by decide)) pr0 (g := (mkF mm_ 31 #[vr a, vi 1, vi v0, un] [(.ref a)])) rfl hml.symm (argsL := []) (rest := []) (lenOf pd_12 rfl) rfl (Nat.le_of_eq rfl) (B_ dk262) rfl Eh1 (by decide) (by decide)
 obtain ⟨rfl, Nq2, Kc2, r2_0, r2_1, r2_2⟩ := hQ2
 have N2 := Fr.app N1 Nq2
 refine jp_ st2 ?_
 have f4 : Exa Z T2.heap r0 sc0 := (pr7.keep Kc2)
 obtain ⟨T3, X3, e3, st3⟩ := castY X2 hx hZ hown (w_ hw 130 rfl) rfl (Ins.self f4) (g := (mkF mm_ 36 #[vr a, vi 1, vi v0, un] [(.ref r0)])) rfl rfl (B_ dk263)
 refine sp_ st3 ?_
 show Go_ T3 (mkF mm_ 39 #[vr a, vi 1, vi v0, un] [(.ref r0)])
 refine sp_ (fun t_ k_ => XS.astoreN X3.here hx rfl (B_ dk264) rfl rfl (l' := #[vr a, vi 1, vi v0, vr r0]) rfl (XS.aloadN X3.here hx rfl (B_ dk265) rfl rfl k_)) ?_
 show Go_ T3 (mkF mm_ 41 #[vr a, vi 1, vi v0, vr r0] [(.ref r0)])
 refine sp_ (fun t_ k_ => XS.ifnullNo X3.here hx rfl (B_ dk266) rfl (XS.aloadN X3.here hx rfl (B_ dk267) rfl rfl k_)) ?_
 have f6 : Fld Z T2.heap r0 sc0 "value" "I" (.int v0) := (pr8.keep Kc2 (ninS (Exa.ne pr7 pr0 (by decide)) nin0))
 have O7 : Old Z n0 T2.heap := (O0.keep Kc2 (allS g_a all0))
 obtain ⟨_, T5, Lc5, X5, hQ5, st5⟩ := own_cV X3 hx hZ hown (w_ hw 131 rfl) (w_ hw 63 rfl) (notFace_of_selects (args := #[]) (mvT hZ (w_ hw 65 rfl))) (w_ hw 65 rfl) (w_ hw 64 rfl) (by decide) (backOf (W := 0) (rmIV l Z a0 hw [] r0 v0 T2.heap n0 O7 f6) hZ (w_ hw 66 rfl) (w_ hw 30 rfl) (by decide) (by decide)) f4 (g := (mkF mm_ 45 #[vr a, vi 1, vi v0, vr r0] [(.ref r0)])) rfl hml.symm (argsL := []) (rest := []) (lenOf pd_2 rfl) rfl (Nat.le_of_eq rfl) (B_ dk268) rfl e3 (by decide) (by decide)
 obtain ⟨rfl, rfl, Eh5⟩ := hQ5
 have N5 := Fr.app N2 (Fr.nil n0)
 refine jp_ st5 ?_
 show Go_ T5 (mkF mm_ 48 #[vr a, vi 1, vi v0, vr r0] [(.int v0)])
 refine sp_ (fun t_ k_ => XS.iloadN X5.here hx rfl (B_ dk269) rfl  k_) ?_
 show Go_ T5 (mkF mm_ 49 #[vr a, vi 1, vi v0, vr r0] [(.int v0), (.int v0)])
 refine sp_ (fun t_ k_ => XS.icmpNo X5.here hx rfl (B_ dk270) rfl (teq (rfl : v0 = v0)).2 k_) ?_
 show Go_ T5 (mkF mm_ 52 #[vr a, vi 1, vi v0, vr r0] [])
 refine sp_ (fun t_ k_ => XS.iconst X5.here hx rfl (B_ dk271) (XS.goto X5.here hx rfl (pc0 := 53) (pc' := 57) rfl (B_ dk272) (by decide) (by decide) k_)) ?_
 show Go_ T5 (mkF mm_ 57 #[vr a, vi 1, vi v0, vr r0] [(.int 1)])
 have K8 : Keep h0 T2.heap [a] := (K0.trans Kc2 (allS (Or.inl (List.mem_of_getElem? (i := 0) rfl)) all0))
 obtain ⟨fs, hr, hrun, hended, hW, hsame⟩ := X5.leave (v := some (.int 1)) (rN Bd.returns)
 refine ⟨_, _, ?_, hrun, hended, _, _, rfl, ?_, ⟨_, rfl⟩, hW, hsame.mono (by decide) (by decide)⟩
 · exact retN X5 hx (t := .boolean) Bd.returns (by simp) (B_ dk273) hr
 · show QrmSp2_0 Z a v0 ar k z r0 r1 h0 n0 (some (.int 1)) T5.heap _
   rw [Eh5]
   exact ⟨rfl, N5, K8, r2_0, r2_1, r2_2⟩
theorem ef_rmNx2_1 (mm_ : MethodId) (a : Addr) : entryFrame mm_ #[(.ref a)] 1 = (mkF mm_ 0 #[vr a] []) := by first | (simp [entryFrame, mkF, argsToLocals, Value.category]; done) | rfl
def QrmNx2_1 (Z : State) (a : Addr) (ar : Addr) (k : ClassId) (z : Int32) (r0 : Addr) (r1 : Addr) (h0 : Heap) (n0 : Nat) (vv_ : Option Value) (hh_ : Heap) (LL_ : List Loc) : Prop := (vv_ = some (.ref r1)) ∧ (Fr n0 LL_) ∧ (Keep h0 hh_ [a]) ∧ (Fld Z hh_ a sc4 "members" sc3 (.ref ar)) ∧ (Fld Z hh_ a sc4 "size" "I" (.int 2)) ∧ (Fld Z hh_ a sc4 "next" "I" (.int 2))
theorem rmNx2_1 (l : Launch) (Z : State) (a0 : Array Value) (hw : own_Hw a0 Z) (ws : List Jvm.Cond) (a : Addr) (ar : Addr) (k : ClassId) (z : Int32) (r0 : Addr) (r1 : Addr) (h0 : Heap) (n0 : Nat) (O0 : Old Z n0 h0) (pr0 : Exa Z h0 a sc4) (g_a : n0 ≤ a) (pr2 : Fld Z h0 a sc4 "members" sc3 (.ref ar)) (pr3 : Fld Z h0 a sc4 "size" "I" (.int 2)) (pr4 : Fld Z h0 a sc4 "next" "I" (.int 1)) (pr5 : Arv Z h0 ar k (.object sc2) z [(.ref r0), (.ref r1)] .null) (hzj : (1 : Int32) < z) :
 own_MF l Z ym8 J20 1 (some (.object sc2)) ws (rm_ 0 0 0 0) #[(.ref a)] h0 (QrmNx2_1 Z a ar k z r0 r1 h0 n0) := by
 refine own_met (plainFor_of_name pn_com_example_compact_abox_compactabox_ArraySet_ArrayIterator) (fun m_ => ef_rmNx2_1 m_ a) fun pp_ ee_ ss_ mm_ bb_ me_ cc_ s₁ Bd hx hby hml hown hZ hh X0 e0 => ?_
 have B_ {q_ : Nat} {r_ : _} (h_ : decode _ q_ = r_) := hb hby h_
 have hown : ss_.vm.findClass sc4 = some mm_.cls := hown
 have N0 := Fr.nil n0
 have Z0 : n0 ≤ h0.size := by have q := O0.2.1; rw [O0.1] at q; exact q
 have K0 : Keep h0 h0 [a] := Keep.refl _ _
 show Go_ s₁ (mkF mm_ 0 #[vr a] [])
 refine sp_ (fun t_ k_ => XS.aloadN X0.here hx rfl (B_ dk240) rfl rfl k_) ?_
 obtain ⟨T1, X1, e1, st1⟩ := getF X0 hx hZ hown (host := "") (Or.inl (w_ hw 120 rfl)) Via.refl e0 pr4 (g := (mkF mm_ 1 #[vr a] [(.ref a)])) rfl rfl (B_ dk241)
 refine sp_ st1 ?_
 show Go_ T1 (mkF mm_ 4 #[vr a] [(.int 1)])
 refine sp_ (fun t_ k_ => XS.aloadN X1.here hx rfl (B_ dk242) rfl rfl k_) ?_
 obtain ⟨T2, X2, e2, st2⟩ := getF X1 hx hZ hown (host := "") (Or.inl (w_ hw 105 rfl)) Via.refl e1 pr3 (g := (mkF mm_ 5 #[vr a] [(.ref a), (.int 1)])) rfl rfl (B_ dk243)
 refine sp_ st2 ?_
 show Go_ T2 (mkF mm_ 8 #[vr a] [(.int 2), (.int 1)])
 refine sp_ (fun t_ k_ => XS.icmpYes X2.here hx rfl (pc0 := 8) (pc' := 19) rfl (B_ dk244) rfl (tlt (by decide : (1 : Int32) < (2 : Int32))).1 (by decide) (by decide) k_) ?_
 show Go_ T2 (mkF mm_ 19 #[vr a] [])
 refine sp_ (fun t_ k_ => XS.aloadN X2.here hx rfl (B_ dk245) rfl rfl k_) ?_
 obtain ⟨T3, X3, e3, st3⟩ := getF X2 hx hZ hown (host := "") (Or.inl (w_ hw 103 rfl)) Via.refl e2 pr2 (g := (mkF mm_ 20 #[vr a] [(.ref a)])) rfl rfl (B_ dk246)
 refine sp_ st3 ?_
 show Go_ T3 (mkF mm_ 23 #[vr a] [(.ref ar)])
 refine sp_ (fun t_ k_ => XS.aloadN X3.here hx rfl (B_ dk247) rfl rfl (XS.dup X3.here hx rfl (B_ dk248) rfl rfl k_)) ?_
 obtain ⟨T4, X4, e4, st4⟩ := getF X3 hx hZ hown (host := "") (Or.inl (w_ hw 120 rfl)) Via.refl e3 pr4 (g := (mkF mm_ 25 #[vr a] [(.ref a), (.ref a), (.ref ar)])) rfl rfl (B_ dk249)
 refine sp_ st4 ?_
 show Go_ T4 (mkF mm_ 28 #[vr a] [(.int 1), (.ref a), (.ref ar)])
 refine sp_ (fun t_ k_ => XS.dupX1 X4.here hx rfl (B_ dk250) rfl rfl rfl (XS.iconst X4.here hx rfl (B_ dk251) (XS.iadd X4.here hx rfl (B_ dk252) rfl k_))) ?_
 obtain ⟨T5, h5, X5, e5, W5, st5⟩ := putF X4 hx hZ hown (host := "") (Or.inl (w_ hw 120 rfl)) Via.refl e4 pr4 pr0 (Or.inl (w_ hw 121 rfl)) (w_ hw 97 rfl) (ty := .int) (by decide) rfl rfl (g := (mkF mm_ 31 #[vr a] [(.int 2), (.ref a), (.int 1), (.ref ar)])) rfl rfl (B_ dk253)
 have F5 := pr4.same W5
 have N5 := Fr.snoc X5 N0 g_a
 refine sp_ st5 ?_
 have f6 : Arv Z h5 ar k (.object sc2) z [(.ref r0), (.ref r1)] .null := (pr5.other W5 (Ne.symm (Exa.neArv pr0 pr5 (w_ hw 97 rfl))))
 obtain ⟨cl7, Ar7, q7, S7, M7, H7, G7⟩ := id f6
 have hin7 : ¬ ((1 : Int32) < 0 ∨ cl7.slots.size ≤ ((1 : Int32)).toNatClampNeg) := inb_of S7 ⟨by decide, hzj⟩
 have hat7 : cl7.slots[((1 : Int32)).toNatClampNeg]? = some (.ref r1) := Has.at H7 hin7 rfl
 refine sp_ (fun t_ k_ => X5.aaload hx (j := (1 : Int32)) (v := (.ref r1)) (by rw [e5]; exact Ar7.1) (State.isArrayOf_alike hZ.alike Ar7.2.1) rfl Ar7.2.2 hin7 hat7 (g := (mkF mm_ 34 #[vr a] [(.int 1), (.ref ar)])) rfl rfl (B_ dk254) t_ k_) ?_
 show Go_ T5 (mkF mm_ 35 #[vr a] [(.ref r1)])
 have K8 : Keep h0 h5 [a] := (K0.wr W5 (Or.inl (List.mem_of_getElem? (i := 0) rfl)))
 have f9 : Fld Z h5 a sc4 "members" sc3 (.ref ar) := (pr2.other W5 (Or.inr (slot_ne (Or.inr (w_ hw 104 rfl)) (Or.inl (w_ hw 121 rfl)) (by decide) (t := (.array (.object sc2))) (t' := .int) (by decide) (by decide))))
 have f10 : Fld Z h5 a sc4 "size" "I" (.int 2) := (pr3.other W5 (Or.inr (slot_ne (Or.inr (w_ hw 106 rfl)) (Or.inl (w_ hw 121 rfl)) (by decide) (t := .int) (t' := .int) (by decide) (by decide))))
 obtain ⟨fs, hr, hrun, hended, hW, hsame⟩ := X5.leave (v := some (.ref r1)) (rN Bd.returns)
 refine ⟨_, _, ?_, hrun, hended, _, _, rfl, ?_, ⟨_, rfl⟩, hW, hsame.mono (by decide) (by decide)⟩
 · jvm_step X5.here [X5.here.top, hx, (B_ dk255), X5.method', Bd.returns, Value.isRef, FieldType.isReference]
   first | (intro acts; rw [hr _ acts rfl rfl rfl]) | rw [hr _ _ rfl rfl rfl]
   exact Steps.refl _
 · show QrmNx2_1 Z a ar k z r0 r1 h0 n0 (some (.ref r1)) T5.heap _
   rw [e5]
   exact ⟨rfl, N5, K8, f9, f10, F5⟩
theorem ef_rmSp2_1 (mm_ : MethodId) (a : Addr) (v1 : Int32) : entryFrame mm_ #[(.ref a), (.int 1), (.int v1)] 4 = (mkF mm_ 0 #[vr a, vi 1, vi v1, un] []) := by first | (simp [entryFrame, mkF, argsToLocals, Value.category]; done) | rfl
def QrmSp2_1 (Z : State) (a : Addr) (v1 : Int32) (ar : Addr) (k : ClassId) (z : Int32) (r0 : Addr) (r1 : Addr) (h0 : Heap) (n0 : Nat) (vv_ : Option Value) (hh_ : Heap) (LL_ : List Loc) : Prop := (vv_ = some (.int 1)) ∧ (Fr n0 LL_) ∧ (Keep h0 hh_ [a]) ∧ (Fld Z hh_ a sc4 "members" sc3 (.ref ar)) ∧ (Fld Z hh_ a sc4 "size" "I" (.int 2)) ∧ (Fld Z hh_ a sc4 "next" "I" (.int 2))
theorem rmSp2_1 (l : Launch) (Z : State) (a0 : Array Value) (hw : own_Hw a0 Z) (ws : List Jvm.Cond) (a : Addr) (v1 : Int32) (ar : Addr) (k : ClassId) (z : Int32) (r0 : Addr) (r1 : Addr) (h0 : Heap) (n0 : Nat) (O0 : Old Z n0 h0) (pr0 : Exa Z h0 a sc4) (g_a : n0 ≤ a) (pr2 : Fld Z h0 a sc4 "members" sc3 (.ref ar)) (pr3 : Fld Z h0 a sc4 "size" "I" (.int 2)) (pr4 : Fld Z h0 a sc4 "next" "I" (.int 1)) (pr5 : Arv Z h0 ar k (.object sc2) z [(.ref r0), (.ref r1)] .null) (hzj : (1 : Int32) < z) (pr7 : Exa Z h0 r1 sc0) (pr8 : Fld Z h0 r1 sc0 "value" "I" (.int v1)) :
 own_MF l Z ym3 J21 4 (some .boolean) ws (rm_ 1 0 0 12) #[(.ref a), (.int 1), (.int v1)] h0 (QrmSp2_1 Z a v1 ar k z r0 r1 h0 n0) := by
 refine own_met (plainFor_of_name pn_com_example_compact_abox_compactabox_ArraySetIteratorPinLaw) (fun m_ => ef_rmSp2_1 m_ a v1) fun pp_ ee_ ss_ mm_ bb_ me_ cc_ s₁ Bd hx hby hml hown hZ hh X0 e0 => ?_
 have B_ {q_ : Nat} {r_ : _} (h_ : decode _ q_ = r_) := hb hby h_
 have hown : ss_.vm.findClass sc8 = some mm_.cls := hown
 have N0 := Fr.nil n0
 have Z0 : n0 ≤ h0.size := by have q := O0.2.1; rw [O0.1] at q; exact q
 have K0 : Keep h0 h0 [a] := Keep.refl _ _
 show Go_ s₁ (mkF mm_ 0 #[vr a, vi 1, vi v1, un] [])
 refine sp_ (fun t_ k_ => XS.iloadN X0.here hx rfl (B_ dk256) rfl  k_) ?_
 show Go_ s₁ (mkF mm_ 1 #[vr a, vi 1, vi v1, un] [(.int 1)])
 refine sp_ (fun t_ k_ => XS.ifYes X0.here hx rfl (pc0 := 1) (pc' := 19) rfl (B_ dk257) rfl ((if0 _ _).trans (feq (by decide : ¬ ((1 : Int32) = (0 : Int32)))).2) (by decide) (by decide) k_) ?_
 show Go_ s₁ (mkF mm_ 19 #[vr a, vi 1, vi v1, un] [])
 refine sp_ (fun t_ k_ => XS.aloadN X0.here hx rfl (B_ dk258) rfl rfl k_) ?_
 obtain ⟨_, T1, Lc1, X1, hQ1, st1⟩ := own_cF X0 hx hZ hown (w_ hw 111 rfl) (w_ hw 112 rfl) (w_ hw 113 rfl) (by first | rfl | decide) (w_ hw 114 rfl) (w_ hw 115 rfl) (w_ hw 116 rfl) (w_ hw 117 rfl) (w_ hw 118 rfl) (by decide) (backOf (W := 0) (rmHy l Z a0 hw [] a (1 : Int32) (2 : Int32) h0 n0 O0 pr4 pr3 (by first | assumption | rfl | decide | (simp; done))) hZ (w_ hw 119 rfl) (w_ hw 98 rfl) (by decide) (by decide)) pr0 (g := (mkF mm_ 20 #[vr a, vi 1, vi v1, un] [(.ref a)])) rfl hml.symm (argsL := []) (rest := []) (lenOf pd_11 rfl) rfl (Nat.le_of_eq rfl) (B_ dk259) rfl e0 (by decide) (by decide)
 obtain ⟨rfl, rfl, Eh1⟩ := hQ1
 have N1 := Fr.app N0 (Fr.nil n0)
 refine jp_ st1 ?_
 show Go_ T1 (mkF mm_ 25 #[vr a, vi 1, vi v1, un] [(.int 1)])
 refine sp_ (fun t_ k_ => XS.ifYes X1.here hx rfl (pc0 := 25) (pc' := 30) rfl (B_ dk260) rfl ((if0 _ _).trans (feq (by decide : ¬ ((1 : Int32) = (0 : Int32)))).2) (by decide) (by decide) k_) ?_
 show Go_ T1 (mkF mm_ 30 #[vr a, vi 1, vi v1, un] [])
 refine sp_ (fun t_ k_ => XS.aloadN X1.here hx rfl (B_ dk261) rfl rfl k_) ?_
 obtain ⟨_, T2, Lc2, X2, hQ2, st2⟩ := own_cF X1 hx hZ hown (w_ hw 122 rfl) (w_ hw 123 rfl) (w_ hw 124 rfl) (by first | rfl | decide) (w_ hw 125 rfl) (w_ hw 126 rfl) (w_ hw 127 rfl) (w_ hw 128 rfl) (w_ hw 118 rfl) (by decide) (backOf (W := 0) (rmNx2_1 l Z a0 hw [] a ar k z r0 r1 h0 n0 O0 pr0 g_a pr2 pr3 pr4 pr5 hzj) hZ (w_ hw 129 rfl) (w_ hw 98 rfl) (by decide) (by decide)) pr0 (g := (mkF mm_ 31 #[vr a, vi 1, vi v1, un] [(.ref a)])) rfl hml.symm (argsL := []) (rest := []) (lenOf pd_12 rfl) rfl (Nat.le_of_eq rfl) (B_ dk262) rfl Eh1 (by decide) (by decide)
 obtain ⟨rfl, Nq2, Kc2, r2_0, r2_1, r2_2⟩ := hQ2
 have N2 := Fr.app N1 Nq2
 refine jp_ st2 ?_
 have f4 : Exa Z T2.heap r1 sc0 := (pr7.keep Kc2)
 obtain ⟨T3, X3, e3, st3⟩ := castY X2 hx hZ hown (w_ hw 130 rfl) rfl (Ins.self f4) (g := (mkF mm_ 36 #[vr a, vi 1, vi v1, un] [(.ref r1)])) rfl rfl (B_ dk263)
 refine sp_ st3 ?_
 show Go_ T3 (mkF mm_ 39 #[vr a, vi 1, vi v1, un] [(.ref r1)])
 refine sp_ (fun t_ k_ => XS.astoreN X3.here hx rfl (B_ dk264) rfl rfl (l' := #[vr a, vi 1, vi v1, vr r1]) rfl (XS.aloadN X3.here hx rfl (B_ dk265) rfl rfl k_)) ?_
 show Go_ T3 (mkF mm_ 41 #[vr a, vi 1, vi v1, vr r1] [(.ref r1)])
 refine sp_ (fun t_ k_ => XS.ifnullNo X3.here hx rfl (B_ dk266) rfl (XS.aloadN X3.here hx rfl (B_ dk267) rfl rfl k_)) ?_
 have f6 : Fld Z T2.heap r1 sc0 "value" "I" (.int v1) := (pr8.keep Kc2 (ninS (Exa.ne pr7 pr0 (by decide)) nin0))
 have O7 : Old Z n0 T2.heap := (O0.keep Kc2 (allS g_a all0))
 obtain ⟨_, T5, Lc5, X5, hQ5, st5⟩ := own_cV X3 hx hZ hown (w_ hw 131 rfl) (w_ hw 63 rfl) (notFace_of_selects (args := #[]) (mvT hZ (w_ hw 65 rfl))) (w_ hw 65 rfl) (w_ hw 64 rfl) (by decide) (backOf (W := 0) (rmIV l Z a0 hw [] r1 v1 T2.heap n0 O7 f6) hZ (w_ hw 66 rfl) (w_ hw 30 rfl) (by decide) (by decide)) f4 (g := (mkF mm_ 45 #[vr a, vi 1, vi v1, vr r1] [(.ref r1)])) rfl hml.symm (argsL := []) (rest := []) (lenOf pd_2 rfl) rfl (Nat.le_of_eq rfl) (B_ dk268) rfl e3 (by decide) (by decide)
 obtain ⟨rfl, rfl, Eh5⟩ := hQ5
 have N5 := Fr.app N2 (Fr.nil n0)
 refine jp_ st5 ?_
 show Go_ T5 (mkF mm_ 48 #[vr a, vi 1, vi v1, vr r1] [(.int v1)])
 refine sp_ (fun t_ k_ => XS.iloadN X5.here hx rfl (B_ dk269) rfl  k_) ?_
 show Go_ T5 (mkF mm_ 49 #[vr a, vi 1, vi v1, vr r1] [(.int v1), (.int v1)])
 refine sp_ (fun t_ k_ => XS.icmpNo X5.here hx rfl (B_ dk270) rfl (teq (rfl : v1 = v1)).2 k_) ?_
 show Go_ T5 (mkF mm_ 52 #[vr a, vi 1, vi v1, vr r1] [])
 refine sp_ (fun t_ k_ => XS.iconst X5.here hx rfl (B_ dk271) (XS.goto X5.here hx rfl (pc0 := 53) (pc' := 57) rfl (B_ dk272) (by decide) (by decide) k_)) ?_
 show Go_ T5 (mkF mm_ 57 #[vr a, vi 1, vi v1, vr r1] [(.int 1)])
 have K8 : Keep h0 T2.heap [a] := (K0.trans Kc2 (allS (Or.inl (List.mem_of_getElem? (i := 0) rfl)) all0))
 obtain ⟨fs, hr, hrun, hended, hW, hsame⟩ := X5.leave (v := some (.int 1)) (rN Bd.returns)
 refine ⟨_, _, ?_, hrun, hended, _, _, rfl, ?_, ⟨_, rfl⟩, hW, hsame.mono (by decide) (by decide)⟩
 · exact retN X5 hx (t := .boolean) Bd.returns (by simp) (B_ dk273) hr
 · show QrmSp2_1 Z a v1 ar k z r0 r1 h0 n0 (some (.int 1)) T5.heap _
   rw [Eh5]
   exact ⟨rfl, N5, K8, r2_0, r2_1, r2_2⟩
theorem ef_rmNx3_0 (mm_ : MethodId) (a : Addr) : entryFrame mm_ #[(.ref a)] 1 = (mkF mm_ 0 #[vr a] []) := by first | (simp [entryFrame, mkF, argsToLocals, Value.category]; done) | rfl
def QrmNx3_0 (Z : State) (a : Addr) (ar : Addr) (k : ClassId) (z : Int32) (r0 : Addr) (r1 : Addr) (r2 : Addr) (h0 : Heap) (n0 : Nat) (vv_ : Option Value) (hh_ : Heap) (LL_ : List Loc) : Prop := (vv_ = some (.ref r0)) ∧ (Fr n0 LL_) ∧ (Keep h0 hh_ [a]) ∧ (Fld Z hh_ a sc4 "members" sc3 (.ref ar)) ∧ (Fld Z hh_ a sc4 "size" "I" (.int 3)) ∧ (Fld Z hh_ a sc4 "next" "I" (.int 1))
theorem rmNx3_0 (l : Launch) (Z : State) (a0 : Array Value) (hw : own_Hw a0 Z) (ws : List Jvm.Cond) (a : Addr) (ar : Addr) (k : ClassId) (z : Int32) (r0 : Addr) (r1 : Addr) (r2 : Addr) (h0 : Heap) (n0 : Nat) (O0 : Old Z n0 h0) (pr0 : Exa Z h0 a sc4) (g_a : n0 ≤ a) (pr2 : Fld Z h0 a sc4 "members" sc3 (.ref ar)) (pr3 : Fld Z h0 a sc4 "size" "I" (.int 3)) (pr4 : Fld Z h0 a sc4 "next" "I" (.int 0)) (pr5 : Arv Z h0 ar k (.object sc2) z [(.ref r0), (.ref r1), (.ref r2)] .null) (hzj : (0 : Int32) < z) :
 own_MF l Z ym8 J20 1 (some (.object sc2)) ws (rm_ 0 0 0 0) #[(.ref a)] h0 (QrmNx3_0 Z a ar k z r0 r1 r2 h0 n0) := by
 refine own_met (plainFor_of_name pn_com_example_compact_abox_compactabox_ArraySet_ArrayIterator) (fun m_ => ef_rmNx3_0 m_ a) fun pp_ ee_ ss_ mm_ bb_ me_ cc_ s₁ Bd hx hby hml hown hZ hh X0 e0 => ?_
 have B_ {q_ : Nat} {r_ : _} (h_ : decode _ q_ = r_) := hb hby h_
 have hown : ss_.vm.findClass sc4 = some mm_.cls := hown
 have N0 := Fr.nil n0
 have Z0 : n0 ≤ h0.size := by have q := O0.2.1; rw [O0.1] at q; exact q
 have K0 : Keep h0 h0 [a] := Keep.refl _ _
 show Go_ s₁ (mkF mm_ 0 #[vr a] [])
 refine sp_ (fun t_ k_ => XS.aloadN X0.here hx rfl (B_ dk240) rfl rfl k_) ?_
 obtain ⟨T1, X1, e1, st1⟩ := getF X0 hx hZ hown (host := "") (Or.inl (w_ hw 120 rfl)) Via.refl e0 pr4 (g := (mkF mm_ 1 #[vr a] [(.ref a)])) rfl rfl (B_ dk241)
 refine sp_ st1 ?_
 show Go_ T1 (mkF mm_ 4 #[vr a] [(.int 0)])
 refine sp_ (fun t_ k_ => XS.aloadN X1.here hx rfl (B_ dk242) rfl rfl k_) ?_
 obtain ⟨T2, X2, e2, st2⟩ := getF X1 hx hZ hown (host := "") (Or.inl (w_ hw 105 rfl)) Via.refl e1 pr3 (g := (mkF mm_ 5 #[vr a] [(.ref a), (.int 0)])) rfl rfl (B_ dk243)
 refine sp_ st2 ?_
 show Go_ T2 (mkF mm_ 8 #[vr a] [(.int 3), (.int 0)])
 refine sp_ (fun t_ k_ => XS.icmpYes X2.here hx rfl (pc0 := 8) (pc' := 19) rfl (B_ dk244) rfl (tlt (by decide : (0 : Int32) < (3 : Int32))).1 (by decide) (by decide) k_) ?_
 show Go_ T2 (mkF mm_ 19 #[vr a] [])
 refine sp_ (fun t_ k_ => XS.aloadN X2.here hx rfl (B_ dk245) rfl rfl k_) ?_
 obtain ⟨T3, X3, e3, st3⟩ := getF X2 hx hZ hown (host := "") (Or.inl (w_ hw 103 rfl)) Via.refl e2 pr2 (g := (mkF mm_ 20 #[vr a] [(.ref a)])) rfl rfl (B_ dk246)
 refine sp_ st3 ?_
 show Go_ T3 (mkF mm_ 23 #[vr a] [(.ref ar)])
 refine sp_ (fun t_ k_ => XS.aloadN X3.here hx rfl (B_ dk247) rfl rfl (XS.dup X3.here hx rfl (B_ dk248) rfl rfl k_)) ?_
 obtain ⟨T4, X4, e4, st4⟩ := getF X3 hx hZ hown (host := "") (Or.inl (w_ hw 120 rfl)) Via.refl e3 pr4 (g := (mkF mm_ 25 #[vr a] [(.ref a), (.ref a), (.ref ar)])) rfl rfl (B_ dk249)
 refine sp_ st4 ?_
 show Go_ T4 (mkF mm_ 28 #[vr a] [(.int 0), (.ref a), (.ref ar)])
 refine sp_ (fun t_ k_ => XS.dupX1 X4.here hx rfl (B_ dk250) rfl rfl rfl (XS.iconst X4.here hx rfl (B_ dk251) (XS.iadd X4.here hx rfl (B_ dk252) rfl k_))) ?_
 obtain ⟨T5, h5, X5, e5, W5, st5⟩ := putF X4 hx hZ hown (host := "") (Or.inl (w_ hw 120 rfl)) Via.refl e4 pr4 pr0 (Or.inl (w_ hw 121 rfl)) (w_ hw 97 rfl) (ty := .int) (by decide) rfl rfl (g := (mkF mm_ 31 #[vr a] [(.int 1), (.ref a), (.int 0), (.ref ar)])) rfl rfl (B_ dk253)
 have F5 := pr4.same W5
 have N5 := Fr.snoc X5 N0 g_a
 refine sp_ st5 ?_
 have f6 : Arv Z h5 ar k (.object sc2) z [(.ref r0), (.ref r1), (.ref r2)] .null := (pr5.other W5 (Ne.symm (Exa.neArv pr0 pr5 (w_ hw 97 rfl))))
 obtain ⟨cl7, Ar7, q7, S7, M7, H7, G7⟩ := id f6
 have hin7 : ¬ ((0 : Int32) < 0 ∨ cl7.slots.size ≤ ((0 : Int32)).toNatClampNeg) := inb_of S7 ⟨by decide, hzj⟩
 have hat7 : cl7.slots[((0 : Int32)).toNatClampNeg]? = some (.ref r0) := Has.at H7 hin7 rfl
 refine sp_ (fun t_ k_ => X5.aaload hx (j := (0 : Int32)) (v := (.ref r0)) (by rw [e5]; exact Ar7.1) (State.isArrayOf_alike hZ.alike Ar7.2.1) rfl Ar7.2.2 hin7 hat7 (g := (mkF mm_ 34 #[vr a] [(.int 0), (.ref ar)])) rfl rfl (B_ dk254) t_ k_) ?_
 show Go_ T5 (mkF mm_ 35 #[vr a] [(.ref r0)])
 have K8 : Keep h0 h5 [a] := (K0.wr W5 (Or.inl (List.mem_of_getElem? (i := 0) rfl)))
 have f9 : Fld Z h5 a sc4 "members" sc3 (.ref ar) := (pr2.other W5 (Or.inr (slot_ne (Or.inr (w_ hw 104 rfl)) (Or.inl (w_ hw 121 rfl)) (by decide) (t := (.array (.object sc2))) (t' := .int) (by decide) (by decide))))
 have f10 : Fld Z h5 a sc4 "size" "I" (.int 3) := (pr3.other W5 (Or.inr (slot_ne (Or.inr (w_ hw 106 rfl)) (Or.inl (w_ hw 121 rfl)) (by decide) (t := .int) (t' := .int) (by decide) (by decide))))
 obtain ⟨fs, hr, hrun, hended, hW, hsame⟩ := X5.leave (v := some (.ref r0)) (rN Bd.returns)
 refine ⟨_, _, ?_, hrun, hended, _, _, rfl, ?_, ⟨_, rfl⟩, hW, hsame.mono (by decide) (by decide)⟩
 · jvm_step X5.here [X5.here.top, hx, (B_ dk255), X5.method', Bd.returns, Value.isRef, FieldType.isReference]
   first | (intro acts; rw [hr _ acts rfl rfl rfl]) | rw [hr _ _ rfl rfl rfl]
   exact Steps.refl _
 · show QrmNx3_0 Z a ar k z r0 r1 r2 h0 n0 (some (.ref r0)) T5.heap _
   rw [e5]
   exact ⟨rfl, N5, K8, f9, f10, F5⟩
theorem ef_rmSp3_0 (mm_ : MethodId) (a : Addr) (v0 : Int32) : entryFrame mm_ #[(.ref a), (.int 1), (.int v0)] 4 = (mkF mm_ 0 #[vr a, vi 1, vi v0, un] []) := by first | (simp [entryFrame, mkF, argsToLocals, Value.category]; done) | rfl
def QrmSp3_0 (Z : State) (a : Addr) (v0 : Int32) (ar : Addr) (k : ClassId) (z : Int32) (r0 : Addr) (r1 : Addr) (r2 : Addr) (h0 : Heap) (n0 : Nat) (vv_ : Option Value) (hh_ : Heap) (LL_ : List Loc) : Prop := (vv_ = some (.int 1)) ∧ (Fr n0 LL_) ∧ (Keep h0 hh_ [a]) ∧ (Fld Z hh_ a sc4 "members" sc3 (.ref ar)) ∧ (Fld Z hh_ a sc4 "size" "I" (.int 3)) ∧ (Fld Z hh_ a sc4 "next" "I" (.int 1))
theorem rmSp3_0 (l : Launch) (Z : State) (a0 : Array Value) (hw : own_Hw a0 Z) (ws : List Jvm.Cond) (a : Addr) (v0 : Int32) (ar : Addr) (k : ClassId) (z : Int32) (r0 : Addr) (r1 : Addr) (r2 : Addr) (h0 : Heap) (n0 : Nat) (O0 : Old Z n0 h0) (pr0 : Exa Z h0 a sc4) (g_a : n0 ≤ a) (pr2 : Fld Z h0 a sc4 "members" sc3 (.ref ar)) (pr3 : Fld Z h0 a sc4 "size" "I" (.int 3)) (pr4 : Fld Z h0 a sc4 "next" "I" (.int 0)) (pr5 : Arv Z h0 ar k (.object sc2) z [(.ref r0), (.ref r1), (.ref r2)] .null) (hzj : (0 : Int32) < z) (pr7 : Exa Z h0 r0 sc0) (pr8 : Fld Z h0 r0 sc0 "value" "I" (.int v0)) :
 own_MF l Z ym3 J21 4 (some .boolean) ws (rm_ 1 0 0 12) #[(.ref a), (.int 1), (.int v0)] h0 (QrmSp3_0 Z a v0 ar k z r0 r1 r2 h0 n0) := by
 refine own_met (plainFor_of_name pn_com_example_compact_abox_compactabox_ArraySetIteratorPinLaw) (fun m_ => ef_rmSp3_0 m_ a v0) fun pp_ ee_ ss_ mm_ bb_ me_ cc_ s₁ Bd hx hby hml hown hZ hh X0 e0 => ?_
 have B_ {q_ : Nat} {r_ : _} (h_ : decode _ q_ = r_) := hb hby h_
 have hown : ss_.vm.findClass sc8 = some mm_.cls := hown
 have N0 := Fr.nil n0
 have Z0 : n0 ≤ h0.size := by have q := O0.2.1; rw [O0.1] at q; exact q
 have K0 : Keep h0 h0 [a] := Keep.refl _ _
 show Go_ s₁ (mkF mm_ 0 #[vr a, vi 1, vi v0, un] [])
 refine sp_ (fun t_ k_ => XS.iloadN X0.here hx rfl (B_ dk256) rfl  k_) ?_
 show Go_ s₁ (mkF mm_ 1 #[vr a, vi 1, vi v0, un] [(.int 1)])
 refine sp_ (fun t_ k_ => XS.ifYes X0.here hx rfl (pc0 := 1) (pc' := 19) rfl (B_ dk257) rfl ((if0 _ _).trans (feq (by decide : ¬ ((1 : Int32) = (0 : Int32)))).2) (by decide) (by decide) k_) ?_
 show Go_ s₁ (mkF mm_ 19 #[vr a, vi 1, vi v0, un] [])
 refine sp_ (fun t_ k_ => XS.aloadN X0.here hx rfl (B_ dk258) rfl rfl k_) ?_
 obtain ⟨_, T1, Lc1, X1, hQ1, st1⟩ := own_cF X0 hx hZ hown (w_ hw 111 rfl) (w_ hw 112 rfl) (w_ hw 113 rfl) (by first | rfl | decide) (w_ hw 114 rfl) (w_ hw 115 rfl) (w_ hw 116 rfl) (w_ hw 117 rfl) (w_ hw 118 rfl) (by decide) (backOf (W := 0) (rmHy l Z a0 hw [] a (0 : Int32) (3 : Int32) h0 n0 O0 pr4 pr3 (by first | assumption | rfl | decide | (simp; done))) hZ (w_ hw 119 rfl) (w_ hw 98 rfl) (by decide) (by decide)) pr0 (g := (mkF mm_ 20 #[vr a, vi 1, vi v0, un] [(.ref a)])) rfl hml.symm (argsL := []) (rest := []) (lenOf pd_11 rfl) rfl (Nat.le_of_eq rfl) (B_ dk259) rfl e0 (by decide) (by decide)
 obtain ⟨rfl, rfl, Eh1⟩ := hQ1
 have N1 := Fr.app N0 (Fr.nil n0)
 refine jp_ st1 ?_
 show Go_ T1 (mkF mm_ 25 #[vr a, vi 1, vi v0, un] [(.int 1)])
 refine sp_ (fun t_ k_ => XS.ifYes X1.here hx rfl (pc0 := 25) (pc' := 30) rfl (B_ dk260) rfl ((if0 _ _).trans (feq (by decide : ¬ ((1 : Int32) = (0 : Int32)))).2) (by decide) (by decide) k_) ?_
 show Go_ T1 (mkF mm_ 30 #[vr a, vi 1, vi v0, un] [])
 refine sp_ (fun t_ k_ => XS.aloadN X1.here hx rfl (B_ dk261) rfl rfl k_) ?_
 obtain ⟨_, T2, Lc2, X2, hQ2, st2⟩ := own_cF X1 hx hZ hown (w_ hw 122 rfl) (w_ hw 123 rfl) (w_ hw 124 rfl) (by first | rfl | decide) (w_ hw 125 rfl) (w_ hw 126 rfl) (w_ hw 127 rfl) (w_ hw 128 rfl) (w_ hw 118 rfl) (by decide) (backOf (W := 0) (rmNx3_0 l Z a0 hw [] a ar k z r0 r1 r2 h0 n0 O0 pr0 g_a pr2 pr3 pr4 pr5 hzj) hZ (w_ hw 129 rfl) (w_ hw 98 rfl) (by decide) (by decide)) pr0 (g := (mkF mm_ 31 #[vr a, vi 1, vi v0, un] [(.ref a)])) rfl hml.symm (argsL := []) (rest := []) (lenOf pd_12 rfl) rfl (Nat.le_of_eq rfl) (B_ dk262) rfl Eh1 (by decide) (by decide)
 obtain ⟨rfl, Nq2, Kc2, r2_0, r2_1, r2_2⟩ := hQ2
 have N2 := Fr.app N1 Nq2
 refine jp_ st2 ?_
 have f4 : Exa Z T2.heap r0 sc0 := (pr7.keep Kc2)
 obtain ⟨T3, X3, e3, st3⟩ := castY X2 hx hZ hown (w_ hw 130 rfl) rfl (Ins.self f4) (g := (mkF mm_ 36 #[vr a, vi 1, vi v0, un] [(.ref r0)])) rfl rfl (B_ dk263)
 refine sp_ st3 ?_
 show Go_ T3 (mkF mm_ 39 #[vr a, vi 1, vi v0, un] [(.ref r0)])
 refine sp_ (fun t_ k_ => XS.astoreN X3.here hx rfl (B_ dk264) rfl rfl (l' := #[vr a, vi 1, vi v0, vr r0]) rfl (XS.aloadN X3.here hx rfl (B_ dk265) rfl rfl k_)) ?_
 show Go_ T3 (mkF mm_ 41 #[vr a, vi 1, vi v0, vr r0] [(.ref r0)])
 refine sp_ (fun t_ k_ => XS.ifnullNo X3.here hx rfl (B_ dk266) rfl (XS.aloadN X3.here hx rfl (B_ dk267) rfl rfl k_)) ?_
 have f6 : Fld Z T2.heap r0 sc0 "value" "I" (.int v0) := (pr8.keep Kc2 (ninS (Exa.ne pr7 pr0 (by decide)) nin0))
 have O7 : Old Z n0 T2.heap := (O0.keep Kc2 (allS g_a all0))
 obtain ⟨_, T5, Lc5, X5, hQ5, st5⟩ := own_cV X3 hx hZ hown (w_ hw 131 rfl) (w_ hw 63 rfl) (notFace_of_selects (args := #[]) (mvT hZ (w_ hw 65 rfl))) (w_ hw 65 rfl) (w_ hw 64 rfl) (by decide) (backOf (W := 0) (rmIV l Z a0 hw [] r0 v0 T2.heap n0 O7 f6) hZ (w_ hw 66 rfl) (w_ hw 30 rfl) (by decide) (by decide)) f4 (g := (mkF mm_ 45 #[vr a, vi 1, vi v0, vr r0] [(.ref r0)])) rfl hml.symm (argsL := []) (rest := []) (lenOf pd_2 rfl) rfl (Nat.le_of_eq rfl) (B_ dk268) rfl e3 (by decide) (by decide)
 obtain ⟨rfl, rfl, Eh5⟩ := hQ5
 have N5 := Fr.app N2 (Fr.nil n0)
 refine jp_ st5 ?_
 show Go_ T5 (mkF mm_ 48 #[vr a, vi 1, vi v0, vr r0] [(.int v0)])
 refine sp_ (fun t_ k_ => XS.iloadN X5.here hx rfl (B_ dk269) rfl  k_) ?_
 show Go_ T5 (mkF mm_ 49 #[vr a, vi 1, vi v0, vr r0] [(.int v0), (.int v0)])
 refine sp_ (fun t_ k_ => XS.icmpNo X5.here hx rfl (B_ dk270) rfl (teq (rfl : v0 = v0)).2 k_) ?_
 show Go_ T5 (mkF mm_ 52 #[vr a, vi 1, vi v0, vr r0] [])
 refine sp_ (fun t_ k_ => XS.iconst X5.here hx rfl (B_ dk271) (XS.goto X5.here hx rfl (pc0 := 53) (pc' := 57) rfl (B_ dk272) (by decide) (by decide) k_)) ?_
 show Go_ T5 (mkF mm_ 57 #[vr a, vi 1, vi v0, vr r0] [(.int 1)])
 have K8 : Keep h0 T2.heap [a] := (K0.trans Kc2 (allS (Or.inl (List.mem_of_getElem? (i := 0) rfl)) all0))
 obtain ⟨fs, hr, hrun, hended, hW, hsame⟩ := X5.leave (v := some (.int 1)) (rN Bd.returns)
 refine ⟨_, _, ?_, hrun, hended, _, _, rfl, ?_, ⟨_, rfl⟩, hW, hsame.mono (by decide) (by decide)⟩
 · exact retN X5 hx (t := .boolean) Bd.returns (by simp) (B_ dk273) hr
 · show QrmSp3_0 Z a v0 ar k z r0 r1 r2 h0 n0 (some (.int 1)) T5.heap _
   rw [Eh5]
   exact ⟨rfl, N5, K8, r2_0, r2_1, r2_2⟩
theorem ef_rmNx3_1 (mm_ : MethodId) (a : Addr) : entryFrame mm_ #[(.ref a)] 1 = (mkF mm_ 0 #[vr a] []) := by first | (simp [entryFrame, mkF, argsToLocals, Value.category]; done) | rfl
def QrmNx3_1 (Z : State) (a : Addr) (ar : Addr) (k : ClassId) (z : Int32) (r0 : Addr) (r1 : Addr) (r2 : Addr) (h0 : Heap) (n0 : Nat) (vv_ : Option Value) (hh_ : Heap) (LL_ : List Loc) : Prop := (vv_ = some (.ref r1)) ∧ (Fr n0 LL_) ∧ (Keep h0 hh_ [a]) ∧ (Fld Z hh_ a sc4 "members" sc3 (.ref ar)) ∧ (Fld Z hh_ a sc4 "size" "I" (.int 3)) ∧ (Fld Z hh_ a sc4 "next" "I" (.int 2))
theorem rmNx3_1 (l : Launch) (Z : State) (a0 : Array Value) (hw : own_Hw a0 Z) (ws : List Jvm.Cond) (a : Addr) (ar : Addr) (k : ClassId) (z : Int32) (r0 : Addr) (r1 : Addr) (r2 : Addr) (h0 : Heap) (n0 : Nat) (O0 : Old Z n0 h0) (pr0 : Exa Z h0 a sc4) (g_a : n0 ≤ a) (pr2 : Fld Z h0 a sc4 "members" sc3 (.ref ar)) (pr3 : Fld Z h0 a sc4 "size" "I" (.int 3)) (pr4 : Fld Z h0 a sc4 "next" "I" (.int 1)) (pr5 : Arv Z h0 ar k (.object sc2) z [(.ref r0), (.ref r1), (.ref r2)] .null) (hzj : (1 : Int32) < z) :
 own_MF l Z ym8 J20 1 (some (.object sc2)) ws (rm_ 0 0 0 0) #[(.ref a)] h0 (QrmNx3_1 Z a ar k z r0 r1 r2 h0 n0) := by
 refine own_met (plainFor_of_name pn_com_example_compact_abox_compactabox_ArraySet_ArrayIterator) (fun m_ => ef_rmNx3_1 m_ a) fun pp_ ee_ ss_ mm_ bb_ me_ cc_ s₁ Bd hx hby hml hown hZ hh X0 e0 => ?_
 have B_ {q_ : Nat} {r_ : _} (h_ : decode _ q_ = r_) := hb hby h_
 have hown : ss_.vm.findClass sc4 = some mm_.cls := hown
 have N0 := Fr.nil n0
 have Z0 : n0 ≤ h0.size := by have q := O0.2.1; rw [O0.1] at q; exact q
 have K0 : Keep h0 h0 [a] := Keep.refl _ _
 show Go_ s₁ (mkF mm_ 0 #[vr a] [])
 refine sp_ (fun t_ k_ => XS.aloadN X0.here hx rfl (B_ dk240) rfl rfl k_) ?_
 obtain ⟨T1, X1, e1, st1⟩ := getF X0 hx hZ hown (host := "") (Or.inl (w_ hw 120 rfl)) Via.refl e0 pr4 (g := (mkF mm_ 1 #[vr a] [(.ref a)])) rfl rfl (B_ dk241)
 refine sp_ st1 ?_
 show Go_ T1 (mkF mm_ 4 #[vr a] [(.int 1)])
 refine sp_ (fun t_ k_ => XS.aloadN X1.here hx rfl (B_ dk242) rfl rfl k_) ?_
 obtain ⟨T2, X2, e2, st2⟩ := getF X1 hx hZ hown (host := "") (Or.inl (w_ hw 105 rfl)) Via.refl e1 pr3 (g := (mkF mm_ 5 #[vr a] [(.ref a), (.int 1)])) rfl rfl (B_ dk243)
 refine sp_ st2 ?_
 show Go_ T2 (mkF mm_ 8 #[vr a] [(.int 3), (.int 1)])
 refine sp_ (fun t_ k_ => XS.icmpYes X2.here hx rfl (pc0 := 8) (pc' := 19) rfl (B_ dk244) rfl (tlt (by decide : (1 : Int32) < (3 : Int32))).1 (by decide) (by decide) k_) ?_
 show Go_ T2 (mkF mm_ 19 #[vr a] [])
 refine sp_ (fun t_ k_ => XS.aloadN X2.here hx rfl (B_ dk245) rfl rfl k_) ?_
 obtain ⟨T3, X3, e3, st3⟩ := getF X2 hx hZ hown (host := "") (Or.inl (w_ hw 103 rfl)) Via.refl e2 pr2 (g := (mkF mm_ 20 #[vr a] [(.ref a)])) rfl rfl (B_ dk246)
 refine sp_ st3 ?_
 show Go_ T3 (mkF mm_ 23 #[vr a] [(.ref ar)])
 refine sp_ (fun t_ k_ => XS.aloadN X3.here hx rfl (B_ dk247) rfl rfl (XS.dup X3.here hx rfl (B_ dk248) rfl rfl k_)) ?_
 obtain ⟨T4, X4, e4, st4⟩ := getF X3 hx hZ hown (host := "") (Or.inl (w_ hw 120 rfl)) Via.refl e3 pr4 (g := (mkF mm_ 25 #[vr a] [(.ref a), (.ref a), (.ref ar)])) rfl rfl (B_ dk249)
 refine sp_ st4 ?_
 show Go_ T4 (mkF mm_ 28 #[vr a] [(.int 1), (.ref a), (.ref ar)])
 refine sp_ (fun t_ k_ => XS.dupX1 X4.here hx rfl (B_ dk250) rfl rfl rfl (XS.iconst X4.here hx rfl (B_ dk251) (XS.iadd X4.here hx rfl (B_ dk252) rfl k_))) ?_
 obtain ⟨T5, h5, X5, e5, W5, st5⟩ := putF X4 hx hZ hown (host := "") (Or.inl (w_ hw 120 rfl)) Via.refl e4 pr4 pr0 (Or.inl (w_ hw 121 rfl)) (w_ hw 97 rfl) (ty := .int) (by decide) rfl rfl (g := (mkF mm_ 31 #[vr a] [(.int 2), (.ref a), (.int 1), (.ref ar)])) rfl rfl (B_ dk253)
 have F5 := pr4.same W5
 have N5 := Fr.snoc X5 N0 g_a
 refine sp_ st5 ?_
 have f6 : Arv Z h5 ar k (.object sc2) z [(.ref r0), (.ref r1), (.ref r2)] .null := (pr5.other W5 (Ne.symm (Exa.neArv pr0 pr5 (w_ hw 97 rfl))))
 obtain ⟨cl7, Ar7, q7, S7, M7, H7, G7⟩ := id f6
 have hin7 : ¬ ((1 : Int32) < 0 ∨ cl7.slots.size ≤ ((1 : Int32)).toNatClampNeg) := inb_of S7 ⟨by decide, hzj⟩
 have hat7 : cl7.slots[((1 : Int32)).toNatClampNeg]? = some (.ref r1) := Has.at H7 hin7 rfl
 refine sp_ (fun t_ k_ => X5.aaload hx (j := (1 : Int32)) (v := (.ref r1)) (by rw [e5]; exact Ar7.1) (State.isArrayOf_alike hZ.alike Ar7.2.1) rfl Ar7.2.2 hin7 hat7 (g := (mkF mm_ 34 #[vr a] [(.int 1), (.ref ar)])) rfl rfl (B_ dk254) t_ k_) ?_
 show Go_ T5 (mkF mm_ 35 #[vr a] [(.ref r1)])
 have K8 : Keep h0 h5 [a] := (K0.wr W5 (Or.inl (List.mem_of_getElem? (i := 0) rfl)))
 have f9 : Fld Z h5 a sc4 "members" sc3 (.ref ar) := (pr2.other W5 (Or.inr (slot_ne (Or.inr (w_ hw 104 rfl)) (Or.inl (w_ hw 121 rfl)) (by decide) (t := (.array (.object sc2))) (t' := .int) (by decide) (by decide))))
 have f10 : Fld Z h5 a sc4 "size" "I" (.int 3) := (pr3.other W5 (Or.inr (slot_ne (Or.inr (w_ hw 106 rfl)) (Or.inl (w_ hw 121 rfl)) (by decide) (t := .int) (t' := .int) (by decide) (by decide))))
 obtain ⟨fs, hr, hrun, hended, hW, hsame⟩ := X5.leave (v := some (.ref r1)) (rN Bd.returns)
 refine ⟨_, _, ?_, hrun, hended, _, _, rfl, ?_, ⟨_, rfl⟩, hW, hsame.mono (by decide) (by decide)⟩
 · jvm_step X5.here [X5.here.top, hx, (B_ dk255), X5.method', Bd.returns, Value.isRef, FieldType.isReference]
   first | (intro acts; rw [hr _ acts rfl rfl rfl]) | rw [hr _ _ rfl rfl rfl]
   exact Steps.refl _
 · show QrmNx3_1 Z a ar k z r0 r1 r2 h0 n0 (some (.ref r1)) T5.heap _
   rw [e5]
   exact ⟨rfl, N5, K8, f9, f10, F5⟩
theorem ef_rmSp3_1 (mm_ : MethodId) (a : Addr) (v1 : Int32) : entryFrame mm_ #[(.ref a), (.int 1), (.int v1)] 4 = (mkF mm_ 0 #[vr a, vi 1, vi v1, un] []) := by first | (simp [entryFrame, mkF, argsToLocals, Value.category]; done) | rfl
def QrmSp3_1 (Z : State) (a : Addr) (v1 : Int32) (ar : Addr) (k : ClassId) (z : Int32) (r0 : Addr) (r1 : Addr) (r2 : Addr) (h0 : Heap) (n0 : Nat) (vv_ : Option Value) (hh_ : Heap) (LL_ : List Loc) : Prop := (vv_ = some (.int 1)) ∧ (Fr n0 LL_) ∧ (Keep h0 hh_ [a]) ∧ (Fld Z hh_ a sc4 "members" sc3 (.ref ar)) ∧ (Fld Z hh_ a sc4 "size" "I" (.int 3)) ∧ (Fld Z hh_ a sc4 "next" "I" (.int 2))
theorem rmSp3_1 (l : Launch) (Z : State) (a0 : Array Value) (hw : own_Hw a0 Z) (ws : List Jvm.Cond) (a : Addr) (v1 : Int32) (ar : Addr) (k : ClassId) (z : Int32) (r0 : Addr) (r1 : Addr) (r2 : Addr) (h0 : Heap) (n0 : Nat) (O0 : Old Z n0 h0) (pr0 : Exa Z h0 a sc4) (g_a : n0 ≤ a) (pr2 : Fld Z h0 a sc4 "members" sc3 (.ref ar)) (pr3 : Fld Z h0 a sc4 "size" "I" (.int 3)) (pr4 : Fld Z h0 a sc4 "next" "I" (.int 1)) (pr5 : Arv Z h0 ar k (.object sc2) z [(.ref r0), (.ref r1), (.ref r2)] .null) (hzj : (1 : Int32) < z) (pr7 : Exa Z h0 r1 sc0) (pr8 : Fld Z h0 r1 sc0 "value" "I" (.int v1)) :
 own_MF l Z ym3 J21 4 (some .boolean) ws (rm_ 1 0 0 12) #[(.ref a), (.int 1), (.int v1)] h0 (QrmSp3_1 Z a v1 ar k z r0 r1 r2 h0 n0) := by
 refine own_met (plainFor_of_name pn_com_example_compact_abox_compactabox_ArraySetIteratorPinLaw) (fun m_ => ef_rmSp3_1 m_ a v1) fun pp_ ee_ ss_ mm_ bb_ me_ cc_ s₁ Bd hx hby hml hown hZ hh X0 e0 => ?_
 have B_ {q_ : Nat} {r_ : _} (h_ : decode _ q_ = r_) := hb hby h_
 have hown : ss_.vm.findClass sc8 = some mm_.cls := hown
 have N0 := Fr.nil n0
 have Z0 : n0 ≤ h0.size := by have q := O0.2.1; rw [O0.1] at q; exact q
 have K0 : Keep h0 h0 [a] := Keep.refl _ _
 show Go_ s₁ (mkF mm_ 0 #[vr a, vi 1, vi v1, un] [])
 refine sp_ (fun t_ k_ => XS.iloadN X0.here hx rfl (B_ dk256) rfl  k_) ?_
 show Go_ s₁ (mkF mm_ 1 #[vr a, vi 1, vi v1, un] [(.int 1)])
 refine sp_ (fun t_ k_ => XS.ifYes X0.here hx rfl (pc0 := 1) (pc' := 19) rfl (B_ dk257) rfl ((if0 _ _).trans (feq (by decide : ¬ ((1 : Int32) = (0 : Int32)))).2) (by decide) (by decide) k_) ?_
 show Go_ s₁ (mkF mm_ 19 #[vr a, vi 1, vi v1, un] [])
 refine sp_ (fun t_ k_ => XS.aloadN X0.here hx rfl (B_ dk258) rfl rfl k_) ?_
 obtain ⟨_, T1, Lc1, X1, hQ1, st1⟩ := own_cF X0 hx hZ hown (w_ hw 111 rfl) (w_ hw 112 rfl) (w_ hw 113 rfl) (by first | rfl | decide) (w_ hw 114 rfl) (w_ hw 115 rfl) (w_ hw 116 rfl) (w_ hw 117 rfl) (w_ hw 118 rfl) (by decide) (backOf (W := 0) (rmHy l Z a0 hw [] a (1 : Int32) (3 : Int32) h0 n0 O0 pr4 pr3 (by first | assumption | rfl | decide | (simp; done))) hZ (w_ hw 119 rfl) (w_ hw 98 rfl) (by decide) (by decide)) pr0 (g := (mkF mm_ 20 #[vr a, vi 1, vi v1, un] [(.ref a)])) rfl hml.symm (argsL := []) (rest := []) (lenOf pd_11 rfl) rfl (Nat.le_of_eq rfl) (B_ dk259) rfl e0 (by decide) (by decide)
 obtain ⟨rfl, rfl, Eh1⟩ := hQ1
 have N1 := Fr.app N0 (Fr.nil n0)
 refine jp_ st1 ?_
 show Go_ T1 (mkF mm_ 25 #[vr a, vi 1, vi v1, un] [(.int 1)])
 refine sp_ (fun t_ k_ => XS.ifYes X1.here hx rfl (pc0 := 25) (pc' := 30) rfl (B_ dk260) rfl ((if0 _ _).trans (feq (by decide : ¬ ((1 : Int32) = (0 : Int32)))).2) (by decide) (by decide) k_) ?_
 show Go_ T1 (mkF mm_ 30 #[vr a, vi 1, vi v1, un] [])
 refine sp_ (fun t_ k_ => XS.aloadN X1.here hx rfl (B_ dk261) rfl rfl k_) ?_
 obtain ⟨_, T2, Lc2, X2, hQ2, st2⟩ := own_cF X1 hx hZ hown (w_ hw 122 rfl) (w_ hw 123 rfl) (w_ hw 124 rfl) (by first | rfl | decide) (w_ hw 125 rfl) (w_ hw 126 rfl) (w_ hw 127 rfl) (w_ hw 128 rfl) (w_ hw 118 rfl) (by decide) (backOf (W := 0) (rmNx3_1 l Z a0 hw [] a ar k z r0 r1 r2 h0 n0 O0 pr0 g_a pr2 pr3 pr4 pr5 hzj) hZ (w_ hw 129 rfl) (w_ hw 98 rfl) (by decide) (by decide)) pr0 (g := (mkF mm_ 31 #[vr a, vi 1, vi v1, un] [(.ref a)])) rfl hml.symm (argsL := []) (rest := []) (lenOf pd_12 rfl) rfl (Nat.le_of_eq rfl) (B_ dk262) rfl Eh1 (by decide) (by decide)
 obtain ⟨rfl, Nq2, Kc2, r2_0, r2_1, r2_2⟩ := hQ2
 have N2 := Fr.app N1 Nq2
 refine jp_ st2 ?_
 have f4 : Exa Z T2.heap r1 sc0 := (pr7.keep Kc2)
 obtain ⟨T3, X3, e3, st3⟩ := castY X2 hx hZ hown (w_ hw 130 rfl) rfl (Ins.self f4) (g := (mkF mm_ 36 #[vr a, vi 1, vi v1, un] [(.ref r1)])) rfl rfl (B_ dk263)
 refine sp_ st3 ?_
 show Go_ T3 (mkF mm_ 39 #[vr a, vi 1, vi v1, un] [(.ref r1)])
 refine sp_ (fun t_ k_ => XS.astoreN X3.here hx rfl (B_ dk264) rfl rfl (l' := #[vr a, vi 1, vi v1, vr r1]) rfl (XS.aloadN X3.here hx rfl (B_ dk265) rfl rfl k_)) ?_
 show Go_ T3 (mkF mm_ 41 #[vr a, vi 1, vi v1, vr r1] [(.ref r1)])
 refine sp_ (fun t_ k_ => XS.ifnullNo X3.here hx rfl (B_ dk266) rfl (XS.aloadN X3.here hx rfl (B_ dk267) rfl rfl k_)) ?_
 have f6 : Fld Z T2.heap r1 sc0 "value" "I" (.int v1) := (pr8.keep Kc2 (ninS (Exa.ne pr7 pr0 (by decide)) nin0))
 have O7 : Old Z n0 T2.heap := (O0.keep Kc2 (allS g_a all0))
 obtain ⟨_, T5, Lc5, X5, hQ5, st5⟩ := own_cV X3 hx hZ hown (w_ hw 131 rfl) (w_ hw 63 rfl) (notFace_of_selects (args := #[]) (mvT hZ (w_ hw 65 rfl))) (w_ hw 65 rfl) (w_ hw 64 rfl) (by decide) (backOf (W := 0) (rmIV l Z a0 hw [] r1 v1 T2.heap n0 O7 f6) hZ (w_ hw 66 rfl) (w_ hw 30 rfl) (by decide) (by decide)) f4 (g := (mkF mm_ 45 #[vr a, vi 1, vi v1, vr r1] [(.ref r1)])) rfl hml.symm (argsL := []) (rest := []) (lenOf pd_2 rfl) rfl (Nat.le_of_eq rfl) (B_ dk268) rfl e3 (by decide) (by decide)
 obtain ⟨rfl, rfl, Eh5⟩ := hQ5
 have N5 := Fr.app N2 (Fr.nil n0)
 refine jp_ st5 ?_
 show Go_ T5 (mkF mm_ 48 #[vr a, vi 1, vi v1, vr r1] [(.int v1)])
 refine sp_ (fun t_ k_ => XS.iloadN X5.here hx rfl (B_ dk269) rfl  k_) ?_
 show Go_ T5 (mkF mm_ 49 #[vr a, vi 1, vi v1, vr r1] [(.int v1), (.int v1)])
 refine sp_ (fun t_ k_ => XS.icmpNo X5.here hx rfl (B_ dk270) rfl (teq (rfl : v1 = v1)).2 k_) ?_
 show Go_ T5 (mkF mm_ 52 #[vr a, vi 1, vi v1, vr r1] [])
 refine sp_ (fun t_ k_ => XS.iconst X5.here hx rfl (B_ dk271) (XS.goto X5.here hx rfl (pc0 := 53) (pc' := 57) rfl (B_ dk272) (by decide) (by decide) k_)) ?_
 show Go_ T5 (mkF mm_ 57 #[vr a, vi 1, vi v1, vr r1] [(.int 1)])
 have K8 : Keep h0 T2.heap [a] := (K0.trans Kc2 (allS (Or.inl (List.mem_of_getElem? (i := 0) rfl)) all0))
 obtain ⟨fs, hr, hrun, hended, hW, hsame⟩ := X5.leave (v := some (.int 1)) (rN Bd.returns)
 refine ⟨_, _, ?_, hrun, hended, _, _, rfl, ?_, ⟨_, rfl⟩, hW, hsame.mono (by decide) (by decide)⟩
 · exact retN X5 hx (t := .boolean) Bd.returns (by simp) (B_ dk273) hr
 · show QrmSp3_1 Z a v1 ar k z r0 r1 r2 h0 n0 (some (.int 1)) T5.heap _
   rw [Eh5]
   exact ⟨rfl, N5, K8, r2_0, r2_1, r2_2⟩
theorem ef_rmNx3_2 (mm_ : MethodId) (a : Addr) : entryFrame mm_ #[(.ref a)] 1 = (mkF mm_ 0 #[vr a] []) := by first | (simp [entryFrame, mkF, argsToLocals, Value.category]; done) | rfl
def QrmNx3_2 (Z : State) (a : Addr) (ar : Addr) (k : ClassId) (z : Int32) (r0 : Addr) (r1 : Addr) (r2 : Addr) (h0 : Heap) (n0 : Nat) (vv_ : Option Value) (hh_ : Heap) (LL_ : List Loc) : Prop := (vv_ = some (.ref r2)) ∧ (Fr n0 LL_) ∧ (Keep h0 hh_ [a]) ∧ (Fld Z hh_ a sc4 "members" sc3 (.ref ar)) ∧ (Fld Z hh_ a sc4 "size" "I" (.int 3)) ∧ (Fld Z hh_ a sc4 "next" "I" (.int 3))
theorem rmNx3_2 (l : Launch) (Z : State) (a0 : Array Value) (hw : own_Hw a0 Z) (ws : List Jvm.Cond) (a : Addr) (ar : Addr) (k : ClassId) (z : Int32) (r0 : Addr) (r1 : Addr) (r2 : Addr) (h0 : Heap) (n0 : Nat) (O0 : Old Z n0 h0) (pr0 : Exa Z h0 a sc4) (g_a : n0 ≤ a) (pr2 : Fld Z h0 a sc4 "members" sc3 (.ref ar)) (pr3 : Fld Z h0 a sc4 "size" "I" (.int 3)) (pr4 : Fld Z h0 a sc4 "next" "I" (.int 2)) (pr5 : Arv Z h0 ar k (.object sc2) z [(.ref r0), (.ref r1), (.ref r2)] .null) (hzj : (2 : Int32) < z) :
 own_MF l Z ym8 J20 1 (some (.object sc2)) ws (rm_ 0 0 0 0) #[(.ref a)] h0 (QrmNx3_2 Z a ar k z r0 r1 r2 h0 n0) := by
 refine own_met (plainFor_of_name pn_com_example_compact_abox_compactabox_ArraySet_ArrayIterator) (fun m_ => ef_rmNx3_2 m_ a) fun pp_ ee_ ss_ mm_ bb_ me_ cc_ s₁ Bd hx hby hml hown hZ hh X0 e0 => ?_
 have B_ {q_ : Nat} {r_ : _} (h_ : decode _ q_ = r_) := hb hby h_
 have hown : ss_.vm.findClass sc4 = some mm_.cls := hown
 have N0 := Fr.nil n0
 have Z0 : n0 ≤ h0.size := by have q := O0.2.1; rw [O0.1] at q; exact q
 have K0 : Keep h0 h0 [a] := Keep.refl _ _
 show Go_ s₁ (mkF mm_ 0 #[vr a] [])
 refine sp_ (fun t_ k_ => XS.aloadN X0.here hx rfl (B_ dk240) rfl rfl k_) ?_
 obtain ⟨T1, X1, e1, st1⟩ := getF X0 hx hZ hown (host := "") (Or.inl (w_ hw 120 rfl)) Via.refl e0 pr4 (g := (mkF mm_ 1 #[vr a] [(.ref a)])) rfl rfl (B_ dk241)
 refine sp_ st1 ?_
 show Go_ T1 (mkF mm_ 4 #[vr a] [(.int 2)])
 refine sp_ (fun t_ k_ => XS.aloadN X1.here hx rfl (B_ dk242) rfl rfl k_) ?_
 obtain ⟨T2, X2, e2, st2⟩ := getF X1 hx hZ hown (host := "") (Or.inl (w_ hw 105 rfl)) Via.refl e1 pr3 (g := (mkF mm_ 5 #[vr a] [(.ref a), (.int 2)])) rfl rfl (B_ dk243)
 refine sp_ st2 ?_
 show Go_ T2 (mkF mm_ 8 #[vr a] [(.int 3), (.int 2)])
 refine sp_ (fun t_ k_ => XS.icmpYes X2.here hx rfl (pc0 := 8) (pc' := 19) rfl (B_ dk244) rfl (tlt (by decide : (2 : Int32) < (3 : Int32))).1 (by decide) (by decide) k_) ?_
 show Go_ T2 (mkF mm_ 19 #[vr a] [])
 refine sp_ (fun t_ k_ => XS.aloadN X2.here hx rfl (B_ dk245) rfl rfl k_) ?_
 obtain ⟨T3, X3, e3, st3⟩ := getF X2 hx hZ hown (host := "") (Or.inl (w_ hw 103 rfl)) Via.refl e2 pr2 (g := (mkF mm_ 20 #[vr a] [(.ref a)])) rfl rfl (B_ dk246)
 refine sp_ st3 ?_
 show Go_ T3 (mkF mm_ 23 #[vr a] [(.ref ar)])
 refine sp_ (fun t_ k_ => XS.aloadN X3.here hx rfl (B_ dk247) rfl rfl (XS.dup X3.here hx rfl (B_ dk248) rfl rfl k_)) ?_
 obtain ⟨T4, X4, e4, st4⟩ := getF X3 hx hZ hown (host := "") (Or.inl (w_ hw 120 rfl)) Via.refl e3 pr4 (g := (mkF mm_ 25 #[vr a] [(.ref a), (.ref a), (.ref ar)])) rfl rfl (B_ dk249)
 refine sp_ st4 ?_
 show Go_ T4 (mkF mm_ 28 #[vr a] [(.int 2), (.ref a), (.ref ar)])
 refine sp_ (fun t_ k_ => XS.dupX1 X4.here hx rfl (B_ dk250) rfl rfl rfl (XS.iconst X4.here hx rfl (B_ dk251) (XS.iadd X4.here hx rfl (B_ dk252) rfl k_))) ?_
 obtain ⟨T5, h5, X5, e5, W5, st5⟩ := putF X4 hx hZ hown (host := "") (Or.inl (w_ hw 120 rfl)) Via.refl e4 pr4 pr0 (Or.inl (w_ hw 121 rfl)) (w_ hw 97 rfl) (ty := .int) (by decide) rfl rfl (g := (mkF mm_ 31 #[vr a] [(.int 3), (.ref a), (.int 2), (.ref ar)])) rfl rfl (B_ dk253)
 have F5 := pr4.same W5
 have N5 := Fr.snoc X5 N0 g_a
 refine sp_ st5 ?_
 have f6 : Arv Z h5 ar k (.object sc2) z [(.ref r0), (.ref r1), (.ref r2)] .null := (pr5.other W5 (Ne.symm (Exa.neArv pr0 pr5 (w_ hw 97 rfl))))
 obtain ⟨cl7, Ar7, q7, S7, M7, H7, G7⟩ := id f6
 have hin7 : ¬ ((2 : Int32) < 0 ∨ cl7.slots.size ≤ ((2 : Int32)).toNatClampNeg) := inb_of S7 ⟨by decide, hzj⟩
 have hat7 : cl7.slots[((2 : Int32)).toNatClampNeg]? = some (.ref r2) := Has.at H7 hin7 rfl
 refine sp_ (fun t_ k_ => X5.aaload hx (j := (2 : Int32)) (v := (.ref r2)) (by rw [e5]; exact Ar7.1) (State.isArrayOf_alike hZ.alike Ar7.2.1) rfl Ar7.2.2 hin7 hat7 (g := (mkF mm_ 34 #[vr a] [(.int 2), (.ref ar)])) rfl rfl (B_ dk254) t_ k_) ?_
 show Go_ T5 (mkF mm_ 35 #[vr a] [(.ref r2)])
 have K8 : Keep h0 h5 [a] := (K0.wr W5 (Or.inl (List.mem_of_getElem? (i := 0) rfl)))
 have f9 : Fld Z h5 a sc4 "members" sc3 (.ref ar) := (pr2.other W5 (Or.inr (slot_ne (Or.inr (w_ hw 104 rfl)) (Or.inl (w_ hw 121 rfl)) (by decide) (t := (.array (.object sc2))) (t' := .int) (by decide) (by decide))))
 have f10 : Fld Z h5 a sc4 "size" "I" (.int 3) := (pr3.other W5 (Or.inr (slot_ne (Or.inr (w_ hw 106 rfl)) (Or.inl (w_ hw 121 rfl)) (by decide) (t := .int) (t' := .int) (by decide) (by decide))))
 obtain ⟨fs, hr, hrun, hended, hW, hsame⟩ := X5.leave (v := some (.ref r2)) (rN Bd.returns)
 refine ⟨_, _, ?_, hrun, hended, _, _, rfl, ?_, ⟨_, rfl⟩, hW, hsame.mono (by decide) (by decide)⟩
 · jvm_step X5.here [X5.here.top, hx, (B_ dk255), X5.method', Bd.returns, Value.isRef, FieldType.isReference]
   first | (intro acts; rw [hr _ acts rfl rfl rfl]) | rw [hr _ _ rfl rfl rfl]
   exact Steps.refl _
 · show QrmNx3_2 Z a ar k z r0 r1 r2 h0 n0 (some (.ref r2)) T5.heap _
   rw [e5]
   exact ⟨rfl, N5, K8, f9, f10, F5⟩
theorem ef_rmSp3_2 (mm_ : MethodId) (a : Addr) (v2 : Int32) : entryFrame mm_ #[(.ref a), (.int 1), (.int v2)] 4 = (mkF mm_ 0 #[vr a, vi 1, vi v2, un] []) := by first | (simp [entryFrame, mkF, argsToLocals, Value.category]; done) | rfl
def QrmSp3_2 (Z : State) (a : Addr) (v2 : Int32) (ar : Addr) (k : ClassId) (z : Int32) (r0 : Addr) (r1 : Addr) (r2 : Addr) (h0 : Heap) (n0 : Nat) (vv_ : Option Value) (hh_ : Heap) (LL_ : List Loc) : Prop := (vv_ = some (.int 1)) ∧ (Fr n0 LL_) ∧ (Keep h0 hh_ [a]) ∧ (Fld Z hh_ a sc4 "members" sc3 (.ref ar)) ∧ (Fld Z hh_ a sc4 "size" "I" (.int 3)) ∧ (Fld Z hh_ a sc4 "next" "I" (.int 3))
theorem rmSp3_2 (l : Launch) (Z : State) (a0 : Array Value) (hw : own_Hw a0 Z) (ws : List Jvm.Cond) (a : Addr) (v2 : Int32) (ar : Addr) (k : ClassId) (z : Int32) (r0 : Addr) (r1 : Addr) (r2 : Addr) (h0 : Heap) (n0 : Nat) (O0 : Old Z n0 h0) (pr0 : Exa Z h0 a sc4) (g_a : n0 ≤ a) (pr2 : Fld Z h0 a sc4 "members" sc3 (.ref ar)) (pr3 : Fld Z h0 a sc4 "size" "I" (.int 3)) (pr4 : Fld Z h0 a sc4 "next" "I" (.int 2)) (pr5 : Arv Z h0 ar k (.object sc2) z [(.ref r0), (.ref r1), (.ref r2)] .null) (hzj : (2 : Int32) < z) (pr7 : Exa Z h0 r2 sc0) (pr8 : Fld Z h0 r2 sc0 "value" "I" (.int v2)) :
 own_MF l Z ym3 J21 4 (some .boolean) ws (rm_ 1 0 0 12) #[(.ref a), (.int 1), (.int v2)] h0 (QrmSp3_2 Z a v2 ar k z r0 r1 r2 h0 n0) := by
 refine own_met (plainFor_of_name pn_com_example_compact_abox_compactabox_ArraySetIteratorPinLaw) (fun m_ => ef_rmSp3_2 m_ a v2) fun pp_ ee_ ss_ mm_ bb_ me_ cc_ s₁ Bd hx hby hml hown hZ hh X0 e0 => ?_
 have B_ {q_ : Nat} {r_ : _} (h_ : decode _ q_ = r_) := hb hby h_
 have hown : ss_.vm.findClass sc8 = some mm_.cls := hown
 have N0 := Fr.nil n0
 have Z0 : n0 ≤ h0.size := by have q := O0.2.1; rw [O0.1] at q; exact q
 have K0 : Keep h0 h0 [a] := Keep.refl _ _
 show Go_ s₁ (mkF mm_ 0 #[vr a, vi 1, vi v2, un] [])
 refine sp_ (fun t_ k_ => XS.iloadN X0.here hx rfl (B_ dk256) rfl  k_) ?_
 show Go_ s₁ (mkF mm_ 1 #[vr a, vi 1, vi v2, un] [(.int 1)])
 refine sp_ (fun t_ k_ => XS.ifYes X0.here hx rfl (pc0 := 1) (pc' := 19) rfl (B_ dk257) rfl ((if0 _ _).trans (feq (by decide : ¬ ((1 : Int32) = (0 : Int32)))).2) (by decide) (by decide) k_) ?_
 show Go_ s₁ (mkF mm_ 19 #[vr a, vi 1, vi v2, un] [])
 refine sp_ (fun t_ k_ => XS.aloadN X0.here hx rfl (B_ dk258) rfl rfl k_) ?_
 obtain ⟨_, T1, Lc1, X1, hQ1, st1⟩ := own_cF X0 hx hZ hown (w_ hw 111 rfl) (w_ hw 112 rfl) (w_ hw 113 rfl) (by first | rfl | decide) (w_ hw 114 rfl) (w_ hw 115 rfl) (w_ hw 116 rfl) (w_ hw 117 rfl) (w_ hw 118 rfl) (by decide) (backOf (W := 0) (rmHy l Z a0 hw [] a (2 : Int32) (3 : Int32) h0 n0 O0 pr4 pr3 (by first | assumption | rfl | decide | (simp; done))) hZ (w_ hw 119 rfl) (w_ hw 98 rfl) (by decide) (by decide)) pr0 (g := (mkF mm_ 20 #[vr a, vi 1, vi v2, un] [(.ref a)])) rfl hml.symm (argsL := []) (rest := []) (lenOf pd_11 rfl) rfl (Nat.le_of_eq rfl) (B_ dk259) rfl e0 (by decide) (by decide)
 obtain ⟨rfl, rfl, Eh1⟩ := hQ1
 have N1 := Fr.app N0 (Fr.nil n0)
 refine jp_ st1 ?_
 show Go_ T1 (mkF mm_ 25 #[vr a, vi 1, vi v2, un] [(.int 1)])
 refine sp_ (fun t_ k_ => XS.ifYes X1.here hx rfl (pc0 := 25) (pc' := 30) rfl (B_ dk260) rfl ((if0 _ _).trans (feq (by decide : ¬ ((1 : Int32) = (0 : Int32)))).2) (by decide) (by decide) k_) ?_
 show Go_ T1 (mkF mm_ 30 #[vr a, vi 1, vi v2, un] [])
 refine sp_ (fun t_ k_ => XS.aloadN X1.here hx rfl (B_ dk261) rfl rfl k_) ?_
 obtain ⟨_, T2, Lc2, X2, hQ2, st2⟩ := own_cF X1 hx hZ hown (w_ hw 122 rfl) (w_ hw 123 rfl) (w_ hw 124 rfl) (by first | rfl | decide) (w_ hw 125 rfl) (w_ hw 126 rfl) (w_ hw 127 rfl) (w_ hw 128 rfl) (w_ hw 118 rfl) (by decide) (backOf (W := 0) (rmNx3_2 l Z a0 hw [] a ar k z r0 r1 r2 h0 n0 O0 pr0 g_a pr2 pr3 pr4 pr5 hzj) hZ (w_ hw 129 rfl) (w_ hw 98 rfl) (by decide) (by decide)) pr0 (g := (mkF mm_ 31 #[vr a, vi 1, vi v2, un] [(.ref a)])) rfl hml.symm (argsL := []) (rest := []) (lenOf pd_12 rfl) rfl (Nat.le_of_eq rfl) (B_ dk262) rfl Eh1 (by decide) (by decide)
 obtain ⟨rfl, Nq2, Kc2, r2_0, r2_1, r2_2⟩ := hQ2
 have N2 := Fr.app N1 Nq2
 refine jp_ st2 ?_
 have f4 : Exa Z T2.heap r2 sc0 := (pr7.keep Kc2)
 obtain ⟨T3, X3, e3, st3⟩ := castY X2 hx hZ hown (w_ hw 130 rfl) rfl (Ins.self f4) (g := (mkF mm_ 36 #[vr a, vi 1, vi v2, un] [(.ref r2)])) rfl rfl (B_ dk263)
 refine sp_ st3 ?_
 show Go_ T3 (mkF mm_ 39 #[vr a, vi 1, vi v2, un] [(.ref r2)])
 refine sp_ (fun t_ k_ => XS.astoreN X3.here hx rfl (B_ dk264) rfl rfl (l' := #[vr a, vi 1, vi v2, vr r2]) rfl (XS.aloadN X3.here hx rfl (B_ dk265) rfl rfl k_)) ?_
 show Go_ T3 (mkF mm_ 41 #[vr a, vi 1, vi v2, vr r2] [(.ref r2)])
 refine sp_ (fun t_ k_ => XS.ifnullNo X3.here hx rfl (B_ dk266) rfl (XS.aloadN X3.here hx rfl (B_ dk267) rfl rfl k_)) ?_
 have f6 : Fld Z T2.heap r2 sc0 "value" "I" (.int v2) := (pr8.keep Kc2 (ninS (Exa.ne pr7 pr0 (by decide)) nin0))
 have O7 : Old Z n0 T2.heap := (O0.keep Kc2 (allS g_a all0))
 obtain ⟨_, T5, Lc5, X5, hQ5, st5⟩ := own_cV X3 hx hZ hown (w_ hw 131 rfl) (w_ hw 63 rfl) (notFace_of_selects (args := #[]) (mvT hZ (w_ hw 65 rfl))) (w_ hw 65 rfl) (w_ hw 64 rfl) (by decide) (backOf (W := 0) (rmIV l Z a0 hw [] r2 v2 T2.heap n0 O7 f6) hZ (w_ hw 66 rfl) (w_ hw 30 rfl) (by decide) (by decide)) f4 (g := (mkF mm_ 45 #[vr a, vi 1, vi v2, vr r2] [(.ref r2)])) rfl hml.symm (argsL := []) (rest := []) (lenOf pd_2 rfl) rfl (Nat.le_of_eq rfl) (B_ dk268) rfl e3 (by decide) (by decide)
 obtain ⟨rfl, rfl, Eh5⟩ := hQ5
 have N5 := Fr.app N2 (Fr.nil n0)
 refine jp_ st5 ?_
 show Go_ T5 (mkF mm_ 48 #[vr a, vi 1, vi v2, vr r2] [(.int v2)])
 refine sp_ (fun t_ k_ => XS.iloadN X5.here hx rfl (B_ dk269) rfl  k_) ?_
 show Go_ T5 (mkF mm_ 49 #[vr a, vi 1, vi v2, vr r2] [(.int v2), (.int v2)])
 refine sp_ (fun t_ k_ => XS.icmpNo X5.here hx rfl (B_ dk270) rfl (teq (rfl : v2 = v2)).2 k_) ?_
 show Go_ T5 (mkF mm_ 52 #[vr a, vi 1, vi v2, vr r2] [])
 refine sp_ (fun t_ k_ => XS.iconst X5.here hx rfl (B_ dk271) (XS.goto X5.here hx rfl (pc0 := 53) (pc' := 57) rfl (B_ dk272) (by decide) (by decide) k_)) ?_
 show Go_ T5 (mkF mm_ 57 #[vr a, vi 1, vi v2, vr r2] [(.int 1)])
 have K8 : Keep h0 T2.heap [a] := (K0.trans Kc2 (allS (Or.inl (List.mem_of_getElem? (i := 0) rfl)) all0))
 obtain ⟨fs, hr, hrun, hended, hW, hsame⟩ := X5.leave (v := some (.int 1)) (rN Bd.returns)
 refine ⟨_, _, ?_, hrun, hended, _, _, rfl, ?_, ⟨_, rfl⟩, hW, hsame.mono (by decide) (by decide)⟩
 · exact retN X5 hx (t := .boolean) Bd.returns (by simp) (B_ dk273) hr
 · show QrmSp3_2 Z a v2 ar k z r0 r1 r2 h0 n0 (some (.int 1)) T5.heap _
   rw [Eh5]
   exact ⟨rfl, N5, K8, r2_0, r2_1, r2_2⟩
theorem dk274 : decode J21 4 = .ok (.aload_n 0, 1) := by decide +kernel
theorem dk275 : decode J21 5 = .ok (.invokeinterface 7 1, 5) := by decide +kernel
theorem dk276 : decode J21 10 = .ok (.ifCond .ne 7, 3) := by decide +kernel
theorem dk277 : decode J21 13 = .ok (.iconst 1, 1) := by decide +kernel
theorem dk278 : decode J21 14 = .ok (.goto 4, 3) := by decide +kernel
theorem dk279 : decode J21 18 = .ok (.ireturn, 1) := by decide +kernel
theorem ef_rmSa (mm_ : MethodId) (a : Addr) (ex : Int32) : entryFrame mm_ #[(.ref a), (.int 0), (.int ex)] 4 = (mkF mm_ 0 #[vr a, vi 0, vi ex, un] []) := by first | (simp [entryFrame, mkF, argsToLocals, Value.category]; done) | rfl
def QrmSa (Z : State) (a : Addr) (ex : Int32) (jn : Int32) (nn : Int32) (h0 : Heap) (n0 : Nat) (vv_ : Option Value) (hh_ : Heap) (LL_ : List Loc) : Prop := (vv_ = some (.int 1)) ∧ (LL_ = []) ∧ (hh_ = h0)
theorem rmSa (l : Launch) (Z : State) (a0 : Array Value) (hw : own_Hw a0 Z) (ws : List Jvm.Cond) (a : Addr) (ex : Int32) (jn : Int32) (nn : Int32) (h0 : Heap) (n0 : Nat) (O0 : Old Z n0 h0) (pr0 : Exa Z h0 a sc4) (pr1 : Fld Z h0 a sc4 "next" "I" (.int jn)) (pr2 : Fld Z h0 a sc4 "size" "I" (.int nn)) (hl : ¬ (jn < nn)) :
 own_MF l Z ym3 J21 4 (some .boolean) ws (rm_ 1 0 0 12) #[(.ref a), (.int 0), (.int ex)] h0 (QrmSa Z a ex jn nn h0 n0) := by
 refine own_met (plainFor_of_name pn_com_example_compact_abox_compactabox_ArraySetIteratorPinLaw) (fun m_ => ef_rmSa m_ a ex) fun pp_ ee_ ss_ mm_ bb_ me_ cc_ s₁ Bd hx hby hml hown hZ hh X0 e0 => ?_
 have B_ {q_ : Nat} {r_ : _} (h_ : decode _ q_ = r_) := hb hby h_
 have hown : ss_.vm.findClass sc8 = some mm_.cls := hown
 have N0 := Fr.nil n0
 have Z0 : n0 ≤ h0.size := by have q := O0.2.1; rw [O0.1] at q; exact q
 have K0 : Keep h0 h0 [] := Keep.refl _ _
 show Go_ s₁ (mkF mm_ 0 #[vr a, vi 0, vi ex, un] [])
 refine sp_ (fun t_ k_ => XS.iloadN X0.here hx rfl (B_ dk256) rfl  k_) ?_
 show Go_ s₁ (mkF mm_ 1 #[vr a, vi 0, vi ex, un] [(.int 0)])
 refine sp_ (fun t_ k_ => XS.ifNo X0.here hx rfl (B_ dk257) rfl ((if0 _ _).trans (teq (by decide : (0 : Int32) = (0 : Int32))).2) k_) ?_
 show Go_ s₁ (mkF mm_ 4 #[vr a, vi 0, vi ex, un] [])
 refine sp_ (fun t_ k_ => XS.aloadN X0.here hx rfl (B_ dk274) rfl rfl k_) ?_
 obtain ⟨_, T1, Lc1, X1, hQ1, st1⟩ := own_cF X0 hx hZ hown (w_ hw 111 rfl) (w_ hw 112 rfl) (w_ hw 113 rfl) (by first | rfl | decide) (w_ hw 114 rfl) (w_ hw 115 rfl) (w_ hw 116 rfl) (w_ hw 117 rfl) (w_ hw 118 rfl) (by decide) (backOf (W := 0) (rmHn l Z a0 hw [] a jn nn h0 n0 O0 pr1 pr2 hl) hZ (w_ hw 119 rfl) (w_ hw 98 rfl) (by decide) (by decide)) pr0 (g := (mkF mm_ 5 #[vr a, vi 0, vi ex, un] [(.ref a)])) rfl hml.symm (argsL := []) (rest := []) (lenOf pd_11 rfl) rfl (Nat.le_of_eq rfl) (B_ dk275) rfl e0 (by decide) (by decide)
 obtain ⟨rfl, rfl, Eh1⟩ := hQ1
 have N1 := Fr.app N0 (Fr.nil n0)
 refine jp_ st1 ?_
 show Go_ T1 (mkF mm_ 10 #[vr a, vi 0, vi ex, un] [(.int 0)])
 refine sp_ (fun t_ k_ => XS.ifNo X1.here hx rfl (B_ dk276) rfl ((if0 _ _).trans (teq (by decide : (0 : Int32) = (0 : Int32))).2) k_) ?_
 show Go_ T1 (mkF mm_ 13 #[vr a, vi 0, vi ex, un] [])
 refine sp_ (fun t_ k_ => XS.iconst X1.here hx rfl (B_ dk277) (XS.goto X1.here hx rfl (pc0 := 14) (pc' := 18) rfl (B_ dk278) (by decide) (by decide) k_)) ?_
 show Go_ T1 (mkF mm_ 18 #[vr a, vi 0, vi ex, un] [(.int 1)])
 obtain ⟨fs, hr, hrun, hended, hW, hsame⟩ := X1.leave (v := some (.int 1)) (rN Bd.returns)
 refine ⟨_, _, ?_, hrun, hended, _, _, rfl, ?_, ⟨_, rfl⟩, hW, hsame.mono (by decide) (by decide)⟩
 · exact retN X1 hx (t := .boolean) Bd.returns (by simp) (B_ dk279) hr
 · show QrmSa Z a ex jn nn h0 n0 (some (.int 1)) T1.heap _
   rw [Eh1]
   exact ⟨rfl, rfl, rfl⟩
theorem pd_13 : parseMethodDescriptor "()Ljava/util/Iterator;" = some ⟨[], some (.object "java/util/Iterator")⟩ := by decide +kernel
theorem pd_14 : parseMethodDescriptor "(Ljava/util/Iterator;ZI)Z" = some ⟨[(.object "java/util/Iterator"), .boolean, .int], some .boolean⟩ := by decide +kernel
theorem pd_15 : parseMethodDescriptor "(I)Ljava/lang/Integer;" = some ⟨[.int], some (.object "java/lang/Integer")⟩ := by decide +kernel
theorem ef_rm0 (mm_ : MethodId) (p1 : Int32) (p2 : Int32) (p3 : Int32) (p4 : Int32) : entryFrame mm_ #[(.int p1), (.int p2), (.int p3), (.int p4)] maxLocals = (mkF mm_ 0 #[vi p1, vi p2, vi p3, vi p4, un, un, un, un, un, un, un, un] []) := by first | (simp [entryFrame, mkF, argsToLocals, Value.category, maxLocals]; done) | rfl
def Qrm0 (Z : State) (p1 : Int32) (p2 : Int32) (p3 : Int32) (p4 : Int32) (h0 : Heap) (n0 : Nat) (vv_ : Option Value) (hh_ : Heap) (LL_ : List Loc) : Prop := (vv_ = some (.int 1)) ∧ (Fr n0 LL_) ∧ (Keep h0 hh_ [])
theorem rm0 (l : Launch) (Z : State) (a0 : Array Value) (hw : own_Hw a0 Z) (ws : List Jvm.Cond) (p1 : Int32) (p2 : Int32) (p3 : Int32) (p4 : Int32) {w_ca : Addr} {mir : Addr} (h0 : Heap) (n0 : Nat) (O0 : Old Z n0 h0) (G_ : own_St Z w_ca mir) (hZ0_ : h0.size = n0) :
 MetFree l x (head1 (Jvm.Cond.code x code maxLocals ret :: ws) room_1) (fun aa_ UU_ => aa_ = #[(.int p1), (.int p2), (.int p3), (.int p4)] ∧ Z.Warmed39 UU_.vm ∧ UU_.heap = h0) (fun _ _ _ _ _ => True) (fun _ UU_ oo_ UV_ => ∃ vv_ LL_, oo_ = .returned vv_ ∧ Qrm0 Z p1 p2 p3 p4 h0 n0 vv_ UV_.heap LL_ ∧ FrameEnd UU_ oo_ UV_ LL_ room_1.cells room_1.slots) := by
 refine MetFree.of_bodySF (plainFor_of_name pn_com_example_compact_abox_compactabox_ArraySetIteratorPinLaw) hisR ?_
 intro pp_ ee_ ss_ mm_ args_ bb_ me_ cc_ s₁ Bd hml0 hP hK
 obtain ⟨rfl, hZ, hh⟩ := hP
 have hx := Bd.exec
 have hby := Bd.bytes; have B_ {q_ : Nat} {r_ : _} (h_ : decode _ q_ = r_) := hb hby h_
 have hml : cc_.maxLocals = 12 := hml0
 have hown : ss_.vm.findClass sc8 = some mm_.cls := findClass_of_methodNamed Bd.named
 have hnm := (name_of_methodNamed Bd.named Bd.method).1
 have X0 : Stand pp_ l ee_ room_1 ss_ mm_ #[(.int p1), (.int p2), (.int p3), (.int p4)] bb_ me_ cc_ s₁ [] 0 0 := Stand.of_body Bd
 have e0 : s₁.heap = h0 := by rw [← hh, Bd.state]; rfl
 have N0 := Fr.nil n0
 show own_Go pp_ ee_ bb_ _ s₁ (entryFrame mm_ #[(.int p1), (.int p2), (.int p3), (.int p4)] maxLocals)
 refine own_cast (ef_rm0 mm_ p1 p2 p3 p4) ?_
 have Z0 : n0 ≤ h0.size := by have q := O0.2.1; rw [O0.1] at q; exact q
 have K0 : Keep h0 h0 [] := Keep.refl _ _
 obtain ⟨G_hi, G_ca, G_cc, G_mi⟩ := id G_
 have seg_e1u : ∀ (Ts_ : State) (locs_ : List Loc) (hs_ : Heap) (cp : Int32) (rk : Int32) (x : Addr) (ar : Addr) (ea : Addr) (k : ClassId) (ke : ClassId) (z : Int32) (r0 : Addr) (v0 : Int32) (y1 : Int32) (y2 : Int32) (Xs_ : Stand pp_ l ee_ room_1 ss_ mm_ #[(.int p1), (.int p2), (.int p3), (.int p4)] bb_ me_ cc_ Ts_ locs_ 20 100) (es_ : Ts_.heap = hs_) (Ns_ : Fr n0 locs_) (Ks_ : Keep h0 hs_ []) (Os_ : Old Z n0 hs_)  (sp0_ : Exa Z hs_ x sc1) (sp1_ : Fld Z hs_ x sc1 "hashed" sc5 .null) (sp2_ : Fld Z hs_ x sc1 "members" sc3 (.ref ar)) (sp3_ : Fld Z hs_ x sc1 "size" "I" (.int 1)) (sp4_ : Arv Z hs_ ar k (.object sc2) z [(.ref r0)] .null) (sp5_ : Exa Z hs_ ar sc3) (hz0 : (0 : Int32) < z) (sp7_ : Exa Z hs_ r0 sc0) (sp8_ : Fld Z hs_ r0 sc0 "value" "I" (.int v0)) (sp9_ : Arv Z hs_ ea ke .int (3 : Int32) [(.int v0), (.int y1), (.int y2)] (.int 0)), own_Go pp_ ee_ bb_ (fun s₂ oo_ => s₂.status = .running ∧ Ended s₂ bb_ oo_ ∧ (∃ vv_ LL_, oo_ = .returned vv_ ∧ Qrm0 Z p1 p2 p3 p4 h0 n0 vv_ s₂.heap LL_ ∧ FrameEnd ss_ oo_ s₂ LL_ room_1.cells room_1.slots)) Ts_ (mkF mm_ 310 #[vi p1, vi p2, vi p3, vi p4, vi cp, vi rk, vr x, vi 1, vr ea, vi 1, un, un] []) := by
  intro Ts_ locs_ hs_ cp rk x ar ea k ke z r0 v0 y1 y2  Xs_ es_ Ns_ Ks_ Os_  sp0_ sp1_ sp2_ sp3_ sp4_ sp5_ hz0 sp7_ sp8_ sp9_
  show Go_ Ts_ (mkF mm_ 310 #[vi p1, vi p2, vi p3, vi p4, vi cp, vi rk, vr x, vi 1, vr ea, vi 1, un, un] [])
  refine sp_ (fun t_ k_ => XS.aload Xs_.here hx rfl (B_ at_310) rfl rfl k_) ?_
  obtain ⟨_, T1, Lc1, X1, hQ1, st1⟩ := own_cV Xs_ hx hZ hown (w_ hw 91 rfl) (w_ hw 92 rfl) (notFace_of_selects (args := #[]) (mvT hZ (w_ hw 94 rfl))) (w_ hw 94 rfl) (w_ hw 93 rfl) (by decide) (backOf (W := 0) (rmIt l Z a0 hw [] x ar (1 : Int32) hs_ n0 Os_ sp1_ sp2_ sp3_) hZ (w_ hw 95 rfl) (w_ hw 2 rfl) (by decide) (by decide)) sp0_ (g := (mkF mm_ 312 #[vi p1, vi p2, vi p3, vi p4, vi cp, vi rk, vr x, vi 1, vr ea, vi 1, un, un] [(.ref x)])) rfl hml.symm (argsL := []) (rest := []) (lenOf pd_13 rfl) rfl (Nat.le_of_eq rfl) (B_ at_312) rfl es_ (by decide) (by decide)
  obtain ⟨r_1, rfl, Nq1, Kc1, r1_0, r1_1, r1_2, r1_3, r1_4⟩ := hQ1
  have N1 := Fr.app Ns_ Nq1
  have lo_r_1 : h0.size ≤ r_1 := Nat.le_trans Ks_.1 r1_0
  have g_r_1 : n0 ≤ r_1 := Nat.le_trans Z0 lo_r_1
  refine jp_ st1 ?_
  show Go_ T1 (mkF mm_ 315 #[vi p1, vi p2, vi p3, vi p4, vi cp, vi rk, vr x, vi 1, vr ea, vi 1, un, un] [(.ref r_1)])
  refine sp_ (fun t_ k_ => XS.astore X1.here hx rfl (B_ at_315) rfl rfl (l' := #[vi p1, vi p2, vi p3, vi p4, vi cp, vi rk, vr x, vi 1, vr ea, vi 1, vr r_1, un]) rfl (XS.iload X1.here hx rfl (B_ at_317) rfl  k_)) ?_
  show Go_ T1 (mkF mm_ 319 #[vi p1, vi p2, vi p3, vi p4, vi cp, vi rk, vr x, vi 1, vr ea, vi 1, vr r_1, un] [(.int 1)])
  refine sp_ (fun t_ k_ => XS.ifNo X1.here hx rfl (B_ at_319) rfl ((if0 _ _).trans (feq (by decide : ¬ ((1 : Int32) = (0 : Int32)))).1) k_) ?_
  show Go_ T1 (mkF mm_ 322 #[vi p1, vi p2, vi p3, vi p4, vi cp, vi rk, vr x, vi 1, vr ea, vi 1, vr r_1, un] [])
  refine sp_ (fun t_ k_ => XS.aload X1.here hx rfl (B_ at_322) rfl rfl (XS.iload X1.here hx rfl (B_ at_324) rfl  k_)) ?_
  show Go_ T1 (mkF mm_ 326 #[vi p1, vi p2, vi p3, vi p4, vi cp, vi rk, vr x, vi 1, vr ea, vi 1, vr r_1, un] [(.int 1), (.ref r_1)])
  refine sp_ (fun t_ k_ => XS.ifNo X1.here hx rfl (B_ at_326) rfl ((if0 _ _).trans (tlt (by decide : (0 : Int32) < (1 : Int32))).2.2.2) k_) ?_
  show Go_ T1 (mkF mm_ 329 #[vi p1, vi p2, vi p3, vi p4, vi cp, vi rk, vr x, vi 1, vr ea, vi 1, vr r_1, un] [(.ref r_1)])
  refine sp_ (fun t_ k_ => XS.iconst X1.here hx rfl (B_ at_329) (XS.goto X1.here hx rfl (pc0 := 330) (pc' := 334) rfl (B_ at_330) (by decide) (by decide) (XS.aload X1.here hx rfl (B_ at_334) rfl rfl (XS.iconst X1.here hx rfl (B_ at_336) k_)))) ?_
  have f2 : Arv Z T1.heap ea ke .int (3 : Int32) [(.int v0), (.int y1), (.int y2)] (.int 0) := (sp9_.keep Kc1 nin0)
  obtain ⟨cl3, Ar3, q3, S3, M3, H3, G3⟩ := id f2
  have hin3 : ¬ ((0 : Int32) < 0 ∨ cl3.slots.size ≤ ((0 : Int32)).toNatClampNeg) := inb_of S3 ⟨by decide, by decide⟩
  have hat3 : cl3.slots[((0 : Int32)).toNatClampNeg]? = some (.int v0) := Has.at H3 hin3 rfl
  refine sp_ (fun t_ k_ => X1.iaload hx (j := (0 : Int32)) (v := (.int v0)) Ar3.1 (State.isArrayOf_alike hZ.alike Ar3.2.1) Ar3.2.2 hin3 hat3 (g := (mkF mm_ 337 #[vi p1, vi p2, vi p3, vi p4, vi cp, vi rk, vr x, vi 1, vr ea, vi 1, vr r_1, un] [(.int 0), (.ref ea), (.int 1), (.ref r_1)])) rfl rfl (B_ at_337) t_ k_) ?_
  have f5 : Arv Z T1.heap ar k (.object sc2) z [(.ref r0)] .null := (sp4_.keep Kc1 nin0)
  have f6 : Exa Z T1.heap r0 sc0 := (sp7_.keep Kc1)
  have f7 : Fld Z T1.heap r0 sc0 "value" "I" (.int v0) := (sp8_.keep Kc1 nin0)
  have O8 : Old Z n0 T1.heap := (Os_.keep Kc1 all0)
  obtain ⟨_, T4, Lc4, X4, hQ4, st4⟩ := own_cS X1 hx hZ hown (w_ hw 107 rfl) (w_ hw 108 rfl) (w_ hw 109 rfl) (w_ hw 110 rfl) (by decide) (backOf (W := 0) (rmSp1_0 l Z a0 hw [] r_1 v0 ar k z r0 T1.heap n0 O8 r1_1 g_r_1 r1_2 r1_3 r1_4 f5 hz0 f6 f7) hZ (w_ hw 110 rfl) (w_ hw 109 rfl) (by decide) (by decide)) (g := (mkF mm_ 338 #[vi p1, vi p2, vi p3, vi p4, vi cp, vi rk, vr x, vi 1, vr ea, vi 1, vr r_1, un] [(.int v0), (.int 1), (.ref r_1)])) rfl hml.symm (argsL := [(.ref r_1), (.int 1), (.int v0)]) (rest := []) (lenOf pd_14 rfl) rfl (Nat.le_of_eq rfl) (B_ at_338) rfl rfl (by decide) (by decide)
  obtain ⟨rfl, Nq4, Kc4, r4_0, r4_1, r4_2⟩ := hQ4
  have N4 := Fr.app N1 Nq4
  refine jp_ st4 ?_
  show Go_ T4 (mkF mm_ 341 #[vi p1, vi p2, vi p3, vi p4, vi cp, vi rk, vr x, vi 1, vr ea, vi 1, vr r_1, un] [(.int 1)])
  refine sp_ (fun t_ k_ => XS.ifNo X4.here hx rfl (B_ at_341) rfl ((if0 _ _).trans (feq (by decide : ¬ ((1 : Int32) = (0 : Int32)))).1) k_) ?_
  show Go_ T4 (mkF mm_ 344 #[vi p1, vi p2, vi p3, vi p4, vi cp, vi rk, vr x, vi 1, vr ea, vi 1, vr r_1, un] [])
  refine sp_ (fun t_ k_ => XS.aload X4.here hx rfl (B_ at_344) rfl rfl (XS.iload X4.here hx rfl (B_ at_346) rfl  (XS.iconst X4.here hx rfl (B_ at_348) k_))) ?_
  show Go_ T4 (mkF mm_ 349 #[vi p1, vi p2, vi p3, vi p4, vi cp, vi rk, vr x, vi 1, vr ea, vi 1, vr r_1, un] [(.int 1), (.int 1), (.ref r_1)])
  refine sp_ (fun t_ k_ => XS.icmpYes X4.here hx rfl (pc0 := 349) (pc' := 356) rfl (B_ at_349) rfl (flt (by decide : ¬ ((1 : Int32) < (1 : Int32)))).2.2.2 (by decide) (by decide) k_) ?_
  show Go_ T4 (mkF mm_ 356 #[vi p1, vi p2, vi p3, vi p4, vi cp, vi rk, vr x, vi 1, vr ea, vi 1, vr r_1, un] [(.ref r_1)])
  refine sp_ (fun t_ k_ => XS.iconst X4.here hx rfl (B_ at_356) (XS.aload X4.here hx rfl (B_ at_357) rfl rfl (XS.iconst X4.here hx rfl (B_ at_359) k_))) ?_
  have f9 : Arv Z T4.heap ea ke .int (3 : Int32) [(.int v0), (.int y1), (.int y2)] (.int 0) := (f2.keep Kc4 (ninS (Nat.ne_of_lt (Nat.lt_of_lt_of_le sp9_.lt r1_0)) nin0))
  obtain ⟨cl10, Ar10, q10, S10, M10, H10, G10⟩ := id f9
  have hin10 : ¬ ((1 : Int32) < 0 ∨ cl10.slots.size ≤ ((1 : Int32)).toNatClampNeg) := inb_of S10 ⟨by decide, by decide⟩
  have hat10 : cl10.slots[((1 : Int32)).toNatClampNeg]? = some (.int y1) := Has.at H10 hin10 rfl
  refine sp_ (fun t_ k_ => X4.iaload hx (j := (1 : Int32)) (v := (.int y1)) Ar10.1 (State.isArrayOf_alike hZ.alike Ar10.2.1) Ar10.2.2 hin10 hat10 (g := (mkF mm_ 360 #[vi p1, vi p2, vi p3, vi p4, vi cp, vi rk, vr x, vi 1, vr ea, vi 1, vr r_1, un] [(.int 1), (.ref ea), (.int 0), (.ref r_1)])) rfl rfl (B_ at_360) t_ k_) ?_
  have f12 : Exa Z T4.heap r_1 sc4 := (r1_1.keep Kc4)
  have O13 : Old Z n0 T4.heap := (O8.keep Kc4 (allS g_r_1 all0))
  obtain ⟨_, T11, Lc11, X11, hQ11, st11⟩ := own_cS X4 hx hZ hown (w_ hw 107 rfl) (w_ hw 108 rfl) (w_ hw 109 rfl) (w_ hw 110 rfl) (by decide) (backOf (W := 0) (rmSa l Z a0 hw [] r_1 y1 (1 : Int32) (1 : Int32) T4.heap n0 O13 f12 r4_2 r4_1 (by first | assumption | decide | (simp; done))) hZ (w_ hw 110 rfl) (w_ hw 109 rfl) (by decide) (by decide)) (g := (mkF mm_ 361 #[vi p1, vi p2, vi p3, vi p4, vi cp, vi rk, vr x, vi 1, vr ea, vi 1, vr r_1, un] [(.int y1), (.int 0), (.ref r_1)])) rfl hml.symm (argsL := [(.ref r_1), (.int 0), (.int y1)]) (rest := []) (lenOf pd_14 rfl) rfl (Nat.le_of_eq rfl) (B_ at_361) rfl rfl (by decide) (by decide)
  obtain ⟨rfl, rfl, Eh11⟩ := hQ11
  have N11 := Fr.app N4 (Fr.nil n0)
  refine jp_ st11 ?_
  show Go_ T11 (mkF mm_ 364 #[vi p1, vi p2, vi p3, vi p4, vi cp, vi rk, vr x, vi 1, vr ea, vi 1, vr r_1, un] [(.int 1)])
  refine sp_ (fun t_ k_ => XS.ifNo X11.here hx rfl (B_ at_364) rfl ((if0 _ _).trans (feq (by decide : ¬ ((1 : Int32) = (0 : Int32)))).1) k_) ?_
  show Go_ T11 (mkF mm_ 367 #[vi p1, vi p2, vi p3, vi p4, vi cp, vi rk, vr x, vi 1, vr ea, vi 1, vr r_1, un] [])
  refine sp_ (fun t_ k_ => XS.aload X11.here hx rfl (B_ at_367) rfl rfl (XS.iload X11.here hx rfl (B_ at_369) rfl  (XS.iconst X11.here hx rfl (B_ at_371) k_))) ?_
  show Go_ T11 (mkF mm_ 372 #[vi p1, vi p2, vi p3, vi p4, vi cp, vi rk, vr x, vi 1, vr ea, vi 1, vr r_1, un] [(.int 2), (.int 1), (.ref r_1)])
  refine sp_ (fun t_ k_ => XS.icmpYes X11.here hx rfl (pc0 := 372) (pc' := 379) rfl (B_ at_372) rfl (flt (by decide : ¬ ((2 : Int32) < (1 : Int32)))).2.2.2 (by decide) (by decide) k_) ?_
  show Go_ T11 (mkF mm_ 379 #[vi p1, vi p2, vi p3, vi p4, vi cp, vi rk, vr x, vi 1, vr ea, vi 1, vr r_1, un] [(.ref r_1)])
  refine sp_ (fun t_ k_ => XS.iconst X11.here hx rfl (B_ at_379) (XS.aload X11.here hx rfl (B_ at_380) rfl rfl (XS.iconst X11.here hx rfl (B_ at_382) k_))) ?_
  obtain ⟨cl14, Ar14, q14, S14, M14, H14, G14⟩ := id f9
  have hin14 : ¬ ((2 : Int32) < 0 ∨ cl14.slots.size ≤ ((2 : Int32)).toNatClampNeg) := inb_of S14 ⟨by decide, by decide⟩
  have hat14 : cl14.slots[((2 : Int32)).toNatClampNeg]? = some (.int y2) := Has.at H14 hin14 rfl
  refine sp_ (fun t_ k_ => X11.iaload hx (j := (2 : Int32)) (v := (.int y2)) (by rw [Eh11]; exact Ar14.1) (State.isArrayOf_alike hZ.alike Ar14.2.1) Ar14.2.2 hin14 hat14 (g := (mkF mm_ 383 #[vi p1, vi p2, vi p3, vi p4, vi cp, vi rk, vr x, vi 1, vr ea, vi 1, vr r_1, un] [(.int 2), (.ref ea), (.int 0), (.ref r_1)])) rfl rfl (B_ at_383) t_ k_) ?_
  obtain ⟨_, T15, Lc15, X15, hQ15, st15⟩ := own_cS X11 hx hZ hown (w_ hw 107 rfl) (w_ hw 108 rfl) (w_ hw 109 rfl) (w_ hw 110 rfl) (by decide) (backOf (W := 0) (rmSa l Z a0 hw [] r_1 y2 (1 : Int32) (1 : Int32) T4.heap n0 O13 f12 r4_2 r4_1 (by first | assumption | decide | (simp; done))) hZ (w_ hw 110 rfl) (w_ hw 109 rfl) (by decide) (by decide)) (g := (mkF mm_ 384 #[vi p1, vi p2, vi p3, vi p4, vi cp, vi rk, vr x, vi 1, vr ea, vi 1, vr r_1, un] [(.int y2), (.int 0), (.ref r_1)])) rfl hml.symm (argsL := [(.ref r_1), (.int 0), (.int y2)]) (rest := []) (lenOf pd_14 rfl) rfl (Nat.le_of_eq rfl) (B_ at_384) rfl Eh11 (by decide) (by decide)
  obtain ⟨rfl, rfl, Eh15⟩ := hQ15
  have N15 := Fr.app N11 (Fr.nil n0)
  refine jp_ st15 ?_
  show Go_ T15 (mkF mm_ 387 #[vi p1, vi p2, vi p3, vi p4, vi cp, vi rk, vr x, vi 1, vr ea, vi 1, vr r_1, un] [(.int 1)])
  refine sp_ (fun t_ k_ => XS.ifNo X15.here hx rfl (B_ at_387) rfl ((if0 _ _).trans (feq (by decide : ¬ ((1 : Int32) = (0 : Int32)))).1) k_) ?_
  show Go_ T15 (mkF mm_ 390 #[vi p1, vi p2, vi p3, vi p4, vi cp, vi rk, vr x, vi 1, vr ea, vi 1, vr r_1, un] [])
  refine sp_ (fun t_ k_ => XS.aload X15.here hx rfl (B_ at_390) rfl rfl (XS.iconst X15.here hx rfl (B_ at_392) (XS.iconst X15.here hx rfl (B_ at_393) k_))) ?_
  obtain ⟨_, T16, Lc16, X16, hQ16, st16⟩ := own_cS X15 hx hZ hown (w_ hw 107 rfl) (w_ hw 108 rfl) (w_ hw 109 rfl) (w_ hw 110 rfl) (by decide) (backOf (W := 0) (rmSa l Z a0 hw [] r_1 (0 : Int32) (1 : Int32) (1 : Int32) T4.heap n0 O13 f12 r4_2 r4_1 (by first | assumption | decide | (simp; done))) hZ (w_ hw 110 rfl) (w_ hw 109 rfl) (by decide) (by decide)) (g := (mkF mm_ 394 #[vi p1, vi p2, vi p3, vi p4, vi cp, vi rk, vr x, vi 1, vr ea, vi 1, vr r_1, un] [(.int 0), (.int 0), (.ref r_1)])) rfl hml.symm (argsL := [(.ref r_1), (.int 0), (.int 0)]) (rest := []) (lenOf pd_14 rfl) rfl (Nat.le_of_eq rfl) (B_ at_394) rfl Eh15 (by decide) (by decide)
  obtain ⟨rfl, rfl, Eh16⟩ := hQ16
  have N16 := Fr.app N15 (Fr.nil n0)
  refine jp_ st16 ?_
  show Go_ T16 (mkF mm_ 397 #[vi p1, vi p2, vi p3, vi p4, vi cp, vi rk, vr x, vi 1, vr ea, vi 1, vr r_1, un] [(.int 1)])
  refine sp_ (fun t_ k_ => XS.ifNo X16.here hx rfl (B_ at_397) rfl ((if0 _ _).trans (feq (by decide : ¬ ((1 : Int32) = (0 : Int32)))).1) k_) ?_
  show Go_ T16 (mkF mm_ 400 #[vi p1, vi p2, vi p3, vi p4, vi cp, vi rk, vr x, vi 1, vr ea, vi 1, vr r_1, un] [])
  refine sp_ (fun t_ k_ => XS.iconst X16.here hx rfl (B_ at_400) (XS.goto X16.here hx rfl (pc0 := 401) (pc' := 405) rfl (B_ at_401) (by decide) (by decide) k_)) ?_
  show Go_ T16 (mkF mm_ 405 #[vi p1, vi p2, vi p3, vi p4, vi cp, vi rk, vr x, vi 1, vr ea, vi 1, vr r_1, un] [(.int 1)])
  have K17 : Keep h0 T4.heap [] := ((Ks_.trans Kc1 all0).trans Kc4 (allS (Or.inr lo_r_1) all0))
  obtain ⟨fs, hr, hrun, hended, hW, hsame⟩ := X16.leave (v := some (.int 1)) (rN Bd.returns)
  refine ⟨_, _, ?_, hrun, hended, _, _, rfl, ?_, ⟨_, rfl⟩, hW, hsame.mono (by decide) (by decide)⟩
  · exact retN X16 hx (t := .boolean) Bd.returns (by simp) (B_ at_405) hr
  · show Qrm0 Z p1 p2 p3 p4 h0 n0 (some (.int 1)) T16.heap _
    rw [Eh16]
    exact ⟨rfl, N16, K17⟩
 have seg_e2u : ∀ (Ts_ : State) (locs_ : List Loc) (hs_ : Heap) (cp : Int32) (rk : Int32) (x : Addr) (ar : Addr) (ea : Addr) (k : ClassId) (ke : ClassId) (z : Int32) (r0 : Addr) (r1 : Addr) (v0 : Int32) (v1 : Int32) (y2 : Int32) (Xs_ : Stand pp_ l ee_ room_1 ss_ mm_ #[(.int p1), (.int p2), (.int p3), (.int p4)] bb_ me_ cc_ Ts_ locs_ 20 100) (es_ : Ts_.heap = hs_) (Ns_ : Fr n0 locs_) (Ks_ : Keep h0 hs_ []) (Os_ : Old Z n0 hs_)  (sp0_ : Exa Z hs_ x sc1) (sp1_ : Fld Z hs_ x sc1 "hashed" sc5 .null) (sp2_ : Fld Z hs_ x sc1 "members" sc3 (.ref ar)) (sp3_ : Fld Z hs_ x sc1 "size" "I" (.int 2)) (sp4_ : Arv Z hs_ ar k (.object sc2) z [(.ref r0), (.ref r1)] .null) (sp5_ : Exa Z hs_ ar sc3) (hz0 : (0 : Int32) < z) (hz1 : (1 : Int32) < z) (sp8_ : Exa Z hs_ r0 sc0) (sp9_ : Fld Z hs_ r0 sc0 "value" "I" (.int v0)) (sp10_ : Exa Z hs_ r1 sc0) (sp11_ : Fld Z hs_ r1 sc0 "value" "I" (.int v1)) (sp12_ : Arv Z hs_ ea ke .int (3 : Int32) [(.int v0), (.int v1), (.int y2)] (.int 0)), own_Go pp_ ee_ bb_ (fun s₂ oo_ => s₂.status = .running ∧ Ended s₂ bb_ oo_ ∧ (∃ vv_ LL_, oo_ = .returned vv_ ∧ Qrm0 Z p1 p2 p3 p4 h0 n0 vv_ s₂.heap LL_ ∧ FrameEnd ss_ oo_ s₂ LL_ room_1.cells room_1.slots)) Ts_ (mkF mm_ 310 #[vi p1, vi p2, vi p3, vi p4, vi cp, vi rk, vr x, vi 1, vr ea, vi 2, un, un] []) := by
  intro Ts_ locs_ hs_ cp rk x ar ea k ke z r0 r1 v0 v1 y2  Xs_ es_ Ns_ Ks_ Os_  sp0_ sp1_ sp2_ sp3_ sp4_ sp5_ hz0 hz1 sp8_ sp9_ sp10_ sp11_ sp12_
  show Go_ Ts_ (mkF mm_ 310 #[vi p1, vi p2, vi p3, vi p4, vi cp, vi rk, vr x, vi 1, vr ea, vi 2, un, un] [])
  refine sp_ (fun t_ k_ => XS.aload Xs_.here hx rfl (B_ at_310) rfl rfl k_) ?_
  obtain ⟨_, T18, Lc18, X18, hQ18, st18⟩ := own_cV Xs_ hx hZ hown (w_ hw 91 rfl) (w_ hw 92 rfl) (notFace_of_selects (args := #[]) (mvT hZ (w_ hw 94 rfl))) (w_ hw 94 rfl) (w_ hw 93 rfl) (by decide) (backOf (W := 0) (rmIt l Z a0 hw [] x ar (2 : Int32) hs_ n0 Os_ sp1_ sp2_ sp3_) hZ (w_ hw 95 rfl) (w_ hw 2 rfl) (by decide) (by decide)) sp0_ (g := (mkF mm_ 312 #[vi p1, vi p2, vi p3, vi p4, vi cp, vi rk, vr x, vi 1, vr ea, vi 2, un, un] [(.ref x)])) rfl hml.symm (argsL := []) (rest := []) (lenOf pd_13 rfl) rfl (Nat.le_of_eq rfl) (B_ at_312) rfl es_ (by decide) (by decide)
  obtain ⟨r_18, rfl, Nq18, Kc18, r18_0, r18_1, r18_2, r18_3, r18_4⟩ := hQ18
  have N18 := Fr.app Ns_ Nq18
  have lo_r_18 : h0.size ≤ r_18 := Nat.le_trans Ks_.1 r18_0
  have g_r_18 : n0 ≤ r_18 := Nat.le_trans Z0 lo_r_18
  refine jp_ st18 ?_
  show Go_ T18 (mkF mm_ 315 #[vi p1, vi p2, vi p3, vi p4, vi cp, vi rk, vr x, vi 1, vr ea, vi 2, un, un] [(.ref r_18)])
  refine sp_ (fun t_ k_ => XS.astore X18.here hx rfl (B_ at_315) rfl rfl (l' := #[vi p1, vi p2, vi p3, vi p4, vi cp, vi rk, vr x, vi 1, vr ea, vi 2, vr r_18, un]) rfl (XS.iload X18.here hx rfl (B_ at_317) rfl  k_)) ?_
  show Go_ T18 (mkF mm_ 319 #[vi p1, vi p2, vi p3, vi p4, vi cp, vi rk, vr x, vi 1, vr ea, vi 2, vr r_18, un] [(.int 1)])
  refine sp_ (fun t_ k_ => XS.ifNo X18.here hx rfl (B_ at_319) rfl ((if0 _ _).trans (feq (by decide : ¬ ((1 : Int32) = (0 : Int32)))).1) k_) ?_
  show Go_ T18 (mkF mm_ 322 #[vi p1, vi p2, vi p3, vi p4, vi cp, vi rk, vr x, vi 1, vr ea, vi 2, vr r_18, un] [])
  refine sp_ (fun t_ k_ => XS.aload X18.here hx rfl (B_ at_322) rfl rfl (XS.iload X18.here hx rfl (B_ at_324) rfl  k_)) ?_
  show Go_ T18 (mkF mm_ 326 #[vi p1, vi p2, vi p3, vi p4, vi cp, vi rk, vr x, vi 1, vr ea, vi 2, vr r_18, un] [(.int 2), (.ref r_18)])
  refine sp_ (fun t_ k_ => XS.ifNo X18.here hx rfl (B_ at_326) rfl ((if0 _ _).trans (tlt (by decide : (0 : Int32) < (2 : Int32))).2.2.2) k_) ?_
  show Go_ T18 (mkF mm_ 329 #[vi p1, vi p2, vi p3, vi p4, vi cp, vi rk, vr x, vi 1, vr ea, vi 2, vr r_18, un] [(.ref r_18)])
  refine sp_ (fun t_ k_ => XS.iconst X18.here hx rfl (B_ at_329) (XS.goto X18.here hx rfl (pc0 := 330) (pc' := 334) rfl (B_ at_330) (by decide) (by decide) (XS.aload X18.here hx rfl (B_ at_334) rfl rfl (XS.iconst X18.here hx rfl (B_ at_336) k_)))) ?_
  have f19 : Arv Z T18.heap ea ke .int (3 : Int32) [(.int v0), (.int v1), (.int y2)] (.int 0) := (sp12_.keep Kc18 nin0)
  obtain ⟨cl20, Ar20, q20, S20, M20, H20, G20⟩ := id f19
  have hin20 : ¬ ((0 : Int32) < 0 ∨ cl20.slots.size ≤ ((0 : Int32)).toNatClampNeg) := inb_of S20 ⟨by decide, by decide⟩
  have hat20 : cl20.slots[((0 : Int32)).toNatClampNeg]? = some (.int v0) := Has.at H20 hin20 rfl
  refine sp_ (fun t_ k_ => X18.iaload hx (j := (0 : Int32)) (v := (.int v0)) Ar20.1 (State.isArrayOf_alike hZ.alike Ar20.2.1) Ar20.2.2 hin20 hat20 (g := (mkF mm_ 337 #[vi p1, vi p2, vi p3, vi p4, vi cp, vi rk, vr x, vi 1, vr ea, vi 2, vr r_18, un] [(.int 0), (.ref ea), (.int 1), (.ref r_18)])) rfl rfl (B_ at_337) t_ k_) ?_
  have f22 : Arv Z T18.heap ar k (.object sc2) z [(.ref r0), (.ref r1)] .null := (sp4_.keep Kc18 nin0)
  have f23 : Exa Z T18.heap r0 sc0 := (sp8_.keep Kc18)
  have f24 : Fld Z T18.heap r0 sc0 "value" "I" (.int v0) := (sp9_.keep Kc18 nin0)
  have O25 : Old Z n0 T18.heap := (Os_.keep Kc18 all0)
  obtain ⟨_, T21, Lc21, X21, hQ21, st21⟩ := own_cS X18 hx hZ hown (w_ hw 107 rfl) (w_ hw 108 rfl) (w_ hw 109 rfl) (w_ hw 110 rfl) (by decide) (backOf (W := 0) (rmSp2_0 l Z a0 hw [] r_18 v0 ar k z r0 r1 T18.heap n0 O25 r18_1 g_r_18 r18_2 r18_3 r18_4 f22 hz0 f23 f24) hZ (w_ hw 110 rfl) (w_ hw 109 rfl) (by decide) (by decide)) (g := (mkF mm_ 338 #[vi p1, vi p2, vi p3, vi p4, vi cp, vi rk, vr x, vi 1, vr ea, vi 2, vr r_18, un] [(.int v0), (.int 1), (.ref r_18)])) rfl hml.symm (argsL := [(.ref r_18), (.int 1), (.int v0)]) (rest := []) (lenOf pd_14 rfl) rfl (Nat.le_of_eq rfl) (B_ at_338) rfl rfl (by decide) (by decide)
  obtain ⟨rfl, Nq21, Kc21, r21_0, r21_1, r21_2⟩ := hQ21
  have N21 := Fr.app N18 Nq21
  refine jp_ st21 ?_
  show Go_ T21 (mkF mm_ 341 #[vi p1, vi p2, vi p3, vi p4, vi cp, vi rk, vr x, vi 1, vr ea, vi 2, vr r_18, un] [(.int 1)])
  refine sp_ (fun t_ k_ => XS.ifNo X21.here hx rfl (B_ at_341) rfl ((if0 _ _).trans (feq (by decide : ¬ ((1 : Int32) = (0 : Int32)))).1) k_) ?_
  show Go_ T21 (mkF mm_ 344 #[vi p1, vi p2, vi p3, vi p4, vi cp, vi rk, vr x, vi 1, vr ea, vi 2, vr r_18, un] [])
  refine sp_ (fun t_ k_ => XS.aload X21.here hx rfl (B_ at_344) rfl rfl (XS.iload X21.here hx rfl (B_ at_346) rfl  (XS.iconst X21.here hx rfl (B_ at_348) k_))) ?_
  show Go_ T21 (mkF mm_ 349 #[vi p1, vi p2, vi p3, vi p4, vi cp, vi rk, vr x, vi 1, vr ea, vi 2, vr r_18, un] [(.int 1), (.int 2), (.ref r_18)])
  refine sp_ (fun t_ k_ => XS.icmpNo X21.here hx rfl (B_ at_349) rfl (tlt (by decide : (1 : Int32) < (2 : Int32))).2.2.2 k_) ?_
  show Go_ T21 (mkF mm_ 352 #[vi p1, vi p2, vi p3, vi p4, vi cp, vi rk, vr x, vi 1, vr ea, vi 2, vr r_18, un] [(.ref r_18)])
  refine sp_ (fun t_ k_ => XS.iconst X21.here hx rfl (B_ at_352) (XS.goto X21.here hx rfl (pc0 := 353) (pc' := 357) rfl (B_ at_353) (by decide) (by decide) (XS.aload X21.here hx rfl (B_ at_357) rfl rfl (XS.iconst X21.here hx rfl (B_ at_359) k_)))) ?_
  have f26 : Arv Z T21.heap ea ke .int (3 : Int32) [(.int v0), (.int v1), (.int y2)] (.int 0) := (f19.keep Kc21 (ninS (Nat.ne_of_lt (Nat.lt_of_lt_of_le sp12_.lt r18_0)) nin0))
  obtain ⟨cl27, Ar27, q27, S27, M27, H27, G27⟩ := id f26
  have hin27 : ¬ ((1 : Int32) < 0 ∨ cl27.slots.size ≤ ((1 : Int32)).toNatClampNeg) := inb_of S27 ⟨by decide, by decide⟩
  have hat27 : cl27.slots[((1 : Int32)).toNatClampNeg]? = some (.int v1) := Has.at H27 hin27 rfl
  refine sp_ (fun t_ k_ => X21.iaload hx (j := (1 : Int32)) (v := (.int v1)) Ar27.1 (State.isArrayOf_alike hZ.alike Ar27.2.1) Ar27.2.2 hin27 hat27 (g := (mkF mm_ 360 #[vi p1, vi p2, vi p3, vi p4, vi cp, vi rk, vr x, vi 1, vr ea, vi 2, vr r_18, un] [(.int 1), (.ref ea), (.int 1), (.ref r_18)])) rfl rfl (B_ at_360) t_ k_) ?_
  have f29 : Exa Z T21.heap r_18 sc4 := (r18_1.keep Kc21)
  have f30 : Arv Z T21.heap ar k (.object sc2) z [(.ref r0), (.ref r1)] .null := (f22.keep Kc21 (ninS (Nat.ne_of_lt (Nat.lt_of_lt_of_le sp4_.lt r18_0)) nin0))
  have f31 : Exa Z T21.heap r1 sc0 := ((sp10_.keep Kc18).keep Kc21)
  have f32 : Fld Z T21.heap r1 sc0 "value" "I" (.int v1) := ((sp11_.keep Kc18 nin0).keep Kc21 (ninS (Nat.ne_of_lt (Nat.lt_of_lt_of_le sp10_.lt r18_0)) nin0))
  have O33 : Old Z n0 T21.heap := (O25.keep Kc21 (allS g_r_18 all0))
  obtain ⟨_, T28, Lc28, X28, hQ28, st28⟩ := own_cS X21 hx hZ hown (w_ hw 107 rfl) (w_ hw 108 rfl) (w_ hw 109 rfl) (w_ hw 110 rfl) (by decide) (backOf (W := 0) (rmSp2_1 l Z a0 hw [] r_18 v1 ar k z r0 r1 T21.heap n0 O33 f29 g_r_18 r21_0 r21_1 r21_2 f30 hz1 f31 f32) hZ (w_ hw 110 rfl) (w_ hw 109 rfl) (by decide) (by decide)) (g := (mkF mm_ 361 #[vi p1, vi p2, vi p3, vi p4, vi cp, vi rk, vr x, vi 1, vr ea, vi 2, vr r_18, un] [(.int v1), (.int 1), (.ref r_18)])) rfl hml.symm (argsL := [(.ref r_18), (.int 1), (.int v1)]) (rest := []) (lenOf pd_14 rfl) rfl (Nat.le_of_eq rfl) (B_ at_361) rfl rfl (by decide) (by decide)
  obtain ⟨rfl, Nq28, Kc28, r28_0, r28_1, r28_2⟩ := hQ28
  have N28 := Fr.app N21 Nq28
  refine jp_ st28 ?_
  show Go_ T28 (mkF mm_ 364 #[vi p1, vi p2, vi p3, vi p4, vi cp, vi rk, vr x, vi 1, vr ea, vi 2, vr r_18, un] [(.int 1)])
  refine sp_ (fun t_ k_ => XS.ifNo X28.here hx rfl (B_ at_364) rfl ((if0 _ _).trans (feq (by decide : ¬ ((1 : Int32) = (0 : Int32)))).1) k_) ?_
  show Go_ T28 (mkF mm_ 367 #[vi p1, vi p2, vi p3, vi p4, vi cp, vi rk, vr x, vi 1, vr ea, vi 2, vr r_18, un] [])
  refine sp_ (fun t_ k_ => XS.aload X28.here hx rfl (B_ at_367) rfl rfl (XS.iload X28.here hx rfl (B_ at_369) rfl  (XS.iconst X28.here hx rfl (B_ at_371) k_))) ?_
  show Go_ T28 (mkF mm_ 372 #[vi p1, vi p2, vi p3, vi p4, vi cp, vi rk, vr x, vi 1, vr ea, vi 2, vr r_18, un] [(.int 2), (.int 2), (.ref r_18)])
  refine sp_ (fun t_ k_ => XS.icmpYes X28.here hx rfl (pc0 := 372) (pc' := 379) rfl (B_ at_372) rfl (flt (by decide : ¬ ((2 : Int32) < (2 : Int32)))).2.2.2 (by decide) (by decide) k_) ?_
  show Go_ T28 (mkF mm_ 379 #[vi p1, vi p2, vi p3, vi p4, vi cp, vi rk, vr x, vi 1, vr ea, vi 2, vr r_18, un] [(.ref r_18)])
  refine sp_ (fun t_ k_ => XS.iconst X28.here hx rfl (B_ at_379) (XS.aload X28.here hx rfl (B_ at_380) rfl rfl (XS.iconst X28.here hx rfl (B_ at_382) k_))) ?_
  have f34 : Arv Z T28.heap ea ke .int (3 : Int32) [(.int v0), (.int v1), (.int y2)] (.int 0) := (f26.keep Kc28 (ninS (Nat.ne_of_lt (Nat.lt_of_lt_of_le sp12_.lt r18_0)) nin0))
  obtain ⟨cl35, Ar35, q35, S35, M35, H35, G35⟩ := id f34
  have hin35 : ¬ ((2 : Int32) < 0 ∨ cl35.slots.size ≤ ((2 : Int32)).toNatClampNeg) := inb_of S35 ⟨by decide, by decide⟩
  have hat35 : cl35.slots[((2 : Int32)).toNatClampNeg]? = some (.int y2) := Has.at H35 hin35 rfl
  refine sp_ (fun t_ k_ => X28.iaload hx (j := (2 : Int32)) (v := (.int y2)) Ar35.1 (State.isArrayOf_alike hZ.alike Ar35.2.1) Ar35.2.2 hin35 hat35 (g := (mkF mm_ 383 #[vi p1, vi p2, vi p3, vi p4, vi cp, vi rk, vr x, vi 1, vr ea, vi 2, vr r_18, un] [(.int 2), (.ref ea), (.int 0), (.ref r_18)])) rfl rfl (B_ at_383) t_ k_) ?_
  have f37 : Exa Z T28.heap r_18 sc4 := (f29.keep Kc28)
  have O38 : Old Z n0 T28.heap := (O33.keep Kc28 (allS g_r_18 all0))
  obtain ⟨_, T36, Lc36, X36, hQ36, st36⟩ := own_cS X28 hx hZ hown (w_ hw 107 rfl) (w_ hw 108 rfl) (w_ hw 109 rfl) (w_ hw 110 rfl) (by decide) (backOf (W := 0) (rmSa l Z a0 hw [] r_18 y2 (2 : Int32) (2 : Int32) T28.heap n0 O38 f37 r28_2 r28_1 (by first | assumption | decide | (simp; done))) hZ (w_ hw 110 rfl) (w_ hw 109 rfl) (by decide) (by decide)) (g := (mkF mm_ 384 #[vi p1, vi p2, vi p3, vi p4, vi cp, vi rk, vr x, vi 1, vr ea, vi 2, vr r_18, un] [(.int y2), (.int 0), (.ref r_18)])) rfl hml.symm (argsL := [(.ref r_18), (.int 0), (.int y2)]) (rest := []) (lenOf pd_14 rfl) rfl (Nat.le_of_eq rfl) (B_ at_384) rfl rfl (by decide) (by decide)
  obtain ⟨rfl, rfl, Eh36⟩ := hQ36
  have N36 := Fr.app N28 (Fr.nil n0)
  refine jp_ st36 ?_
  show Go_ T36 (mkF mm_ 387 #[vi p1, vi p2, vi p3, vi p4, vi cp, vi rk, vr x, vi 1, vr ea, vi 2, vr r_18, un] [(.int 1)])
  refine sp_ (fun t_ k_ => XS.ifNo X36.here hx rfl (B_ at_387) rfl ((if0 _ _).trans (feq (by decide : ¬ ((1 : Int32) = (0 : Int32)))).1) k_) ?_
  show Go_ T36 (mkF mm_ 390 #[vi p1, vi p2, vi p3, vi p4, vi cp, vi rk, vr x, vi 1, vr ea, vi 2, vr r_18, un] [])
  refine sp_ (fun t_ k_ => XS.aload X36.here hx rfl (B_ at_390) rfl rfl (XS.iconst X36.here hx rfl (B_ at_392) (XS.iconst X36.here hx rfl (B_ at_393) k_))) ?_
  obtain ⟨_, T39, Lc39, X39, hQ39, st39⟩ := own_cS X36 hx hZ hown (w_ hw 107 rfl) (w_ hw 108 rfl) (w_ hw 109 rfl) (w_ hw 110 rfl) (by decide) (backOf (W := 0) (rmSa l Z a0 hw [] r_18 (0 : Int32) (2 : Int32) (2 : Int32) T28.heap n0 O38 f37 r28_2 r28_1 (by first | assumption | decide | (simp; done))) hZ (w_ hw 110 rfl) (w_ hw 109 rfl) (by decide) (by decide)) (g := (mkF mm_ 394 #[vi p1, vi p2, vi p3, vi p4, vi cp, vi rk, vr x, vi 1, vr ea, vi 2, vr r_18, un] [(.int 0), (.int 0), (.ref r_18)])) rfl hml.symm (argsL := [(.ref r_18), (.int 0), (.int 0)]) (rest := []) (lenOf pd_14 rfl) rfl (Nat.le_of_eq rfl) (B_ at_394) rfl Eh36 (by decide) (by decide)
  obtain ⟨rfl, rfl, Eh39⟩ := hQ39
  have N39 := Fr.app N36 (Fr.nil n0)
  refine jp_ st39 ?_
  show Go_ T39 (mkF mm_ 397 #[vi p1, vi p2, vi p3, vi p4, vi cp, vi rk, vr x, vi 1, vr ea, vi 2, vr r_18, un] [(.int 1)])
  refine sp_ (fun t_ k_ => XS.ifNo X39.here hx rfl (B_ at_397) rfl ((if0 _ _).trans (feq (by decide : ¬ ((1 : Int32) = (0 : Int32)))).1) k_) ?_
  show Go_ T39 (mkF mm_ 400 #[vi p1, vi p2, vi p3, vi p4, vi cp, vi rk, vr x, vi 1, vr ea, vi 2, vr r_18, un] [])
  refine sp_ (fun t_ k_ => XS.iconst X39.here hx rfl (B_ at_400) (XS.goto X39.here hx rfl (pc0 := 401) (pc' := 405) rfl (B_ at_401) (by decide) (by decide) k_)) ?_
  show Go_ T39 (mkF mm_ 405 #[vi p1, vi p2, vi p3, vi p4, vi cp, vi rk, vr x, vi 1, vr ea, vi 2, vr r_18, un] [(.int 1)])
  have K40 : Keep h0 T28.heap [] := (((Ks_.trans Kc18 all0).trans Kc21 (allS (Or.inr lo_r_18) all0)).trans Kc28 (allS (Or.inr lo_r_18) all0))
  obtain ⟨fs, hr, hrun, hended, hW, hsame⟩ := X39.leave (v := some (.int 1)) (rN Bd.returns)
  refine ⟨_, _, ?_, hrun, hended, _, _, rfl, ?_, ⟨_, rfl⟩, hW, hsame.mono (by decide) (by decide)⟩
  · exact retN X39 hx (t := .boolean) Bd.returns (by simp) (B_ at_405) hr
  · show Qrm0 Z p1 p2 p3 p4 h0 n0 (some (.int 1)) T39.heap _
    rw [Eh39]
    exact ⟨rfl, N39, K40⟩
 have seg_e3u : ∀ (Ts_ : State) (locs_ : List Loc) (hs_ : Heap) (cp : Int32) (rk : Int32) (x : Addr) (ar : Addr) (ea : Addr) (k : ClassId) (ke : ClassId) (z : Int32) (r0 : Addr) (r1 : Addr) (r2 : Addr) (v0 : Int32) (v1 : Int32) (v2 : Int32) (Xs_ : Stand pp_ l ee_ room_1 ss_ mm_ #[(.int p1), (.int p2), (.int p3), (.int p4)] bb_ me_ cc_ Ts_ locs_ 20 100) (es_ : Ts_.heap = hs_) (Ns_ : Fr n0 locs_) (Ks_ : Keep h0 hs_ []) (Os_ : Old Z n0 hs_)  (sp0_ : Exa Z hs_ x sc1) (sp1_ : Fld Z hs_ x sc1 "hashed" sc5 .null) (sp2_ : Fld Z hs_ x sc1 "members" sc3 (.ref ar)) (sp3_ : Fld Z hs_ x sc1 "size" "I" (.int 3)) (sp4_ : Arv Z hs_ ar k (.object sc2) z [(.ref r0), (.ref r1), (.ref r2)] .null) (sp5_ : Exa Z hs_ ar sc3) (hz0 : (0 : Int32) < z) (hz1 : (1 : Int32) < z) (hz2 : (2 : Int32) < z) (sp9_ : Exa Z hs_ r0 sc0) (sp10_ : Fld Z hs_ r0 sc0 "value" "I" (.int v0)) (sp11_ : Exa Z hs_ r1 sc0) (sp12_ : Fld Z hs_ r1 sc0 "value" "I" (.int v1)) (sp13_ : Exa Z hs_ r2 sc0) (sp14_ : Fld Z hs_ r2 sc0 "value" "I" (.int v2)) (sp15_ : Arv Z hs_ ea ke .int (3 : Int32) [(.int v0), (.int v1), (.int v2)] (.int 0)), own_Go pp_ ee_ bb_ (fun s₂ oo_ => s₂.status = .running ∧ Ended s₂ bb_ oo_ ∧ (∃ vv_ LL_, oo_ = .returned vv_ ∧ Qrm0 Z p1 p2 p3 p4 h0 n0 vv_ s₂.heap LL_ ∧ FrameEnd ss_ oo_ s₂ LL_ room_1.cells room_1.slots)) Ts_ (mkF mm_ 310 #[vi p1, vi p2, vi p3, vi p4, vi cp, vi rk, vr x, vi 1, vr ea, vi 3, un, un] []) := by
  intro Ts_ locs_ hs_ cp rk x ar ea k ke z r0 r1 r2 v0 v1 v2  Xs_ es_ Ns_ Ks_ Os_  sp0_ sp1_ sp2_ sp3_ sp4_ sp5_ hz0 hz1 hz2 sp9_ sp10_ sp11_ sp12_ sp13_ sp14_ sp15_
  show Go_ Ts_ (mkF mm_ 310 #[vi p1, vi p2, vi p3, vi p4, vi cp, vi rk, vr x, vi 1, vr ea, vi 3, un, un] [])
  refine sp_ (fun t_ k_ => XS.aload Xs_.here hx rfl (B_ at_310) rfl rfl k_) ?_
  obtain ⟨_, T41, Lc41, X41, hQ41, st41⟩ := own_cV Xs_ hx hZ hown (w_ hw 91 rfl) (w_ hw 92 rfl) (notFace_of_selects (args := #[]) (mvT hZ (w_ hw 94 rfl))) (w_ hw 94 rfl) (w_ hw 93 rfl) (by decide) (backOf (W := 0) (rmIt l Z a0 hw [] x ar (3 : Int32) hs_ n0 Os_ sp1_ sp2_ sp3_) hZ (w_ hw 95 rfl) (w_ hw 2 rfl) (by decide) (by decide)) sp0_ (g := (mkF mm_ 312 #[vi p1, vi p2, vi p3, vi p4, vi cp, vi rk, vr x, vi 1, vr ea, vi 3, un, un] [(.ref x)])) rfl hml.symm (argsL := []) (rest := []) (lenOf pd_13 rfl) rfl (Nat.le_of_eq rfl) (B_ at_312) rfl es_ (by decide) (by decide)
  obtain ⟨r_41, rfl, Nq41, Kc41, r41_0, r41_1, r41_2, r41_3, r41_4⟩ := hQ41
  have N41 := Fr.app Ns_ Nq41
  have lo_r_41 : h0.size ≤ r_41 := Nat.le_trans Ks_.1 r41_0
  have g_r_41 : n0 ≤ r_41 := Nat.le_trans Z0 lo_r_41
  refine jp_ st41 ?_
  show Go_ T41 (mkF mm_ 315 #[vi p1, vi p2, vi p3, vi p4, vi cp, vi rk, vr x, vi 1, vr ea, vi 3, un, un] [(.ref r_41)])
  refine sp_ (fun t_ k_ => XS.astore X41.here hx rfl (B_ at_315) rfl rfl (l' := #[vi p1, vi p2, vi p3, vi p4, vi cp, vi rk, vr x, vi 1, vr ea, vi 3, vr r_41, un]) rfl (XS.iload X41.here hx rfl (B_ at_317) rfl  k_)) ?_
  show Go_ T41 (mkF mm_ 319 #[vi p1, vi p2, vi p3, vi p4, vi cp, vi rk, vr x, vi 1, vr ea, vi 3, vr r_41, un] [(.int 1)])
  refine sp_ (fun t_ k_ => XS.ifNo X41.here hx rfl (B_ at_319) rfl ((if0 _ _).trans (feq (by decide : ¬ ((1 : Int32) = (0 : Int32)))).1) k_) ?_
  show Go_ T41 (mkF mm_ 322 #[vi p1, vi p2, vi p3, vi p4, vi cp, vi rk, vr x, vi 1, vr ea, vi 3, vr r_41, un] [])
  refine sp_ (fun t_ k_ => XS.aload X41.here hx rfl (B_ at_322) rfl rfl (XS.iload X41.here hx rfl (B_ at_324) rfl  k_)) ?_
  show Go_ T41 (mkF mm_ 326 #[vi p1, vi p2, vi p3, vi p4, vi cp, vi rk, vr x, vi 1, vr ea, vi 3, vr r_41, un] [(.int 3), (.ref r_41)])
  refine sp_ (fun t_ k_ => XS.ifNo X41.here hx rfl (B_ at_326) rfl ((if0 _ _).trans (tlt (by decide : (0 : Int32) < (3 : Int32))).2.2.2) k_) ?_
  show Go_ T41 (mkF mm_ 329 #[vi p1, vi p2, vi p3, vi p4, vi cp, vi rk, vr x, vi 1, vr ea, vi 3, vr r_41, un] [(.ref r_41)])
  refine sp_ (fun t_ k_ => XS.iconst X41.here hx rfl (B_ at_329) (XS.goto X41.here hx rfl (pc0 := 330) (pc' := 334) rfl (B_ at_330) (by decide) (by decide) (XS.aload X41.here hx rfl (B_ at_334) rfl rfl (XS.iconst X41.here hx rfl (B_ at_336) k_)))) ?_
  have f42 : Arv Z T41.heap ea ke .int (3 : Int32) [(.int v0), (.int v1), (.int v2)] (.int 0) := (sp15_.keep Kc41 nin0)
  obtain ⟨cl43, Ar43, q43, S43, M43, H43, G43⟩ := id f42
  have hin43 : ¬ ((0 : Int32) < 0 ∨ cl43.slots.size ≤ ((0 : Int32)).toNatClampNeg) := inb_of S43 ⟨by decide, by decide⟩
  have hat43 : cl43.slots[((0 : Int32)).toNatClampNeg]? = some (.int v0) := Has.at H43 hin43 rfl
  refine sp_ (fun t_ k_ => X41.iaload hx (j := (0 : Int32)) (v := (.int v0)) Ar43.1 (State.isArrayOf_alike hZ.alike Ar43.2.1) Ar43.2.2 hin43 hat43 (g := (mkF mm_ 337 #[vi p1, vi p2, vi p3, vi p4, vi cp, vi rk, vr x, vi 1, vr ea, vi 3, vr r_41, un] [(.int 0), (.ref ea), (.int 1), (.ref r_41)])) rfl rfl (B_ at_337) t_ k_) ?_
  have f45 : Arv Z T41.heap ar k (.object sc2) z [(.ref r0), (.ref r1), (.ref r2)] .null := (sp4_.keep Kc41 nin0)
  have f46 : Exa Z T41.heap r0 sc0 := (sp9_.keep Kc41)
  have f47 : Fld Z T41.heap r0 sc0 "value" "I" (.int v0) := (sp10_.keep Kc41 nin0)
  have O48 : Old Z n0 T41.heap := (Os_.keep Kc41 all0)
  obtain ⟨_, T44, Lc44, X44, hQ44, st44⟩ := own_cS X41 hx hZ hown (w_ hw 107 rfl) (w_ hw 108 rfl) (w_ hw 109 rfl) (w_ hw 110 rfl) (by decide) (backOf (W := 0) (rmSp3_0 l Z a0 hw [] r_41 v0 ar k z r0 r1 r2 T41.heap n0 O48 r41_1 g_r_41 r41_2 r41_3 r41_4 f45 hz0 f46 f47) hZ (w_ hw 110 rfl) (w_ hw 109 rfl) (by decide) (by decide)) (g := (mkF mm_ 338 #[vi p1, vi p2, vi p3, vi p4, vi cp, vi rk, vr x, vi 1, vr ea, vi 3, vr r_41, un] [(.int v0), (.int 1), (.ref r_41)])) rfl hml.symm (argsL := [(.ref r_41), (.int 1), (.int v0)]) (rest := []) (lenOf pd_14 rfl) rfl (Nat.le_of_eq rfl) (B_ at_338) rfl rfl (by decide) (by decide)
  obtain ⟨rfl, Nq44, Kc44, r44_0, r44_1, r44_2⟩ := hQ44
  have N44 := Fr.app N41 Nq44
  refine jp_ st44 ?_
  show Go_ T44 (mkF mm_ 341 #[vi p1, vi p2, vi p3, vi p4, vi cp, vi rk, vr x, vi 1, vr ea, vi 3, vr r_41, un] [(.int 1)])
  refine sp_ (fun t_ k_ => XS.ifNo X44.here hx rfl (B_ at_341) rfl ((if0 _ _).trans (feq (by decide : ¬ ((1 : Int32) = (0 : Int32)))).1) k_) ?_
  show Go_ T44 (mkF mm_ 344 #[vi p1, vi p2, vi p3, vi p4, vi cp, vi rk, vr x, vi 1, vr ea, vi 3, vr r_41, un] [])
  refine sp_ (fun t_ k_ => XS.aload X44.here hx rfl (B_ at_344) rfl rfl (XS.iload X44.here hx rfl (B_ at_346) rfl  (XS.iconst X44.here hx rfl (B_ at_348) k_))) ?_
  show Go_ T44 (mkF mm_ 349 #[vi p1, vi p2, vi p3, vi p4, vi cp, vi rk, vr x, vi 1, vr ea, vi 3, vr r_41, un] [(.int 1), (.int 3), (.ref r_41)])
  refine sp_ (fun t_ k_ => XS.icmpNo X44.here hx rfl (B_ at_349) rfl (tlt (by decide : (1 : Int32) < (3 : Int32))).2.2.2 k_) ?_
  show Go_ T44 (mkF mm_ 352 #[vi p1, vi p2, vi p3, vi p4, vi cp, vi rk, vr x, vi 1, vr ea, vi 3, vr r_41, un] [(.ref r_41)])
  refine sp_ (fun t_ k_ => XS.iconst X44.here hx rfl (B_ at_352) (XS.goto X44.here hx rfl (pc0 := 353) (pc' := 357) rfl (B_ at_353) (by decide) (by decide) (XS.aload X44.here hx rfl (B_ at_357) rfl rfl (XS.iconst X44.here hx rfl (B_ at_359) k_)))) ?_
  have f49 : Arv Z T44.heap ea ke .int (3 : Int32) [(.int v0), (.int v1), (.int v2)] (.int 0) := (f42.keep Kc44 (ninS (Nat.ne_of_lt (Nat.lt_of_lt_of_le sp15_.lt r41_0)) nin0))
  obtain ⟨cl50, Ar50, q50, S50, M50, H50, G50⟩ := id f49
  have hin50 : ¬ ((1 : Int32) < 0 ∨ cl50.slots.size ≤ ((1 : Int32)).toNatClampNeg) := inb_of S50 ⟨by decide, by decide⟩
  have hat50 : cl50.slots[((1 : Int32)).toNatClampNeg]? = some (.int v1) := Has.at H50 hin50 rfl
  refine sp_ (fun t_ k_ => X44.iaload hx (j := (1 : Int32)) (v := (.int v1)) Ar50.1 (State.isArrayOf_alike hZ.alike Ar50.2.1) Ar50.2.2 hin50 hat50 (g := (mkF mm_ 360 #[vi p1, vi p2, vi p3, vi p4, vi cp, vi rk, vr x, vi 1, vr ea, vi 3, vr r_41, un] [(.int 1), (.ref ea), (.int 1), (.ref r_41)])) rfl rfl (B_ at_360) t_ k_) ?_
  have f52 : Exa Z T44.heap r_41 sc4 := (r41_1.keep Kc44)
  have f53 : Arv Z T44.heap ar k (.object sc2) z [(.ref r0), (.ref r1), (.ref r2)] .null := (f45.keep Kc44 (ninS (Nat.ne_of_lt (Nat.lt_of_lt_of_le sp4_.lt r41_0)) nin0))
  have f54 : Exa Z T44.heap r1 sc0 := ((sp11_.keep Kc41).keep Kc44)
  have f55 : Fld Z T44.heap r1 sc0 "value" "I" (.int v1) := ((sp12_.keep Kc41 nin0).keep Kc44 (ninS (Nat.ne_of_lt (Nat.lt_of_lt_of_le sp11_.lt r41_0)) nin0))
  have O56 : Old Z n0 T44.heap := (O48.keep Kc44 (allS g_r_41 all0))
  obtain ⟨_, T51, Lc51, X51, hQ51, st51⟩ := own_cS X44 hx hZ hown (w_ hw 107 rfl) (w_ hw 108 rfl) (w_ hw 109 rfl) (w_ hw 110 rfl) (by decide) (backOf (W := 0) (rmSp3_1 l Z a0 hw [] r_41 v1 ar k z r0 r1 r2 T44.heap n0 O56 f52 g_r_41 r44_0 r44_1 r44_2 f53 hz1 f54 f55) hZ (w_ hw 110 rfl) (w_ hw 109 rfl) (by decide) (by decide)) (g := (mkF mm_ 361 #[vi p1, vi p2, vi p3, vi p4, vi cp, vi rk, vr x, vi 1, vr ea, vi 3, vr r_41, un] [(.int v1), (.int 1), (.ref r_41)])) rfl hml.symm (argsL := [(.ref r_41), (.int 1), (.int v1)]) (rest := []) (lenOf pd_14 rfl) rfl (Nat.le_of_eq rfl) (B_ at_361) rfl rfl (by decide) (by decide)
  obtain ⟨rfl, Nq51, Kc51, r51_0, r51_1, r51_2⟩ := hQ51
  have N51 := Fr.app N44 Nq51
  refine jp_ st51 ?_
  show Go_ T51 (mkF mm_ 364 #[vi p1, vi p2, vi p3, vi p4, vi cp, vi rk, vr x, vi 1, vr ea, vi 3, vr r_41, un] [(.int 1)])
  refine sp_ (fun t_ k_ => XS.ifNo X51.here hx rfl (B_ at_364) rfl ((if0 _ _).trans (feq (by decide : ¬ ((1 : Int32) = (0 : Int32)))).1) k_) ?_
  show Go_ T51 (mkF mm_ 367 #[vi p1, vi p2, vi p3, vi p4, vi cp, vi rk, vr x, vi 1, vr ea, vi 3, vr r_41, un] [])
  refine sp_ (fun t_ k_ => XS.aload X51.here hx rfl (B_ at_367) rfl rfl (XS.iload X51.here hx rfl (B_ at_369) rfl  (XS.iconst X51.here hx rfl (B_ at_371) k_))) ?_
  show Go_ T51 (mkF mm_ 372 #[vi p1, vi p2, vi p3, vi p4, vi cp, vi rk, vr x, vi 1, vr ea, vi 3, vr r_41, un] [(.int 2), (.int 3), (.ref r_41)])
  refine sp_ (fun t_ k_ => XS.icmpNo X51.here hx rfl (B_ at_372) rfl (tlt (by decide : (2 : Int32) < (3 : Int32))).2.2.2 k_) ?_
  show Go_ T51 (mkF mm_ 375 #[vi p1, vi p2, vi p3, vi p4, vi cp, vi rk, vr x, vi 1, vr ea, vi 3, vr r_41, un] [(.ref r_41)])
  refine sp_ (fun t_ k_ => XS.iconst X51.here hx rfl (B_ at_375) (XS.goto X51.here hx rfl (pc0 := 376) (pc' := 380) rfl (B_ at_376) (by decide) (by decide) (XS.aload X51.here hx rfl (B_ at_380) rfl rfl (XS.iconst X51.here hx rfl (B_ at_382) k_)))) ?_
  have f57 : Arv Z T51.heap ea ke .int (3 : Int32) [(.int v0), (.int v1), (.int v2)] (.int 0) := (f49.keep Kc51 (ninS (Nat.ne_of_lt (Nat.lt_of_lt_of_le sp15_.lt r41_0)) nin0))
  obtain ⟨cl58, Ar58, q58, S58, M58, H58, G58⟩ := id f57
  have hin58 : ¬ ((2 : Int32) < 0 ∨ cl58.slots.size ≤ ((2 : Int32)).toNatClampNeg) := inb_of S58 ⟨by decide, by decide⟩
  have hat58 : cl58.slots[((2 : Int32)).toNatClampNeg]? = some (.int v2) := Has.at H58 hin58 rfl
  refine sp_ (fun t_ k_ => X51.iaload hx (j := (2 : Int32)) (v := (.int v2)) Ar58.1 (State.isArrayOf_alike hZ.alike Ar58.2.1) Ar58.2.2 hin58 hat58 (g := (mkF mm_ 383 #[vi p1, vi p2, vi p3, vi p4, vi cp, vi rk, vr x, vi 1, vr ea, vi 3, vr r_41, un] [(.int 2), (.ref ea), (.int 1), (.ref r_41)])) rfl rfl (B_ at_383) t_ k_) ?_
  have f60 : Exa Z T51.heap r_41 sc4 := (f52.keep Kc51)
  have f61 : Arv Z T51.heap ar k (.object sc2) z [(.ref r0), (.ref r1), (.ref r2)] .null := (f53.keep Kc51 (ninS (Nat.ne_of_lt (Nat.lt_of_lt_of_le sp4_.lt r41_0)) nin0))
  have f62 : Exa Z T51.heap r2 sc0 := (((sp13_.keep Kc41).keep Kc44).keep Kc51)
  have f63 : Fld Z T51.heap r2 sc0 "value" "I" (.int v2) := (((sp14_.keep Kc41 nin0).keep Kc44 (ninS (Nat.ne_of_lt (Nat.lt_of_lt_of_le sp13_.lt r41_0)) nin0)).keep Kc51 (ninS (Nat.ne_of_lt (Nat.lt_of_lt_of_le sp13_.lt r41_0)) nin0))
  have O64 : Old Z n0 T51.heap := (O56.keep Kc51 (allS g_r_41 all0))
  obtain ⟨_, T59, Lc59, X59, hQ59, st59⟩ := own_cS X51 hx hZ hown (w_ hw 107 rfl) (w_ hw 108 rfl) (w_ hw 109 rfl) (w_ hw 110 rfl) (by decide) (backOf (W := 0) (rmSp3_2 l Z a0 hw [] r_41 v2 ar k z r0 r1 r2 T51.heap n0 O64 f60 g_r_41 r51_0 r51_1 r51_2 f61 hz2 f62 f63) hZ (w_ hw 110 rfl) (w_ hw 109 rfl) (by decide) (by decide)) (g := (mkF mm_ 384 #[vi p1, vi p2, vi p3, vi p4, vi cp, vi rk, vr x, vi 1, vr ea, vi 3, vr r_41, un] [(.int v2), (.int 1), (.ref r_41)])) rfl hml.symm (argsL := [(.ref r_41), (.int 1), (.int v2)]) (rest := []) (lenOf pd_14 rfl) rfl (Nat.le_of_eq rfl) (B_ at_384) rfl rfl (by decide) (by decide)
  obtain ⟨rfl, Nq59, Kc59, r59_0, r59_1, r59_2⟩ := hQ59
  have N59 := Fr.app N51 Nq59
  refine jp_ st59 ?_
  show Go_ T59 (mkF mm_ 387 #[vi p1, vi p2, vi p3, vi p4, vi cp, vi rk, vr x, vi 1, vr ea, vi 3, vr r_41, un] [(.int 1)])
  refine sp_ (fun t_ k_ => XS.ifNo X59.here hx rfl (B_ at_387) rfl ((if0 _ _).trans (feq (by decide : ¬ ((1 : Int32) = (0 : Int32)))).1) k_) ?_
  show Go_ T59 (mkF mm_ 390 #[vi p1, vi p2, vi p3, vi p4, vi cp, vi rk, vr x, vi 1, vr ea, vi 3, vr r_41, un] [])
  refine sp_ (fun t_ k_ => XS.aload X59.here hx rfl (B_ at_390) rfl rfl (XS.iconst X59.here hx rfl (B_ at_392) (XS.iconst X59.here hx rfl (B_ at_393) k_))) ?_
  have f66 : Exa Z T59.heap r_41 sc4 := (f60.keep Kc59)
  have O67 : Old Z n0 T59.heap := (O64.keep Kc59 (allS g_r_41 all0))
  obtain ⟨_, T65, Lc65, X65, hQ65, st65⟩ := own_cS X59 hx hZ hown (w_ hw 107 rfl) (w_ hw 108 rfl) (w_ hw 109 rfl) (w_ hw 110 rfl) (by decide) (backOf (W := 0) (rmSa l Z a0 hw [] r_41 (0 : Int32) (3 : Int32) (3 : Int32) T59.heap n0 O67 f66 r59_2 r59_1 (by first | assumption | decide | (simp; done))) hZ (w_ hw 110 rfl) (w_ hw 109 rfl) (by decide) (by decide)) (g := (mkF mm_ 394 #[vi p1, vi p2, vi p3, vi p4, vi cp, vi rk, vr x, vi 1, vr ea, vi 3, vr r_41, un] [(.int 0), (.int 0), (.ref r_41)])) rfl hml.symm (argsL := [(.ref r_41), (.int 0), (.int 0)]) (rest := []) (lenOf pd_14 rfl) rfl (Nat.le_of_eq rfl) (B_ at_394) rfl rfl (by decide) (by decide)
  obtain ⟨rfl, rfl, Eh65⟩ := hQ65
  have N65 := Fr.app N59 (Fr.nil n0)
  refine jp_ st65 ?_
  show Go_ T65 (mkF mm_ 397 #[vi p1, vi p2, vi p3, vi p4, vi cp, vi rk, vr x, vi 1, vr ea, vi 3, vr r_41, un] [(.int 1)])
  refine sp_ (fun t_ k_ => XS.ifNo X65.here hx rfl (B_ at_397) rfl ((if0 _ _).trans (feq (by decide : ¬ ((1 : Int32) = (0 : Int32)))).1) k_) ?_
  show Go_ T65 (mkF mm_ 400 #[vi p1, vi p2, vi p3, vi p4, vi cp, vi rk, vr x, vi 1, vr ea, vi 3, vr r_41, un] [])
  refine sp_ (fun t_ k_ => XS.iconst X65.here hx rfl (B_ at_400) (XS.goto X65.here hx rfl (pc0 := 401) (pc' := 405) rfl (B_ at_401) (by decide) (by decide) k_)) ?_
  show Go_ T65 (mkF mm_ 405 #[vi p1, vi p2, vi p3, vi p4, vi cp, vi rk, vr x, vi 1, vr ea, vi 3, vr r_41, un] [(.int 1)])
  have K68 : Keep h0 T59.heap [] := ((((Ks_.trans Kc41 all0).trans Kc44 (allS (Or.inr lo_r_41) all0)).trans Kc51 (allS (Or.inr lo_r_41) all0)).trans Kc59 (allS (Or.inr lo_r_41) all0))
  obtain ⟨fs, hr, hrun, hended, hW, hsame⟩ := X65.leave (v := some (.int 1)) (rN Bd.returns)
  refine ⟨_, _, ?_, hrun, hended, _, _, rfl, ?_, ⟨_, rfl⟩, hW, hsame.mono (by decide) (by decide)⟩
  · exact retN X65 hx (t := .boolean) Bd.returns (by simp) (B_ at_405) hr
  · show Qrm0 Z p1 p2 p3 p4 h0 n0 (some (.int 1)) T65.heap _
    rw [Eh65]
    exact ⟨rfl, N65, K68⟩
 have seg_e0s : ∀ (Ts_ : State) (locs_ : List Loc) (hs_ : Heap) (cp : Int32) (rk : Int32) (x : Addr) (ar : Addr) (ea : Addr) (k : ClassId) (ke : ClassId) (z : Int32) (y0 : Int32) (y1 : Int32) (y2 : Int32) (y10 : Int32) (y11 : Int32) (Xs_ : Stand pp_ l ee_ room_1 ss_ mm_ #[(.int p1), (.int p2), (.int p3), (.int p4)] bb_ me_ cc_ Ts_ locs_ 20 100) (es_ : Ts_.heap = hs_) (Ns_ : Fr n0 locs_) (Ks_ : Keep h0 hs_ []) (Os_ : Old Z n0 hs_)  (sp0_ : Exa Z hs_ x sc1) (sp1_ : Fld Z hs_ x sc1 "hashed" sc5 .null) (sp2_ : Fld Z hs_ x sc1 "members" sc3 (.ref ar)) (sp3_ : Fld Z hs_ x sc1 "size" "I" (.int 0)) (sp4_ : Arv Z hs_ ar k (.object sc2) z [] .null) (sp5_ : Exa Z hs_ ar sc3) (sp6_ : Arv Z hs_ ea ke .int (3 : Int32) [(.int y0), (.int y1), (.int y2)] (.int 0)), own_Go pp_ ee_ bb_ (fun s₂ oo_ => s₂.status = .running ∧ Ended s₂ bb_ oo_ ∧ (∃ vv_ LL_, oo_ = .returned vv_ ∧ Qrm0 Z p1 p2 p3 p4 h0 n0 vv_ s₂.heap LL_ ∧ FrameEnd ss_ oo_ s₂ LL_ room_1.cells room_1.slots)) Ts_ (mkF mm_ 310 #[vi p1, vi p2, vi p3, vi p4, vi cp, vi rk, vr x, vi 1, vr ea, vi 0, vi y10, vi y11] []) := by
  intro Ts_ locs_ hs_ cp rk x ar ea k ke z y0 y1 y2 y10 y11  Xs_ es_ Ns_ Ks_ Os_  sp0_ sp1_ sp2_ sp3_ sp4_ sp5_ sp6_
  show Go_ Ts_ (mkF mm_ 310 #[vi p1, vi p2, vi p3, vi p4, vi cp, vi rk, vr x, vi 1, vr ea, vi 0, vi y10, vi y11] [])
  refine sp_ (fun t_ k_ => XS.aload Xs_.here hx rfl (B_ at_310) rfl rfl k_) ?_
  obtain ⟨_, T69, Lc69, X69, hQ69, st69⟩ := own_cV Xs_ hx hZ hown (w_ hw 91 rfl) (w_ hw 92 rfl) (notFace_of_selects (args := #[]) (mvT hZ (w_ hw 94 rfl))) (w_ hw 94 rfl) (w_ hw 93 rfl) (by decide) (backOf (W := 0) (rmIt l Z a0 hw [] x ar (0 : Int32) hs_ n0 Os_ sp1_ sp2_ sp3_) hZ (w_ hw 95 rfl) (w_ hw 2 rfl) (by decide) (by decide)) sp0_ (g := (mkF mm_ 312 #[vi p1, vi p2, vi p3, vi p4, vi cp, vi rk, vr x, vi 1, vr ea, vi 0, vi y10, vi y11] [(.ref x)])) rfl hml.symm (argsL := []) (rest := []) (lenOf pd_13 rfl) rfl (Nat.le_of_eq rfl) (B_ at_312) rfl es_ (by decide) (by decide)
  obtain ⟨r_69, rfl, Nq69, Kc69, r69_0, r69_1, r69_2, r69_3, r69_4⟩ := hQ69
  have N69 := Fr.app Ns_ Nq69
  have lo_r_69 : h0.size ≤ r_69 := Nat.le_trans Ks_.1 r69_0
  have g_r_69 : n0 ≤ r_69 := Nat.le_trans Z0 lo_r_69
  refine jp_ st69 ?_
  show Go_ T69 (mkF mm_ 315 #[vi p1, vi p2, vi p3, vi p4, vi cp, vi rk, vr x, vi 1, vr ea, vi 0, vi y10, vi y11] [(.ref r_69)])
  refine sp_ (fun t_ k_ => XS.astore X69.here hx rfl (B_ at_315) rfl rfl (l' := #[vi p1, vi p2, vi p3, vi p4, vi cp, vi rk, vr x, vi 1, vr ea, vi 0, vr r_69, vi y11]) rfl (XS.iload X69.here hx rfl (B_ at_317) rfl  k_)) ?_
  show Go_ T69 (mkF mm_ 319 #[vi p1, vi p2, vi p3, vi p4, vi cp, vi rk, vr x, vi 1, vr ea, vi 0, vr r_69, vi y11] [(.int 1)])
  refine sp_ (fun t_ k_ => XS.ifNo X69.here hx rfl (B_ at_319) rfl ((if0 _ _).trans (feq (by decide : ¬ ((1 : Int32) = (0 : Int32)))).1) k_) ?_
  show Go_ T69 (mkF mm_ 322 #[vi p1, vi p2, vi p3, vi p4, vi cp, vi rk, vr x, vi 1, vr ea, vi 0, vr r_69, vi y11] [])
  refine sp_ (fun t_ k_ => XS.aload X69.here hx rfl (B_ at_322) rfl rfl (XS.iload X69.here hx rfl (B_ at_324) rfl  k_)) ?_
  show Go_ T69 (mkF mm_ 326 #[vi p1, vi p2, vi p3, vi p4, vi cp, vi rk, vr x, vi 1, vr ea, vi 0, vr r_69, vi y11] [(.int 0), (.ref r_69)])
  refine sp_ (fun t_ k_ => XS.ifYes X69.here hx rfl (pc0 := 326) (pc' := 333) rfl (B_ at_326) rfl ((if0 _ _).trans (flt (by decide : ¬ ((0 : Int32) < (0 : Int32)))).2.2.2) (by decide) (by decide) k_) ?_
  show Go_ T69 (mkF mm_ 333 #[vi p1, vi p2, vi p3, vi p4, vi cp, vi rk, vr x, vi 1, vr ea, vi 0, vr r_69, vi y11] [(.ref r_69)])
  refine sp_ (fun t_ k_ => XS.iconst X69.here hx rfl (B_ at_333) (XS.aload X69.here hx rfl (B_ at_334) rfl rfl (XS.iconst X69.here hx rfl (B_ at_336) k_))) ?_
  have f70 : Arv Z T69.heap ea ke .int (3 : Int32) [(.int y0), (.int y1), (.int y2)] (.int 0) := (sp6_.keep Kc69 nin0)
  obtain ⟨cl71, Ar71, q71, S71, M71, H71, G71⟩ := id f70
  have hin71 : ¬ ((0 : Int32) < 0 ∨ cl71.slots.size ≤ ((0 : Int32)).toNatClampNeg) := inb_of S71 ⟨by decide, by decide⟩
  have hat71 : cl71.slots[((0 : Int32)).toNatClampNeg]? = some (.int y0) := Has.at H71 hin71 rfl
  refine sp_ (fun t_ k_ => X69.iaload hx (j := (0 : Int32)) (v := (.int y0)) Ar71.1 (State.isArrayOf_alike hZ.alike Ar71.2.1) Ar71.2.2 hin71 hat71 (g := (mkF mm_ 337 #[vi p1, vi p2, vi p3, vi p4, vi cp, vi rk, vr x, vi 1, vr ea, vi 0, vr r_69, vi y11] [(.int 0), (.ref ea), (.int 0), (.ref r_69)])) rfl rfl (B_ at_337) t_ k_) ?_
  have O73 : Old Z n0 T69.heap := (Os_.keep Kc69 all0)
  obtain ⟨_, T72, Lc72, X72, hQ72, st72⟩ := own_cS X69 hx hZ hown (w_ hw 107 rfl) (w_ hw 108 rfl) (w_ hw 109 rfl) (w_ hw 110 rfl) (by decide) (backOf (W := 0) (rmSa l Z a0 hw [] r_69 y0 (0 : Int32) (0 : Int32) T69.heap n0 O73 r69_1 r69_4 r69_3 (by first | assumption | decide | (simp; done))) hZ (w_ hw 110 rfl) (w_ hw 109 rfl) (by decide) (by decide)) (g := (mkF mm_ 338 #[vi p1, vi p2, vi p3, vi p4, vi cp, vi rk, vr x, vi 1, vr ea, vi 0, vr r_69, vi y11] [(.int y0), (.int 0), (.ref r_69)])) rfl hml.symm (argsL := [(.ref r_69), (.int 0), (.int y0)]) (rest := []) (lenOf pd_14 rfl) rfl (Nat.le_of_eq rfl) (B_ at_338) rfl rfl (by decide) (by decide)
  obtain ⟨rfl, rfl, Eh72⟩ := hQ72
  have N72 := Fr.app N69 (Fr.nil n0)
  refine jp_ st72 ?_
  show Go_ T72 (mkF mm_ 341 #[vi p1, vi p2, vi p3, vi p4, vi cp, vi rk, vr x, vi 1, vr ea, vi 0, vr r_69, vi y11] [(.int 1)])
  refine sp_ (fun t_ k_ => XS.ifNo X72.here hx rfl (B_ at_341) rfl ((if0 _ _).trans (feq (by decide : ¬ ((1 : Int32) = (0 : Int32)))).1) k_) ?_
  show Go_ T72 (mkF mm_ 344 #[vi p1, vi p2, vi p3, vi p4, vi cp, vi rk, vr x, vi 1, vr ea, vi 0, vr r_69, vi y11] [])
  refine sp_ (fun t_ k_ => XS.aload X72.here hx rfl (B_ at_344) rfl rfl (XS.iload X72.here hx rfl (B_ at_346) rfl  (XS.iconst X72.here hx rfl (B_ at_348) k_))) ?_
  show Go_ T72 (mkF mm_ 349 #[vi p1, vi p2, vi p3, vi p4, vi cp, vi rk, vr x, vi 1, vr ea, vi 0, vr r_69, vi y11] [(.int 1), (.int 0), (.ref r_69)])
  refine sp_ (fun t_ k_ => XS.icmpYes X72.here hx rfl (pc0 := 349) (pc' := 356) rfl (B_ at_349) rfl (flt (by decide : ¬ ((1 : Int32) < (0 : Int32)))).2.2.2 (by decide) (by decide) k_) ?_
  show Go_ T72 (mkF mm_ 356 #[vi p1, vi p2, vi p3, vi p4, vi cp, vi rk, vr x, vi 1, vr ea, vi 0, vr r_69, vi y11] [(.ref r_69)])
  refine sp_ (fun t_ k_ => XS.iconst X72.here hx rfl (B_ at_356) (XS.aload X72.here hx rfl (B_ at_357) rfl rfl (XS.iconst X72.here hx rfl (B_ at_359) k_))) ?_
  obtain ⟨cl74, Ar74, q74, S74, M74, H74, G74⟩ := id f70
  have hin74 : ¬ ((1 : Int32) < 0 ∨ cl74.slots.size ≤ ((1 : Int32)).toNatClampNeg) := inb_of S74 ⟨by decide, by decide⟩
  have hat74 : cl74.slots[((1 : Int32)).toNatClampNeg]? = some (.int y1) := Has.at H74 hin74 rfl
  refine sp_ (fun t_ k_ => X72.iaload hx (j := (1 : Int32)) (v := (.int y1)) (by rw [Eh72]; exact Ar74.1) (State.isArrayOf_alike hZ.alike Ar74.2.1) Ar74.2.2 hin74 hat74 (g := (mkF mm_ 360 #[vi p1, vi p2, vi p3, vi p4, vi cp, vi rk, vr x, vi 1, vr ea, vi 0, vr r_69, vi y11] [(.int 1), (.ref ea), (.int 0), (.ref r_69)])) rfl rfl (B_ at_360) t_ k_) ?_
  obtain ⟨_, T75, Lc75, X75, hQ75, st75⟩ := own_cS X72 hx hZ hown (w_ hw 107 rfl) (w_ hw 108 rfl) (w_ hw 109 rfl) (w_ hw 110 rfl) (by decide) (backOf (W := 0) (rmSa l Z a0 hw [] r_69 y1 (0 : Int32) (0 : Int32) T69.heap n0 O73 r69_1 r69_4 r69_3 (by first | assumption | decide | (simp; done))) hZ (w_ hw 110 rfl) (w_ hw 109 rfl) (by decide) (by decide)) (g := (mkF mm_ 361 #[vi p1, vi p2, vi p3, vi p4, vi cp, vi rk, vr x, vi 1, vr ea, vi 0, vr r_69, vi y11] [(.int y1), (.int 0), (.ref r_69)])) rfl hml.symm (argsL := [(.ref r_69), (.int 0), (.int y1)]) (rest := []) (lenOf pd_14 rfl) rfl (Nat.le_of_eq rfl) (B_ at_361) rfl Eh72 (by decide) (by decide)
  obtain ⟨rfl, rfl, Eh75⟩ := hQ75
  have N75 := Fr.app N72 (Fr.nil n0)
  refine jp_ st75 ?_
  show Go_ T75 (mkF mm_ 364 #[vi p1, vi p2, vi p3, vi p4, vi cp, vi rk, vr x, vi 1, vr ea, vi 0, vr r_69, vi y11] [(.int 1)])
  refine sp_ (fun t_ k_ => XS.ifNo X75.here hx rfl (B_ at_364) rfl ((if0 _ _).trans (feq (by decide : ¬ ((1 : Int32) = (0 : Int32)))).1) k_) ?_
  show Go_ T75 (mkF mm_ 367 #[vi p1, vi p2, vi p3, vi p4, vi cp, vi rk, vr x, vi 1, vr ea, vi 0, vr r_69, vi y11] [])
  refine sp_ (fun t_ k_ => XS.aload X75.here hx rfl (B_ at_367) rfl rfl (XS.iload X75.here hx rfl (B_ at_369) rfl  (XS.iconst X75.here hx rfl (B_ at_371) k_))) ?_
  show Go_ T75 (mkF mm_ 372 #[vi p1, vi p2, vi p3, vi p4, vi cp, vi rk, vr x, vi 1, vr ea, vi 0, vr r_69, vi y11] [(.int 2), (.int 0), (.ref r_69)])
  refine sp_ (fun t_ k_ => XS.icmpYes X75.here hx rfl (pc0 := 372) (pc' := 379) rfl (B_ at_372) rfl (flt (by decide : ¬ ((2 : Int32) < (0 : Int32)))).2.2.2 (by decide) (by decide) k_) ?_
  show Go_ T75 (mkF mm_ 379 #[vi p1, vi p2, vi p3, vi p4, vi cp, vi rk, vr x, vi 1, vr ea, vi 0, vr r_69, vi y11] [(.ref r_69)])
  refine sp_ (fun t_ k_ => XS.iconst X75.here hx rfl (B_ at_379) (XS.aload X75.here hx rfl (B_ at_380) rfl rfl (XS.iconst X75.here hx rfl (B_ at_382) k_))) ?_
  obtain ⟨cl76, Ar76, q76, S76, M76, H76, G76⟩ := id f70
  have hin76 : ¬ ((2 : Int32) < 0 ∨ cl76.slots.size ≤ ((2 : Int32)).toNatClampNeg) := inb_of S76 ⟨by decide, by decide⟩
  have hat76 : cl76.slots[((2 : Int32)).toNatClampNeg]? = some (.int y2) := Has.at H76 hin76 rfl
  refine sp_ (fun t_ k_ => X75.iaload hx (j := (2 : Int32)) (v := (.int y2)) (by rw [Eh75]; exact Ar76.1) (State.isArrayOf_alike hZ.alike Ar76.2.1) Ar76.2.2 hin76 hat76 (g := (mkF mm_ 383 #[vi p1, vi p2, vi p3, vi p4, vi cp, vi rk, vr x, vi 1, vr ea, vi 0, vr r_69, vi y11] [(.int 2), (.ref ea), (.int 0), (.ref r_69)])) rfl rfl (B_ at_383) t_ k_) ?_
  obtain ⟨_, T77, Lc77, X77, hQ77, st77⟩ := own_cS X75 hx hZ hown (w_ hw 107 rfl) (w_ hw 108 rfl) (w_ hw 109 rfl) (w_ hw 110 rfl) (by decide) (backOf (W := 0) (rmSa l Z a0 hw [] r_69 y2 (0 : Int32) (0 : Int32) T69.heap n0 O73 r69_1 r69_4 r69_3 (by first | assumption | decide | (simp; done))) hZ (w_ hw 110 rfl) (w_ hw 109 rfl) (by decide) (by decide)) (g := (mkF mm_ 384 #[vi p1, vi p2, vi p3, vi p4, vi cp, vi rk, vr x, vi 1, vr ea, vi 0, vr r_69, vi y11] [(.int y2), (.int 0), (.ref r_69)])) rfl hml.symm (argsL := [(.ref r_69), (.int 0), (.int y2)]) (rest := []) (lenOf pd_14 rfl) rfl (Nat.le_of_eq rfl) (B_ at_384) rfl Eh75 (by decide) (by decide)
  obtain ⟨rfl, rfl, Eh77⟩ := hQ77
  have N77 := Fr.app N75 (Fr.nil n0)
  refine jp_ st77 ?_
  show Go_ T77 (mkF mm_ 387 #[vi p1, vi p2, vi p3, vi p4, vi cp, vi rk, vr x, vi 1, vr ea, vi 0, vr r_69, vi y11] [(.int 1)])
  refine sp_ (fun t_ k_ => XS.ifNo X77.here hx rfl (B_ at_387) rfl ((if0 _ _).trans (feq (by decide : ¬ ((1 : Int32) = (0 : Int32)))).1) k_) ?_
  show Go_ T77 (mkF mm_ 390 #[vi p1, vi p2, vi p3, vi p4, vi cp, vi rk, vr x, vi 1, vr ea, vi 0, vr r_69, vi y11] [])
  refine sp_ (fun t_ k_ => XS.aload X77.here hx rfl (B_ at_390) rfl rfl (XS.iconst X77.here hx rfl (B_ at_392) (XS.iconst X77.here hx rfl (B_ at_393) k_))) ?_
  obtain ⟨_, T78, Lc78, X78, hQ78, st78⟩ := own_cS X77 hx hZ hown (w_ hw 107 rfl) (w_ hw 108 rfl) (w_ hw 109 rfl) (w_ hw 110 rfl) (by decide) (backOf (W := 0) (rmSa l Z a0 hw [] r_69 (0 : Int32) (0 : Int32) (0 : Int32) T69.heap n0 O73 r69_1 r69_4 r69_3 (by first | assumption | decide | (simp; done))) hZ (w_ hw 110 rfl) (w_ hw 109 rfl) (by decide) (by decide)) (g := (mkF mm_ 394 #[vi p1, vi p2, vi p3, vi p4, vi cp, vi rk, vr x, vi 1, vr ea, vi 0, vr r_69, vi y11] [(.int 0), (.int 0), (.ref r_69)])) rfl hml.symm (argsL := [(.ref r_69), (.int 0), (.int 0)]) (rest := []) (lenOf pd_14 rfl) rfl (Nat.le_of_eq rfl) (B_ at_394) rfl Eh77 (by decide) (by decide)
  obtain ⟨rfl, rfl, Eh78⟩ := hQ78
  have N78 := Fr.app N77 (Fr.nil n0)
  refine jp_ st78 ?_
  show Go_ T78 (mkF mm_ 397 #[vi p1, vi p2, vi p3, vi p4, vi cp, vi rk, vr x, vi 1, vr ea, vi 0, vr r_69, vi y11] [(.int 1)])
  refine sp_ (fun t_ k_ => XS.ifNo X78.here hx rfl (B_ at_397) rfl ((if0 _ _).trans (feq (by decide : ¬ ((1 : Int32) = (0 : Int32)))).1) k_) ?_
  show Go_ T78 (mkF mm_ 400 #[vi p1, vi p2, vi p3, vi p4, vi cp, vi rk, vr x, vi 1, vr ea, vi 0, vr r_69, vi y11] [])
  refine sp_ (fun t_ k_ => XS.iconst X78.here hx rfl (B_ at_400) (XS.goto X78.here hx rfl (pc0 := 401) (pc' := 405) rfl (B_ at_401) (by decide) (by decide) k_)) ?_
  show Go_ T78 (mkF mm_ 405 #[vi p1, vi p2, vi p3, vi p4, vi cp, vi rk, vr x, vi 1, vr ea, vi 0, vr r_69, vi y11] [(.int 1)])
  have K79 : Keep h0 T69.heap [] := (Ks_.trans Kc69 all0)
  obtain ⟨fs, hr, hrun, hended, hW, hsame⟩ := X78.leave (v := some (.int 1)) (rN Bd.returns)
  refine ⟨_, _, ?_, hrun, hended, _, _, rfl, ?_, ⟨_, rfl⟩, hW, hsame.mono (by decide) (by decide)⟩
  · exact retN X78 hx (t := .boolean) Bd.returns (by simp) (B_ at_405) hr
  · show Qrm0 Z p1 p2 p3 p4 h0 n0 (some (.int 1)) T78.heap _
    rw [Eh78]
    exact ⟨rfl, N78, K79⟩
 have seg_e1s : ∀ (Ts_ : State) (locs_ : List Loc) (hs_ : Heap) (cp : Int32) (rk : Int32) (x : Addr) (ar : Addr) (ea : Addr) (k : ClassId) (ke : ClassId) (z : Int32) (r0 : Addr) (v0 : Int32) (y1 : Int32) (y2 : Int32) (y10 : Int32) (y11 : Int32) (Xs_ : Stand pp_ l ee_ room_1 ss_ mm_ #[(.int p1), (.int p2), (.int p3), (.int p4)] bb_ me_ cc_ Ts_ locs_ 20 100) (es_ : Ts_.heap = hs_) (Ns_ : Fr n0 locs_) (Ks_ : Keep h0 hs_ []) (Os_ : Old Z n0 hs_)  (sp0_ : Exa Z hs_ x sc1) (sp1_ : Fld Z hs_ x sc1 "hashed" sc5 .null) (sp2_ : Fld Z hs_ x sc1 "members" sc3 (.ref ar)) (sp3_ : Fld Z hs_ x sc1 "size" "I" (.int 1)) (sp4_ : Arv Z hs_ ar k (.object sc2) z [(.ref r0)] .null) (sp5_ : Exa Z hs_ ar sc3) (hz0 : (0 : Int32) < z) (sp7_ : Exa Z hs_ r0 sc0) (sp8_ : Fld Z hs_ r0 sc0 "value" "I" (.int v0)) (sp9_ : Arv Z hs_ ea ke .int (3 : Int32) [(.int v0), (.int y1), (.int y2)] (.int 0)), own_Go pp_ ee_ bb_ (fun s₂ oo_ => s₂.status = .running ∧ Ended s₂ bb_ oo_ ∧ (∃ vv_ LL_, oo_ = .returned vv_ ∧ Qrm0 Z p1 p2 p3 p4 h0 n0 vv_ s₂.heap LL_ ∧ FrameEnd ss_ oo_ s₂ LL_ room_1.cells room_1.slots)) Ts_ (mkF mm_ 310 #[vi p1, vi p2, vi p3, vi p4, vi cp, vi rk, vr x, vi 1, vr ea, vi 1, vi y10, vi y11] []) := by
  intro Ts_ locs_ hs_ cp rk x ar ea k ke z r0 v0 y1 y2 y10 y11  Xs_ es_ Ns_ Ks_ Os_  sp0_ sp1_ sp2_ sp3_ sp4_ sp5_ hz0 sp7_ sp8_ sp9_
  show Go_ Ts_ (mkF mm_ 310 #[vi p1, vi p2, vi p3, vi p4, vi cp, vi rk, vr x, vi 1, vr ea, vi 1, vi y10, vi y11] [])
  refine sp_ (fun t_ k_ => XS.aload Xs_.here hx rfl (B_ at_310) rfl rfl k_) ?_
  obtain ⟨_, T80, Lc80, X80, hQ80, st80⟩ := own_cV Xs_ hx hZ hown (w_ hw 91 rfl) (w_ hw 92 rfl) (notFace_of_selects (args := #[]) (mvT hZ (w_ hw 94 rfl))) (w_ hw 94 rfl) (w_ hw 93 rfl) (by decide) (backOf (W := 0) (rmIt l Z a0 hw [] x ar (1 : Int32) hs_ n0 Os_ sp1_ sp2_ sp3_) hZ (w_ hw 95 rfl) (w_ hw 2 rfl) (by decide) (by decide)) sp0_ (g := (mkF mm_ 312 #[vi p1, vi p2, vi p3, vi p4, vi cp, vi rk, vr x, vi 1, vr ea, vi 1, vi y10, vi y11] [(.ref x)])) rfl hml.symm (argsL := []) (rest := []) (lenOf pd_13 rfl) rfl (Nat.le_of_eq rfl) (B_ at_312) rfl es_ (by decide) (by decide)
  obtain ⟨r_80, rfl, Nq80, Kc80, r80_0, r80_1, r80_2, r80_3, r80_4⟩ := hQ80
  have N80 := Fr.app Ns_ Nq80
  have lo_r_80 : h0.size ≤ r_80 := Nat.le_trans Ks_.1 r80_0
  have g_r_80 : n0 ≤ r_80 := Nat.le_trans Z0 lo_r_80
  refine jp_ st80 ?_
  show Go_ T80 (mkF mm_ 315 #[vi p1, vi p2, vi p3, vi p4, vi cp, vi rk, vr x, vi 1, vr ea, vi 1, vi y10, vi y11] [(.ref r_80)])
  refine sp_ (fun t_ k_ => XS.astore X80.here hx rfl (B_ at_315) rfl rfl (l' := #[vi p1, vi p2, vi p3, vi p4, vi cp, vi rk, vr x, vi 1, vr ea, vi 1, vr r_80, vi y11]) rfl (XS.iload X80.here hx rfl (B_ at_317) rfl  k_)) ?_
  show Go_ T80 (mkF mm_ 319 #[vi p1, vi p2, vi p3, vi p4, vi cp, vi rk, vr x, vi 1, vr ea, vi 1, vr r_80, vi y11] [(.int 1)])
  refine sp_ (fun t_ k_ => XS.ifNo X80.here hx rfl (B_ at_319) rfl ((if0 _ _).trans (feq (by decide : ¬ ((1 : Int32) = (0 : Int32)))).1) k_) ?_
  show Go_ T80 (mkF mm_ 322 #[vi p1, vi p2, vi p3, vi p4, vi cp, vi rk, vr x, vi 1, vr ea, vi 1, vr r_80, vi y11] [])
  refine sp_ (fun t_ k_ => XS.aload X80.here hx rfl (B_ at_322) rfl rfl (XS.iload X80.here hx rfl (B_ at_324) rfl  k_)) ?_
  show Go_ T80 (mkF mm_ 326 #[vi p1, vi p2, vi p3, vi p4, vi cp, vi rk, vr x, vi 1, vr ea, vi 1, vr r_80, vi y11] [(.int 1), (.ref r_80)])
  refine sp_ (fun t_ k_ => XS.ifNo X80.here hx rfl (B_ at_326) rfl ((if0 _ _).trans (tlt (by decide : (0 : Int32) < (1 : Int32))).2.2.2) k_) ?_
  show Go_ T80 (mkF mm_ 329 #[vi p1, vi p2, vi p3, vi p4, vi cp, vi rk, vr x, vi 1, vr ea, vi 1, vr r_80, vi y11] [(.ref r_80)])
  refine sp_ (fun t_ k_ => XS.iconst X80.here hx rfl (B_ at_329) (XS.goto X80.here hx rfl (pc0 := 330) (pc' := 334) rfl (B_ at_330) (by decide) (by decide) (XS.aload X80.here hx rfl (B_ at_334) rfl rfl (XS.iconst X80.here hx rfl (B_ at_336) k_)))) ?_
  have f81 : Arv Z T80.heap ea ke .int (3 : Int32) [(.int v0), (.int y1), (.int y2)] (.int 0) := (sp9_.keep Kc80 nin0)
  obtain ⟨cl82, Ar82, q82, S82, M82, H82, G82⟩ := id f81
  have hin82 : ¬ ((0 : Int32) < 0 ∨ cl82.slots.size ≤ ((0 : Int32)).toNatClampNeg) := inb_of S82 ⟨by decide, by decide⟩
  have hat82 : cl82.slots[((0 : Int32)).toNatClampNeg]? = some (.int v0) := Has.at H82 hin82 rfl
  refine sp_ (fun t_ k_ => X80.iaload hx (j := (0 : Int32)) (v := (.int v0)) Ar82.1 (State.isArrayOf_alike hZ.alike Ar82.2.1) Ar82.2.2 hin82 hat82 (g := (mkF mm_ 337 #[vi p1, vi p2, vi p3, vi p4, vi cp, vi rk, vr x, vi 1, vr ea, vi 1, vr r_80, vi y11] [(.int 0), (.ref ea), (.int 1), (.ref r_80)])) rfl rfl (B_ at_337) t_ k_) ?_
  have f84 : Arv Z T80.heap ar k (.object sc2) z [(.ref r0)] .null := (sp4_.keep Kc80 nin0)
  have f85 : Exa Z T80.heap r0 sc0 := (sp7_.keep Kc80)
  have f86 : Fld Z T80.heap r0 sc0 "value" "I" (.int v0) := (sp8_.keep Kc80 nin0)
  have O87 : Old Z n0 T80.heap := (Os_.keep Kc80 all0)
  obtain ⟨_, T83, Lc83, X83, hQ83, st83⟩ := own_cS X80 hx hZ hown (w_ hw 107 rfl) (w_ hw 108 rfl) (w_ hw 109 rfl) (w_ hw 110 rfl) (by decide) (backOf (W := 0) (rmSp1_0 l Z a0 hw [] r_80 v0 ar k z r0 T80.heap n0 O87 r80_1 g_r_80 r80_2 r80_3 r80_4 f84 hz0 f85 f86) hZ (w_ hw 110 rfl) (w_ hw 109 rfl) (by decide) (by decide)) (g := (mkF mm_ 338 #[vi p1, vi p2, vi p3, vi p4, vi cp, vi rk, vr x, vi 1, vr ea, vi 1, vr r_80, vi y11] [(.int v0), (.int 1), (.ref r_80)])) rfl hml.symm (argsL := [(.ref r_80), (.int 1), (.int v0)]) (rest := []) (lenOf pd_14 rfl) rfl (Nat.le_of_eq rfl) (B_ at_338) rfl rfl (by decide) (by decide)
  obtain ⟨rfl, Nq83, Kc83, r83_0, r83_1, r83_2⟩ := hQ83
  have N83 := Fr.app N80 Nq83
  refine jp_ st83 ?_
  show Go_ T83 (mkF mm_ 341 #[vi p1, vi p2, vi p3, vi p4, vi cp, vi rk, vr x, vi 1, vr ea, vi 1, vr r_80, vi y11] [(.int 1)])
  refine sp_ (fun t_ k_ => XS.ifNo X83.here hx rfl (B_ at_341) rfl ((if0 _ _).trans (feq (by decide : ¬ ((1 : Int32) = (0 : Int32)))).1) k_) ?_
  show Go_ T83 (mkF mm_ 344 #[vi p1, vi p2, vi p3, vi p4, vi cp, vi rk, vr x, vi 1, vr ea, vi 1, vr r_80, vi y11] [])
  refine sp_ (fun t_ k_ => XS.aload X83.here hx rfl (B_ at_344) rfl rfl (XS.iload X83.here hx rfl (B_ at_346) rfl  (XS.iconst X83.here hx rfl (B_ at_348) k_))) ?_
  show Go_ T83 (mkF mm_ 349 #[vi p1, vi p2, vi p3, vi p4, vi cp, vi rk, vr x, vi 1, vr ea, vi 1, vr r_80, vi y11] [(.int 1), (.int 1), (.ref r_80)])
  refine sp_ (fun t_ k_ => XS.icmpYes X83.here hx rfl (pc0 := 349) (pc' := 356) rfl (B_ at_349) rfl (flt (by decide : ¬ ((1 : Int32) < (1 : Int32)))).2.2.2 (by decide) (by decide) k_) ?_
  show Go_ T83 (mkF mm_ 356 #[vi p1, vi p2, vi p3, vi p4, vi cp, vi rk, vr x, vi 1, vr ea, vi 1, vr r_80, vi y11] [(.ref r_80)])
  refine sp_ (fun t_ k_ => XS.iconst X83.here hx rfl (B_ at_356) (XS.aload X83.here hx rfl (B_ at_357) rfl rfl (XS.iconst X83.here hx rfl (B_ at_359) k_))) ?_
  have f88 : Arv Z T83.heap ea ke .int (3 : Int32) [(.int v0), (.int y1), (.int y2)] (.int 0) := (f81.keep Kc83 (ninS (Nat.ne_of_lt (Nat.lt_of_lt_of_le sp9_.lt r80_0)) nin0))
  obtain ⟨cl89, Ar89, q89, S89, M89, H89, G89⟩ := id f88
  have hin89 : ¬ ((1 : Int32) < 0 ∨ cl89.slots.size ≤ ((1 : Int32)).toNatClampNeg) := inb_of S89 ⟨by decide, by decide⟩
  have hat89 : cl89.slots[((1 : Int32)).toNatClampNeg]? = some (.int y1) := Has.at H89 hin89 rfl
  refine sp_ (fun t_ k_ => X83.iaload hx (j := (1 : Int32)) (v := (.int y1)) Ar89.1 (State.isArrayOf_alike hZ.alike Ar89.2.1) Ar89.2.2 hin89 hat89 (g := (mkF mm_ 360 #[vi p1, vi p2, vi p3, vi p4, vi cp, vi rk, vr x, vi 1, vr ea, vi 1, vr r_80, vi y11] [(.int 1), (.ref ea), (.int 0), (.ref r_80)])) rfl rfl (B_ at_360) t_ k_) ?_
  have f91 : Exa Z T83.heap r_80 sc4 := (r80_1.keep Kc83)
  have O92 : Old Z n0 T83.heap := (O87.keep Kc83 (allS g_r_80 all0))
  obtain ⟨_, T90, Lc90, X90, hQ90, st90⟩ := own_cS X83 hx hZ hown (w_ hw 107 rfl) (w_ hw 108 rfl) (w_ hw 109 rfl) (w_ hw 110 rfl) (by decide) (backOf (W := 0) (rmSa l Z a0 hw [] r_80 y1 (1 : Int32) (1 : Int32) T83.heap n0 O92 f91 r83_2 r83_1 (by first | assumption | decide | (simp; done))) hZ (w_ hw 110 rfl) (w_ hw 109 rfl) (by decide) (by decide)) (g := (mkF mm_ 361 #[vi p1, vi p2, vi p3, vi p4, vi cp, vi rk, vr x, vi 1, vr ea, vi 1, vr r_80, vi y11] [(.int y1), (.int 0), (.ref r_80)])) rfl hml.symm (argsL := [(.ref r_80), (.int 0), (.int y1)]) (rest := []) (lenOf pd_14 rfl) rfl (Nat.le_of_eq rfl) (B_ at_361) rfl rfl (by decide) (by decide)
  obtain ⟨rfl, rfl, Eh90⟩ := hQ90
  have N90 := Fr.app N83 (Fr.nil n0)
  refine jp_ st90 ?_
  show Go_ T90 (mkF mm_ 364 #[vi p1, vi p2, vi p3, vi p4, vi cp, vi rk, vr x, vi 1, vr ea, vi 1, vr r_80, vi y11] [(.int 1)])
  refine sp_ (fun t_ k_ => XS.ifNo X90.here hx rfl (B_ at_364) rfl ((if0 _ _).trans (feq (by decide : ¬ ((1 : Int32) = (0 : Int32)))).1) k_) ?_
  show Go_ T90 (mkF mm_ 367 #[vi p1, vi p2, vi p3, vi p4, vi cp, vi rk, vr x, vi 1, vr ea, vi 1, vr r_80, vi y11] [])
  refine sp_ (fun t_ k_ => XS.aload X90.here hx rfl (B_ at_367) rfl rfl (XS.iload X90.here hx rfl (B_ at_369) rfl  (XS.iconst X90.here hx rfl (B_ at_371) k_))) ?_
  show Go_ T90 (mkF mm_ 372 #[vi p1, vi p2, vi p3, vi p4, vi cp, vi rk, vr x, vi 1, vr ea, vi 1, vr r_80, vi y11] [(.int 2), (.int 1), (.ref r_80)])
  refine sp_ (fun t_ k_ => XS.icmpYes X90.here hx rfl (pc0 := 372) (pc' := 379) rfl (B_ at_372) rfl (flt (by decide : ¬ ((2 : Int32) < (1 : Int32)))).2.2.2 (by decide) (by decide) k_) ?_
  show Go_ T90 (mkF mm_ 379 #[vi p1, vi p2, vi p3, vi p4, vi cp, vi rk, vr x, vi 1, vr ea, vi 1, vr r_80, vi y11] [(.ref r_80)])
  refine sp_ (fun t_ k_ => XS.iconst X90.here hx rfl (B_ at_379) (XS.aload X90.here hx rfl (B_ at_380) rfl rfl (XS.iconst X90.here hx rfl (B_ at_382) k_))) ?_
  obtain ⟨cl93, Ar93, q93, S93, M93, H93, G93⟩ := id f88
  have hin93 : ¬ ((2 : Int32) < 0 ∨ cl93.slots.size ≤ ((2 : Int32)).toNatClampNeg) := inb_of S93 ⟨by decide, by decide⟩
  have hat93 : cl93.slots[((2 : Int32)).toNatClampNeg]? = some (.int y2) := Has.at H93 hin93 rfl
  refine sp_ (fun t_ k_ => X90.iaload hx (j := (2 : Int32)) (v := (.int y2)) (by rw [Eh90]; exact Ar93.1) (State.isArrayOf_alike hZ.alike Ar93.2.1) Ar93.2.2 hin93 hat93 (g := (mkF mm_ 383 #[vi p1, vi p2, vi p3, vi p4, vi cp, vi rk, vr x, vi 1, vr ea, vi 1, vr r_80, vi y11] [(.int 2), (.ref ea), (.int 0), (.ref r_80)])) rfl rfl (B_ at_383) t_ k_) ?_
  obtain ⟨_, T94, Lc94, X94, hQ94, st94⟩ := own_cS X90 hx hZ hown (w_ hw 107 rfl) (w_ hw 108 rfl) (w_ hw 109 rfl) (w_ hw 110 rfl) (by decide) (backOf (W := 0) (rmSa l Z a0 hw [] r_80 y2 (1 : Int32) (1 : Int32) T83.heap n0 O92 f91 r83_2 r83_1 (by first | assumption | decide | (simp; done))) hZ (w_ hw 110 rfl) (w_ hw 109 rfl) (by decide) (by decide)) (g := (mkF mm_ 384 #[vi p1, vi p2, vi p3, vi p4, vi cp, vi rk, vr x, vi 1, vr ea, vi 1, vr r_80, vi y11] [(.int y2), (.int 0), (.ref r_80)])) rfl hml.symm (argsL := [(.ref r_80), (.int 0), (.int y2)]) (rest := []) (lenOf pd_14 rfl) rfl (Nat.le_of_eq rfl) (B_ at_384) rfl Eh90 (by decide) (by decide)
  obtain ⟨rfl, rfl, Eh94⟩ := hQ94
  have N94 := Fr.app N90 (Fr.nil n0)
  refine jp_ st94 ?_
  show Go_ T94 (mkF mm_ 387 #[vi p1, vi p2, vi p3, vi p4, vi cp, vi rk, vr x, vi 1, vr ea, vi 1, vr r_80, vi y11] [(.int 1)])
  refine sp_ (fun t_ k_ => XS.ifNo X94.here hx rfl (B_ at_387) rfl ((if0 _ _).trans (feq (by decide : ¬ ((1 : Int32) = (0 : Int32)))).1) k_) ?_
  show Go_ T94 (mkF mm_ 390 #[vi p1, vi p2, vi p3, vi p4, vi cp, vi rk, vr x, vi 1, vr ea, vi 1, vr r_80, vi y11] [])
  refine sp_ (fun t_ k_ => XS.aload X94.here hx rfl (B_ at_390) rfl rfl (XS.iconst X94.here hx rfl (B_ at_392) (XS.iconst X94.here hx rfl (B_ at_393) k_))) ?_
  obtain ⟨_, T95, Lc95, X95, hQ95, st95⟩ := own_cS X94 hx hZ hown (w_ hw 107 rfl) (w_ hw 108 rfl) (w_ hw 109 rfl) (w_ hw 110 rfl) (by decide) (backOf (W := 0) (rmSa l Z a0 hw [] r_80 (0 : Int32) (1 : Int32) (1 : Int32) T83.heap n0 O92 f91 r83_2 r83_1 (by first | assumption | decide | (simp; done))) hZ (w_ hw 110 rfl) (w_ hw 109 rfl) (by decide) (by decide)) (g := (mkF mm_ 394 #[vi p1, vi p2, vi p3, vi p4, vi cp, vi rk, vr x, vi 1, vr ea, vi 1, vr r_80, vi y11] [(.int 0), (.int 0), (.ref r_80)])) rfl hml.symm (argsL := [(.ref r_80), (.int 0), (.int 0)]) (rest := []) (lenOf pd_14 rfl) rfl (Nat.le_of_eq rfl) (B_ at_394) rfl Eh94 (by decide) (by decide)
  obtain ⟨rfl, rfl, Eh95⟩ := hQ95
  have N95 := Fr.app N94 (Fr.nil n0)
  refine jp_ st95 ?_
  show Go_ T95 (mkF mm_ 397 #[vi p1, vi p2, vi p3, vi p4, vi cp, vi rk, vr x, vi 1, vr ea, vi 1, vr r_80, vi y11] [(.int 1)])
  refine sp_ (fun t_ k_ => XS.ifNo X95.here hx rfl (B_ at_397) rfl ((if0 _ _).trans (feq (by decide : ¬ ((1 : Int32) = (0 : Int32)))).1) k_) ?_
  show Go_ T95 (mkF mm_ 400 #[vi p1, vi p2, vi p3, vi p4, vi cp, vi rk, vr x, vi 1, vr ea, vi 1, vr r_80, vi y11] [])
  refine sp_ (fun t_ k_ => XS.iconst X95.here hx rfl (B_ at_400) (XS.goto X95.here hx rfl (pc0 := 401) (pc' := 405) rfl (B_ at_401) (by decide) (by decide) k_)) ?_
  show Go_ T95 (mkF mm_ 405 #[vi p1, vi p2, vi p3, vi p4, vi cp, vi rk, vr x, vi 1, vr ea, vi 1, vr r_80, vi y11] [(.int 1)])
  have K96 : Keep h0 T83.heap [] := ((Ks_.trans Kc80 all0).trans Kc83 (allS (Or.inr lo_r_80) all0))
  obtain ⟨fs, hr, hrun, hended, hW, hsame⟩ := X95.leave (v := some (.int 1)) (rN Bd.returns)
  refine ⟨_, _, ?_, hrun, hended, _, _, rfl, ?_, ⟨_, rfl⟩, hW, hsame.mono (by decide) (by decide)⟩
  · exact retN X95 hx (t := .boolean) Bd.returns (by simp) (B_ at_405) hr
  · show Qrm0 Z p1 p2 p3 p4 h0 n0 (some (.int 1)) T95.heap _
    rw [Eh95]
    exact ⟨rfl, N95, K96⟩
 have seg_e2s : ∀ (Ts_ : State) (locs_ : List Loc) (hs_ : Heap) (cp : Int32) (rk : Int32) (x : Addr) (ar : Addr) (ea : Addr) (k : ClassId) (ke : ClassId) (z : Int32) (r0 : Addr) (r1 : Addr) (v0 : Int32) (v1 : Int32) (y2 : Int32) (y10 : Int32) (y11 : Int32) (Xs_ : Stand pp_ l ee_ room_1 ss_ mm_ #[(.int p1), (.int p2), (.int p3), (.int p4)] bb_ me_ cc_ Ts_ locs_ 20 100) (es_ : Ts_.heap = hs_) (Ns_ : Fr n0 locs_) (Ks_ : Keep h0 hs_ []) (Os_ : Old Z n0 hs_)  (sp0_ : Exa Z hs_ x sc1) (sp1_ : Fld Z hs_ x sc1 "hashed" sc5 .null) (sp2_ : Fld Z hs_ x sc1 "members" sc3 (.ref ar)) (sp3_ : Fld Z hs_ x sc1 "size" "I" (.int 2)) (sp4_ : Arv Z hs_ ar k (.object sc2) z [(.ref r0), (.ref r1)] .null) (sp5_ : Exa Z hs_ ar sc3) (hz0 : (0 : Int32) < z) (hz1 : (1 : Int32) < z) (sp8_ : Exa Z hs_ r0 sc0) (sp9_ : Fld Z hs_ r0 sc0 "value" "I" (.int v0)) (sp10_ : Exa Z hs_ r1 sc0) (sp11_ : Fld Z hs_ r1 sc0 "value" "I" (.int v1)) (sp12_ : Arv Z hs_ ea ke .int (3 : Int32) [(.int v0), (.int v1), (.int y2)] (.int 0)), own_Go pp_ ee_ bb_ (fun s₂ oo_ => s₂.status = .running ∧ Ended s₂ bb_ oo_ ∧ (∃ vv_ LL_, oo_ = .returned vv_ ∧ Qrm0 Z p1 p2 p3 p4 h0 n0 vv_ s₂.heap LL_ ∧ FrameEnd ss_ oo_ s₂ LL_ room_1.cells room_1.slots)) Ts_ (mkF mm_ 310 #[vi p1, vi p2, vi p3, vi p4, vi cp, vi rk, vr x, vi 1, vr ea, vi 2, vi y10, vi y11] []) := by
  intro Ts_ locs_ hs_ cp rk x ar ea k ke z r0 r1 v0 v1 y2 y10 y11  Xs_ es_ Ns_ Ks_ Os_  sp0_ sp1_ sp2_ sp3_ sp4_ sp5_ hz0 hz1 sp8_ sp9_ sp10_ sp11_ sp12_
  show Go_ Ts_ (mkF mm_ 310 #[vi p1, vi p2, vi p3, vi p4, vi cp, vi rk, vr x, vi 1, vr ea, vi 2, vi y10, vi y11] [])
  refine sp_ (fun t_ k_ => XS.aload Xs_.here hx rfl (B_ at_310) rfl rfl k_) ?_
  obtain ⟨_, T97, Lc97, X97, hQ97, st97⟩ := own_cV Xs_ hx hZ hown (w_ hw 91 rfl) (w_ hw 92 rfl) (notFace_of_selects (args := #[]) (mvT hZ (w_ hw 94 rfl))) (w_ hw 94 rfl) (w_ hw 93 rfl) (by decide) (backOf (W := 0) (rmIt l Z a0 hw [] x ar (2 : Int32) hs_ n0 Os_ sp1_ sp2_ sp3_) hZ (w_ hw 95 rfl) (w_ hw 2 rfl) (by decide) (by decide)) sp0_ (g := (mkF mm_ 312 #[vi p1, vi p2, vi p3, vi p4, vi cp, vi rk, vr x, vi 1, vr ea, vi 2, vi y10, vi y11] [(.ref x)])) rfl hml.symm (argsL := []) (rest := []) (lenOf pd_13 rfl) rfl (Nat.le_of_eq rfl) (B_ at_312) rfl es_ (by decide) (by decide)
  obtain ⟨r_97, rfl, Nq97, Kc97, r97_0, r97_1, r97_2, r97_3, r97_4⟩ := hQ97
  have N97 := Fr.app Ns_ Nq97
  have lo_r_97 : h0.size ≤ r_97 := Nat.le_trans Ks_.1 r97_0
  have g_r_97 : n0 ≤ r_97 := Nat.le_trans Z0 lo_r_97
  refine jp_ st97 ?_
  show Go_ T97 (mkF mm_ 315 #[vi p1, vi p2, vi p3, vi p4, vi cp, vi rk, vr x, vi 1, vr ea, vi 2, vi y10, vi y11] [(.ref r_97)])
  refine sp_ (fun t_ k_ => XS.astore X97.here hx rfl (B_ at_315) rfl rfl (l' := #[vi p1, vi p2, vi p3, vi p4, vi cp, vi rk, vr x, vi 1, vr ea, vi 2, vr r_97, vi y11]) rfl (XS.iload X97.here hx rfl (B_ at_317) rfl  k_)) ?_
  show Go_ T97 (mkF mm_ 319 #[vi p1, vi p2, vi p3, vi p4, vi cp, vi rk, vr x, vi 1, vr ea, vi 2, vr r_97, vi y11] [(.int 1)])
  refine sp_ (fun t_ k_ => XS.ifNo X97.here hx rfl (B_ at_319) rfl ((if0 _ _).trans (feq (by decide : ¬ ((1 : Int32) = (0 : Int32)))).1) k_) ?_
  show Go_ T97 (mkF mm_ 322 #[vi p1, vi p2, vi p3, vi p4, vi cp, vi rk, vr x, vi 1, vr ea, vi 2, vr r_97, vi y11] [])
  refine sp_ (fun t_ k_ => XS.aload X97.here hx rfl (B_ at_322) rfl rfl (XS.iload X97.here hx rfl (B_ at_324) rfl  k_)) ?_
  show Go_ T97 (mkF mm_ 326 #[vi p1, vi p2, vi p3, vi p4, vi cp, vi rk, vr x, vi 1, vr ea, vi 2, vr r_97, vi y11] [(.int 2), (.ref r_97)])
  refine sp_ (fun t_ k_ => XS.ifNo X97.here hx rfl (B_ at_326) rfl ((if0 _ _).trans (tlt (by decide : (0 : Int32) < (2 : Int32))).2.2.2) k_) ?_
  show Go_ T97 (mkF mm_ 329 #[vi p1, vi p2, vi p3, vi p4, vi cp, vi rk, vr x, vi 1, vr ea, vi 2, vr r_97, vi y11] [(.ref r_97)])
  refine sp_ (fun t_ k_ => XS.iconst X97.here hx rfl (B_ at_329) (XS.goto X97.here hx rfl (pc0 := 330) (pc' := 334) rfl (B_ at_330) (by decide) (by decide) (XS.aload X97.here hx rfl (B_ at_334) rfl rfl (XS.iconst X97.here hx rfl (B_ at_336) k_)))) ?_
  have f98 : Arv Z T97.heap ea ke .int (3 : Int32) [(.int v0), (.int v1), (.int y2)] (.int 0) := (sp12_.keep Kc97 nin0)
  obtain ⟨cl99, Ar99, q99, S99, M99, H99, G99⟩ := id f98
  have hin99 : ¬ ((0 : Int32) < 0 ∨ cl99.slots.size ≤ ((0 : Int32)).toNatClampNeg) := inb_of S99 ⟨by decide, by decide⟩
  have hat99 : cl99.slots[((0 : Int32)).toNatClampNeg]? = some (.int v0) := Has.at H99 hin99 rfl
  refine sp_ (fun t_ k_ => X97.iaload hx (j := (0 : Int32)) (v := (.int v0)) Ar99.1 (State.isArrayOf_alike hZ.alike Ar99.2.1) Ar99.2.2 hin99 hat99 (g := (mkF mm_ 337 #[vi p1, vi p2, vi p3, vi p4, vi cp, vi rk, vr x, vi 1, vr ea, vi 2, vr r_97, vi y11] [(.int 0), (.ref ea), (.int 1), (.ref r_97)])) rfl rfl (B_ at_337) t_ k_) ?_
  have f101 : Arv Z T97.heap ar k (.object sc2) z [(.ref r0), (.ref r1)] .null := (sp4_.keep Kc97 nin0)
  have f102 : Exa Z T97.heap r0 sc0 := (sp8_.keep Kc97)
  have f103 : Fld Z T97.heap r0 sc0 "value" "I" (.int v0) := (sp9_.keep Kc97 nin0)
  have O104 : Old Z n0 T97.heap := (Os_.keep Kc97 all0)
  obtain ⟨_, T100, Lc100, X100, hQ100, st100⟩ := own_cS X97 hx hZ hown (w_ hw 107 rfl) (w_ hw 108 rfl) (w_ hw 109 rfl) (w_ hw 110 rfl) (by decide) (backOf (W := 0) (rmSp2_0 l Z a0 hw [] r_97 v0 ar k z r0 r1 T97.heap n0 O104 r97_1 g_r_97 r97_2 r97_3 r97_4 f101 hz0 f102 f103) hZ (w_ hw 110 rfl) (w_ hw 109 rfl) (by decide) (by decide)) (g := (mkF mm_ 338 #[vi p1, vi p2, vi p3, vi p4, vi cp, vi rk, vr x, vi 1, vr ea, vi 2, vr r_97, vi y11] [(.int v0), (.int 1), (.ref r_97)])) rfl hml.symm (argsL := [(.ref r_97), (.int 1), (.int v0)]) (rest := []) (lenOf pd_14 rfl) rfl (Nat.le_of_eq rfl) (B_ at_338) rfl rfl (by decide) (by decide)
  obtain ⟨rfl, Nq100, Kc100, r100_0, r100_1, r100_2⟩ := hQ100
  have N100 := Fr.app N97 Nq100
  refine jp_ st100 ?_
  show Go_ T100 (mkF mm_ 341 #[vi p1, vi p2, vi p3, vi p4, vi cp, vi rk, vr x, vi 1, vr ea, vi 2, vr r_97, vi y11] [(.int 1)])
  refine sp_ (fun t_ k_ => XS.ifNo X100.here hx rfl (B_ at_341) rfl ((if0 _ _).trans (feq (by decide : ¬ ((1 : Int32) = (0 : Int32)))).1) k_) ?_
  show Go_ T100 (mkF mm_ 344 #[vi p1, vi p2, vi p3, vi p4, vi cp, vi rk, vr x, vi 1, vr ea, vi 2, vr r_97, vi y11] [])
  refine sp_ (fun t_ k_ => XS.aload X100.here hx rfl (B_ at_344) rfl rfl (XS.iload X100.here hx rfl (B_ at_346) rfl  (XS.iconst X100.here hx rfl (B_ at_348) k_))) ?_
  show Go_ T100 (mkF mm_ 349 #[vi p1, vi p2, vi p3, vi p4, vi cp, vi rk, vr x, vi 1, vr ea, vi 2, vr r_97, vi y11] [(.int 1), (.int 2), (.ref r_97)])
  refine sp_ (fun t_ k_ => XS.icmpNo X100.here hx rfl (B_ at_349) rfl (tlt (by decide : (1 : Int32) < (2 : Int32))).2.2.2 k_) ?_
  show Go_ T100 (mkF mm_ 352 #[vi p1, vi p2, vi p3, vi p4, vi cp, vi rk, vr x, vi 1, vr ea, vi 2, vr r_97, vi y11] [(.ref r_97)])
  refine sp_ (fun t_ k_ => XS.iconst X100.here hx rfl (B_ at_352) (XS.goto X100.here hx rfl (pc0 := 353) (pc' := 357) rfl (B_ at_353) (by decide) (by decide) (XS.aload X100.here hx rfl (B_ at_357) rfl rfl (XS.iconst X100.here hx rfl (B_ at_359) k_)))) ?_
  have f105 : Arv Z T100.heap ea ke .int (3 : Int32) [(.int v0), (.int v1), (.int y2)] (.int 0) := (f98.keep Kc100 (ninS (Nat.ne_of_lt (Nat.lt_of_lt_of_le sp12_.lt r97_0)) nin0))
  obtain ⟨cl106, Ar106, q106, S106, M106, H106, G106⟩ := id f105
  have hin106 : ¬ ((1 : Int32) < 0 ∨ cl106.slots.size ≤ ((1 : Int32)).toNatClampNeg) := inb_of S106 ⟨by decide, by decide⟩
  have hat106 : cl106.slots[((1 : Int32)).toNatClampNeg]? = some (.int v1) := Has.at H106 hin106 rfl
  refine sp_ (fun t_ k_ => X100.iaload hx (j := (1 : Int32)) (v := (.int v1)) Ar106.1 (State.isArrayOf_alike hZ.alike Ar106.2.1) Ar106.2.2 hin106 hat106 (g := (mkF mm_ 360 #[vi p1, vi p2, vi p3, vi p4, vi cp, vi rk, vr x, vi 1, vr ea, vi 2, vr r_97, vi y11] [(.int 1), (.ref ea), (.int 1), (.ref r_97)])) rfl rfl (B_ at_360) t_ k_) ?_
  have f108 : Exa Z T100.heap r_97 sc4 := (r97_1.keep Kc100)
  have f109 : Arv Z T100.heap ar k (.object sc2) z [(.ref r0), (.ref r1)] .null := (f101.keep Kc100 (ninS (Nat.ne_of_lt (Nat.lt_of_lt_of_le sp4_.lt r97_0)) nin0))
  have f110 : Exa Z T100.heap r1 sc0 := ((sp10_.keep Kc97).keep Kc100)
  have f111 : Fld Z T100.heap r1 sc0 "value" "I" (.int v1) := ((sp11_.keep Kc97 nin0).keep Kc100 (ninS (Nat.ne_of_lt (Nat.lt_of_lt_of_le sp10_.lt r97_0)) nin0))
  have O112 : Old Z n0 T100.heap := (O104.keep Kc100 (allS g_r_97 all0))
  obtain ⟨_, T107, Lc107, X107, hQ107, st107⟩ := own_cS X100 hx hZ hown (w_ hw 107 rfl) (w_ hw 108 rfl) (w_ hw 109 rfl) (w_ hw 110 rfl) (by decide) (backOf (W := 0) (rmSp2_1 l Z a0 hw [] r_97 v1 ar k z r0 r1 T100.heap n0 O112 f108 g_r_97 r100_0 r100_1 r100_2 f109 hz1 f110 f111) hZ (w_ hw 110 rfl) (w_ hw 109 rfl) (by decide) (by decide)) (g := (mkF mm_ 361 #[vi p1, vi p2, vi p3, vi p4, vi cp, vi rk, vr x, vi 1, vr ea, vi 2, vr r_97, vi y11] [(.int v1), (.int 1), (.ref r_97)])) rfl hml.symm (argsL := [(.ref r_97), (.int 1), (.int v1)]) (rest := []) (lenOf pd_14 rfl) rfl (Nat.le_of_eq rfl) (B_ at_361) rfl rfl (by decide) (by decide)
  obtain ⟨rfl, Nq107, Kc107, r107_0, r107_1, r107_2⟩ := hQ107
  have N107 := Fr.app N100 Nq107
  refine jp_ st107 ?_
  show Go_ T107 (mkF mm_ 364 #[vi p1, vi p2, vi p3, vi p4, vi cp, vi rk, vr x, vi 1, vr ea, vi 2, vr r_97, vi y11] [(.int 1)])
  refine sp_ (fun t_ k_ => XS.ifNo X107.here hx rfl (B_ at_364) rfl ((if0 _ _).trans (feq (by decide : ¬ ((1 : Int32) = (0 : Int32)))).1) k_) ?_
  show Go_ T107 (mkF mm_ 367 #[vi p1, vi p2, vi p3, vi p4, vi cp, vi rk, vr x, vi 1, vr ea, vi 2, vr r_97, vi y11] [])
  refine sp_ (fun t_ k_ => XS.aload X107.here hx rfl (B_ at_367) rfl rfl (XS.iload X107.here hx rfl (B_ at_369) rfl  (XS.iconst X107.here hx rfl (B_ at_371) k_))) ?_
  show Go_ T107 (mkF mm_ 372 #[vi p1, vi p2, vi p3, vi p4, vi cp, vi rk, vr x, vi 1, vr ea, vi 2, vr r_97, vi y11] [(.int 2), (.int 2), (.ref r_97)])
  refine sp_ (fun t_ k_ => XS.icmpYes X107.here hx rfl (pc0 := 372) (pc' := 379) rfl (B_ at_372) rfl (flt (by decide : ¬ ((2 : Int32) < (2 : Int32)))).2.2.2 (by decide) (by decide) k_) ?_
  show Go_ T107 (mkF mm_ 379 #[vi p1, vi p2, vi p3, vi p4, vi cp, vi rk, vr x, vi 1, vr ea, vi 2, vr r_97, vi y11] [(.ref r_97)])
  refine sp_ (fun t_ k_ => XS.iconst X107.here hx rfl (B_ at_379) (XS.aload X107.here hx rfl (B_ at_380) rfl rfl (XS.iconst X107.here hx rfl (B_ at_382) k_))) ?_
  have f113 : Arv Z T107.heap ea ke .int (3 : Int32) [(.int v0), (.int v1), (.int y2)] (.int 0) := (f105.keep Kc107 (ninS (Nat.ne_of_lt (Nat.lt_of_lt_of_le sp12_.lt r97_0)) nin0))
  obtain ⟨cl114, Ar114, q114, S114, M114, H114, G114⟩ := id f113
  have hin114 : ¬ ((2 : Int32) < 0 ∨ cl114.slots.size ≤ ((2 : Int32)).toNatClampNeg) := inb_of S114 ⟨by decide, by decide⟩
  have hat114 : cl114.slots[((2 : Int32)).toNatClampNeg]? = some (.int y2) := Has.at H114 hin114 rfl
  refine sp_ (fun t_ k_ => X107.iaload hx (j := (2 : Int32)) (v := (.int y2)) Ar114.1 (State.isArrayOf_alike hZ.alike Ar114.2.1) Ar114.2.2 hin114 hat114 (g := (mkF mm_ 383 #[vi p1, vi p2, vi p3, vi p4, vi cp, vi rk, vr x, vi 1, vr ea, vi 2, vr r_97, vi y11] [(.int 2), (.ref ea), (.int 0), (.ref r_97)])) rfl rfl (B_ at_383) t_ k_) ?_
  have f116 : Exa Z T107.heap r_97 sc4 := (f108.keep Kc107)
  have O117 : Old Z n0 T107.heap := (O112.keep Kc107 (allS g_r_97 all0))
  obtain ⟨_, T115, Lc115, X115, hQ115, st115⟩ := own_cS X107 hx hZ hown (w_ hw 107 rfl) (w_ hw 108 rfl) (w_ hw 109 rfl) (w_ hw 110 rfl) (by decide) (backOf (W := 0) (rmSa l Z a0 hw [] r_97 y2 (2 : Int32) (2 : Int32) T107.heap n0 O117 f116 r107_2 r107_1 (by first | assumption | decide | (simp; done))) hZ (w_ hw 110 rfl) (w_ hw 109 rfl) (by decide) (by decide)) (g := (mkF mm_ 384 #[vi p1, vi p2, vi p3, vi p4, vi cp, vi rk, vr x, vi 1, vr ea, vi 2, vr r_97, vi y11] [(.int y2), (.int 0), (.ref r_97)])) rfl hml.symm (argsL := [(.ref r_97), (.int 0), (.int y2)]) (rest := []) (lenOf pd_14 rfl) rfl (Nat.le_of_eq rfl) (B_ at_384) rfl rfl (by decide) (by decide)
  obtain ⟨rfl, rfl, Eh115⟩ := hQ115
  have N115 := Fr.app N107 (Fr.nil n0)
  refine jp_ st115 ?_
  show Go_ T115 (mkF mm_ 387 #[vi p1, vi p2, vi p3, vi p4, vi cp, vi rk, vr x, vi 1, vr ea, vi 2, vr r_97, vi y11] [(.int 1)])
  refine sp_ (fun t_ k_ => XS.ifNo X115.here hx rfl (B_ at_387) rfl ((if0 _ _).trans (feq (by decide : ¬ ((1 : Int32) = (0 : Int32)))).1) k_) ?_
  show Go_ T115 (mkF mm_ 390 #[vi p1, vi p2, vi p3, vi p4, vi cp, vi rk, vr x, vi 1, vr ea, vi 2, vr r_97, vi y11] [])
  refine sp_ (fun t_ k_ => XS.aload X115.here hx rfl (B_ at_390) rfl rfl (XS.iconst X115.here hx rfl (B_ at_392) (XS.iconst X115.here hx rfl (B_ at_393) k_))) ?_
  obtain ⟨_, T118, Lc118, X118, hQ118, st118⟩ := own_cS X115 hx hZ hown (w_ hw 107 rfl) (w_ hw 108 rfl) (w_ hw 109 rfl) (w_ hw 110 rfl) (by decide) (backOf (W := 0) (rmSa l Z a0 hw [] r_97 (0 : Int32) (2 : Int32) (2 : Int32) T107.heap n0 O117 f116 r107_2 r107_1 (by first | assumption | decide | (simp; done))) hZ (w_ hw 110 rfl) (w_ hw 109 rfl) (by decide) (by decide)) (g := (mkF mm_ 394 #[vi p1, vi p2, vi p3, vi p4, vi cp, vi rk, vr x, vi 1, vr ea, vi 2, vr r_97, vi y11] [(.int 0), (.int 0), (.ref r_97)])) rfl hml.symm (argsL := [(.ref r_97), (.int 0), (.int 0)]) (rest := []) (lenOf pd_14 rfl) rfl (Nat.le_of_eq rfl) (B_ at_394) rfl Eh115 (by decide) (by decide)
  obtain ⟨rfl, rfl, Eh118⟩ := hQ118
  have N118 := Fr.app N115 (Fr.nil n0)
  refine jp_ st118 ?_
  show Go_ T118 (mkF mm_ 397 #[vi p1, vi p2, vi p3, vi p4, vi cp, vi rk, vr x, vi 1, vr ea, vi 2, vr r_97, vi y11] [(.int 1)])
  refine sp_ (fun t_ k_ => XS.ifNo X118.here hx rfl (B_ at_397) rfl ((if0 _ _).trans (feq (by decide : ¬ ((1 : Int32) = (0 : Int32)))).1) k_) ?_
  show Go_ T118 (mkF mm_ 400 #[vi p1, vi p2, vi p3, vi p4, vi cp, vi rk, vr x, vi 1, vr ea, vi 2, vr r_97, vi y11] [])
  refine sp_ (fun t_ k_ => XS.iconst X118.here hx rfl (B_ at_400) (XS.goto X118.here hx rfl (pc0 := 401) (pc' := 405) rfl (B_ at_401) (by decide) (by decide) k_)) ?_
  show Go_ T118 (mkF mm_ 405 #[vi p1, vi p2, vi p3, vi p4, vi cp, vi rk, vr x, vi 1, vr ea, vi 2, vr r_97, vi y11] [(.int 1)])
  have K119 : Keep h0 T107.heap [] := (((Ks_.trans Kc97 all0).trans Kc100 (allS (Or.inr lo_r_97) all0)).trans Kc107 (allS (Or.inr lo_r_97) all0))
  obtain ⟨fs, hr, hrun, hended, hW, hsame⟩ := X118.leave (v := some (.int 1)) (rN Bd.returns)
  refine ⟨_, _, ?_, hrun, hended, _, _, rfl, ?_, ⟨_, rfl⟩, hW, hsame.mono (by decide) (by decide)⟩
  · exact retN X118 hx (t := .boolean) Bd.returns (by simp) (B_ at_405) hr
  · show Qrm0 Z p1 p2 p3 p4 h0 n0 (some (.int 1)) T118.heap _
    rw [Eh118]
    exact ⟨rfl, N118, K119⟩
 have seg_g1_0 : ∀ (Ts_ : State) (locs_ : List Loc) (hs_ : Heap) (cp : Int32) (rk : Int32) (x : Addr) (ar : Addr) (ea : Addr) (k : ClassId) (ke : ClassId) (z : Int32) (gn : Int32) (r0 : Addr) (v0 : Int32) (y1 : Int32) (y2 : Int32) (Xs_ : Stand pp_ l ee_ room_1 ss_ mm_ #[(.int p1), (.int p2), (.int p3), (.int p4)] bb_ me_ cc_ Ts_ locs_ 19 95) (es_ : Ts_.heap = hs_) (Ns_ : Fr n0 locs_) (Ks_ : Keep h0 hs_ []) (Os_ : Old Z n0 hs_)  (sp0_ : Exa Z hs_ x sc1) (sp1_ : Fld Z hs_ x sc1 "hashed" sc5 .null) (sp2_ : Fld Z hs_ x sc1 "members" sc3 (.ref ar)) (sp3_ : Fld Z hs_ x sc1 "size" "I" (.int 1)) (sp4_ : Arv Z hs_ ar k (.object sc2) z [(.ref r0)] .null) (sp5_ : Exa Z hs_ ar sc3) (hov : Ovr Z k sc2) (g_x : n0 ≤ x) (g_ar : n0 ≤ ar) (hz0 : (0 : Int32) < z) (hf0 : 0 ≤ z.toNatClampNeg) (hf1 : 1 ≤ z.toNatClampNeg) (sp12_ : Exa Z hs_ r0 sc0) (sp13_ : Fld Z hs_ r0 sc0 "value" "I" (.int v0)) (sp14_ : Arv Z hs_ ea ke .int (3 : Int32) [(.int v0), (.int y1), (.int y2)] (.int 0)) (g_ea : n0 ≤ ea) (hea : ea ≠ ar) (hex : x ≠ ea) (her0 : r0 ≠ ea) (hy : v0 = gn), own_Go pp_ ee_ bb_ (fun s₂ oo_ => s₂.status = .running ∧ Ended s₂ bb_ oo_ ∧ (∃ vv_ LL_, oo_ = .returned vv_ ∧ Qrm0 Z p1 p2 p3 p4 h0 n0 vv_ s₂.heap LL_ ∧ FrameEnd ss_ oo_ s₂ LL_ room_1.cells room_1.slots)) Ts_ (mkF mm_ 210 #[vi p1, vi p2, vi p3, vi p4, vi cp, vi rk, vr x, vi 1, vr ea, vi 1, vi gn, un] []) := by
  intro Ts_ locs_ hs_ cp rk x ar ea k ke z gn r0 v0 y1 y2  Xs_ es_ Ns_ Ks_ Os_  sp0_ sp1_ sp2_ sp3_ sp4_ sp5_ hov g_x g_ar hz0 hf0 hf1 sp12_ sp13_ sp14_ g_ea hea hex her0 hy
  show Go_ Ts_ (mkF mm_ 210 #[vi p1, vi p2, vi p3, vi p4, vi cp, vi rk, vr x, vi 1, vr ea, vi 1, vi gn, un] [])
  refine sp_ (fun t_ k_ => XS.iload Xs_.here hx rfl (B_ at_210) rfl  k_) ?_
  show Go_ Ts_ (mkF mm_ 212 #[vi p1, vi p2, vi p3, vi p4, vi cp, vi rk, vr x, vi 1, vr ea, vi 1, vi gn, un] [(.int 1)])
  refine sp_ (fun t_ k_ => XS.ifNo Xs_.here hx rfl (B_ at_212) rfl ((if0 _ _).trans (feq (by decide : ¬ ((1 : Int32) = (0 : Int32)))).1) k_) ?_
  show Go_ Ts_ (mkF mm_ 215 #[vi p1, vi p2, vi p3, vi p4, vi cp, vi rk, vr x, vi 1, vr ea, vi 1, vi gn, un] [])
  refine sp_ (fun t_ k_ => XS.aload Xs_.here hx rfl (B_ at_215) rfl rfl (XS.iload Xs_.here hx rfl (B_ at_217) rfl  k_)) ?_
  obtain ⟨_, T120, Lc120, X120, hQ120, st120⟩ := own_cS Xs_ hx hZ hown (w_ hw 28 rfl) (w_ hw 29 rfl) (w_ hw 30 rfl) (w_ hw 31 rfl) (by decide) (backOf (W := 1) (rmVO l Z a0 hw [] gn hs_ n0 Os_ G_ ) hZ (w_ hw 31 rfl) (w_ hw 30 rfl) (by decide) (by decide)) (g := (mkF mm_ 219 #[vi p1, vi p2, vi p3, vi p4, vi cp, vi rk, vr x, vi 1, vr ea, vi 1, vi gn, un] [(.int gn), (.ref x)])) rfl hml.symm (argsL := [(.int gn)]) (rest := [(.ref x)]) (lenOf pd_15 rfl) rfl (Nat.le_of_eq rfl) (B_ at_219) rfl es_ (by decide) (by decide)
  obtain ⟨r_120, rfl, Nq120, Kc120, r120_0, r120_1⟩ := hQ120
  have N120 := Fr.app Ns_ Nq120
  refine jp_ st120 ?_
  show Go_ T120 (mkF mm_ 222 #[vi p1, vi p2, vi p3, vi p4, vi cp, vi rk, vr x, vi 1, vr ea, vi 1, vi gn, un] [(.ref r_120), (.ref x)])
  have f122 : Exa Z T120.heap x sc1 := (sp0_.keep Kc120)
  have f123 : Fld Z T120.heap x sc1 "hashed" sc5 .null := (sp1_.keep Kc120 nin0)
  have f124 : Fld Z T120.heap x sc1 "members" sc3 (.ref ar) := (sp2_.keep Kc120 nin0)
  have f125 : Fld Z T120.heap x sc1 "size" "I" (.int 1) := (sp3_.keep Kc120 nin0)
  have f126 : Arv Z T120.heap ar k (.object sc2) z [(.ref r0)] .null := (sp4_.keep Kc120 nin0)
  have f127 : Exa Z T120.heap ar sc3 := (sp5_.keep Kc120)
  have f128 : Exa Z T120.heap r0 sc0 := (sp12_.keep Kc120)
  have f129 : Fld Z T120.heap r0 sc0 "value" "I" (.int v0) := (sp13_.keep Kc120 nin0)
  have O130 : Old Z n0 T120.heap := (Os_.keep Kc120 all0)
  obtain ⟨_, T121, Lc121, X121, hQ121, st121⟩ := own_cV X120 hx hZ hown (w_ hw 132 rfl) (w_ hw 133 rfl) (notFace_of_selects (args := #[]) (mvT hZ (w_ hw 135 rfl))) (w_ hw 135 rfl) (w_ hw 134 rfl) (by decide) (backOf (W := 0) (rmRm1_0 l Z a0 hw [] x r_120 ar k z r0 v0 gn T120.heap n0 O130 f122 f123 f124 f125 f126 f127 hov g_x g_ar hz0 hf0 hf1 f128 f129 r120_0 r120_1 hy) hZ (w_ hw 136 rfl) (w_ hw 2 rfl) (by decide) (by decide)) f122 (g := (mkF mm_ 222 #[vi p1, vi p2, vi p3, vi p4, vi cp, vi rk, vr x, vi 1, vr ea, vi 1, vi gn, un] [(.ref r_120), (.ref x)])) rfl hml.symm (argsL := [(.ref r_120)]) (rest := []) (lenOf pd_4 rfl) rfl (Nat.le_of_eq rfl) (B_ at_222) rfl rfl (by decide) (by decide)
  obtain ⟨rfl, Nq121, Kc121, r121_0, r121_1, r121_2, r121_3⟩ := hQ121
  have N121 := Fr.app N120 Nq121
  refine jp_ st121 ?_
  show Go_ T121 (mkF mm_ 225 #[vi p1, vi p2, vi p3, vi p4, vi cp, vi rk, vr x, vi 1, vr ea, vi 1, vi gn, un] [(.int 1)])
  refine sp_ (fun t_ k_ => XS.ifNo X121.here hx rfl (B_ at_225) rfl ((if0 _ _).trans (feq (by decide : ¬ ((1 : Int32) = (0 : Int32)))).1) k_) ?_
  show Go_ T121 (mkF mm_ 228 #[vi p1, vi p2, vi p3, vi p4, vi cp, vi rk, vr x, vi 1, vr ea, vi 1, vi gn, un] [])
  refine sp_ (fun t_ k_ => XS.iconst X121.here hx rfl (B_ at_228) (XS.goto X121.here hx rfl (pc0 := 229) (pc' := 233) rfl (B_ at_229) (by decide) (by decide) (XS.istore X121.here hx rfl (B_ at_233) rfl (l' := #[vi p1, vi p2, vi p3, vi p4, vi cp, vi rk, vr x, vi 1, vr ea, vi 1, vi gn, un]) rfl (XS.aload X121.here hx rfl (B_ at_235) rfl rfl (XS.iconst X121.here hx rfl (B_ at_237) k_))))) ?_
  have f131 : Arv Z T121.heap ea ke .int (3 : Int32) [(.int v0), (.int y1), (.int y2)] (.int 0) := ((sp14_.keep Kc120 nin0).keep Kc121 (ninS (Ne.symm hex) (ninS hea nin0)))
  obtain ⟨cl132, Ar132, q132, S132, M132, H132, G132⟩ := id f131
  have hin132 : ¬ ((0 : Int32) < 0 ∨ cl132.slots.size ≤ ((0 : Int32)).toNatClampNeg) := inb_of S132 ⟨by decide, by decide⟩
  have hat132 : cl132.slots[((0 : Int32)).toNatClampNeg]? = some (.int v0) := Has.at H132 hin132 rfl
  refine sp_ (fun t_ k_ => X121.iaload hx (j := (0 : Int32)) (v := (.int v0)) Ar132.1 (State.isArrayOf_alike hZ.alike Ar132.2.1) Ar132.2.2 hin132 hat132 (g := (mkF mm_ 238 #[vi p1, vi p2, vi p3, vi p4, vi cp, vi rk, vr x, vi 1, vr ea, vi 1, vi gn, un] [(.int 0), (.ref ea)])) rfl rfl (B_ at_238) t_ k_) ?_
  show Go_ T121 (mkF mm_ 239 #[vi p1, vi p2, vi p3, vi p4, vi cp, vi rk, vr x, vi 1, vr ea, vi 1, vi gn, un] [(.int v0)])
  refine sp_ (fun t_ k_ => XS.iload X121.here hx rfl (B_ at_239) rfl  k_) ?_
  show Go_ T121 (mkF mm_ 241 #[vi p1, vi p2, vi p3, vi p4, vi cp, vi rk, vr x, vi 1, vr ea, vi 1, vi gn, un] [(.int gn), (.int v0)])
  refine sp_ (fun t_ k_ => XS.icmpNo X121.here hx rfl (B_ at_241) rfl (teq hy).2 k_) ?_
  show Go_ T121 (mkF mm_ 244 #[vi p1, vi p2, vi p3, vi p4, vi cp, vi rk, vr x, vi 1, vr ea, vi 1, vi gn, un] [])
  refine sp_ (fun t_ k_ => XS.iconst X121.here hx rfl (B_ at_244) (XS.goto X121.here hx rfl (pc0 := 245) (pc' := 262) rfl (B_ at_245) (by decide) (by decide) (XS.istore X121.here hx rfl (B_ at_262) rfl (l' := #[vi p1, vi p2, vi p3, vi p4, vi cp, vi rk, vr x, vi 1, vr ea, vi 1, vi gn, vi 0]) rfl (XS.iload X121.here hx rfl (B_ at_264) rfl  (XS.iconst X121.here hx rfl (B_ at_266) k_))))) ?_
  show Go_ T121 (mkF mm_ 267 #[vi p1, vi p2, vi p3, vi p4, vi cp, vi rk, vr x, vi 1, vr ea, vi 1, vi gn, vi 0] [(.int 1), (.int 0)])
  refine sp_ (fun t_ k_ => XS.icmpNo X121.here hx rfl (B_ at_267) rfl (tlt (by decide : (0 : Int32) < (1 : Int32))).2.1 k_) ?_
  show Go_ T121 (mkF mm_ 270 #[vi p1, vi p2, vi p3, vi p4, vi cp, vi rk, vr x, vi 1, vr ea, vi 1, vi gn, vi 0] [])
  refine sp_ (fun t_ k_ => XS.iload X121.here hx rfl (B_ at_270) rfl  (XS.iconst X121.here hx rfl (B_ at_272) k_)) ?_
  show Go_ T121 (mkF mm_ 273 #[vi p1, vi p2, vi p3, vi p4, vi cp, vi rk, vr x, vi 1, vr ea, vi 1, vi gn, vi 0] [(.int 1), (.int 1)])
  refine sp_ (fun t_ k_ => XS.icmpYes X121.here hx rfl (pc0 := 273) (pc' := 284) rfl (B_ at_273) rfl (flt (by decide : ¬ ((1 : Int32) < (1 : Int32)))).2.2.2 (by decide) (by decide) k_) ?_
  show Go_ T121 (mkF mm_ 284 #[vi p1, vi p2, vi p3, vi p4, vi cp, vi rk, vr x, vi 1, vr ea, vi 1, vi gn, vi 0] [])
  refine sp_ (fun t_ k_ => XS.iload X121.here hx rfl (B_ at_284) rfl  (XS.iconst X121.here hx rfl (B_ at_286) k_)) ?_
  show Go_ T121 (mkF mm_ 287 #[vi p1, vi p2, vi p3, vi p4, vi cp, vi rk, vr x, vi 1, vr ea, vi 1, vi gn, vi 0] [(.int 2), (.int 0)])
  refine sp_ (fun t_ k_ => XS.icmpNo X121.here hx rfl (B_ at_287) rfl (tlt (by decide : (0 : Int32) < (2 : Int32))).2.1 k_) ?_
  show Go_ T121 (mkF mm_ 290 #[vi p1, vi p2, vi p3, vi p4, vi cp, vi rk, vr x, vi 1, vr ea, vi 1, vi gn, vi 0] [])
  refine sp_ (fun t_ k_ => XS.iload X121.here hx rfl (B_ at_290) rfl  (XS.iconst X121.here hx rfl (B_ at_292) k_)) ?_
  show Go_ T121 (mkF mm_ 293 #[vi p1, vi p2, vi p3, vi p4, vi cp, vi rk, vr x, vi 1, vr ea, vi 1, vi gn, vi 0] [(.int 2), (.int 1)])
  refine sp_ (fun t_ k_ => XS.icmpYes X121.here hx rfl (pc0 := 293) (pc' := 304) rfl (B_ at_293) rfl (flt (by decide : ¬ ((2 : Int32) < (1 : Int32)))).2.2.2 (by decide) (by decide) k_) ?_
  show Go_ T121 (mkF mm_ 304 #[vi p1, vi p2, vi p3, vi p4, vi cp, vi rk, vr x, vi 1, vr ea, vi 1, vi gn, vi 0] [])
  refine sp_ (fun t_ k_ => XS.iload X121.here hx rfl (B_ at_304) rfl  (XS.iconst X121.here hx rfl (B_ at_306) (XS.isub X121.here hx rfl (B_ at_307) rfl (XS.istore X121.here hx rfl (B_ at_308) rfl (l' := #[vi p1, vi p2, vi p3, vi p4, vi cp, vi rk, vr x, vi 1, vr ea, vi 0, vi gn, vi 0]) rfl k_)))) ?_
  have f133 : Exa Z T121.heap x sc1 := (f122.keep Kc121)
  have f134 : Exa Z T121.heap ar sc3 := (f127.keep Kc121)
  have K135 : Keep h0 T121.heap [] := ((Ks_.trans Kc120 all0).trans Kc121 (allS (Or.inr (Nat.le_trans (Nat.le_of_eq hZ0_) g_x)) (allS (Or.inr (Nat.le_trans (Nat.le_of_eq hZ0_) g_ar)) all0)))
  have O136 : Old Z n0 T121.heap := (O130.keep Kc121 (allS g_x (allS g_ar all0)))
  exact seg_e0s _ _ _ cp rk x ar ea k ke z v0 y1 y2 gn (0 : Int32)  (X121.more (by decide) (by decide)) rfl N121 K135 O136  f133 r121_0 r121_1 r121_2 r121_3 f134 f131
 have seg_g2_0 : ∀ (Ts_ : State) (locs_ : List Loc) (hs_ : Heap) (cp : Int32) (rk : Int32) (x : Addr) (ar : Addr) (ea : Addr) (k : ClassId) (ke : ClassId) (z : Int32) (gn : Int32) (r0 : Addr) (r1 : Addr) (v0 : Int32) (v1 : Int32) (y2 : Int32) (Xs_ : Stand pp_ l ee_ room_1 ss_ mm_ #[(.int p1), (.int p2), (.int p3), (.int p4)] bb_ me_ cc_ Ts_ locs_ 19 95) (es_ : Ts_.heap = hs_) (Ns_ : Fr n0 locs_) (Ks_ : Keep h0 hs_ []) (Os_ : Old Z n0 hs_)  (sp0_ : Exa Z hs_ x sc1) (sp1_ : Fld Z hs_ x sc1 "hashed" sc5 .null) (sp2_ : Fld Z hs_ x sc1 "members" sc3 (.ref ar)) (sp3_ : Fld Z hs_ x sc1 "size" "I" (.int 2)) (sp4_ : Arv Z hs_ ar k (.object sc2) z [(.ref r0), (.ref r1)] .null) (sp5_ : Exa Z hs_ ar sc3) (hov : Ovr Z k sc2) (g_x : n0 ≤ x) (g_ar : n0 ≤ ar) (hz0 : (0 : Int32) < z) (hz1 : (1 : Int32) < z) (hf1 : 1 ≤ z.toNatClampNeg) (hf2 : 2 ≤ z.toNatClampNeg) (sp13_ : Exa Z hs_ r0 sc0) (sp14_ : Fld Z hs_ r0 sc0 "value" "I" (.int v0)) (sp15_ : Exa Z hs_ r1 sc0) (sp16_ : Fld Z hs_ r1 sc0 "value" "I" (.int v1)) (sp17_ : Arv Z hs_ ea ke .int (3 : Int32) [(.int v0), (.int v1), (.int y2)] (.int 0)) (g_ea : n0 ≤ ea) (hea : ea ≠ ar) (hex : x ≠ ea) (her0 : r0 ≠ ea) (her1 : r1 ≠ ea) (hy : v0 = gn), own_Go pp_ ee_ bb_ (fun s₂ oo_ => s₂.status = .running ∧ Ended s₂ bb_ oo_ ∧ (∃ vv_ LL_, oo_ = .returned vv_ ∧ Qrm0 Z p1 p2 p3 p4 h0 n0 vv_ s₂.heap LL_ ∧ FrameEnd ss_ oo_ s₂ LL_ room_1.cells room_1.slots)) Ts_ (mkF mm_ 210 #[vi p1, vi p2, vi p3, vi p4, vi cp, vi rk, vr x, vi 1, vr ea, vi 2, vi gn, un] []) := by
  intro Ts_ locs_ hs_ cp rk x ar ea k ke z gn r0 r1 v0 v1 y2  Xs_ es_ Ns_ Ks_ Os_  sp0_ sp1_ sp2_ sp3_ sp4_ sp5_ hov g_x g_ar hz0 hz1 hf1 hf2 sp13_ sp14_ sp15_ sp16_ sp17_ g_ea hea hex her0 her1 hy
  show Go_ Ts_ (mkF mm_ 210 #[vi p1, vi p2, vi p3, vi p4, vi cp, vi rk, vr x, vi 1, vr ea, vi 2, vi gn, un] [])
  refine sp_ (fun t_ k_ => XS.iload Xs_.here hx rfl (B_ at_210) rfl  k_) ?_
  show Go_ Ts_ (mkF mm_ 212 #[vi p1, vi p2, vi p3, vi p4, vi cp, vi rk, vr x, vi 1, vr ea, vi 2, vi gn, un] [(.int 1)])
  refine sp_ (fun t_ k_ => XS.ifNo Xs_.here hx rfl (B_ at_212) rfl ((if0 _ _).trans (feq (by decide : ¬ ((1 : Int32) = (0 : Int32)))).1) k_) ?_
  show Go_ Ts_ (mkF mm_ 215 #[vi p1, vi p2, vi p3, vi p4, vi cp, vi rk, vr x, vi 1, vr ea, vi 2, vi gn, un] [])
  refine sp_ (fun t_ k_ => XS.aload Xs_.here hx rfl (B_ at_215) rfl rfl (XS.iload Xs_.here hx rfl (B_ at_217) rfl  k_)) ?_
  obtain ⟨_, T137, Lc137, X137, hQ137, st137⟩ := own_cS Xs_ hx hZ hown (w_ hw 28 rfl) (w_ hw 29 rfl) (w_ hw 30 rfl) (w_ hw 31 rfl) (by decide) (backOf (W := 1) (rmVO l Z a0 hw [] gn hs_ n0 Os_ G_ ) hZ (w_ hw 31 rfl) (w_ hw 30 rfl) (by decide) (by decide)) (g := (mkF mm_ 219 #[vi p1, vi p2, vi p3, vi p4, vi cp, vi rk, vr x, vi 1, vr ea, vi 2, vi gn, un] [(.int gn), (.ref x)])) rfl hml.symm (argsL := [(.int gn)]) (rest := [(.ref x)]) (lenOf pd_15 rfl) rfl (Nat.le_of_eq rfl) (B_ at_219) rfl es_ (by decide) (by decide)
  obtain ⟨r_137, rfl, Nq137, Kc137, r137_0, r137_1⟩ := hQ137
  have N137 := Fr.app Ns_ Nq137
  refine jp_ st137 ?_
  show Go_ T137 (mkF mm_ 222 #[vi p1, vi p2, vi p3, vi p4, vi cp, vi rk, vr x, vi 1, vr ea, vi 2, vi gn, un] [(.ref r_137), (.ref x)])
  have f139 : Exa Z T137.heap x sc1 := (sp0_.keep Kc137)
  have f140 : Fld Z T137.heap x sc1 "hashed" sc5 .null := (sp1_.keep Kc137 nin0)
  have f141 : Fld Z T137.heap x sc1 "members" sc3 (.ref ar) := (sp2_.keep Kc137 nin0)
  have f142 : Fld Z T137.heap x sc1 "size" "I" (.int 2) := (sp3_.keep Kc137 nin0)
  have f143 : Arv Z T137.heap ar k (.object sc2) z [(.ref r0), (.ref r1)] .null := (sp4_.keep Kc137 nin0)
  have f144 : Exa Z T137.heap ar sc3 := (sp5_.keep Kc137)
  have f145 : Exa Z T137.heap r0 sc0 := (sp13_.keep Kc137)
  have f146 : Fld Z T137.heap r0 sc0 "value" "I" (.int v0) := (sp14_.keep Kc137 nin0)
  have f147 : Exa Z T137.heap r1 sc0 := (sp15_.keep Kc137)
  have f148 : Fld Z T137.heap r1 sc0 "value" "I" (.int v1) := (sp16_.keep Kc137 nin0)
  have O149 : Old Z n0 T137.heap := (Os_.keep Kc137 all0)
  obtain ⟨_, T138, Lc138, X138, hQ138, st138⟩ := own_cV X137 hx hZ hown (w_ hw 132 rfl) (w_ hw 133 rfl) (notFace_of_selects (args := #[]) (mvT hZ (w_ hw 135 rfl))) (w_ hw 135 rfl) (w_ hw 134 rfl) (by decide) (backOf (W := 0) (rmRm2_0 l Z a0 hw [] x r_137 ar k z r0 r1 v0 v1 gn T137.heap n0 O149 f139 f140 f141 f142 f143 f144 hov g_x g_ar hz0 hz1 hf1 hf2 f145 f146 f147 f148 r137_0 r137_1 hy) hZ (w_ hw 136 rfl) (w_ hw 2 rfl) (by decide) (by decide)) f139 (g := (mkF mm_ 222 #[vi p1, vi p2, vi p3, vi p4, vi cp, vi rk, vr x, vi 1, vr ea, vi 2, vi gn, un] [(.ref r_137), (.ref x)])) rfl hml.symm (argsL := [(.ref r_137)]) (rest := []) (lenOf pd_4 rfl) rfl (Nat.le_of_eq rfl) (B_ at_222) rfl rfl (by decide) (by decide)
  obtain ⟨rfl, Nq138, Kc138, r138_0, r138_1, r138_2, r138_3⟩ := hQ138
  have N138 := Fr.app N137 Nq138
  refine jp_ st138 ?_
  show Go_ T138 (mkF mm_ 225 #[vi p1, vi p2, vi p3, vi p4, vi cp, vi rk, vr x, vi 1, vr ea, vi 2, vi gn, un] [(.int 1)])
  refine sp_ (fun t_ k_ => XS.ifNo X138.here hx rfl (B_ at_225) rfl ((if0 _ _).trans (feq (by decide : ¬ ((1 : Int32) = (0 : Int32)))).1) k_) ?_
  show Go_ T138 (mkF mm_ 228 #[vi p1, vi p2, vi p3, vi p4, vi cp, vi rk, vr x, vi 1, vr ea, vi 2, vi gn, un] [])
  refine sp_ (fun t_ k_ => XS.iconst X138.here hx rfl (B_ at_228) (XS.goto X138.here hx rfl (pc0 := 229) (pc' := 233) rfl (B_ at_229) (by decide) (by decide) (XS.istore X138.here hx rfl (B_ at_233) rfl (l' := #[vi p1, vi p2, vi p3, vi p4, vi cp, vi rk, vr x, vi 1, vr ea, vi 2, vi gn, un]) rfl (XS.aload X138.here hx rfl (B_ at_235) rfl rfl (XS.iconst X138.here hx rfl (B_ at_237) k_))))) ?_
  have f150 : Arv Z T138.heap ea ke .int (3 : Int32) [(.int v0), (.int v1), (.int y2)] (.int 0) := ((sp17_.keep Kc137 nin0).keep Kc138 (ninS (Ne.symm hex) (ninS hea nin0)))
  obtain ⟨cl151, Ar151, q151, S151, M151, H151, G151⟩ := id f150
  have hin151 : ¬ ((0 : Int32) < 0 ∨ cl151.slots.size ≤ ((0 : Int32)).toNatClampNeg) := inb_of S151 ⟨by decide, by decide⟩
  have hat151 : cl151.slots[((0 : Int32)).toNatClampNeg]? = some (.int v0) := Has.at H151 hin151 rfl
  refine sp_ (fun t_ k_ => X138.iaload hx (j := (0 : Int32)) (v := (.int v0)) Ar151.1 (State.isArrayOf_alike hZ.alike Ar151.2.1) Ar151.2.2 hin151 hat151 (g := (mkF mm_ 238 #[vi p1, vi p2, vi p3, vi p4, vi cp, vi rk, vr x, vi 1, vr ea, vi 2, vi gn, un] [(.int 0), (.ref ea)])) rfl rfl (B_ at_238) t_ k_) ?_
  show Go_ T138 (mkF mm_ 239 #[vi p1, vi p2, vi p3, vi p4, vi cp, vi rk, vr x, vi 1, vr ea, vi 2, vi gn, un] [(.int v0)])
  refine sp_ (fun t_ k_ => XS.iload X138.here hx rfl (B_ at_239) rfl  k_) ?_
  show Go_ T138 (mkF mm_ 241 #[vi p1, vi p2, vi p3, vi p4, vi cp, vi rk, vr x, vi 1, vr ea, vi 2, vi gn, un] [(.int gn), (.int v0)])
  refine sp_ (fun t_ k_ => XS.icmpNo X138.here hx rfl (B_ at_241) rfl (teq hy).2 k_) ?_
  show Go_ T138 (mkF mm_ 244 #[vi p1, vi p2, vi p3, vi p4, vi cp, vi rk, vr x, vi 1, vr ea, vi 2, vi gn, un] [])
  refine sp_ (fun t_ k_ => XS.iconst X138.here hx rfl (B_ at_244) (XS.goto X138.here hx rfl (pc0 := 245) (pc' := 262) rfl (B_ at_245) (by decide) (by decide) (XS.istore X138.here hx rfl (B_ at_262) rfl (l' := #[vi p1, vi p2, vi p3, vi p4, vi cp, vi rk, vr x, vi 1, vr ea, vi 2, vi gn, vi 0]) rfl (XS.iload X138.here hx rfl (B_ at_264) rfl  (XS.iconst X138.here hx rfl (B_ at_266) k_))))) ?_
  show Go_ T138 (mkF mm_ 267 #[vi p1, vi p2, vi p3, vi p4, vi cp, vi rk, vr x, vi 1, vr ea, vi 2, vi gn, vi 0] [(.int 1), (.int 0)])
  refine sp_ (fun t_ k_ => XS.icmpNo X138.here hx rfl (B_ at_267) rfl (tlt (by decide : (0 : Int32) < (1 : Int32))).2.1 k_) ?_
  show Go_ T138 (mkF mm_ 270 #[vi p1, vi p2, vi p3, vi p4, vi cp, vi rk, vr x, vi 1, vr ea, vi 2, vi gn, vi 0] [])
  refine sp_ (fun t_ k_ => XS.iload X138.here hx rfl (B_ at_270) rfl  (XS.iconst X138.here hx rfl (B_ at_272) k_)) ?_
  show Go_ T138 (mkF mm_ 273 #[vi p1, vi p2, vi p3, vi p4, vi cp, vi rk, vr x, vi 1, vr ea, vi 2, vi gn, vi 0] [(.int 1), (.int 2)])
  refine sp_ (fun t_ k_ => XS.icmpNo X138.here hx rfl (B_ at_273) rfl (tlt (by decide : (1 : Int32) < (2 : Int32))).2.2.2 k_) ?_
  show Go_ T138 (mkF mm_ 276 #[vi p1, vi p2, vi p3, vi p4, vi cp, vi rk, vr x, vi 1, vr ea, vi 2, vi gn, vi 0] [])
  refine sp_ (fun t_ k_ => XS.aload X138.here hx rfl (B_ at_276) rfl rfl (XS.iconst X138.here hx rfl (B_ at_278) (XS.aload X138.here hx rfl (B_ at_279) rfl rfl (XS.iconst X138.here hx rfl (B_ at_281) k_)))) ?_
  obtain ⟨cl152, Ar152, q152, S152, M152, H152, G152⟩ := id f150
  have hin152 : ¬ ((1 : Int32) < 0 ∨ cl152.slots.size ≤ ((1 : Int32)).toNatClampNeg) := inb_of S152 ⟨by decide, by decide⟩
  have hat152 : cl152.slots[((1 : Int32)).toNatClampNeg]? = some (.int v1) := Has.at H152 hin152 rfl
  refine sp_ (fun t_ k_ => X138.iaload hx (j := (1 : Int32)) (v := (.int v1)) Ar152.1 (State.isArrayOf_alike hZ.alike Ar152.2.1) Ar152.2.2 hin152 hat152 (g := (mkF mm_ 282 #[vi p1, vi p2, vi p3, vi p4, vi cp, vi rk, vr x, vi 1, vr ea, vi 2, vi gn, vi 0] [(.int 1), (.ref ea), (.int 0), (.ref ea)])) rfl rfl (B_ at_282) t_ k_) ?_
  obtain ⟨cl153, Ar153, q153, S153, M153, H153, G153⟩ := id f150
  have hin153 : ¬ ((0 : Int32) < 0 ∨ cl153.slots.size ≤ ((0 : Int32)).toNatClampNeg) := inb_of S153 ⟨by decide, by decide⟩
  obtain ⟨T153, h153, X153, e153, W153, st153⟩ := stI X138 hx hZ rfl Ar153 (j := (0 : Int32)) hin153 (g := (mkF mm_ 283 #[vi p1, vi p2, vi p3, vi p4, vi cp, vi rk, vr x, vi 1, vr ea, vi 2, vi gn, vi 0] [(.int v1), (.int 0), (.ref ea)])) rfl rfl (B_ at_283)
  have V153 : Arv Z h153 ea ke .int (3 : Int32) [(.int v1), (.int v1), (.int y2)] (.int 0) := Arv.set Ar153 q153 S153 M153 H153 G153 rfl W153 0 rfl (Nat.le_of_ble_eq_true rfl)
  have N153 := Fr.snoc X153 N138 g_ea
  refine sp_ st153 ?_
  show Go_ T153 (mkF mm_ 284 #[vi p1, vi p2, vi p3, vi p4, vi cp, vi rk, vr x, vi 1, vr ea, vi 2, vi gn, vi 0] [])
  refine sp_ (fun t_ k_ => XS.iload X153.here hx rfl (B_ at_284) rfl  (XS.iconst X153.here hx rfl (B_ at_286) k_)) ?_
  show Go_ T153 (mkF mm_ 287 #[vi p1, vi p2, vi p3, vi p4, vi cp, vi rk, vr x, vi 1, vr ea, vi 2, vi gn, vi 0] [(.int 2), (.int 0)])
  refine sp_ (fun t_ k_ => XS.icmpNo X153.here hx rfl (B_ at_287) rfl (tlt (by decide : (0 : Int32) < (2 : Int32))).2.1 k_) ?_
  show Go_ T153 (mkF mm_ 290 #[vi p1, vi p2, vi p3, vi p4, vi cp, vi rk, vr x, vi 1, vr ea, vi 2, vi gn, vi 0] [])
  refine sp_ (fun t_ k_ => XS.iload X153.here hx rfl (B_ at_290) rfl  (XS.iconst X153.here hx rfl (B_ at_292) k_)) ?_
  show Go_ T153 (mkF mm_ 293 #[vi p1, vi p2, vi p3, vi p4, vi cp, vi rk, vr x, vi 1, vr ea, vi 2, vi gn, vi 0] [(.int 2), (.int 2)])
  refine sp_ (fun t_ k_ => XS.icmpYes X153.here hx rfl (pc0 := 293) (pc' := 304) rfl (B_ at_293) rfl (flt (by decide : ¬ ((2 : Int32) < (2 : Int32)))).2.2.2 (by decide) (by decide) k_) ?_
  show Go_ T153 (mkF mm_ 304 #[vi p1, vi p2, vi p3, vi p4, vi cp, vi rk, vr x, vi 1, vr ea, vi 2, vi gn, vi 0] [])
  refine sp_ (fun t_ k_ => XS.iload X153.here hx rfl (B_ at_304) rfl  (XS.iconst X153.here hx rfl (B_ at_306) (XS.isub X153.here hx rfl (B_ at_307) rfl (XS.istore X153.here hx rfl (B_ at_308) rfl (l' := #[vi p1, vi p2, vi p3, vi p4, vi cp, vi rk, vr x, vi 1, vr ea, vi 1, vi gn, vi 0]) rfl k_)))) ?_
  have f154 : Exa Z h153 x sc1 := ((f139.keep Kc138).wr W153)
  have f155 : Fld Z h153 x sc1 "hashed" sc5 .null := (r138_0.other W153 (Or.inl hex))
  have f156 : Fld Z h153 x sc1 "members" sc3 (.ref ar) := (r138_1.other W153 (Or.inl hex))
  have f157 : Fld Z h153 x sc1 "size" "I" (.int 1) := (r138_2.other W153 (Or.inl hex))
  have f158 : Arv Z h153 ar k (.object sc2) z [(.ref r1)] .null := (r138_3.other W153 (Ne.symm hea))
  have f159 : Exa Z h153 ar sc3 := ((f144.keep Kc138).wr W153)
  have f160 : Exa Z h153 r1 sc0 := ((f147.keep Kc138).wr W153)
  have f161 : Fld Z h153 r1 sc0 "value" "I" (.int v1) := ((f148.keep Kc138 (ninS (Exa.ne f147 f139 (by decide)) (ninS (Exa.ne f147 f144 (by decide)) nin0))).other W153 (Or.inl her1))
  have K162 : Keep h0 h153 [] := (((Ks_.trans Kc137 all0).trans Kc138 (allS (Or.inr (Nat.le_trans (Nat.le_of_eq hZ0_) g_x)) (allS (Or.inr (Nat.le_trans (Nat.le_of_eq hZ0_) g_ar)) all0))).wr W153 (Or.inr (Nat.le_trans (Nat.le_of_eq hZ0_) g_ea)))
  have O163 : Old Z n0 h153 := ((O149.keep Kc138 (allS g_x (allS g_ar all0))).wr W153 g_ea)
  exact seg_e1s _ _ _ cp rk x ar ea k ke z r1 v1 v1 y2 gn (0 : Int32)  (X153.more (by decide) (by decide)) e153 N153 K162 O163  f154 f155 f156 f157 f158 f159 hz0 f160 f161 V153
 have seg_g2_1 : ∀ (Ts_ : State) (locs_ : List Loc) (hs_ : Heap) (cp : Int32) (rk : Int32) (x : Addr) (ar : Addr) (ea : Addr) (k : ClassId) (ke : ClassId) (z : Int32) (gn : Int32) (r0 : Addr) (r1 : Addr) (v0 : Int32) (v1 : Int32) (y2 : Int32) (Xs_ : Stand pp_ l ee_ room_1 ss_ mm_ #[(.int p1), (.int p2), (.int p3), (.int p4)] bb_ me_ cc_ Ts_ locs_ 19 95) (es_ : Ts_.heap = hs_) (Ns_ : Fr n0 locs_) (Ks_ : Keep h0 hs_ []) (Os_ : Old Z n0 hs_)  (sp0_ : Exa Z hs_ x sc1) (sp1_ : Fld Z hs_ x sc1 "hashed" sc5 .null) (sp2_ : Fld Z hs_ x sc1 "members" sc3 (.ref ar)) (sp3_ : Fld Z hs_ x sc1 "size" "I" (.int 2)) (sp4_ : Arv Z hs_ ar k (.object sc2) z [(.ref r0), (.ref r1)] .null) (sp5_ : Exa Z hs_ ar sc3) (hov : Ovr Z k sc2) (g_x : n0 ≤ x) (g_ar : n0 ≤ ar) (hz0 : (0 : Int32) < z) (hz1 : (1 : Int32) < z) (hf1 : 1 ≤ z.toNatClampNeg) (hf2 : 2 ≤ z.toNatClampNeg) (sp13_ : Exa Z hs_ r0 sc0) (sp14_ : Fld Z hs_ r0 sc0 "value" "I" (.int v0)) (sp15_ : Exa Z hs_ r1 sc0) (sp16_ : Fld Z hs_ r1 sc0 "value" "I" (.int v1)) (sp17_ : Arv Z hs_ ea ke .int (3 : Int32) [(.int v0), (.int v1), (.int y2)] (.int 0)) (g_ea : n0 ≤ ea) (hea : ea ≠ ar) (hex : x ≠ ea) (her0 : r0 ≠ ea) (her1 : r1 ≠ ea) (hn0 : ¬ (v0 = gn)) (hy : v1 = gn), own_Go pp_ ee_ bb_ (fun s₂ oo_ => s₂.status = .running ∧ Ended s₂ bb_ oo_ ∧ (∃ vv_ LL_, oo_ = .returned vv_ ∧ Qrm0 Z p1 p2 p3 p4 h0 n0 vv_ s₂.heap LL_ ∧ FrameEnd ss_ oo_ s₂ LL_ room_1.cells room_1.slots)) Ts_ (mkF mm_ 210 #[vi p1, vi p2, vi p3, vi p4, vi cp, vi rk, vr x, vi 1, vr ea, vi 2, vi gn, un] []) := by
  intro Ts_ locs_ hs_ cp rk x ar ea k ke z gn r0 r1 v0 v1 y2  Xs_ es_ Ns_ Ks_ Os_  sp0_ sp1_ sp2_ sp3_ sp4_ sp5_ hov g_x g_ar hz0 hz1 hf1 hf2 sp13_ sp14_ sp15_ sp16_ sp17_ g_ea hea hex her0 her1 hn0 hy
  show Go_ Ts_ (mkF mm_ 210 #[vi p1, vi p2, vi p3, vi p4, vi cp, vi rk, vr x, vi 1, vr ea, vi 2, vi gn, un] [])
  refine sp_ (fun t_ k_ => XS.iload Xs_.here hx rfl (B_ at_210) rfl  k_) ?_
  show Go_ Ts_ (mkF mm_ 212 #[vi p1, vi p2, vi p3, vi p4, vi cp, vi rk, vr x, vi 1, vr ea, vi 2, vi gn, un] [(.int 1)])
  refine sp_ (fun t_ k_ => XS.ifNo Xs_.here hx rfl (B_ at_212) rfl ((if0 _ _).trans (feq (by decide : ¬ ((1 : Int32) = (0 : Int32)))).1) k_) ?_
  show Go_ Ts_ (mkF mm_ 215 #[vi p1, vi p2, vi p3, vi p4, vi cp, vi rk, vr x, vi 1, vr ea, vi 2, vi gn, un] [])
  refine sp_ (fun t_ k_ => XS.aload Xs_.here hx rfl (B_ at_215) rfl rfl (XS.iload Xs_.here hx rfl (B_ at_217) rfl  k_)) ?_
  obtain ⟨_, T164, Lc164, X164, hQ164, st164⟩ := own_cS Xs_ hx hZ hown (w_ hw 28 rfl) (w_ hw 29 rfl) (w_ hw 30 rfl) (w_ hw 31 rfl) (by decide) (backOf (W := 1) (rmVO l Z a0 hw [] gn hs_ n0 Os_ G_ ) hZ (w_ hw 31 rfl) (w_ hw 30 rfl) (by decide) (by decide)) (g := (mkF mm_ 219 #[vi p1, vi p2, vi p3, vi p4, vi cp, vi rk, vr x, vi 1, vr ea, vi 2, vi gn, un] [(.int gn), (.ref x)])) rfl hml.symm (argsL := [(.int gn)]) (rest := [(.ref x)]) (lenOf pd_15 rfl) rfl (Nat.le_of_eq rfl) (B_ at_219) rfl es_ (by decide) (by decide)
  obtain ⟨r_164, rfl, Nq164, Kc164, r164_0, r164_1⟩ := hQ164
  have N164 := Fr.app Ns_ Nq164
  refine jp_ st164 ?_
  show Go_ T164 (mkF mm_ 222 #[vi p1, vi p2, vi p3, vi p4, vi cp, vi rk, vr x, vi 1, vr ea, vi 2, vi gn, un] [(.ref r_164), (.ref x)])
  have f166 : Exa Z T164.heap x sc1 := (sp0_.keep Kc164)
  have f167 : Fld Z T164.heap x sc1 "hashed" sc5 .null := (sp1_.keep Kc164 nin0)
  have f168 : Fld Z T164.heap x sc1 "members" sc3 (.ref ar) := (sp2_.keep Kc164 nin0)
  have f169 : Fld Z T164.heap x sc1 "size" "I" (.int 2) := (sp3_.keep Kc164 nin0)
  have f170 : Arv Z T164.heap ar k (.object sc2) z [(.ref r0), (.ref r1)] .null := (sp4_.keep Kc164 nin0)
  have f171 : Exa Z T164.heap ar sc3 := (sp5_.keep Kc164)
  have f172 : Exa Z T164.heap r0 sc0 := (sp13_.keep Kc164)
  have f173 : Fld Z T164.heap r0 sc0 "value" "I" (.int v0) := (sp14_.keep Kc164 nin0)
  have f174 : Exa Z T164.heap r1 sc0 := (sp15_.keep Kc164)
  have f175 : Fld Z T164.heap r1 sc0 "value" "I" (.int v1) := (sp16_.keep Kc164 nin0)
  have O176 : Old Z n0 T164.heap := (Os_.keep Kc164 all0)
  obtain ⟨_, T165, Lc165, X165, hQ165, st165⟩ := own_cV X164 hx hZ hown (w_ hw 132 rfl) (w_ hw 133 rfl) (notFace_of_selects (args := #[]) (mvT hZ (w_ hw 135 rfl))) (w_ hw 135 rfl) (w_ hw 134 rfl) (by decide) (backOf (W := 0) (rmRm2_1 l Z a0 hw [] x r_164 ar k z r0 r1 v0 v1 gn T164.heap n0 O176 f166 f167 f168 f169 f170 f171 hov g_x g_ar hz0 hz1 hf1 hf2 f172 f173 f174 f175 r164_0 r164_1 hn0 hy) hZ (w_ hw 136 rfl) (w_ hw 2 rfl) (by decide) (by decide)) f166 (g := (mkF mm_ 222 #[vi p1, vi p2, vi p3, vi p4, vi cp, vi rk, vr x, vi 1, vr ea, vi 2, vi gn, un] [(.ref r_164), (.ref x)])) rfl hml.symm (argsL := [(.ref r_164)]) (rest := []) (lenOf pd_4 rfl) rfl (Nat.le_of_eq rfl) (B_ at_222) rfl rfl (by decide) (by decide)
  obtain ⟨rfl, Nq165, Kc165, r165_0, r165_1, r165_2, r165_3⟩ := hQ165
  have N165 := Fr.app N164 Nq165
  refine jp_ st165 ?_
  show Go_ T165 (mkF mm_ 225 #[vi p1, vi p2, vi p3, vi p4, vi cp, vi rk, vr x, vi 1, vr ea, vi 2, vi gn, un] [(.int 1)])
  refine sp_ (fun t_ k_ => XS.ifNo X165.here hx rfl (B_ at_225) rfl ((if0 _ _).trans (feq (by decide : ¬ ((1 : Int32) = (0 : Int32)))).1) k_) ?_
  show Go_ T165 (mkF mm_ 228 #[vi p1, vi p2, vi p3, vi p4, vi cp, vi rk, vr x, vi 1, vr ea, vi 2, vi gn, un] [])
  refine sp_ (fun t_ k_ => XS.iconst X165.here hx rfl (B_ at_228) (XS.goto X165.here hx rfl (pc0 := 229) (pc' := 233) rfl (B_ at_229) (by decide) (by decide) (XS.istore X165.here hx rfl (B_ at_233) rfl (l' := #[vi p1, vi p2, vi p3, vi p4, vi cp, vi rk, vr x, vi 1, vr ea, vi 2, vi gn, un]) rfl (XS.aload X165.here hx rfl (B_ at_235) rfl rfl (XS.iconst X165.here hx rfl (B_ at_237) k_))))) ?_
  have f177 : Arv Z T165.heap ea ke .int (3 : Int32) [(.int v0), (.int v1), (.int y2)] (.int 0) := ((sp17_.keep Kc164 nin0).keep Kc165 (ninS (Ne.symm hex) (ninS hea nin0)))
  obtain ⟨cl178, Ar178, q178, S178, M178, H178, G178⟩ := id f177
  have hin178 : ¬ ((0 : Int32) < 0 ∨ cl178.slots.size ≤ ((0 : Int32)).toNatClampNeg) := inb_of S178 ⟨by decide, by decide⟩
  have hat178 : cl178.slots[((0 : Int32)).toNatClampNeg]? = some (.int v0) := Has.at H178 hin178 rfl
  refine sp_ (fun t_ k_ => X165.iaload hx (j := (0 : Int32)) (v := (.int v0)) Ar178.1 (State.isArrayOf_alike hZ.alike Ar178.2.1) Ar178.2.2 hin178 hat178 (g := (mkF mm_ 238 #[vi p1, vi p2, vi p3, vi p4, vi cp, vi rk, vr x, vi 1, vr ea, vi 2, vi gn, un] [(.int 0), (.ref ea)])) rfl rfl (B_ at_238) t_ k_) ?_
  show Go_ T165 (mkF mm_ 239 #[vi p1, vi p2, vi p3, vi p4, vi cp, vi rk, vr x, vi 1, vr ea, vi 2, vi gn, un] [(.int v0)])
  refine sp_ (fun t_ k_ => XS.iload X165.here hx rfl (B_ at_239) rfl  k_) ?_
  show Go_ T165 (mkF mm_ 241 #[vi p1, vi p2, vi p3, vi p4, vi cp, vi rk, vr x, vi 1, vr ea, vi 2, vi gn, un] [(.int gn), (.int v0)])
  refine sp_ (fun t_ k_ => XS.icmpYes X165.here hx rfl (pc0 := 241) (pc' := 248) rfl (B_ at_241) rfl (feq hn0).2 (by decide) (by decide) k_) ?_
  show Go_ T165 (mkF mm_ 248 #[vi p1, vi p2, vi p3, vi p4, vi cp, vi rk, vr x, vi 1, vr ea, vi 2, vi gn, un] [])
  refine sp_ (fun t_ k_ => XS.aload X165.here hx rfl (B_ at_248) rfl rfl (XS.iconst X165.here hx rfl (B_ at_250) k_)) ?_
  obtain ⟨cl179, Ar179, q179, S179, M179, H179, G179⟩ := id f177
  have hin179 : ¬ ((1 : Int32) < 0 ∨ cl179.slots.size ≤ ((1 : Int32)).toNatClampNeg) := inb_of S179 ⟨by decide, by decide⟩
  have hat179 : cl179.slots[((1 : Int32)).toNatClampNeg]? = some (.int v1) := Has.at H179 hin179 rfl
  refine sp_ (fun t_ k_ => X165.iaload hx (j := (1 : Int32)) (v := (.int v1)) Ar179.1 (State.isArrayOf_alike hZ.alike Ar179.2.1) Ar179.2.2 hin179 hat179 (g := (mkF mm_ 251 #[vi p1, vi p2, vi p3, vi p4, vi cp, vi rk, vr x, vi 1, vr ea, vi 2, vi gn, un] [(.int 1), (.ref ea)])) rfl rfl (B_ at_251) t_ k_) ?_
  show Go_ T165 (mkF mm_ 252 #[vi p1, vi p2, vi p3, vi p4, vi cp, vi rk, vr x, vi 1, vr ea, vi 2, vi gn, un] [(.int v1)])
  refine sp_ (fun t_ k_ => XS.iload X165.here hx rfl (B_ at_252) rfl  k_) ?_
  show Go_ T165 (mkF mm_ 254 #[vi p1, vi p2, vi p3, vi p4, vi cp, vi rk, vr x, vi 1, vr ea, vi 2, vi gn, un] [(.int gn), (.int v1)])
  refine sp_ (fun t_ k_ => XS.icmpNo X165.here hx rfl (B_ at_254) rfl (teq hy).2 k_) ?_
  show Go_ T165 (mkF mm_ 257 #[vi p1, vi p2, vi p3, vi p4, vi cp, vi rk, vr x, vi 1, vr ea, vi 2, vi gn, un] [])
  refine sp_ (fun t_ k_ => XS.iconst X165.here hx rfl (B_ at_257) (XS.goto X165.here hx rfl (pc0 := 258) (pc' := 262) rfl (B_ at_258) (by decide) (by decide) (XS.istore X165.here hx rfl (B_ at_262) rfl (l' := #[vi p1, vi p2, vi p3, vi p4, vi cp, vi rk, vr x, vi 1, vr ea, vi 2, vi gn, vi 1]) rfl (XS.iload X165.here hx rfl (B_ at_264) rfl  (XS.iconst X165.here hx rfl (B_ at_266) k_))))) ?_
  show Go_ T165 (mkF mm_ 267 #[vi p1, vi p2, vi p3, vi p4, vi cp, vi rk, vr x, vi 1, vr ea, vi 2, vi gn, vi 1] [(.int 1), (.int 1)])
  refine sp_ (fun t_ k_ => XS.icmpYes X165.here hx rfl (pc0 := 267) (pc' := 284) rfl (B_ at_267) rfl (flt (by decide : ¬ ((1 : Int32) < (1 : Int32)))).2.1 (by decide) (by decide) k_) ?_
  show Go_ T165 (mkF mm_ 284 #[vi p1, vi p2, vi p3, vi p4, vi cp, vi rk, vr x, vi 1, vr ea, vi 2, vi gn, vi 1] [])
  refine sp_ (fun t_ k_ => XS.iload X165.here hx rfl (B_ at_284) rfl  (XS.iconst X165.here hx rfl (B_ at_286) k_)) ?_
  show Go_ T165 (mkF mm_ 287 #[vi p1, vi p2, vi p3, vi p4, vi cp, vi rk, vr x, vi 1, vr ea, vi 2, vi gn, vi 1] [(.int 2), (.int 1)])
  refine sp_ (fun t_ k_ => XS.icmpNo X165.here hx rfl (B_ at_287) rfl (tlt (by decide : (1 : Int32) < (2 : Int32))).2.1 k_) ?_
  show Go_ T165 (mkF mm_ 290 #[vi p1, vi p2, vi p3, vi p4, vi cp, vi rk, vr x, vi 1, vr ea, vi 2, vi gn, vi 1] [])
  refine sp_ (fun t_ k_ => XS.iload X165.here hx rfl (B_ at_290) rfl  (XS.iconst X165.here hx rfl (B_ at_292) k_)) ?_
  show Go_ T165 (mkF mm_ 293 #[vi p1, vi p2, vi p3, vi p4, vi cp, vi rk, vr x, vi 1, vr ea, vi 2, vi gn, vi 1] [(.int 2), (.int 2)])
  refine sp_ (fun t_ k_ => XS.icmpYes X165.here hx rfl (pc0 := 293) (pc' := 304) rfl (B_ at_293) rfl (flt (by decide : ¬ ((2 : Int32) < (2 : Int32)))).2.2.2 (by decide) (by decide) k_) ?_
  show Go_ T165 (mkF mm_ 304 #[vi p1, vi p2, vi p3, vi p4, vi cp, vi rk, vr x, vi 1, vr ea, vi 2, vi gn, vi 1] [])
  refine sp_ (fun t_ k_ => XS.iload X165.here hx rfl (B_ at_304) rfl  (XS.iconst X165.here hx rfl (B_ at_306) (XS.isub X165.here hx rfl (B_ at_307) rfl (XS.istore X165.here hx rfl (B_ at_308) rfl (l' := #[vi p1, vi p2, vi p3, vi p4, vi cp, vi rk, vr x, vi 1, vr ea, vi 1, vi gn, vi 1]) rfl k_)))) ?_
  have f180 : Exa Z T165.heap x sc1 := (f166.keep Kc165)
  have f181 : Exa Z T165.heap ar sc3 := (f171.keep Kc165)
  have f182 : Exa Z T165.heap r0 sc0 := (f172.keep Kc165)
  have f183 : Fld Z T165.heap r0 sc0 "value" "I" (.int v0) := (f173.keep Kc165 (ninS (Exa.ne f172 f166 (by decide)) (ninS (Exa.ne f172 f171 (by decide)) nin0)))
  have K184 : Keep h0 T165.heap [] := ((Ks_.trans Kc164 all0).trans Kc165 (allS (Or.inr (Nat.le_trans (Nat.le_of_eq hZ0_) g_x)) (allS (Or.inr (Nat.le_trans (Nat.le_of_eq hZ0_) g_ar)) all0)))
  have O185 : Old Z n0 T165.heap := (O176.keep Kc165 (allS g_x (allS g_ar all0)))
  exact seg_e1s _ _ _ cp rk x ar ea k ke z r0 v0 v1 y2 gn (1 : Int32)  (X165.more (by decide) (by decide)) rfl N165 K184 O185  f180 r165_0 r165_1 r165_2 r165_3 f181 hz0 f182 f183 f177
 have seg_g3_0 : ∀ (Ts_ : State) (locs_ : List Loc) (hs_ : Heap) (cp : Int32) (rk : Int32) (x : Addr) (ar : Addr) (ea : Addr) (k : ClassId) (ke : ClassId) (z : Int32) (gn : Int32) (r0 : Addr) (r1 : Addr) (r2 : Addr) (v0 : Int32) (v1 : Int32) (v2 : Int32) (Xs_ : Stand pp_ l ee_ room_1 ss_ mm_ #[(.int p1), (.int p2), (.int p3), (.int p4)] bb_ me_ cc_ Ts_ locs_ 19 95) (es_ : Ts_.heap = hs_) (Ns_ : Fr n0 locs_) (Ks_ : Keep h0 hs_ []) (Os_ : Old Z n0 hs_)  (sp0_ : Exa Z hs_ x sc1) (sp1_ : Fld Z hs_ x sc1 "hashed" sc5 .null) (sp2_ : Fld Z hs_ x sc1 "members" sc3 (.ref ar)) (sp3_ : Fld Z hs_ x sc1 "size" "I" (.int 3)) (sp4_ : Arv Z hs_ ar k (.object sc2) z [(.ref r0), (.ref r1), (.ref r2)] .null) (sp5_ : Exa Z hs_ ar sc3) (hov : Ovr Z k sc2) (g_x : n0 ≤ x) (g_ar : n0 ≤ ar) (hz0 : (0 : Int32) < z) (hz1 : (1 : Int32) < z) (hz2 : (2 : Int32) < z) (hf2 : 2 ≤ z.toNatClampNeg) (hf3 : 3 ≤ z.toNatClampNeg) (sp14_ : Exa Z hs_ r0 sc0) (sp15_ : Fld Z hs_ r0 sc0 "value" "I" (.int v0)) (sp16_ : Exa Z hs_ r1 sc0) (sp17_ : Fld Z hs_ r1 sc0 "value" "I" (.int v1)) (sp18_ : Exa Z hs_ r2 sc0) (sp19_ : Fld Z hs_ r2 sc0 "value" "I" (.int v2)) (sp20_ : Arv Z hs_ ea ke .int (3 : Int32) [(.int v0), (.int v1), (.int v2)] (.int 0)) (g_ea : n0 ≤ ea) (hea : ea ≠ ar) (hex : x ≠ ea) (her0 : r0 ≠ ea) (her1 : r1 ≠ ea) (her2 : r2 ≠ ea) (hy : v0 = gn), own_Go pp_ ee_ bb_ (fun s₂ oo_ => s₂.status = .running ∧ Ended s₂ bb_ oo_ ∧ (∃ vv_ LL_, oo_ = .returned vv_ ∧ Qrm0 Z p1 p2 p3 p4 h0 n0 vv_ s₂.heap LL_ ∧ FrameEnd ss_ oo_ s₂ LL_ room_1.cells room_1.slots)) Ts_ (mkF mm_ 210 #[vi p1, vi p2, vi p3, vi p4, vi cp, vi rk, vr x, vi 1, vr ea, vi 3, vi gn, un] []) := by
  intro Ts_ locs_ hs_ cp rk x ar ea k ke z gn r0 r1 r2 v0 v1 v2  Xs_ es_ Ns_ Ks_ Os_  sp0_ sp1_ sp2_ sp3_ sp4_ sp5_ hov g_x g_ar hz0 hz1 hz2 hf2 hf3 sp14_ sp15_ sp16_ sp17_ sp18_ sp19_ sp20_ g_ea hea hex her0 her1 her2 hy
  show Go_ Ts_ (mkF mm_ 210 #[vi p1, vi p2, vi p3, vi p4, vi cp, vi rk, vr x, vi 1, vr ea, vi 3, vi gn, un] [])
  refine sp_ (fun t_ k_ => XS.iload Xs_.here hx rfl (B_ at_210) rfl  k_) ?_
  show Go_ Ts_ (mkF mm_ 212 #[vi p1, vi p2, vi p3, vi p4, vi cp, vi rk, vr x, vi 1, vr ea, vi 3, vi gn, un] [(.int 1)])
  refine sp_ (fun t_ k_ => XS.ifNo Xs_.here hx rfl (B_ at_212) rfl ((if0 _ _).trans (feq (by decide : ¬ ((1 : Int32) = (0 : Int32)))).1) k_) ?_
  show Go_ Ts_ (mkF mm_ 215 #[vi p1, vi p2, vi p3, vi p4, vi cp, vi rk, vr x, vi 1, vr ea, vi 3, vi gn, un] [])
  refine sp_ (fun t_ k_ => XS.aload Xs_.here hx rfl (B_ at_215) rfl rfl (XS.iload Xs_.here hx rfl (B_ at_217) rfl  k_)) ?_
  obtain ⟨_, T186, Lc186, X186, hQ186, st186⟩ := own_cS Xs_ hx hZ hown (w_ hw 28 rfl) (w_ hw 29 rfl) (w_ hw 30 rfl) (w_ hw 31 rfl) (by decide) (backOf (W := 1) (rmVO l Z a0 hw [] gn hs_ n0 Os_ G_ ) hZ (w_ hw 31 rfl) (w_ hw 30 rfl) (by decide) (by decide)) (g := (mkF mm_ 219 #[vi p1, vi p2, vi p3, vi p4, vi cp, vi rk, vr x, vi 1, vr ea, vi 3, vi gn, un] [(.int gn), (.ref x)])) rfl hml.symm (argsL := [(.int gn)]) (rest := [(.ref x)]) (lenOf pd_15 rfl) rfl (Nat.le_of_eq rfl) (B_ at_219) rfl es_ (by decide) (by decide)
  obtain ⟨r_186, rfl, Nq186, Kc186, r186_0, r186_1⟩ := hQ186
  have N186 := Fr.app Ns_ Nq186
  refine jp_ st186 ?_
  show Go_ T186 (mkF mm_ 222 #[vi p1, vi p2, vi p3, vi p4, vi cp, vi rk, vr x, vi 1, vr ea, vi 3, vi gn, un] [(.ref r_186), (.ref x)])
  have f188 : Exa Z T186.heap x sc1 := (sp0_.keep Kc186)
  have f189 : Fld Z T186.heap x sc1 "hashed" sc5 .null := (sp1_.keep Kc186 nin0)
  have f190 : Fld Z T186.heap x sc1 "members" sc3 (.ref ar) := (sp2_.keep Kc186 nin0)
  have f191 : Fld Z T186.heap x sc1 "size" "I" (.int 3) := (sp3_.keep Kc186 nin0)
  have f192 : Arv Z T186.heap ar k (.object sc2) z [(.ref r0), (.ref r1), (.ref r2)] .null := (sp4_.keep Kc186 nin0)
  have f193 : Exa Z T186.heap ar sc3 := (sp5_.keep Kc186)
  have f194 : Exa Z T186.heap r0 sc0 := (sp14_.keep Kc186)
  have f195 : Fld Z T186.heap r0 sc0 "value" "I" (.int v0) := (sp15_.keep Kc186 nin0)
  have f196 : Exa Z T186.heap r1 sc0 := (sp16_.keep Kc186)
  have f197 : Fld Z T186.heap r1 sc0 "value" "I" (.int v1) := (sp17_.keep Kc186 nin0)
  have f198 : Exa Z T186.heap r2 sc0 := (sp18_.keep Kc186)
  have f199 : Fld Z T186.heap r2 sc0 "value" "I" (.int v2) := (sp19_.keep Kc186 nin0)
  have O200 : Old Z n0 T186.heap := (Os_.keep Kc186 all0)
  obtain ⟨_, T187, Lc187, X187, hQ187, st187⟩ := own_cV X186 hx hZ hown (w_ hw 132 rfl) (w_ hw 133 rfl) (notFace_of_selects (args := #[]) (mvT hZ (w_ hw 135 rfl))) (w_ hw 135 rfl) (w_ hw 134 rfl) (by decide) (backOf (W := 0) (rmRm3_0 l Z a0 hw [] x r_186 ar k z r0 r1 r2 v0 v1 v2 gn T186.heap n0 O200 f188 f189 f190 f191 f192 f193 hov g_x g_ar hz0 hz1 hz2 hf2 hf3 f194 f195 f196 f197 f198 f199 r186_0 r186_1 hy) hZ (w_ hw 136 rfl) (w_ hw 2 rfl) (by decide) (by decide)) f188 (g := (mkF mm_ 222 #[vi p1, vi p2, vi p3, vi p4, vi cp, vi rk, vr x, vi 1, vr ea, vi 3, vi gn, un] [(.ref r_186), (.ref x)])) rfl hml.symm (argsL := [(.ref r_186)]) (rest := []) (lenOf pd_4 rfl) rfl (Nat.le_of_eq rfl) (B_ at_222) rfl rfl (by decide) (by decide)
  obtain ⟨rfl, Nq187, Kc187, r187_0, r187_1, r187_2, r187_3⟩ := hQ187
  have N187 := Fr.app N186 Nq187
  refine jp_ st187 ?_
  show Go_ T187 (mkF mm_ 225 #[vi p1, vi p2, vi p3, vi p4, vi cp, vi rk, vr x, vi 1, vr ea, vi 3, vi gn, un] [(.int 1)])
  refine sp_ (fun t_ k_ => XS.ifNo X187.here hx rfl (B_ at_225) rfl ((if0 _ _).trans (feq (by decide : ¬ ((1 : Int32) = (0 : Int32)))).1) k_) ?_
  show Go_ T187 (mkF mm_ 228 #[vi p1, vi p2, vi p3, vi p4, vi cp, vi rk, vr x, vi 1, vr ea, vi 3, vi gn, un] [])
  refine sp_ (fun t_ k_ => XS.iconst X187.here hx rfl (B_ at_228) (XS.goto X187.here hx rfl (pc0 := 229) (pc' := 233) rfl (B_ at_229) (by decide) (by decide) (XS.istore X187.here hx rfl (B_ at_233) rfl (l' := #[vi p1, vi p2, vi p3, vi p4, vi cp, vi rk, vr x, vi 1, vr ea, vi 3, vi gn, un]) rfl (XS.aload X187.here hx rfl (B_ at_235) rfl rfl (XS.iconst X187.here hx rfl (B_ at_237) k_))))) ?_
  have f201 : Arv Z T187.heap ea ke .int (3 : Int32) [(.int v0), (.int v1), (.int v2)] (.int 0) := ((sp20_.keep Kc186 nin0).keep Kc187 (ninS (Ne.symm hex) (ninS hea nin0)))
  obtain ⟨cl202, Ar202, q202, S202, M202, H202, G202⟩ := id f201
  have hin202 : ¬ ((0 : Int32) < 0 ∨ cl202.slots.size ≤ ((0 : Int32)).toNatClampNeg) := inb_of S202 ⟨by decide, by decide⟩
  have hat202 : cl202.slots[((0 : Int32)).toNatClampNeg]? = some (.int v0) := Has.at H202 hin202 rfl
  refine sp_ (fun t_ k_ => X187.iaload hx (j := (0 : Int32)) (v := (.int v0)) Ar202.1 (State.isArrayOf_alike hZ.alike Ar202.2.1) Ar202.2.2 hin202 hat202 (g := (mkF mm_ 238 #[vi p1, vi p2, vi p3, vi p4, vi cp, vi rk, vr x, vi 1, vr ea, vi 3, vi gn, un] [(.int 0), (.ref ea)])) rfl rfl (B_ at_238) t_ k_) ?_
  show Go_ T187 (mkF mm_ 239 #[vi p1, vi p2, vi p3, vi p4, vi cp, vi rk, vr x, vi 1, vr ea, vi 3, vi gn, un] [(.int v0)])
  refine sp_ (fun t_ k_ => XS.iload X187.here hx rfl (B_ at_239) rfl  k_) ?_
  show Go_ T187 (mkF mm_ 241 #[vi p1, vi p2, vi p3, vi p4, vi cp, vi rk, vr x, vi 1, vr ea, vi 3, vi gn, un] [(.int gn), (.int v0)])
  refine sp_ (fun t_ k_ => XS.icmpNo X187.here hx rfl (B_ at_241) rfl (teq hy).2 k_) ?_
  show Go_ T187 (mkF mm_ 244 #[vi p1, vi p2, vi p3, vi p4, vi cp, vi rk, vr x, vi 1, vr ea, vi 3, vi gn, un] [])
  refine sp_ (fun t_ k_ => XS.iconst X187.here hx rfl (B_ at_244) (XS.goto X187.here hx rfl (pc0 := 245) (pc' := 262) rfl (B_ at_245) (by decide) (by decide) (XS.istore X187.here hx rfl (B_ at_262) rfl (l' := #[vi p1, vi p2, vi p3, vi p4, vi cp, vi rk, vr x, vi 1, vr ea, vi 3, vi gn, vi 0]) rfl (XS.iload X187.here hx rfl (B_ at_264) rfl  (XS.iconst X187.here hx rfl (B_ at_266) k_))))) ?_
  show Go_ T187 (mkF mm_ 267 #[vi p1, vi p2, vi p3, vi p4, vi cp, vi rk, vr x, vi 1, vr ea, vi 3, vi gn, vi 0] [(.int 1), (.int 0)])
  refine sp_ (fun t_ k_ => XS.icmpNo X187.here hx rfl (B_ at_267) rfl (tlt (by decide : (0 : Int32) < (1 : Int32))).2.1 k_) ?_
  show Go_ T187 (mkF mm_ 270 #[vi p1, vi p2, vi p3, vi p4, vi cp, vi rk, vr x, vi 1, vr ea, vi 3, vi gn, vi 0] [])
  refine sp_ (fun t_ k_ => XS.iload X187.here hx rfl (B_ at_270) rfl  (XS.iconst X187.here hx rfl (B_ at_272) k_)) ?_
  show Go_ T187 (mkF mm_ 273 #[vi p1, vi p2, vi p3, vi p4, vi cp, vi rk, vr x, vi 1, vr ea, vi 3, vi gn, vi 0] [(.int 1), (.int 3)])
  refine sp_ (fun t_ k_ => XS.icmpNo X187.here hx rfl (B_ at_273) rfl (tlt (by decide : (1 : Int32) < (3 : Int32))).2.2.2 k_) ?_
  show Go_ T187 (mkF mm_ 276 #[vi p1, vi p2, vi p3, vi p4, vi cp, vi rk, vr x, vi 1, vr ea, vi 3, vi gn, vi 0] [])
  refine sp_ (fun t_ k_ => XS.aload X187.here hx rfl (B_ at_276) rfl rfl (XS.iconst X187.here hx rfl (B_ at_278) (XS.aload X187.here hx rfl (B_ at_279) rfl rfl (XS.iconst X187.here hx rfl (B_ at_281) k_)))) ?_
  obtain ⟨cl203, Ar203, q203, S203, M203, H203, G203⟩ := id f201
  have hin203 : ¬ ((1 : Int32) < 0 ∨ cl203.slots.size ≤ ((1 : Int32)).toNatClampNeg) := inb_of S203 ⟨by decide, by decide⟩
  have hat203 : cl203.slots[((1 : Int32)).toNatClampNeg]? = some (.int v1) := Has.at H203 hin203 rfl
  refine sp_ (fun t_ k_ => X187.iaload hx (j := (1 : Int32)) (v := (.int v1)) Ar203.1 (State.isArrayOf_alike hZ.alike Ar203.2.1) Ar203.2.2 hin203 hat203 (g := (mkF mm_ 282 #[vi p1, vi p2, vi p3, vi p4, vi cp, vi rk, vr x, vi 1, vr ea, vi 3, vi gn, vi 0] [(.int 1), (.ref ea), (.int 0), (.ref ea)])) rfl rfl (B_ at_282) t_ k_) ?_
  obtain ⟨cl204, Ar204, q204, S204, M204, H204, G204⟩ := id f201
  have hin204 : ¬ ((0 : Int32) < 0 ∨ cl204.slots.size ≤ ((0 : Int32)).toNatClampNeg) := inb_of S204 ⟨by decide, by decide⟩
  obtain ⟨T204, h204, X204, e204, W204, st204⟩ := stI X187 hx hZ rfl Ar204 (j := (0 : Int32)) hin204 (g := (mkF mm_ 283 #[vi p1, vi p2, vi p3, vi p4, vi cp, vi rk, vr x, vi 1, vr ea, vi 3, vi gn, vi 0] [(.int v1), (.int 0), (.ref ea)])) rfl rfl (B_ at_283)
  have V204 : Arv Z h204 ea ke .int (3 : Int32) [(.int v1), (.int v1), (.int v2)] (.int 0) := Arv.set Ar204 q204 S204 M204 H204 G204 rfl W204 0 rfl (Nat.le_of_ble_eq_true rfl)
  have N204 := Fr.snoc X204 N187 g_ea
  refine sp_ st204 ?_
  show Go_ T204 (mkF mm_ 284 #[vi p1, vi p2, vi p3, vi p4, vi cp, vi rk, vr x, vi 1, vr ea, vi 3, vi gn, vi 0] [])
  refine sp_ (fun t_ k_ => XS.iload X204.here hx rfl (B_ at_284) rfl  (XS.iconst X204.here hx rfl (B_ at_286) k_)) ?_
  show Go_ T204 (mkF mm_ 287 #[vi p1, vi p2, vi p3, vi p4, vi cp, vi rk, vr x, vi 1, vr ea, vi 3, vi gn, vi 0] [(.int 2), (.int 0)])
  refine sp_ (fun t_ k_ => XS.icmpNo X204.here hx rfl (B_ at_287) rfl (tlt (by decide : (0 : Int32) < (2 : Int32))).2.1 k_) ?_
  show Go_ T204 (mkF mm_ 290 #[vi p1, vi p2, vi p3, vi p4, vi cp, vi rk, vr x, vi 1, vr ea, vi 3, vi gn, vi 0] [])
  refine sp_ (fun t_ k_ => XS.iload X204.here hx rfl (B_ at_290) rfl  (XS.iconst X204.here hx rfl (B_ at_292) k_)) ?_
  show Go_ T204 (mkF mm_ 293 #[vi p1, vi p2, vi p3, vi p4, vi cp, vi rk, vr x, vi 1, vr ea, vi 3, vi gn, vi 0] [(.int 2), (.int 3)])
  refine sp_ (fun t_ k_ => XS.icmpNo X204.here hx rfl (B_ at_293) rfl (tlt (by decide : (2 : Int32) < (3 : Int32))).2.2.2 k_) ?_
  show Go_ T204 (mkF mm_ 296 #[vi p1, vi p2, vi p3, vi p4, vi cp, vi rk, vr x, vi 1, vr ea, vi 3, vi gn, vi 0] [])
  refine sp_ (fun t_ k_ => XS.aload X204.here hx rfl (B_ at_296) rfl rfl (XS.iconst X204.here hx rfl (B_ at_298) (XS.aload X204.here hx rfl (B_ at_299) rfl rfl (XS.iconst X204.here hx rfl (B_ at_301) k_)))) ?_
  obtain ⟨cl205, Ar205, q205, S205, M205, H205, G205⟩ := id V204
  have hin205 : ¬ ((2 : Int32) < 0 ∨ cl205.slots.size ≤ ((2 : Int32)).toNatClampNeg) := inb_of S205 ⟨by decide, by decide⟩
  have hat205 : cl205.slots[((2 : Int32)).toNatClampNeg]? = some (.int v2) := Has.at H205 hin205 rfl
  refine sp_ (fun t_ k_ => X204.iaload hx (j := (2 : Int32)) (v := (.int v2)) (by rw [e204]; exact Ar205.1) (State.isArrayOf_alike hZ.alike Ar205.2.1) Ar205.2.2 hin205 hat205 (g := (mkF mm_ 302 #[vi p1, vi p2, vi p3, vi p4, vi cp, vi rk, vr x, vi 1, vr ea, vi 3, vi gn, vi 0] [(.int 2), (.ref ea), (.int 1), (.ref ea)])) rfl rfl (B_ at_302) t_ k_) ?_
  obtain ⟨cl206, Ar206, q206, S206, M206, H206, G206⟩ := id V204
  have hin206 : ¬ ((1 : Int32) < 0 ∨ cl206.slots.size ≤ ((1 : Int32)).toNatClampNeg) := inb_of S206 ⟨by decide, by decide⟩
  obtain ⟨T206, h206, X206, e206, W206, st206⟩ := stI X204 hx hZ e204 Ar206 (j := (1 : Int32)) hin206 (g := (mkF mm_ 303 #[vi p1, vi p2, vi p3, vi p4, vi cp, vi rk, vr x, vi 1, vr ea, vi 3, vi gn, vi 0] [(.int v2), (.int 1), (.ref ea)])) rfl rfl (B_ at_303)
  have V206 : Arv Z h206 ea ke .int (3 : Int32) [(.int v1), (.int v2), (.int v2)] (.int 0) := Arv.set Ar206 q206 S206 M206 H206 G206 rfl W206 1 rfl (Nat.le_of_ble_eq_true rfl)
  have N206 := Fr.snoc X206 N204 g_ea
  refine sp_ st206 ?_
  show Go_ T206 (mkF mm_ 304 #[vi p1, vi p2, vi p3, vi p4, vi cp, vi rk, vr x, vi 1, vr ea, vi 3, vi gn, vi 0] [])
  refine sp_ (fun t_ k_ => XS.iload X206.here hx rfl (B_ at_304) rfl  (XS.iconst X206.here hx rfl (B_ at_306) (XS.isub X206.here hx rfl (B_ at_307) rfl (XS.istore X206.here hx rfl (B_ at_308) rfl (l' := #[vi p1, vi p2, vi p3, vi p4, vi cp, vi rk, vr x, vi 1, vr ea, vi 2, vi gn, vi 0]) rfl k_)))) ?_
  have f207 : Exa Z h206 x sc1 := (((f188.keep Kc187).wr W204).wr W206)
  have f208 : Fld Z h206 x sc1 "hashed" sc5 .null := ((r187_0.other W204 (Or.inl hex)).other W206 (Or.inl hex))
  have f209 : Fld Z h206 x sc1 "members" sc3 (.ref ar) := ((r187_1.other W204 (Or.inl hex)).other W206 (Or.inl hex))
  have f210 : Fld Z h206 x sc1 "size" "I" (.int 2) := ((r187_2.other W204 (Or.inl hex)).other W206 (Or.inl hex))
  have f211 : Arv Z h206 ar k (.object sc2) z [(.ref r1), (.ref r2)] .null := ((r187_3.other W204 (Ne.symm hea)).other W206 (Ne.symm hea))
  have f212 : Exa Z h206 ar sc3 := (((f193.keep Kc187).wr W204).wr W206)
  have f213 : Exa Z h206 r1 sc0 := (((f196.keep Kc187).wr W204).wr W206)
  have f214 : Fld Z h206 r1 sc0 "value" "I" (.int v1) := (((f197.keep Kc187 (ninS (Exa.ne f196 f188 (by decide)) (ninS (Exa.ne f196 f193 (by decide)) nin0))).other W204 (Or.inl her1)).other W206 (Or.inl her1))
  have f215 : Exa Z h206 r2 sc0 := (((f198.keep Kc187).wr W204).wr W206)
  have f216 : Fld Z h206 r2 sc0 "value" "I" (.int v2) := (((f199.keep Kc187 (ninS (Exa.ne f198 f188 (by decide)) (ninS (Exa.ne f198 f193 (by decide)) nin0))).other W204 (Or.inl her2)).other W206 (Or.inl her2))
  have K217 : Keep h0 h206 [] := ((((Ks_.trans Kc186 all0).trans Kc187 (allS (Or.inr (Nat.le_trans (Nat.le_of_eq hZ0_) g_x)) (allS (Or.inr (Nat.le_trans (Nat.le_of_eq hZ0_) g_ar)) all0))).wr W204 (Or.inr (Nat.le_trans (Nat.le_of_eq hZ0_) g_ea))).wr W206 (Or.inr (Nat.le_trans (Nat.le_of_eq hZ0_) g_ea)))
  have O218 : Old Z n0 h206 := (((O200.keep Kc187 (allS g_x (allS g_ar all0))).wr W204 g_ea).wr W206 g_ea)
  exact seg_e2s _ _ _ cp rk x ar ea k ke z r1 r2 v1 v2 v2 gn (0 : Int32)  (X206.more (by decide) (by decide)) e206 N206 K217 O218  f207 f208 f209 f210 f211 f212 hz0 hz1 f213 f214 f215 f216 V206
 have seg_g3_1 : ∀ (Ts_ : State) (locs_ : List Loc) (hs_ : Heap) (cp : Int32) (rk : Int32) (x : Addr) (ar : Addr) (ea : Addr) (k : ClassId) (ke : ClassId) (z : Int32) (gn : Int32) (r0 : Addr) (r1 : Addr) (r2 : Addr) (v0 : Int32) (v1 : Int32) (v2 : Int32) (Xs_ : Stand pp_ l ee_ room_1 ss_ mm_ #[(.int p1), (.int p2), (.int p3), (.int p4)] bb_ me_ cc_ Ts_ locs_ 19 95) (es_ : Ts_.heap = hs_) (Ns_ : Fr n0 locs_) (Ks_ : Keep h0 hs_ []) (Os_ : Old Z n0 hs_)  (sp0_ : Exa Z hs_ x sc1) (sp1_ : Fld Z hs_ x sc1 "hashed" sc5 .null) (sp2_ : Fld Z hs_ x sc1 "members" sc3 (.ref ar)) (sp3_ : Fld Z hs_ x sc1 "size" "I" (.int 3)) (sp4_ : Arv Z hs_ ar k (.object sc2) z [(.ref r0), (.ref r1), (.ref r2)] .null) (sp5_ : Exa Z hs_ ar sc3) (hov : Ovr Z k sc2) (g_x : n0 ≤ x) (g_ar : n0 ≤ ar) (hz0 : (0 : Int32) < z) (hz1 : (1 : Int32) < z) (hz2 : (2 : Int32) < z) (hf2 : 2 ≤ z.toNatClampNeg) (hf3 : 3 ≤ z.toNatClampNeg) (sp14_ : Exa Z hs_ r0 sc0) (sp15_ : Fld Z hs_ r0 sc0 "value" "I" (.int v0)) (sp16_ : Exa Z hs_ r1 sc0) (sp17_ : Fld Z hs_ r1 sc0 "value" "I" (.int v1)) (sp18_ : Exa Z hs_ r2 sc0) (sp19_ : Fld Z hs_ r2 sc0 "value" "I" (.int v2)) (sp20_ : Arv Z hs_ ea ke .int (3 : Int32) [(.int v0), (.int v1), (.int v2)] (.int 0)) (g_ea : n0 ≤ ea) (hea : ea ≠ ar) (hex : x ≠ ea) (her0 : r0 ≠ ea) (her1 : r1 ≠ ea) (her2 : r2 ≠ ea) (hn0 : ¬ (v0 = gn)) (hy : v1 = gn), own_Go pp_ ee_ bb_ (fun s₂ oo_ => s₂.status = .running ∧ Ended s₂ bb_ oo_ ∧ (∃ vv_ LL_, oo_ = .returned vv_ ∧ Qrm0 Z p1 p2 p3 p4 h0 n0 vv_ s₂.heap LL_ ∧ FrameEnd ss_ oo_ s₂ LL_ room_1.cells room_1.slots)) Ts_ (mkF mm_ 210 #[vi p1, vi p2, vi p3, vi p4, vi cp, vi rk, vr x, vi 1, vr ea, vi 3, vi gn, un] []) := by
  intro Ts_ locs_ hs_ cp rk x ar ea k ke z gn r0 r1 r2 v0 v1 v2  Xs_ es_ Ns_ Ks_ Os_  sp0_ sp1_ sp2_ sp3_ sp4_ sp5_ hov g_x g_ar hz0 hz1 hz2 hf2 hf3 sp14_ sp15_ sp16_ sp17_ sp18_ sp19_ sp20_ g_ea hea hex her0 her1 her2 hn0 hy
  show Go_ Ts_ (mkF mm_ 210 #[vi p1, vi p2, vi p3, vi p4, vi cp, vi rk, vr x, vi 1, vr ea, vi 3, vi gn, un] [])
  refine sp_ (fun t_ k_ => XS.iload Xs_.here hx rfl (B_ at_210) rfl  k_) ?_
  show Go_ Ts_ (mkF mm_ 212 #[vi p1, vi p2, vi p3, vi p4, vi cp, vi rk, vr x, vi 1, vr ea, vi 3, vi gn, un] [(.int 1)])
  refine sp_ (fun t_ k_ => XS.ifNo Xs_.here hx rfl (B_ at_212) rfl ((if0 _ _).trans (feq (by decide : ¬ ((1 : Int32) = (0 : Int32)))).1) k_) ?_
  show Go_ Ts_ (mkF mm_ 215 #[vi p1, vi p2, vi p3, vi p4, vi cp, vi rk, vr x, vi 1, vr ea, vi 3, vi gn, un] [])
  refine sp_ (fun t_ k_ => XS.aload Xs_.here hx rfl (B_ at_215) rfl rfl (XS.iload Xs_.here hx rfl (B_ at_217) rfl  k_)) ?_
  obtain ⟨_, T219, Lc219, X219, hQ219, st219⟩ := own_cS Xs_ hx hZ hown (w_ hw 28 rfl) (w_ hw 29 rfl) (w_ hw 30 rfl) (w_ hw 31 rfl) (by decide) (backOf (W := 1) (rmVO l Z a0 hw [] gn hs_ n0 Os_ G_ ) hZ (w_ hw 31 rfl) (w_ hw 30 rfl) (by decide) (by decide)) (g := (mkF mm_ 219 #[vi p1, vi p2, vi p3, vi p4, vi cp, vi rk, vr x, vi 1, vr ea, vi 3, vi gn, un] [(.int gn), (.ref x)])) rfl hml.symm (argsL := [(.int gn)]) (rest := [(.ref x)]) (lenOf pd_15 rfl) rfl (Nat.le_of_eq rfl) (B_ at_219) rfl es_ (by decide) (by decide)
  obtain ⟨r_219, rfl, Nq219, Kc219, r219_0, r219_1⟩ := hQ219
  have N219 := Fr.app Ns_ Nq219
  refine jp_ st219 ?_
  show Go_ T219 (mkF mm_ 222 #[vi p1, vi p2, vi p3, vi p4, vi cp, vi rk, vr x, vi 1, vr ea, vi 3, vi gn, un] [(.ref r_219), (.ref x)])
  have f221 : Exa Z T219.heap x sc1 := (sp0_.keep Kc219)
  have f222 : Fld Z T219.heap x sc1 "hashed" sc5 .null := (sp1_.keep Kc219 nin0)
  have f223 : Fld Z T219.heap x sc1 "members" sc3 (.ref ar) := (sp2_.keep Kc219 nin0)
  have f224 : Fld Z T219.heap x sc1 "size" "I" (.int 3) := (sp3_.keep Kc219 nin0)
  have f225 : Arv Z T219.heap ar k (.object sc2) z [(.ref r0), (.ref r1), (.ref r2)] .null := (sp4_.keep Kc219 nin0)
  have f226 : Exa Z T219.heap ar sc3 := (sp5_.keep Kc219)
  have f227 : Exa Z T219.heap r0 sc0 := (sp14_.keep Kc219)
  have f228 : Fld Z T219.heap r0 sc0 "value" "I" (.int v0) := (sp15_.keep Kc219 nin0)
  have f229 : Exa Z T219.heap r1 sc0 := (sp16_.keep Kc219)
  have f230 : Fld Z T219.heap r1 sc0 "value" "I" (.int v1) := (sp17_.keep Kc219 nin0)
  have f231 : Exa Z T219.heap r2 sc0 := (sp18_.keep Kc219)
  have f232 : Fld Z T219.heap r2 sc0 "value" "I" (.int v2) := (sp19_.keep Kc219 nin0)
  have O233 : Old Z n0 T219.heap := (Os_.keep Kc219 all0)
  obtain ⟨_, T220, Lc220, X220, hQ220, st220⟩ := own_cV X219 hx hZ hown (w_ hw 132 rfl) (w_ hw 133 rfl) (notFace_of_selects (args := #[]) (mvT hZ (w_ hw 135 rfl))) (w_ hw 135 rfl) (w_ hw 134 rfl) (by decide) (backOf (W := 0) (rmRm3_1 l Z a0 hw [] x r_219 ar k z r0 r1 r2 v0 v1 v2 gn T219.heap n0 O233 f221 f222 f223 f224 f225 f226 hov g_x g_ar hz0 hz1 hz2 hf2 hf3 f227 f228 f229 f230 f231 f232 r219_0 r219_1 hn0 hy) hZ (w_ hw 136 rfl) (w_ hw 2 rfl) (by decide) (by decide)) f221 (g := (mkF mm_ 222 #[vi p1, vi p2, vi p3, vi p4, vi cp, vi rk, vr x, vi 1, vr ea, vi 3, vi gn, un] [(.ref r_219), (.ref x)])) rfl hml.symm (argsL := [(.ref r_219)]) (rest := []) (lenOf pd_4 rfl) rfl (Nat.le_of_eq rfl) (B_ at_222) rfl rfl (by decide) (by decide)
  obtain ⟨rfl, Nq220, Kc220, r220_0, r220_1, r220_2, r220_3⟩ := hQ220
  have N220 := Fr.app N219 Nq220
  refine jp_ st220 ?_
  show Go_ T220 (mkF mm_ 225 #[vi p1, vi p2, vi p3, vi p4, vi cp, vi rk, vr x, vi 1, vr ea, vi 3, vi gn, un] [(.int 1)])
  refine sp_ (fun t_ k_ => XS.ifNo X220.here hx rfl (B_ at_225) rfl ((if0 _ _).trans (feq (by decide : ¬ ((1 : Int32) = (0 : Int32)))).1) k_) ?_
  show Go_ T220 (mkF mm_ 228 #[vi p1, vi p2, vi p3, vi p4, vi cp, vi rk, vr x, vi 1, vr ea, vi 3, vi gn, un] [])
  refine sp_ (fun t_ k_ => XS.iconst X220.here hx rfl (B_ at_228) (XS.goto X220.here hx rfl (pc0 := 229) (pc' := 233) rfl (B_ at_229) (by decide) (by decide) (XS.istore X220.here hx rfl (B_ at_233) rfl (l' := #[vi p1, vi p2, vi p3, vi p4, vi cp, vi rk, vr x, vi 1, vr ea, vi 3, vi gn, un]) rfl (XS.aload X220.here hx rfl (B_ at_235) rfl rfl (XS.iconst X220.here hx rfl (B_ at_237) k_))))) ?_
  have f234 : Arv Z T220.heap ea ke .int (3 : Int32) [(.int v0), (.int v1), (.int v2)] (.int 0) := ((sp20_.keep Kc219 nin0).keep Kc220 (ninS (Ne.symm hex) (ninS hea nin0)))
  obtain ⟨cl235, Ar235, q235, S235, M235, H235, G235⟩ := id f234
  have hin235 : ¬ ((0 : Int32) < 0 ∨ cl235.slots.size ≤ ((0 : Int32)).toNatClampNeg) := inb_of S235 ⟨by decide, by decide⟩
  have hat235 : cl235.slots[((0 : Int32)).toNatClampNeg]? = some (.int v0) := Has.at H235 hin235 rfl
  refine sp_ (fun t_ k_ => X220.iaload hx (j := (0 : Int32)) (v := (.int v0)) Ar235.1 (State.isArrayOf_alike hZ.alike Ar235.2.1) Ar235.2.2 hin235 hat235 (g := (mkF mm_ 238 #[vi p1, vi p2, vi p3, vi p4, vi cp, vi rk, vr x, vi 1, vr ea, vi 3, vi gn, un] [(.int 0), (.ref ea)])) rfl rfl (B_ at_238) t_ k_) ?_
  show Go_ T220 (mkF mm_ 239 #[vi p1, vi p2, vi p3, vi p4, vi cp, vi rk, vr x, vi 1, vr ea, vi 3, vi gn, un] [(.int v0)])
  refine sp_ (fun t_ k_ => XS.iload X220.here hx rfl (B_ at_239) rfl  k_) ?_
  show Go_ T220 (mkF mm_ 241 #[vi p1, vi p2, vi p3, vi p4, vi cp, vi rk, vr x, vi 1, vr ea, vi 3, vi gn, un] [(.int gn), (.int v0)])
  refine sp_ (fun t_ k_ => XS.icmpYes X220.here hx rfl (pc0 := 241) (pc' := 248) rfl (B_ at_241) rfl (feq hn0).2 (by decide) (by decide) k_) ?_
  show Go_ T220 (mkF mm_ 248 #[vi p1, vi p2, vi p3, vi p4, vi cp, vi rk, vr x, vi 1, vr ea, vi 3, vi gn, un] [])
  refine sp_ (fun t_ k_ => XS.aload X220.here hx rfl (B_ at_248) rfl rfl (XS.iconst X220.here hx rfl (B_ at_250) k_)) ?_
  obtain ⟨cl236, Ar236, q236, S236, M236, H236, G236⟩ := id f234
  have hin236 : ¬ ((1 : Int32) < 0 ∨ cl236.slots.size ≤ ((1 : Int32)).toNatClampNeg) := inb_of S236 ⟨by decide, by decide⟩
  have hat236 : cl236.slots[((1 : Int32)).toNatClampNeg]? = some (.int v1) := Has.at H236 hin236 rfl
  refine sp_ (fun t_ k_ => X220.iaload hx (j := (1 : Int32)) (v := (.int v1)) Ar236.1 (State.isArrayOf_alike hZ.alike Ar236.2.1) Ar236.2.2 hin236 hat236 (g := (mkF mm_ 251 #[vi p1, vi p2, vi p3, vi p4, vi cp, vi rk, vr x, vi 1, vr ea, vi 3, vi gn, un] [(.int 1), (.ref ea)])) rfl rfl (B_ at_251) t_ k_) ?_
  show Go_ T220 (mkF mm_ 252 #[vi p1, vi p2, vi p3, vi p4, vi cp, vi rk, vr x, vi 1, vr ea, vi 3, vi gn, un] [(.int v1)])
  refine sp_ (fun t_ k_ => XS.iload X220.here hx rfl (B_ at_252) rfl  k_) ?_
  show Go_ T220 (mkF mm_ 254 #[vi p1, vi p2, vi p3, vi p4, vi cp, vi rk, vr x, vi 1, vr ea, vi 3, vi gn, un] [(.int gn), (.int v1)])
  refine sp_ (fun t_ k_ => XS.icmpNo X220.here hx rfl (B_ at_254) rfl (teq hy).2 k_) ?_
  show Go_ T220 (mkF mm_ 257 #[vi p1, vi p2, vi p3, vi p4, vi cp, vi rk, vr x, vi 1, vr ea, vi 3, vi gn, un] [])
  refine sp_ (fun t_ k_ => XS.iconst X220.here hx rfl (B_ at_257) (XS.goto X220.here hx rfl (pc0 := 258) (pc' := 262) rfl (B_ at_258) (by decide) (by decide) (XS.istore X220.here hx rfl (B_ at_262) rfl (l' := #[vi p1, vi p2, vi p3, vi p4, vi cp, vi rk, vr x, vi 1, vr ea, vi 3, vi gn, vi 1]) rfl (XS.iload X220.here hx rfl (B_ at_264) rfl  (XS.iconst X220.here hx rfl (B_ at_266) k_))))) ?_
  show Go_ T220 (mkF mm_ 267 #[vi p1, vi p2, vi p3, vi p4, vi cp, vi rk, vr x, vi 1, vr ea, vi 3, vi gn, vi 1] [(.int 1), (.int 1)])
  refine sp_ (fun t_ k_ => XS.icmpYes X220.here hx rfl (pc0 := 267) (pc' := 284) rfl (B_ at_267) rfl (flt (by decide : ¬ ((1 : Int32) < (1 : Int32)))).2.1 (by decide) (by decide) k_) ?_
  show Go_ T220 (mkF mm_ 284 #[vi p1, vi p2, vi p3, vi p4, vi cp, vi rk, vr x, vi 1, vr ea, vi 3, vi gn, vi 1] [])
  refine sp_ (fun t_ k_ => XS.iload X220.here hx rfl (B_ at_284) rfl  (XS.iconst X220.here hx rfl (B_ at_286) k_)) ?_
  show Go_ T220 (mkF mm_ 287 #[vi p1, vi p2, vi p3, vi p4, vi cp, vi rk, vr x, vi 1, vr ea, vi 3, vi gn, vi 1] [(.int 2), (.int 1)])
  refine sp_ (fun t_ k_ => XS.icmpNo X220.here hx rfl (B_ at_287) rfl (tlt (by decide : (1 : Int32) < (2 : Int32))).2.1 k_) ?_
  show Go_ T220 (mkF mm_ 290 #[vi p1, vi p2, vi p3, vi p4, vi cp, vi rk, vr x, vi 1, vr ea, vi 3, vi gn, vi 1] [])
  refine sp_ (fun t_ k_ => XS.iload X220.here hx rfl (B_ at_290) rfl  (XS.iconst X220.here hx rfl (B_ at_292) k_)) ?_
  show Go_ T220 (mkF mm_ 293 #[vi p1, vi p2, vi p3, vi p4, vi cp, vi rk, vr x, vi 1, vr ea, vi 3, vi gn, vi 1] [(.int 2), (.int 3)])
  refine sp_ (fun t_ k_ => XS.icmpNo X220.here hx rfl (B_ at_293) rfl (tlt (by decide : (2 : Int32) < (3 : Int32))).2.2.2 k_) ?_
  show Go_ T220 (mkF mm_ 296 #[vi p1, vi p2, vi p3, vi p4, vi cp, vi rk, vr x, vi 1, vr ea, vi 3, vi gn, vi 1] [])
  refine sp_ (fun t_ k_ => XS.aload X220.here hx rfl (B_ at_296) rfl rfl (XS.iconst X220.here hx rfl (B_ at_298) (XS.aload X220.here hx rfl (B_ at_299) rfl rfl (XS.iconst X220.here hx rfl (B_ at_301) k_)))) ?_
  obtain ⟨cl237, Ar237, q237, S237, M237, H237, G237⟩ := id f234
  have hin237 : ¬ ((2 : Int32) < 0 ∨ cl237.slots.size ≤ ((2 : Int32)).toNatClampNeg) := inb_of S237 ⟨by decide, by decide⟩
  have hat237 : cl237.slots[((2 : Int32)).toNatClampNeg]? = some (.int v2) := Has.at H237 hin237 rfl
  refine sp_ (fun t_ k_ => X220.iaload hx (j := (2 : Int32)) (v := (.int v2)) Ar237.1 (State.isArrayOf_alike hZ.alike Ar237.2.1) Ar237.2.2 hin237 hat237 (g := (mkF mm_ 302 #[vi p1, vi p2, vi p3, vi p4, vi cp, vi rk, vr x, vi 1, vr ea, vi 3, vi gn, vi 1] [(.int 2), (.ref ea), (.int 1), (.ref ea)])) rfl rfl (B_ at_302) t_ k_) ?_
  obtain ⟨cl238, Ar238, q238, S238, M238, H238, G238⟩ := id f234
  have hin238 : ¬ ((1 : Int32) < 0 ∨ cl238.slots.size ≤ ((1 : Int32)).toNatClampNeg) := inb_of S238 ⟨by decide, by decide⟩
  obtain ⟨T238, h238, X238, e238, W238, st238⟩ := stI X220 hx hZ rfl Ar238 (j := (1 : Int32)) hin238 (g := (mkF mm_ 303 #[vi p1, vi p2, vi p3, vi p4, vi cp, vi rk, vr x, vi 1, vr ea, vi 3, vi gn, vi 1] [(.int v2), (.int 1), (.ref ea)])) rfl rfl (B_ at_303)
  have V238 : Arv Z h238 ea ke .int (3 : Int32) [(.int v0), (.int v2), (.int v2)] (.int 0) := Arv.set Ar238 q238 S238 M238 H238 G238 rfl W238 1 rfl (Nat.le_of_ble_eq_true rfl)
  have N238 := Fr.snoc X238 N220 g_ea
  refine sp_ st238 ?_
  show Go_ T238 (mkF mm_ 304 #[vi p1, vi p2, vi p3, vi p4, vi cp, vi rk, vr x, vi 1, vr ea, vi 3, vi gn, vi 1] [])
  refine sp_ (fun t_ k_ => XS.iload X238.here hx rfl (B_ at_304) rfl  (XS.iconst X238.here hx rfl (B_ at_306) (XS.isub X238.here hx rfl (B_ at_307) rfl (XS.istore X238.here hx rfl (B_ at_308) rfl (l' := #[vi p1, vi p2, vi p3, vi p4, vi cp, vi rk, vr x, vi 1, vr ea, vi 2, vi gn, vi 1]) rfl k_)))) ?_
  have f239 : Exa Z h238 x sc1 := ((f221.keep Kc220).wr W238)
  have f240 : Fld Z h238 x sc1 "hashed" sc5 .null := (r220_0.other W238 (Or.inl hex))
  have f241 : Fld Z h238 x sc1 "members" sc3 (.ref ar) := (r220_1.other W238 (Or.inl hex))
  have f242 : Fld Z h238 x sc1 "size" "I" (.int 2) := (r220_2.other W238 (Or.inl hex))
  have f243 : Arv Z h238 ar k (.object sc2) z [(.ref r0), (.ref r2)] .null := (r220_3.other W238 (Ne.symm hea))
  have f244 : Exa Z h238 ar sc3 := ((f226.keep Kc220).wr W238)
  have f245 : Exa Z h238 r0 sc0 := ((f227.keep Kc220).wr W238)
  have f246 : Fld Z h238 r0 sc0 "value" "I" (.int v0) := ((f228.keep Kc220 (ninS (Exa.ne f227 f221 (by decide)) (ninS (Exa.ne f227 f226 (by decide)) nin0))).other W238 (Or.inl her0))
  have f247 : Exa Z h238 r2 sc0 := ((f231.keep Kc220).wr W238)
  have f248 : Fld Z h238 r2 sc0 "value" "I" (.int v2) := ((f232.keep Kc220 (ninS (Exa.ne f231 f221 (by decide)) (ninS (Exa.ne f231 f226 (by decide)) nin0))).other W238 (Or.inl her2))
  have K249 : Keep h0 h238 [] := (((Ks_.trans Kc219 all0).trans Kc220 (allS (Or.inr (Nat.le_trans (Nat.le_of_eq hZ0_) g_x)) (allS (Or.inr (Nat.le_trans (Nat.le_of_eq hZ0_) g_ar)) all0))).wr W238 (Or.inr (Nat.le_trans (Nat.le_of_eq hZ0_) g_ea)))
  have O250 : Old Z n0 h238 := ((O233.keep Kc220 (allS g_x (allS g_ar all0))).wr W238 g_ea)
  exact seg_e2s _ _ _ cp rk x ar ea k ke z r0 r2 v0 v2 v2 gn (1 : Int32)  (X238.more (by decide) (by decide)) e238 N238 K249 O250  f239 f240 f241 f242 f243 f244 hz0 hz1 f245 f246 f247 f248 V238
 have seg_g3_2 : ∀ (Ts_ : State) (locs_ : List Loc) (hs_ : Heap) (cp : Int32) (rk : Int32) (x : Addr) (ar : Addr) (ea : Addr) (k : ClassId) (ke : ClassId) (z : Int32) (gn : Int32) (r0 : Addr) (r1 : Addr) (r2 : Addr) (v0 : Int32) (v1 : Int32) (v2 : Int32) (Xs_ : Stand pp_ l ee_ room_1 ss_ mm_ #[(.int p1), (.int p2), (.int p3), (.int p4)] bb_ me_ cc_ Ts_ locs_ 19 95) (es_ : Ts_.heap = hs_) (Ns_ : Fr n0 locs_) (Ks_ : Keep h0 hs_ []) (Os_ : Old Z n0 hs_)  (sp0_ : Exa Z hs_ x sc1) (sp1_ : Fld Z hs_ x sc1 "hashed" sc5 .null) (sp2_ : Fld Z hs_ x sc1 "members" sc3 (.ref ar)) (sp3_ : Fld Z hs_ x sc1 "size" "I" (.int 3)) (sp4_ : Arv Z hs_ ar k (.object sc2) z [(.ref r0), (.ref r1), (.ref r2)] .null) (sp5_ : Exa Z hs_ ar sc3) (hov : Ovr Z k sc2) (g_x : n0 ≤ x) (g_ar : n0 ≤ ar) (hz0 : (0 : Int32) < z) (hz1 : (1 : Int32) < z) (hz2 : (2 : Int32) < z) (hf2 : 2 ≤ z.toNatClampNeg) (hf3 : 3 ≤ z.toNatClampNeg) (sp14_ : Exa Z hs_ r0 sc0) (sp15_ : Fld Z hs_ r0 sc0 "value" "I" (.int v0)) (sp16_ : Exa Z hs_ r1 sc0) (sp17_ : Fld Z hs_ r1 sc0 "value" "I" (.int v1)) (sp18_ : Exa Z hs_ r2 sc0) (sp19_ : Fld Z hs_ r2 sc0 "value" "I" (.int v2)) (sp20_ : Arv Z hs_ ea ke .int (3 : Int32) [(.int v0), (.int v1), (.int v2)] (.int 0)) (g_ea : n0 ≤ ea) (hea : ea ≠ ar) (hex : x ≠ ea) (her0 : r0 ≠ ea) (her1 : r1 ≠ ea) (her2 : r2 ≠ ea) (hn0 : ¬ (v0 = gn)) (hn1 : ¬ (v1 = gn)) (hy : v2 = gn), own_Go pp_ ee_ bb_ (fun s₂ oo_ => s₂.status = .running ∧ Ended s₂ bb_ oo_ ∧ (∃ vv_ LL_, oo_ = .returned vv_ ∧ Qrm0 Z p1 p2 p3 p4 h0 n0 vv_ s₂.heap LL_ ∧ FrameEnd ss_ oo_ s₂ LL_ room_1.cells room_1.slots)) Ts_ (mkF mm_ 210 #[vi p1, vi p2, vi p3, vi p4, vi cp, vi rk, vr x, vi 1, vr ea, vi 3, vi gn, un] []) := by
  intro Ts_ locs_ hs_ cp rk x ar ea k ke z gn r0 r1 r2 v0 v1 v2  Xs_ es_ Ns_ Ks_ Os_  sp0_ sp1_ sp2_ sp3_ sp4_ sp5_ hov g_x g_ar hz0 hz1 hz2 hf2 hf3 sp14_ sp15_ sp16_ sp17_ sp18_ sp19_ sp20_ g_ea hea hex her0 her1 her2 hn0 hn1 hy
  show Go_ Ts_ (mkF mm_ 210 #[vi p1, vi p2, vi p3, vi p4, vi cp, vi rk, vr x, vi 1, vr ea, vi 3, vi gn, un] [])
  refine sp_ (fun t_ k_ => XS.iload Xs_.here hx rfl (B_ at_210) rfl  k_) ?_
  show Go_ Ts_ (mkF mm_ 212 #[vi p1, vi p2, vi p3, vi p4, vi cp, vi rk, vr x, vi 1, vr ea, vi 3, vi gn, un] [(.int 1)])
  refine sp_ (fun t_ k_ => XS.ifNo Xs_.here hx rfl (B_ at_212) rfl ((if0 _ _).trans (feq (by decide : ¬ ((1 : Int32) = (0 : Int32)))).1) k_) ?_
  show Go_ Ts_ (mkF mm_ 215 #[vi p1, vi p2, vi p3, vi p4, vi cp, vi rk, vr x, vi 1, vr ea, vi 3, vi gn, un] [])
  refine sp_ (fun t_ k_ => XS.aload Xs_.here hx rfl (B_ at_215) rfl rfl (XS.iload Xs_.here hx rfl (B_ at_217) rfl  k_)) ?_
  obtain ⟨_, T251, Lc251, X251, hQ251, st251⟩ := own_cS Xs_ hx hZ hown (w_ hw 28 rfl) (w_ hw 29 rfl) (w_ hw 30 rfl) (w_ hw 31 rfl) (by decide) (backOf (W := 1) (rmVO l Z a0 hw [] gn hs_ n0 Os_ G_ ) hZ (w_ hw 31 rfl) (w_ hw 30 rfl) (by decide) (by decide)) (g := (mkF mm_ 219 #[vi p1, vi p2, vi p3, vi p4, vi cp, vi rk, vr x, vi 1, vr ea, vi 3, vi gn, un] [(.int gn), (.ref x)])) rfl hml.symm (argsL := [(.int gn)]) (rest := [(.ref x)]) (lenOf pd_15 rfl) rfl (Nat.le_of_eq rfl) (B_ at_219) rfl es_ (by decide) (by decide)
  obtain ⟨r_251, rfl, Nq251, Kc251, r251_0, r251_1⟩ := hQ251
  have N251 := Fr.app Ns_ Nq251
  refine jp_ st251 ?_
  show Go_ T251 (mkF mm_ 222 #[vi p1, vi p2, vi p3, vi p4, vi cp, vi rk, vr x, vi 1, vr ea, vi 3, vi gn, un] [(.ref r_251), (.ref x)])
  have f253 : Exa Z T251.heap x sc1 := (sp0_.keep Kc251)
  have f254 : Fld Z T251.heap x sc1 "hashed" sc5 .null := (sp1_.keep Kc251 nin0)
  have f255 : Fld Z T251.heap x sc1 "members" sc3 (.ref ar) := (sp2_.keep Kc251 nin0)
  have f256 : Fld Z T251.heap x sc1 "size" "I" (.int 3) := (sp3_.keep Kc251 nin0)
  have f257 : Arv Z T251.heap ar k (.object sc2) z [(.ref r0), (.ref r1), (.ref r2)] .null := (sp4_.keep Kc251 nin0)
  have f258 : Exa Z T251.heap ar sc3 := (sp5_.keep Kc251)
  have f259 : Exa Z T251.heap r0 sc0 := (sp14_.keep Kc251)
  have f260 : Fld Z T251.heap r0 sc0 "value" "I" (.int v0) := (sp15_.keep Kc251 nin0)
  have f261 : Exa Z T251.heap r1 sc0 := (sp16_.keep Kc251)
  have f262 : Fld Z T251.heap r1 sc0 "value" "I" (.int v1) := (sp17_.keep Kc251 nin0)
  have f263 : Exa Z T251.heap r2 sc0 := (sp18_.keep Kc251)
  have f264 : Fld Z T251.heap r2 sc0 "value" "I" (.int v2) := (sp19_.keep Kc251 nin0)
  have O265 : Old Z n0 T251.heap := (Os_.keep Kc251 all0)
  obtain ⟨_, T252, Lc252, X252, hQ252, st252⟩ := own_cV X251 hx hZ hown (w_ hw 132 rfl) (w_ hw 133 rfl) (notFace_of_selects (args := #[]) (mvT hZ (w_ hw 135 rfl))) (w_ hw 135 rfl) (w_ hw 134 rfl) (by decide) (backOf (W := 0) (rmRm3_2 l Z a0 hw [] x r_251 ar k z r0 r1 r2 v0 v1 v2 gn T251.heap n0 O265 f253 f254 f255 f256 f257 f258 hov g_x g_ar hz0 hz1 hz2 hf2 hf3 f259 f260 f261 f262 f263 f264 r251_0 r251_1 hn0 hn1 hy) hZ (w_ hw 136 rfl) (w_ hw 2 rfl) (by decide) (by decide)) f253 (g := (mkF mm_ 222 #[vi p1, vi p2, vi p3, vi p4, vi cp, vi rk, vr x, vi 1, vr ea, vi 3, vi gn, un] [(.ref r_251), (.ref x)])) rfl hml.symm (argsL := [(.ref r_251)]) (rest := []) (lenOf pd_4 rfl) rfl (Nat.le_of_eq rfl) (B_ at_222) rfl rfl (by decide) (by decide)
  obtain ⟨rfl, Nq252, Kc252, r252_0, r252_1, r252_2, r252_3⟩ := hQ252
  have N252 := Fr.app N251 Nq252
  refine jp_ st252 ?_
  show Go_ T252 (mkF mm_ 225 #[vi p1, vi p2, vi p3, vi p4, vi cp, vi rk, vr x, vi 1, vr ea, vi 3, vi gn, un] [(.int 1)])
  refine sp_ (fun t_ k_ => XS.ifNo X252.here hx rfl (B_ at_225) rfl ((if0 _ _).trans (feq (by decide : ¬ ((1 : Int32) = (0 : Int32)))).1) k_) ?_
  show Go_ T252 (mkF mm_ 228 #[vi p1, vi p2, vi p3, vi p4, vi cp, vi rk, vr x, vi 1, vr ea, vi 3, vi gn, un] [])
  refine sp_ (fun t_ k_ => XS.iconst X252.here hx rfl (B_ at_228) (XS.goto X252.here hx rfl (pc0 := 229) (pc' := 233) rfl (B_ at_229) (by decide) (by decide) (XS.istore X252.here hx rfl (B_ at_233) rfl (l' := #[vi p1, vi p2, vi p3, vi p4, vi cp, vi rk, vr x, vi 1, vr ea, vi 3, vi gn, un]) rfl (XS.aload X252.here hx rfl (B_ at_235) rfl rfl (XS.iconst X252.here hx rfl (B_ at_237) k_))))) ?_
  have f266 : Arv Z T252.heap ea ke .int (3 : Int32) [(.int v0), (.int v1), (.int v2)] (.int 0) := ((sp20_.keep Kc251 nin0).keep Kc252 (ninS (Ne.symm hex) (ninS hea nin0)))
  obtain ⟨cl267, Ar267, q267, S267, M267, H267, G267⟩ := id f266
  have hin267 : ¬ ((0 : Int32) < 0 ∨ cl267.slots.size ≤ ((0 : Int32)).toNatClampNeg) := inb_of S267 ⟨by decide, by decide⟩
  have hat267 : cl267.slots[((0 : Int32)).toNatClampNeg]? = some (.int v0) := Has.at H267 hin267 rfl
  refine sp_ (fun t_ k_ => X252.iaload hx (j := (0 : Int32)) (v := (.int v0)) Ar267.1 (State.isArrayOf_alike hZ.alike Ar267.2.1) Ar267.2.2 hin267 hat267 (g := (mkF mm_ 238 #[vi p1, vi p2, vi p3, vi p4, vi cp, vi rk, vr x, vi 1, vr ea, vi 3, vi gn, un] [(.int 0), (.ref ea)])) rfl rfl (B_ at_238) t_ k_) ?_
  show Go_ T252 (mkF mm_ 239 #[vi p1, vi p2, vi p3, vi p4, vi cp, vi rk, vr x, vi 1, vr ea, vi 3, vi gn, un] [(.int v0)])
  refine sp_ (fun t_ k_ => XS.iload X252.here hx rfl (B_ at_239) rfl  k_) ?_
  show Go_ T252 (mkF mm_ 241 #[vi p1, vi p2, vi p3, vi p4, vi cp, vi rk, vr x, vi 1, vr ea, vi 3, vi gn, un] [(.int gn), (.int v0)])
  refine sp_ (fun t_ k_ => XS.icmpYes X252.here hx rfl (pc0 := 241) (pc' := 248) rfl (B_ at_241) rfl (feq hn0).2 (by decide) (by decide) k_) ?_
  show Go_ T252 (mkF mm_ 248 #[vi p1, vi p2, vi p3, vi p4, vi cp, vi rk, vr x, vi 1, vr ea, vi 3, vi gn, un] [])
  refine sp_ (fun t_ k_ => XS.aload X252.here hx rfl (B_ at_248) rfl rfl (XS.iconst X252.here hx rfl (B_ at_250) k_)) ?_
  obtain ⟨cl268, Ar268, q268, S268, M268, H268, G268⟩ := id f266
  have hin268 : ¬ ((1 : Int32) < 0 ∨ cl268.slots.size ≤ ((1 : Int32)).toNatClampNeg) := inb_of S268 ⟨by decide, by decide⟩
  have hat268 : cl268.slots[((1 : Int32)).toNatClampNeg]? = some (.int v1) := Has.at H268 hin268 rfl
  refine sp_ (fun t_ k_ => X252.iaload hx (j := (1 : Int32)) (v := (.int v1)) Ar268.1 (State.isArrayOf_alike hZ.alike Ar268.2.1) Ar268.2.2 hin268 hat268 (g := (mkF mm_ 251 #[vi p1, vi p2, vi p3, vi p4, vi cp, vi rk, vr x, vi 1, vr ea, vi 3, vi gn, un] [(.int 1), (.ref ea)])) rfl rfl (B_ at_251) t_ k_) ?_
  show Go_ T252 (mkF mm_ 252 #[vi p1, vi p2, vi p3, vi p4, vi cp, vi rk, vr x, vi 1, vr ea, vi 3, vi gn, un] [(.int v1)])
  refine sp_ (fun t_ k_ => XS.iload X252.here hx rfl (B_ at_252) rfl  k_) ?_
  show Go_ T252 (mkF mm_ 254 #[vi p1, vi p2, vi p3, vi p4, vi cp, vi rk, vr x, vi 1, vr ea, vi 3, vi gn, un] [(.int gn), (.int v1)])
  refine sp_ (fun t_ k_ => XS.icmpYes X252.here hx rfl (pc0 := 254) (pc' := 261) rfl (B_ at_254) rfl (feq hn1).2 (by decide) (by decide) k_) ?_
  show Go_ T252 (mkF mm_ 261 #[vi p1, vi p2, vi p3, vi p4, vi cp, vi rk, vr x, vi 1, vr ea, vi 3, vi gn, un] [])
  refine sp_ (fun t_ k_ => XS.iconst X252.here hx rfl (B_ at_261) (XS.istore X252.here hx rfl (B_ at_262) rfl (l' := #[vi p1, vi p2, vi p3, vi p4, vi cp, vi rk, vr x, vi 1, vr ea, vi 3, vi gn, vi 2]) rfl (XS.iload X252.here hx rfl (B_ at_264) rfl  (XS.iconst X252.here hx rfl (B_ at_266) k_)))) ?_
  show Go_ T252 (mkF mm_ 267 #[vi p1, vi p2, vi p3, vi p4, vi cp, vi rk, vr x, vi 1, vr ea, vi 3, vi gn, vi 2] [(.int 1), (.int 2)])
  refine sp_ (fun t_ k_ => XS.icmpYes X252.here hx rfl (pc0 := 267) (pc' := 284) rfl (B_ at_267) rfl (flt (by decide : ¬ ((2 : Int32) < (1 : Int32)))).2.1 (by decide) (by decide) k_) ?_
  show Go_ T252 (mkF mm_ 284 #[vi p1, vi p2, vi p3, vi p4, vi cp, vi rk, vr x, vi 1, vr ea, vi 3, vi gn, vi 2] [])
  refine sp_ (fun t_ k_ => XS.iload X252.here hx rfl (B_ at_284) rfl  (XS.iconst X252.here hx rfl (B_ at_286) k_)) ?_
  show Go_ T252 (mkF mm_ 287 #[vi p1, vi p2, vi p3, vi p4, vi cp, vi rk, vr x, vi 1, vr ea, vi 3, vi gn, vi 2] [(.int 2), (.int 2)])
  refine sp_ (fun t_ k_ => XS.icmpYes X252.here hx rfl (pc0 := 287) (pc' := 304) rfl (B_ at_287) rfl (flt (by decide : ¬ ((2 : Int32) < (2 : Int32)))).2.1 (by decide) (by decide) k_) ?_
  show Go_ T252 (mkF mm_ 304 #[vi p1, vi p2, vi p3, vi p4, vi cp, vi rk, vr x, vi 1, vr ea, vi 3, vi gn, vi 2] [])
  refine sp_ (fun t_ k_ => XS.iload X252.here hx rfl (B_ at_304) rfl  (XS.iconst X252.here hx rfl (B_ at_306) (XS.isub X252.here hx rfl (B_ at_307) rfl (XS.istore X252.here hx rfl (B_ at_308) rfl (l' := #[vi p1, vi p2, vi p3, vi p4, vi cp, vi rk, vr x, vi 1, vr ea, vi 2, vi gn, vi 2]) rfl k_)))) ?_
  have f269 : Exa Z T252.heap x sc1 := (f253.keep Kc252)
  have f270 : Exa Z T252.heap ar sc3 := (f258.keep Kc252)
  have f271 : Exa Z T252.heap r0 sc0 := (f259.keep Kc252)
  have f272 : Fld Z T252.heap r0 sc0 "value" "I" (.int v0) := (f260.keep Kc252 (ninS (Exa.ne f259 f253 (by decide)) (ninS (Exa.ne f259 f258 (by decide)) nin0)))
  have f273 : Exa Z T252.heap r1 sc0 := (f261.keep Kc252)
  have f274 : Fld Z T252.heap r1 sc0 "value" "I" (.int v1) := (f262.keep Kc252 (ninS (Exa.ne f261 f253 (by decide)) (ninS (Exa.ne f261 f258 (by decide)) nin0)))
  have K275 : Keep h0 T252.heap [] := ((Ks_.trans Kc251 all0).trans Kc252 (allS (Or.inr (Nat.le_trans (Nat.le_of_eq hZ0_) g_x)) (allS (Or.inr (Nat.le_trans (Nat.le_of_eq hZ0_) g_ar)) all0)))
  have O276 : Old Z n0 T252.heap := (O265.keep Kc252 (allS g_x (allS g_ar all0)))
  exact seg_e2s _ _ _ cp rk x ar ea k ke z r0 r1 v0 v1 v2 gn (2 : Int32)  (X252.more (by decide) (by decide)) rfl N252 K275 O276  f269 r252_0 r252_1 r252_2 r252_3 f270 hz0 hz1 f271 f272 f273 f274 f266
 have seg_saa : ∀ (Ts_ : State) (locs_ : List Loc) (hs_ : Heap) (cp : Int32) (rk : Int32) (x : Addr) (ar : Addr) (k : ClassId) (z : Int32) (r0 : Addr) (Xs_ : Stand pp_ l ee_ room_1 ss_ mm_ #[(.int p1), (.int p2), (.int p3), (.int p4)] bb_ me_ cc_ Ts_ locs_ 18 90) (es_ : Ts_.heap = hs_) (Ns_ : Fr n0 locs_) (Ks_ : Keep h0 hs_ []) (Os_ : Old Z n0 hs_)  (sp0_ : Exa Z hs_ x sc1) (sp1_ : Fld Z hs_ x sc1 "hashed" sc5 .null) (sp2_ : Fld Z hs_ x sc1 "members" sc3 (.ref ar)) (sp3_ : Fld Z hs_ x sc1 "size" "I" (.int 1)) (sp4_ : Arv Z hs_ ar k (.object sc2) z [(.ref r0)] .null) (sp5_ : Exa Z hs_ ar sc3) (hov : Ovr Z k sc2) (g_x : n0 ≤ x) (g_ar : n0 ≤ ar) (hz0 : (0 : Int32) < z) (hf0 : 0 ≤ z.toNatClampNeg) (hf1 : 1 ≤ z.toNatClampNeg) (sp12_ : Exa Z hs_ r0 sc0) (sp13_ : Fld Z hs_ r0 sc0 "value" "I" (.int p1)) (hc0 : p2 = p1) (hc1 : p3 = p1), own_Go pp_ ee_ bb_ (fun s₂ oo_ => s₂.status = .running ∧ Ended s₂ bb_ oo_ ∧ (∃ vv_ LL_, oo_ = .returned vv_ ∧ Qrm0 Z p1 p2 p3 p4 h0 n0 vv_ s₂.heap LL_ ∧ FrameEnd ss_ oo_ s₂ LL_ room_1.cells room_1.slots)) Ts_ (mkF mm_ 123 #[vi p1, vi p2, vi p3, vi p4, vi cp, vi rk, vr x, vi 1, un, un, un, un] []) := by
  intro Ts_ locs_ hs_ cp rk x ar k z r0  Xs_ es_ Ns_ Ks_ Os_  sp0_ sp1_ sp2_ sp3_ sp4_ sp5_ hov g_x g_ar hz0 hf0 hf1 sp12_ sp13_ hc0 hc1
  show Go_ Ts_ (mkF mm_ 123 #[vi p1, vi p2, vi p3, vi p4, vi cp, vi rk, vr x, vi 1, un, un, un, un] [])
  refine sp_ (fun t_ k_ => XS.iconst Xs_.here hx rfl (B_ at_123) k_) ?_
  obtain ⟨T277, h277, k277, X277, e277, E277, A277, st277⟩ := newP Xs_ hx hZ (w_ hw 90 rfl) es_ (g := (mkF mm_ 124 #[vi p1, vi p2, vi p3, vi p4, vi cp, vi rk, vr x, vi 1, un, un, un, un] [(.int 3)])) rfl (B_ at_124) rfl (by decide) (cap := 3) (by decide) (by decide) (by decide) (by decide)
  obtain ⟨b277, q277⟩ : ∃ z, z = hs_.size := ⟨_, rfl⟩
  rw [← q277] at A277 st277
  have lo_b277 : h0.size ≤ b277 := Nat.le_trans Ks_.1 (Nat.le_of_eq q277.symm)
  have g_b277 : n0 ≤ b277 := Nat.le_trans Z0 lo_b277
  refine sp_ st277 ?_
  have V277 : Arv Z h277 b277 k277 .int (3 : Int32) [(.int 0), (.int 0), (.int 0)] (.int 0) := (Arv.new A277 (by decide)).pad (pad_rep [] (.int 0) 3)
  show Go_ T277 (mkF mm_ 126 #[vi p1, vi p2, vi p3, vi p4, vi cp, vi rk, vr x, vi 1, un, un, un, un] [(.ref b277)])
  refine sp_ (fun t_ k_ => XS.astore X277.here hx rfl (B_ at_126) rfl rfl (l' := #[vi p1, vi p2, vi p3, vi p4, vi cp, vi rk, vr x, vi 1, vr b277, un, un, un]) rfl (XS.iconst X277.here hx rfl (B_ at_128) (XS.istore X277.here hx rfl (B_ at_129) rfl (l' := #[vi p1, vi p2, vi p3, vi p4, vi cp, vi rk, vr x, vi 1, vr b277, vi 0, un, un]) rfl (XS.aload X277.here hx rfl (B_ at_131) rfl rfl (XS.iload X277.here hx rfl (B_ at_133) rfl  (XS.iloadN X277.here hx rfl (B_ at_135) rfl  k_)))))) ?_
  obtain ⟨cl278, Ar278, q278, S278, M278, H278, G278⟩ := id V277
  have hin278 : ¬ ((0 : Int32) < 0 ∨ cl278.slots.size ≤ ((0 : Int32)).toNatClampNeg) := inb_of S278 ⟨by decide, by decide⟩
  obtain ⟨T278, h278, X278, e278, W278, st278⟩ := stI X277 hx hZ e277 Ar278 (j := (0 : Int32)) hin278 (g := (mkF mm_ 136 #[vi p1, vi p2, vi p3, vi p4, vi cp, vi rk, vr x, vi 1, vr b277, vi 0, un, un] [(.int p1), (.int 0), (.ref b277)])) rfl rfl (B_ at_136)
  have V278 : Arv Z h278 b277 k277 .int (3 : Int32) [(.int p1), (.int 0), (.int 0)] (.int 0) := Arv.set Ar278 q278 S278 M278 H278 G278 rfl W278 0 rfl (Nat.le_of_ble_eq_true rfl)
  have N278 := Fr.snoc X278 Ns_ g_b277
  refine sp_ st278 ?_
  show Go_ T278 (mkF mm_ 137 #[vi p1, vi p2, vi p3, vi p4, vi cp, vi rk, vr x, vi 1, vr b277, vi 0, un, un] [])
  refine sp_ (fun t_ k_ => XS.iload X278.here hx rfl (B_ at_137) rfl  (XS.iconst X278.here hx rfl (B_ at_139) (XS.iadd X278.here hx rfl (B_ at_140) rfl (XS.istore X278.here hx rfl (B_ at_141) rfl (l' := #[vi p1, vi p2, vi p3, vi p4, vi cp, vi rk, vr x, vi 1, vr b277, vi 1, un, un]) rfl (XS.iloadN X278.here hx rfl (B_ at_143) rfl  (XS.iloadN X278.here hx rfl (B_ at_144) rfl  k_)))))) ?_
  show Go_ T278 (mkF mm_ 145 #[vi p1, vi p2, vi p3, vi p4, vi cp, vi rk, vr x, vi 1, vr b277, vi 1, un, un] [(.int p1), (.int p2)])
  refine sp_ (fun t_ k_ => XS.icmpYes X278.here hx rfl (pc0 := 145) (pc' := 160) rfl (B_ at_145) rfl (teq hc0).1 (by decide) (by decide) k_) ?_
  show Go_ T278 (mkF mm_ 160 #[vi p1, vi p2, vi p3, vi p4, vi cp, vi rk, vr x, vi 1, vr b277, vi 1, un, un] [])
  refine sp_ (fun t_ k_ => XS.iloadN X278.here hx rfl (B_ at_160) rfl  (XS.iloadN X278.here hx rfl (B_ at_161) rfl  k_)) ?_
  show Go_ T278 (mkF mm_ 162 #[vi p1, vi p2, vi p3, vi p4, vi cp, vi rk, vr x, vi 1, vr b277, vi 1, un, un] [(.int p1), (.int p3)])
  refine sp_ (fun t_ k_ => XS.icmpYes X278.here hx rfl (pc0 := 162) (pc' := 182) rfl (B_ at_162) rfl (teq hc1).1 (by decide) (by decide) k_) ?_
  show Go_ T278 (mkF mm_ 182 #[vi p1, vi p2, vi p3, vi p4, vi cp, vi rk, vr x, vi 1, vr b277, vi 1, un, un] [])
  refine sp_ (fun t_ k_ => XS.iload X278.here hx rfl (B_ at_182) rfl  k_) ?_
  show Go_ T278 (mkF mm_ 184 #[vi p1, vi p2, vi p3, vi p4, vi cp, vi rk, vr x, vi 1, vr b277, vi 1, un, un] [(.int rk)])
  by_cases hc184_279 : rk = (0 : Int32)
  · skip
    refine sp_ (fun t_ k_ => XS.ifYes X278.here hx rfl (pc0 := 184) (pc' := 310) rfl (B_ at_184) rfl ((if0 _ _).trans (teq hc184_279).1) (by decide) (by decide) k_) ?_
    have f280 : Exa Z h278 x sc1 := ((sp0_.ext E277).wr W278)
    have f281 : Fld Z h278 x sc1 "hashed" sc5 .null := ((sp1_.ext E277).other W278 (Or.inl (Nat.ne_of_lt (Nat.lt_of_lt_of_le sp0_.lt (Nat.le_of_eq q277.symm)))))
    have f282 : Fld Z h278 x sc1 "members" sc3 (.ref ar) := ((sp2_.ext E277).other W278 (Or.inl (Nat.ne_of_lt (Nat.lt_of_lt_of_le sp0_.lt (Nat.le_of_eq q277.symm)))))
    have f283 : Fld Z h278 x sc1 "size" "I" (.int 1) := ((sp3_.ext E277).other W278 (Or.inl (Nat.ne_of_lt (Nat.lt_of_lt_of_le sp0_.lt (Nat.le_of_eq q277.symm)))))
    have f284 : Arv Z h278 ar k (.object sc2) z [(.ref r0)] .null := ((sp4_.ext E277).other W278 (Nat.ne_of_lt (Nat.lt_of_lt_of_le sp4_.lt (Nat.le_of_eq q277.symm))))
    have f285 : Exa Z h278 ar sc3 := ((sp5_.ext E277).wr W278)
    have f286 : Exa Z h278 r0 sc0 := ((sp12_.ext E277).wr W278)
    have f287 : Fld Z h278 r0 sc0 "value" "I" (.int p1) := ((sp13_.ext E277).other W278 (Or.inl (Nat.ne_of_lt (Nat.lt_of_lt_of_le sp12_.lt (Nat.le_of_eq q277.symm)))))
    have K288 : Keep h0 h278 [] := ((Ks_.ext E277).wr W278 (Or.inr lo_b277))
    have O289 : Old Z n0 h278 := ((Os_.ext E277).wr W278 g_b277)
    exact seg_e1u _ _ _ cp rk x ar b277 k k277 z r0 p1 (0 : Int32) (0 : Int32)  (X278.more (by decide) (by decide)) e278 N278 K288 O289  f280 f281 f282 f283 f284 f285 hz0 f286 f287 V278
  · skip
    refine sp_ (fun t_ k_ => XS.ifNo X278.here hx rfl (B_ at_184) rfl ((if0 _ _).trans (feq hc184_279).1) k_) ?_
    show Go_ T278 (mkF mm_ 187 #[vi p1, vi p2, vi p3, vi p4, vi cp, vi rk, vr x, vi 1, vr b277, vi 1, un, un] [])
    refine sp_ (fun t_ k_ => XS.iload X278.here hx rfl (B_ at_187) rfl  (XS.iconst X278.here hx rfl (B_ at_189) k_)) ?_
    show Go_ T278 (mkF mm_ 190 #[vi p1, vi p2, vi p3, vi p4, vi cp, vi rk, vr x, vi 1, vr b277, vi 1, un, un] [(.int 1), (.int rk)])
    by_cases hc190_290 : rk = (1 : Int32)
    · skip
      refine sp_ (fun t_ k_ => XS.icmpNo X278.here hx rfl (B_ at_190) rfl (teq hc190_290).2 k_) ?_
      show Go_ T278 (mkF mm_ 193 #[vi p1, vi p2, vi p3, vi p4, vi cp, vi rk, vr x, vi 1, vr b277, vi 1, un, un] [])
      refine sp_ (fun t_ k_ => XS.iloadN X278.here hx rfl (B_ at_193) rfl  (XS.goto X278.here hx rfl (pc0 := 194) (pc' := 208) rfl (B_ at_194) (by decide) (by decide) (XS.istore X278.here hx rfl (B_ at_208) rfl (l' := #[vi p1, vi p2, vi p3, vi p4, vi cp, vi rk, vr x, vi 1, vr b277, vi 1, vi p1, un]) rfl k_))) ?_
      have f291 : Exa Z h278 x sc1 := ((sp0_.ext E277).wr W278)
      have f292 : Fld Z h278 x sc1 "hashed" sc5 .null := ((sp1_.ext E277).other W278 (Or.inl (Nat.ne_of_lt (Nat.lt_of_lt_of_le sp0_.lt (Nat.le_of_eq q277.symm)))))
      have f293 : Fld Z h278 x sc1 "members" sc3 (.ref ar) := ((sp2_.ext E277).other W278 (Or.inl (Nat.ne_of_lt (Nat.lt_of_lt_of_le sp0_.lt (Nat.le_of_eq q277.symm)))))
      have f294 : Fld Z h278 x sc1 "size" "I" (.int 1) := ((sp3_.ext E277).other W278 (Or.inl (Nat.ne_of_lt (Nat.lt_of_lt_of_le sp0_.lt (Nat.le_of_eq q277.symm)))))
      have f295 : Arv Z h278 ar k (.object sc2) z [(.ref r0)] .null := ((sp4_.ext E277).other W278 (Nat.ne_of_lt (Nat.lt_of_lt_of_le sp4_.lt (Nat.le_of_eq q277.symm))))
      have f296 : Exa Z h278 ar sc3 := ((sp5_.ext E277).wr W278)
      have f297 : Exa Z h278 r0 sc0 := ((sp12_.ext E277).wr W278)
      have f298 : Fld Z h278 r0 sc0 "value" "I" (.int p1) := ((sp13_.ext E277).other W278 (Or.inl (Nat.ne_of_lt (Nat.lt_of_lt_of_le sp12_.lt (Nat.le_of_eq q277.symm)))))
      have K299 : Keep h0 h278 [] := ((Ks_.ext E277).wr W278 (Or.inr lo_b277))
      have O300 : Old Z n0 h278 := ((Os_.ext E277).wr W278 g_b277)
      exact seg_g1_0 _ _ _ cp rk x ar b277 k k277 z p1 r0 p1 (0 : Int32) (0 : Int32)  (X278.more (by decide) (by decide)) e278 N278 K299 O300  f291 f292 f293 f294 f295 f296 hov g_x g_ar hz0 hf0 hf1 f297 f298 V278 g_b277 (Ne.symm (Nat.ne_of_lt (Nat.lt_of_lt_of_le sp4_.lt (Nat.le_of_eq q277.symm)))) (Nat.ne_of_lt (Nat.lt_of_lt_of_le sp0_.lt (Nat.le_of_eq q277.symm))) (Nat.ne_of_lt (Nat.lt_of_lt_of_le sp12_.lt (Nat.le_of_eq q277.symm))) rfl
    · skip
      refine sp_ (fun t_ k_ => XS.icmpYes X278.here hx rfl (pc0 := 190) (pc' := 197) rfl (B_ at_190) rfl (feq hc190_290).2 (by decide) (by decide) k_) ?_
      show Go_ T278 (mkF mm_ 197 #[vi p1, vi p2, vi p3, vi p4, vi cp, vi rk, vr x, vi 1, vr b277, vi 1, un, un] [])
      refine sp_ (fun t_ k_ => XS.iload X278.here hx rfl (B_ at_197) rfl  (XS.iconst X278.here hx rfl (B_ at_199) k_)) ?_
      show Go_ T278 (mkF mm_ 200 #[vi p1, vi p2, vi p3, vi p4, vi cp, vi rk, vr x, vi 1, vr b277, vi 1, un, un] [(.int 2), (.int rk)])
      by_cases hc200_301 : rk = (2 : Int32)
      · skip
        refine sp_ (fun t_ k_ => XS.icmpNo X278.here hx rfl (B_ at_200) rfl (teq hc200_301).2 k_) ?_
        show Go_ T278 (mkF mm_ 203 #[vi p1, vi p2, vi p3, vi p4, vi cp, vi rk, vr x, vi 1, vr b277, vi 1, un, un] [])
        refine sp_ (fun t_ k_ => XS.iloadN X278.here hx rfl (B_ at_203) rfl  (XS.goto X278.here hx rfl (pc0 := 204) (pc' := 208) rfl (B_ at_204) (by decide) (by decide) (XS.istore X278.here hx rfl (B_ at_208) rfl (l' := #[vi p1, vi p2, vi p3, vi p4, vi cp, vi rk, vr x, vi 1, vr b277, vi 1, vi p2, un]) rfl k_))) ?_
        have f302 : Exa Z h278 x sc1 := ((sp0_.ext E277).wr W278)
        have f303 : Fld Z h278 x sc1 "hashed" sc5 .null := ((sp1_.ext E277).other W278 (Or.inl (Nat.ne_of_lt (Nat.lt_of_lt_of_le sp0_.lt (Nat.le_of_eq q277.symm)))))
        have f304 : Fld Z h278 x sc1 "members" sc3 (.ref ar) := ((sp2_.ext E277).other W278 (Or.inl (Nat.ne_of_lt (Nat.lt_of_lt_of_le sp0_.lt (Nat.le_of_eq q277.symm)))))
        have f305 : Fld Z h278 x sc1 "size" "I" (.int 1) := ((sp3_.ext E277).other W278 (Or.inl (Nat.ne_of_lt (Nat.lt_of_lt_of_le sp0_.lt (Nat.le_of_eq q277.symm)))))
        have f306 : Arv Z h278 ar k (.object sc2) z [(.ref r0)] .null := ((sp4_.ext E277).other W278 (Nat.ne_of_lt (Nat.lt_of_lt_of_le sp4_.lt (Nat.le_of_eq q277.symm))))
        have f307 : Exa Z h278 ar sc3 := ((sp5_.ext E277).wr W278)
        have f308 : Exa Z h278 r0 sc0 := ((sp12_.ext E277).wr W278)
        have f309 : Fld Z h278 r0 sc0 "value" "I" (.int p1) := ((sp13_.ext E277).other W278 (Or.inl (Nat.ne_of_lt (Nat.lt_of_lt_of_le sp12_.lt (Nat.le_of_eq q277.symm)))))
        have K310 : Keep h0 h278 [] := ((Ks_.ext E277).wr W278 (Or.inr lo_b277))
        have O311 : Old Z n0 h278 := ((Os_.ext E277).wr W278 g_b277)
        exact seg_g1_0 _ _ _ cp rk x ar b277 k k277 z p2 r0 p1 (0 : Int32) (0 : Int32)  (X278.more (by decide) (by decide)) e278 N278 K310 O311  f302 f303 f304 f305 f306 f307 hov g_x g_ar hz0 hf0 hf1 f308 f309 V278 g_b277 (Ne.symm (Nat.ne_of_lt (Nat.lt_of_lt_of_le sp4_.lt (Nat.le_of_eq q277.symm)))) (Nat.ne_of_lt (Nat.lt_of_lt_of_le sp0_.lt (Nat.le_of_eq q277.symm))) (Nat.ne_of_lt (Nat.lt_of_lt_of_le sp12_.lt (Nat.le_of_eq q277.symm))) hc0.symm
      · skip
        refine sp_ (fun t_ k_ => XS.icmpYes X278.here hx rfl (pc0 := 200) (pc' := 207) rfl (B_ at_200) rfl (feq hc200_301).2 (by decide) (by decide) k_) ?_
        show Go_ T278 (mkF mm_ 207 #[vi p1, vi p2, vi p3, vi p4, vi cp, vi rk, vr x, vi 1, vr b277, vi 1, un, un] [])
        refine sp_ (fun t_ k_ => XS.iloadN X278.here hx rfl (B_ at_207) rfl  (XS.istore X278.here hx rfl (B_ at_208) rfl (l' := #[vi p1, vi p2, vi p3, vi p4, vi cp, vi rk, vr x, vi 1, vr b277, vi 1, vi p3, un]) rfl k_)) ?_
        have f312 : Exa Z h278 x sc1 := ((sp0_.ext E277).wr W278)
        have f313 : Fld Z h278 x sc1 "hashed" sc5 .null := ((sp1_.ext E277).other W278 (Or.inl (Nat.ne_of_lt (Nat.lt_of_lt_of_le sp0_.lt (Nat.le_of_eq q277.symm)))))
        have f314 : Fld Z h278 x sc1 "members" sc3 (.ref ar) := ((sp2_.ext E277).other W278 (Or.inl (Nat.ne_of_lt (Nat.lt_of_lt_of_le sp0_.lt (Nat.le_of_eq q277.symm)))))
        have f315 : Fld Z h278 x sc1 "size" "I" (.int 1) := ((sp3_.ext E277).other W278 (Or.inl (Nat.ne_of_lt (Nat.lt_of_lt_of_le sp0_.lt (Nat.le_of_eq q277.symm)))))
        have f316 : Arv Z h278 ar k (.object sc2) z [(.ref r0)] .null := ((sp4_.ext E277).other W278 (Nat.ne_of_lt (Nat.lt_of_lt_of_le sp4_.lt (Nat.le_of_eq q277.symm))))
        have f317 : Exa Z h278 ar sc3 := ((sp5_.ext E277).wr W278)
        have f318 : Exa Z h278 r0 sc0 := ((sp12_.ext E277).wr W278)
        have f319 : Fld Z h278 r0 sc0 "value" "I" (.int p1) := ((sp13_.ext E277).other W278 (Or.inl (Nat.ne_of_lt (Nat.lt_of_lt_of_le sp12_.lt (Nat.le_of_eq q277.symm)))))
        have K320 : Keep h0 h278 [] := ((Ks_.ext E277).wr W278 (Or.inr lo_b277))
        have O321 : Old Z n0 h278 := ((Os_.ext E277).wr W278 g_b277)
        exact seg_g1_0 _ _ _ cp rk x ar b277 k k277 z p3 r0 p1 (0 : Int32) (0 : Int32)  (X278.more (by decide) (by decide)) e278 N278 K320 O321  f312 f313 f314 f315 f316 f317 hov g_x g_ar hz0 hf0 hf1 f318 f319 V278 g_b277 (Ne.symm (Nat.ne_of_lt (Nat.lt_of_lt_of_le sp4_.lt (Nat.le_of_eq q277.symm)))) (Nat.ne_of_lt (Nat.lt_of_lt_of_le sp0_.lt (Nat.le_of_eq q277.symm))) (Nat.ne_of_lt (Nat.lt_of_lt_of_le sp12_.lt (Nat.le_of_eq q277.symm))) hc1.symm
 have seg_sac : ∀ (Ts_ : State) (locs_ : List Loc) (hs_ : Heap) (cp : Int32) (rk : Int32) (x : Addr) (ar : Addr) (k : ClassId) (z : Int32) (r0 : Addr) (r1 : Addr) (Xs_ : Stand pp_ l ee_ room_1 ss_ mm_ #[(.int p1), (.int p2), (.int p3), (.int p4)] bb_ me_ cc_ Ts_ locs_ 18 90) (es_ : Ts_.heap = hs_) (Ns_ : Fr n0 locs_) (Ks_ : Keep h0 hs_ []) (Os_ : Old Z n0 hs_)  (sp0_ : Exa Z hs_ x sc1) (sp1_ : Fld Z hs_ x sc1 "hashed" sc5 .null) (sp2_ : Fld Z hs_ x sc1 "members" sc3 (.ref ar)) (sp3_ : Fld Z hs_ x sc1 "size" "I" (.int 2)) (sp4_ : Arv Z hs_ ar k (.object sc2) z [(.ref r0), (.ref r1)] .null) (sp5_ : Exa Z hs_ ar sc3) (hov : Ovr Z k sc2) (g_x : n0 ≤ x) (g_ar : n0 ≤ ar) (hz0 : (0 : Int32) < z) (hz1 : (1 : Int32) < z) (hf1 : 1 ≤ z.toNatClampNeg) (hf2 : 2 ≤ z.toNatClampNeg) (sp13_ : Exa Z hs_ r0 sc0) (sp14_ : Fld Z hs_ r0 sc0 "value" "I" (.int p1)) (sp15_ : Exa Z hs_ r1 sc0) (sp16_ : Fld Z hs_ r1 sc0 "value" "I" (.int p3)) (hc0 : p2 = p1) (hc1 : ¬ (p3 = p1)), own_Go pp_ ee_ bb_ (fun s₂ oo_ => s₂.status = .running ∧ Ended s₂ bb_ oo_ ∧ (∃ vv_ LL_, oo_ = .returned vv_ ∧ Qrm0 Z p1 p2 p3 p4 h0 n0 vv_ s₂.heap LL_ ∧ FrameEnd ss_ oo_ s₂ LL_ room_1.cells room_1.slots)) Ts_ (mkF mm_ 123 #[vi p1, vi p2, vi p3, vi p4, vi cp, vi rk, vr x, vi 1, un, un, un, un] []) := by
  intro Ts_ locs_ hs_ cp rk x ar k z r0 r1  Xs_ es_ Ns_ Ks_ Os_  sp0_ sp1_ sp2_ sp3_ sp4_ sp5_ hov g_x g_ar hz0 hz1 hf1 hf2 sp13_ sp14_ sp15_ sp16_ hc0 hc1
  show Go_ Ts_ (mkF mm_ 123 #[vi p1, vi p2, vi p3, vi p4, vi cp, vi rk, vr x, vi 1, un, un, un, un] [])
  refine sp_ (fun t_ k_ => XS.iconst Xs_.here hx rfl (B_ at_123) k_) ?_
  obtain ⟨T322, h322, k322, X322, e322, E322, A322, st322⟩ := newP Xs_ hx hZ (w_ hw 90 rfl) es_ (g := (mkF mm_ 124 #[vi p1, vi p2, vi p3, vi p4, vi cp, vi rk, vr x, vi 1, un, un, un, un] [(.int 3)])) rfl (B_ at_124) rfl (by decide) (cap := 3) (by decide) (by decide) (by decide) (by decide)
  obtain ⟨b322, q322⟩ : ∃ z, z = hs_.size := ⟨_, rfl⟩
  rw [← q322] at A322 st322
  have lo_b322 : h0.size ≤ b322 := Nat.le_trans Ks_.1 (Nat.le_of_eq q322.symm)
  have g_b322 : n0 ≤ b322 := Nat.le_trans Z0 lo_b322
  refine sp_ st322 ?_
  have V322 : Arv Z h322 b322 k322 .int (3 : Int32) [(.int 0), (.int 0), (.int 0)] (.int 0) := (Arv.new A322 (by decide)).pad (pad_rep [] (.int 0) 3)
  show Go_ T322 (mkF mm_ 126 #[vi p1, vi p2, vi p3, vi p4, vi cp, vi rk, vr x, vi 1, un, un, un, un] [(.ref b322)])
  refine sp_ (fun t_ k_ => XS.astore X322.here hx rfl (B_ at_126) rfl rfl (l' := #[vi p1, vi p2, vi p3, vi p4, vi cp, vi rk, vr x, vi 1, vr b322, un, un, un]) rfl (XS.iconst X322.here hx rfl (B_ at_128) (XS.istore X322.here hx rfl (B_ at_129) rfl (l' := #[vi p1, vi p2, vi p3, vi p4, vi cp, vi rk, vr x, vi 1, vr b322, vi 0, un, un]) rfl (XS.aload X322.here hx rfl (B_ at_131) rfl rfl (XS.iload X322.here hx rfl (B_ at_133) rfl  (XS.iloadN X322.here hx rfl (B_ at_135) rfl  k_)))))) ?_
  obtain ⟨cl323, Ar323, q323, S323, M323, H323, G323⟩ := id V322
  have hin323 : ¬ ((0 : Int32) < 0 ∨ cl323.slots.size ≤ ((0 : Int32)).toNatClampNeg) := inb_of S323 ⟨by decide, by decide⟩
  obtain ⟨T323, h323, X323, e323, W323, st323⟩ := stI X322 hx hZ e322 Ar323 (j := (0 : Int32)) hin323 (g := (mkF mm_ 136 #[vi p1, vi p2, vi p3, vi p4, vi cp, vi rk, vr x, vi 1, vr b322, vi 0, un, un] [(.int p1), (.int 0), (.ref b322)])) rfl rfl (B_ at_136)
  have V323 : Arv Z h323 b322 k322 .int (3 : Int32) [(.int p1), (.int 0), (.int 0)] (.int 0) := Arv.set Ar323 q323 S323 M323 H323 G323 rfl W323 0 rfl (Nat.le_of_ble_eq_true rfl)
  have N323 := Fr.snoc X323 Ns_ g_b322
  refine sp_ st323 ?_
  show Go_ T323 (mkF mm_ 137 #[vi p1, vi p2, vi p3, vi p4, vi cp, vi rk, vr x, vi 1, vr b322, vi 0, un, un] [])
  refine sp_ (fun t_ k_ => XS.iload X323.here hx rfl (B_ at_137) rfl  (XS.iconst X323.here hx rfl (B_ at_139) (XS.iadd X323.here hx rfl (B_ at_140) rfl (XS.istore X323.here hx rfl (B_ at_141) rfl (l' := #[vi p1, vi p2, vi p3, vi p4, vi cp, vi rk, vr x, vi 1, vr b322, vi 1, un, un]) rfl (XS.iloadN X323.here hx rfl (B_ at_143) rfl  (XS.iloadN X323.here hx rfl (B_ at_144) rfl  k_)))))) ?_
  show Go_ T323 (mkF mm_ 145 #[vi p1, vi p2, vi p3, vi p4, vi cp, vi rk, vr x, vi 1, vr b322, vi 1, un, un] [(.int p1), (.int p2)])
  refine sp_ (fun t_ k_ => XS.icmpYes X323.here hx rfl (pc0 := 145) (pc' := 160) rfl (B_ at_145) rfl (teq hc0).1 (by decide) (by decide) k_) ?_
  show Go_ T323 (mkF mm_ 160 #[vi p1, vi p2, vi p3, vi p4, vi cp, vi rk, vr x, vi 1, vr b322, vi 1, un, un] [])
  refine sp_ (fun t_ k_ => XS.iloadN X323.here hx rfl (B_ at_160) rfl  (XS.iloadN X323.here hx rfl (B_ at_161) rfl  k_)) ?_
  show Go_ T323 (mkF mm_ 162 #[vi p1, vi p2, vi p3, vi p4, vi cp, vi rk, vr x, vi 1, vr b322, vi 1, un, un] [(.int p1), (.int p3)])
  refine sp_ (fun t_ k_ => XS.icmpNo X323.here hx rfl (B_ at_162) rfl (feq hc1).1 k_) ?_
  show Go_ T323 (mkF mm_ 165 #[vi p1, vi p2, vi p3, vi p4, vi cp, vi rk, vr x, vi 1, vr b322, vi 1, un, un] [])
  refine sp_ (fun t_ k_ => XS.iloadN X323.here hx rfl (B_ at_165) rfl  (XS.iloadN X323.here hx rfl (B_ at_166) rfl  k_)) ?_
  show Go_ T323 (mkF mm_ 167 #[vi p1, vi p2, vi p3, vi p4, vi cp, vi rk, vr x, vi 1, vr b322, vi 1, un, un] [(.int p2), (.int p3)])
  refine sp_ (fun t_ k_ => XS.icmpNo X323.here hx rfl (B_ at_167) rfl (feq (fun q_ => hc1 (q_.trans hc0))).1 k_) ?_
  show Go_ T323 (mkF mm_ 170 #[vi p1, vi p2, vi p3, vi p4, vi cp, vi rk, vr x, vi 1, vr b322, vi 1, un, un] [])
  refine sp_ (fun t_ k_ => XS.aload X323.here hx rfl (B_ at_170) rfl rfl (XS.iload X323.here hx rfl (B_ at_172) rfl  (XS.iloadN X323.here hx rfl (B_ at_174) rfl  k_))) ?_
  obtain ⟨cl324, Ar324, q324, S324, M324, H324, G324⟩ := id V323
  have hin324 : ¬ ((1 : Int32) < 0 ∨ cl324.slots.size ≤ ((1 : Int32)).toNatClampNeg) := inb_of S324 ⟨by decide, by decide⟩
  obtain ⟨T324, h324, X324, e324, W324, st324⟩ := stI X323 hx hZ e323 Ar324 (j := (1 : Int32)) hin324 (g := (mkF mm_ 175 #[vi p1, vi p2, vi p3, vi p4, vi cp, vi rk, vr x, vi 1, vr b322, vi 1, un, un] [(.int p3), (.int 1), (.ref b322)])) rfl rfl (B_ at_175)
  have V324 : Arv Z h324 b322 k322 .int (3 : Int32) [(.int p1), (.int p3), (.int 0)] (.int 0) := Arv.set Ar324 q324 S324 M324 H324 G324 rfl W324 1 rfl (Nat.le_of_ble_eq_true rfl)
  have N324 := Fr.snoc X324 N323 g_b322
  refine sp_ st324 ?_
  show Go_ T324 (mkF mm_ 176 #[vi p1, vi p2, vi p3, vi p4, vi cp, vi rk, vr x, vi 1, vr b322, vi 1, un, un] [])
  refine sp_ (fun t_ k_ => XS.iload X324.here hx rfl (B_ at_176) rfl  (XS.iconst X324.here hx rfl (B_ at_178) (XS.iadd X324.here hx rfl (B_ at_179) rfl (XS.istore X324.here hx rfl (B_ at_180) rfl (l' := #[vi p1, vi p2, vi p3, vi p4, vi cp, vi rk, vr x, vi 1, vr b322, vi 2, un, un]) rfl (XS.iload X324.here hx rfl (B_ at_182) rfl  k_))))) ?_
  show Go_ T324 (mkF mm_ 184 #[vi p1, vi p2, vi p3, vi p4, vi cp, vi rk, vr x, vi 1, vr b322, vi 2, un, un] [(.int rk)])
  by_cases hc184_325 : rk = (0 : Int32)
  · skip
    refine sp_ (fun t_ k_ => XS.ifYes X324.here hx rfl (pc0 := 184) (pc' := 310) rfl (B_ at_184) rfl ((if0 _ _).trans (teq hc184_325).1) (by decide) (by decide) k_) ?_
    have f326 : Exa Z h324 x sc1 := (((sp0_.ext E322).wr W323).wr W324)
    have f327 : Fld Z h324 x sc1 "hashed" sc5 .null := (((sp1_.ext E322).other W323 (Or.inl (Nat.ne_of_lt (Nat.lt_of_lt_of_le sp0_.lt (Nat.le_of_eq q322.symm))))).other W324 (Or.inl (Nat.ne_of_lt (Nat.lt_of_lt_of_le sp0_.lt (Nat.le_of_eq q322.symm)))))
    have f328 : Fld Z h324 x sc1 "members" sc3 (.ref ar) := (((sp2_.ext E322).other W323 (Or.inl (Nat.ne_of_lt (Nat.lt_of_lt_of_le sp0_.lt (Nat.le_of_eq q322.symm))))).other W324 (Or.inl (Nat.ne_of_lt (Nat.lt_of_lt_of_le sp0_.lt (Nat.le_of_eq q322.symm)))))
    have f329 : Fld Z h324 x sc1 "size" "I" (.int 2) := (((sp3_.ext E322).other W323 (Or.inl (Nat.ne_of_lt (Nat.lt_of_lt_of_le sp0_.lt (Nat.le_of_eq q322.symm))))).other W324 (Or.inl (Nat.ne_of_lt (Nat.lt_of_lt_of_le sp0_.lt (Nat.le_of_eq q322.symm)))))
    have f330 : Arv Z h324 ar k (.object sc2) z [(.ref r0), (.ref r1)] .null := (((sp4_.ext E322).other W323 (Nat.ne_of_lt (Nat.lt_of_lt_of_le sp4_.lt (Nat.le_of_eq q322.symm)))).other W324 (Nat.ne_of_lt (Nat.lt_of_lt_of_le sp4_.lt (Nat.le_of_eq q322.symm))))
    have f331 : Exa Z h324 ar sc3 := (((sp5_.ext E322).wr W323).wr W324)
    have f332 : Exa Z h324 r0 sc0 := (((sp13_.ext E322).wr W323).wr W324)
    have f333 : Fld Z h324 r0 sc0 "value" "I" (.int p1) := (((sp14_.ext E322).other W323 (Or.inl (Nat.ne_of_lt (Nat.lt_of_lt_of_le sp13_.lt (Nat.le_of_eq q322.symm))))).other W324 (Or.inl (Nat.ne_of_lt (Nat.lt_of_lt_of_le sp13_.lt (Nat.le_of_eq q322.symm)))))
    have f334 : Exa Z h324 r1 sc0 := (((sp15_.ext E322).wr W323).wr W324)
    have f335 : Fld Z h324 r1 sc0 "value" "I" (.int p3) := (((sp16_.ext E322).other W323 (Or.inl (Nat.ne_of_lt (Nat.lt_of_lt_of_le sp15_.lt (Nat.le_of_eq q322.symm))))).other W324 (Or.inl (Nat.ne_of_lt (Nat.lt_of_lt_of_le sp15_.lt (Nat.le_of_eq q322.symm)))))
    have K336 : Keep h0 h324 [] := (((Ks_.ext E322).wr W323 (Or.inr lo_b322)).wr W324 (Or.inr lo_b322))
    have O337 : Old Z n0 h324 := (((Os_.ext E322).wr W323 g_b322).wr W324 g_b322)
    exact seg_e2u _ _ _ cp rk x ar b322 k k322 z r0 r1 p1 p3 (0 : Int32)  (X324.more (by decide) (by decide)) e324 N324 K336 O337  f326 f327 f328 f329 f330 f331 hz0 hz1 f332 f333 f334 f335 V324
  · skip
    refine sp_ (fun t_ k_ => XS.ifNo X324.here hx rfl (B_ at_184) rfl ((if0 _ _).trans (feq hc184_325).1) k_) ?_
    show Go_ T324 (mkF mm_ 187 #[vi p1, vi p2, vi p3, vi p4, vi cp, vi rk, vr x, vi 1, vr b322, vi 2, un, un] [])
    refine sp_ (fun t_ k_ => XS.iload X324.here hx rfl (B_ at_187) rfl  (XS.iconst X324.here hx rfl (B_ at_189) k_)) ?_
    show Go_ T324 (mkF mm_ 190 #[vi p1, vi p2, vi p3, vi p4, vi cp, vi rk, vr x, vi 1, vr b322, vi 2, un, un] [(.int 1), (.int rk)])
    by_cases hc190_338 : rk = (1 : Int32)
    · skip
      refine sp_ (fun t_ k_ => XS.icmpNo X324.here hx rfl (B_ at_190) rfl (teq hc190_338).2 k_) ?_
      show Go_ T324 (mkF mm_ 193 #[vi p1, vi p2, vi p3, vi p4, vi cp, vi rk, vr x, vi 1, vr b322, vi 2, un, un] [])
      refine sp_ (fun t_ k_ => XS.iloadN X324.here hx rfl (B_ at_193) rfl  (XS.goto X324.here hx rfl (pc0 := 194) (pc' := 208) rfl (B_ at_194) (by decide) (by decide) (XS.istore X324.here hx rfl (B_ at_208) rfl (l' := #[vi p1, vi p2, vi p3, vi p4, vi cp, vi rk, vr x, vi 1, vr b322, vi 2, vi p1, un]) rfl k_))) ?_
      have f339 : Exa Z h324 x sc1 := (((sp0_.ext E322).wr W323).wr W324)
      have f340 : Fld Z h324 x sc1 "hashed" sc5 .null := (((sp1_.ext E322).other W323 (Or.inl (Nat.ne_of_lt (Nat.lt_of_lt_of_le sp0_.lt (Nat.le_of_eq q322.symm))))).other W324 (Or.inl (Nat.ne_of_lt (Nat.lt_of_lt_of_le sp0_.lt (Nat.le_of_eq q322.symm)))))
      have f341 : Fld Z h324 x sc1 "members" sc3 (.ref ar) := (((sp2_.ext E322).other W323 (Or.inl (Nat.ne_of_lt (Nat.lt_of_lt_of_le sp0_.lt (Nat.le_of_eq q322.symm))))).other W324 (Or.inl (Nat.ne_of_lt (Nat.lt_of_lt_of_le sp0_.lt (Nat.le_of_eq q322.symm)))))
      have f342 : Fld Z h324 x sc1 "size" "I" (.int 2) := (((sp3_.ext E322).other W323 (Or.inl (Nat.ne_of_lt (Nat.lt_of_lt_of_le sp0_.lt (Nat.le_of_eq q322.symm))))).other W324 (Or.inl (Nat.ne_of_lt (Nat.lt_of_lt_of_le sp0_.lt (Nat.le_of_eq q322.symm)))))
      have f343 : Arv Z h324 ar k (.object sc2) z [(.ref r0), (.ref r1)] .null := (((sp4_.ext E322).other W323 (Nat.ne_of_lt (Nat.lt_of_lt_of_le sp4_.lt (Nat.le_of_eq q322.symm)))).other W324 (Nat.ne_of_lt (Nat.lt_of_lt_of_le sp4_.lt (Nat.le_of_eq q322.symm))))
      have f344 : Exa Z h324 ar sc3 := (((sp5_.ext E322).wr W323).wr W324)
      have f345 : Exa Z h324 r0 sc0 := (((sp13_.ext E322).wr W323).wr W324)
      have f346 : Fld Z h324 r0 sc0 "value" "I" (.int p1) := (((sp14_.ext E322).other W323 (Or.inl (Nat.ne_of_lt (Nat.lt_of_lt_of_le sp13_.lt (Nat.le_of_eq q322.symm))))).other W324 (Or.inl (Nat.ne_of_lt (Nat.lt_of_lt_of_le sp13_.lt (Nat.le_of_eq q322.symm)))))
      have f347 : Exa Z h324 r1 sc0 := (((sp15_.ext E322).wr W323).wr W324)
      have f348 : Fld Z h324 r1 sc0 "value" "I" (.int p3) := (((sp16_.ext E322).other W323 (Or.inl (Nat.ne_of_lt (Nat.lt_of_lt_of_le sp15_.lt (Nat.le_of_eq q322.symm))))).other W324 (Or.inl (Nat.ne_of_lt (Nat.lt_of_lt_of_le sp15_.lt (Nat.le_of_eq q322.symm)))))
      have K349 : Keep h0 h324 [] := (((Ks_.ext E322).wr W323 (Or.inr lo_b322)).wr W324 (Or.inr lo_b322))
      have O350 : Old Z n0 h324 := (((Os_.ext E322).wr W323 g_b322).wr W324 g_b322)
      exact seg_g2_0 _ _ _ cp rk x ar b322 k k322 z p1 r0 r1 p1 p3 (0 : Int32)  (X324.more (by decide) (by decide)) e324 N324 K349 O350  f339 f340 f341 f342 f343 f344 hov g_x g_ar hz0 hz1 hf1 hf2 f345 f346 f347 f348 V324 g_b322 (Ne.symm (Nat.ne_of_lt (Nat.lt_of_lt_of_le sp4_.lt (Nat.le_of_eq q322.symm)))) (Nat.ne_of_lt (Nat.lt_of_lt_of_le sp0_.lt (Nat.le_of_eq q322.symm))) (Nat.ne_of_lt (Nat.lt_of_lt_of_le sp13_.lt (Nat.le_of_eq q322.symm))) (Nat.ne_of_lt (Nat.lt_of_lt_of_le sp15_.lt (Nat.le_of_eq q322.symm))) rfl
    · skip
      refine sp_ (fun t_ k_ => XS.icmpYes X324.here hx rfl (pc0 := 190) (pc' := 197) rfl (B_ at_190) rfl (feq hc190_338).2 (by decide) (by decide) k_) ?_
      show Go_ T324 (mkF mm_ 197 #[vi p1, vi p2, vi p3, vi p4, vi cp, vi rk, vr x, vi 1, vr b322, vi 2, un, un] [])
      refine sp_ (fun t_ k_ => XS.iload X324.here hx rfl (B_ at_197) rfl  (XS.iconst X324.here hx rfl (B_ at_199) k_)) ?_
      show Go_ T324 (mkF mm_ 200 #[vi p1, vi p2, vi p3, vi p4, vi cp, vi rk, vr x, vi 1, vr b322, vi 2, un, un] [(.int 2), (.int rk)])
      by_cases hc200_351 : rk = (2 : Int32)
      · skip
        refine sp_ (fun t_ k_ => XS.icmpNo X324.here hx rfl (B_ at_200) rfl (teq hc200_351).2 k_) ?_
        show Go_ T324 (mkF mm_ 203 #[vi p1, vi p2, vi p3, vi p4, vi cp, vi rk, vr x, vi 1, vr b322, vi 2, un, un] [])
        refine sp_ (fun t_ k_ => XS.iloadN X324.here hx rfl (B_ at_203) rfl  (XS.goto X324.here hx rfl (pc0 := 204) (pc' := 208) rfl (B_ at_204) (by decide) (by decide) (XS.istore X324.here hx rfl (B_ at_208) rfl (l' := #[vi p1, vi p2, vi p3, vi p4, vi cp, vi rk, vr x, vi 1, vr b322, vi 2, vi p2, un]) rfl k_))) ?_
        have f352 : Exa Z h324 x sc1 := (((sp0_.ext E322).wr W323).wr W324)
        have f353 : Fld Z h324 x sc1 "hashed" sc5 .null := (((sp1_.ext E322).other W323 (Or.inl (Nat.ne_of_lt (Nat.lt_of_lt_of_le sp0_.lt (Nat.le_of_eq q322.symm))))).other W324 (Or.inl (Nat.ne_of_lt (Nat.lt_of_lt_of_le sp0_.lt (Nat.le_of_eq q322.symm)))))
        have f354 : Fld Z h324 x sc1 "members" sc3 (.ref ar) := (((sp2_.ext E322).other W323 (Or.inl (Nat.ne_of_lt (Nat.lt_of_lt_of_le sp0_.lt (Nat.le_of_eq q322.symm))))).other W324 (Or.inl (Nat.ne_of_lt (Nat.lt_of_lt_of_le sp0_.lt (Nat.le_of_eq q322.symm)))))
        have f355 : Fld Z h324 x sc1 "size" "I" (.int 2) := (((sp3_.ext E322).other W323 (Or.inl (Nat.ne_of_lt (Nat.lt_of_lt_of_le sp0_.lt (Nat.le_of_eq q322.symm))))).other W324 (Or.inl (Nat.ne_of_lt (Nat.lt_of_lt_of_le sp0_.lt (Nat.le_of_eq q322.symm)))))
        have f356 : Arv Z h324 ar k (.object sc2) z [(.ref r0), (.ref r1)] .null := (((sp4_.ext E322).other W323 (Nat.ne_of_lt (Nat.lt_of_lt_of_le sp4_.lt (Nat.le_of_eq q322.symm)))).other W324 (Nat.ne_of_lt (Nat.lt_of_lt_of_le sp4_.lt (Nat.le_of_eq q322.symm))))
        have f357 : Exa Z h324 ar sc3 := (((sp5_.ext E322).wr W323).wr W324)
        have f358 : Exa Z h324 r0 sc0 := (((sp13_.ext E322).wr W323).wr W324)
        have f359 : Fld Z h324 r0 sc0 "value" "I" (.int p1) := (((sp14_.ext E322).other W323 (Or.inl (Nat.ne_of_lt (Nat.lt_of_lt_of_le sp13_.lt (Nat.le_of_eq q322.symm))))).other W324 (Or.inl (Nat.ne_of_lt (Nat.lt_of_lt_of_le sp13_.lt (Nat.le_of_eq q322.symm)))))
        have f360 : Exa Z h324 r1 sc0 := (((sp15_.ext E322).wr W323).wr W324)
        have f361 : Fld Z h324 r1 sc0 "value" "I" (.int p3) := (((sp16_.ext E322).other W323 (Or.inl (Nat.ne_of_lt (Nat.lt_of_lt_of_le sp15_.lt (Nat.le_of_eq q322.symm))))).other W324 (Or.inl (Nat.ne_of_lt (Nat.lt_of_lt_of_le sp15_.lt (Nat.le_of_eq q322.symm)))))
        have K362 : Keep h0 h324 [] := (((Ks_.ext E322).wr W323 (Or.inr lo_b322)).wr W324 (Or.inr lo_b322))
        have O363 : Old Z n0 h324 := (((Os_.ext E322).wr W323 g_b322).wr W324 g_b322)
        exact seg_g2_0 _ _ _ cp rk x ar b322 k k322 z p2 r0 r1 p1 p3 (0 : Int32)  (X324.more (by decide) (by decide)) e324 N324 K362 O363  f352 f353 f354 f355 f356 f357 hov g_x g_ar hz0 hz1 hf1 hf2 f358 f359 f360 f361 V324 g_b322 (Ne.symm (Nat.ne_of_lt (Nat.lt_of_lt_of_le sp4_.lt (Nat.le_of_eq q322.symm)))) (Nat.ne_of_lt (Nat.lt_of_lt_of_le sp0_.lt (Nat.le_of_eq q322.symm))) (Nat.ne_of_lt (Nat.lt_of_lt_of_le sp13_.lt (Nat.le_of_eq q322.symm))) (Nat.ne_of_lt (Nat.lt_of_lt_of_le sp15_.lt (Nat.le_of_eq q322.symm))) hc0.symm
      · skip
        refine sp_ (fun t_ k_ => XS.icmpYes X324.here hx rfl (pc0 := 200) (pc' := 207) rfl (B_ at_200) rfl (feq hc200_351).2 (by decide) (by decide) k_) ?_
        show Go_ T324 (mkF mm_ 207 #[vi p1, vi p2, vi p3, vi p4, vi cp, vi rk, vr x, vi 1, vr b322, vi 2, un, un] [])
        refine sp_ (fun t_ k_ => XS.iloadN X324.here hx rfl (B_ at_207) rfl  (XS.istore X324.here hx rfl (B_ at_208) rfl (l' := #[vi p1, vi p2, vi p3, vi p4, vi cp, vi rk, vr x, vi 1, vr b322, vi 2, vi p3, un]) rfl k_)) ?_
        have f364 : Exa Z h324 x sc1 := (((sp0_.ext E322).wr W323).wr W324)
        have f365 : Fld Z h324 x sc1 "hashed" sc5 .null := (((sp1_.ext E322).other W323 (Or.inl (Nat.ne_of_lt (Nat.lt_of_lt_of_le sp0_.lt (Nat.le_of_eq q322.symm))))).other W324 (Or.inl (Nat.ne_of_lt (Nat.lt_of_lt_of_le sp0_.lt (Nat.le_of_eq q322.symm)))))
        have f366 : Fld Z h324 x sc1 "members" sc3 (.ref ar) := (((sp2_.ext E322).other W323 (Or.inl (Nat.ne_of_lt (Nat.lt_of_lt_of_le sp0_.lt (Nat.le_of_eq q322.symm))))).other W324 (Or.inl (Nat.ne_of_lt (Nat.lt_of_lt_of_le sp0_.lt (Nat.le_of_eq q322.symm)))))
        have f367 : Fld Z h324 x sc1 "size" "I" (.int 2) := (((sp3_.ext E322).other W323 (Or.inl (Nat.ne_of_lt (Nat.lt_of_lt_of_le sp0_.lt (Nat.le_of_eq q322.symm))))).other W324 (Or.inl (Nat.ne_of_lt (Nat.lt_of_lt_of_le sp0_.lt (Nat.le_of_eq q322.symm)))))
        have f368 : Arv Z h324 ar k (.object sc2) z [(.ref r0), (.ref r1)] .null := (((sp4_.ext E322).other W323 (Nat.ne_of_lt (Nat.lt_of_lt_of_le sp4_.lt (Nat.le_of_eq q322.symm)))).other W324 (Nat.ne_of_lt (Nat.lt_of_lt_of_le sp4_.lt (Nat.le_of_eq q322.symm))))
        have f369 : Exa Z h324 ar sc3 := (((sp5_.ext E322).wr W323).wr W324)
        have f370 : Exa Z h324 r0 sc0 := (((sp13_.ext E322).wr W323).wr W324)
        have f371 : Fld Z h324 r0 sc0 "value" "I" (.int p1) := (((sp14_.ext E322).other W323 (Or.inl (Nat.ne_of_lt (Nat.lt_of_lt_of_le sp13_.lt (Nat.le_of_eq q322.symm))))).other W324 (Or.inl (Nat.ne_of_lt (Nat.lt_of_lt_of_le sp13_.lt (Nat.le_of_eq q322.symm)))))
        have f372 : Exa Z h324 r1 sc0 := (((sp15_.ext E322).wr W323).wr W324)
        have f373 : Fld Z h324 r1 sc0 "value" "I" (.int p3) := (((sp16_.ext E322).other W323 (Or.inl (Nat.ne_of_lt (Nat.lt_of_lt_of_le sp15_.lt (Nat.le_of_eq q322.symm))))).other W324 (Or.inl (Nat.ne_of_lt (Nat.lt_of_lt_of_le sp15_.lt (Nat.le_of_eq q322.symm)))))
        have K374 : Keep h0 h324 [] := (((Ks_.ext E322).wr W323 (Or.inr lo_b322)).wr W324 (Or.inr lo_b322))
        have O375 : Old Z n0 h324 := (((Os_.ext E322).wr W323 g_b322).wr W324 g_b322)
        exact seg_g2_1 _ _ _ cp rk x ar b322 k k322 z p3 r0 r1 p1 p3 (0 : Int32)  (X324.more (by decide) (by decide)) e324 N324 K374 O375  f364 f365 f366 f367 f368 f369 hov g_x g_ar hz0 hz1 hf1 hf2 f370 f371 f372 f373 V324 g_b322 (Ne.symm (Nat.ne_of_lt (Nat.lt_of_lt_of_le sp4_.lt (Nat.le_of_eq q322.symm)))) (Nat.ne_of_lt (Nat.lt_of_lt_of_le sp0_.lt (Nat.le_of_eq q322.symm))) (Nat.ne_of_lt (Nat.lt_of_lt_of_le sp13_.lt (Nat.le_of_eq q322.symm))) (Nat.ne_of_lt (Nat.lt_of_lt_of_le sp15_.lt (Nat.le_of_eq q322.symm))) (fun q_ => hc1 q_.symm) rfl
 have seg_sba : ∀ (Ts_ : State) (locs_ : List Loc) (hs_ : Heap) (cp : Int32) (rk : Int32) (x : Addr) (ar : Addr) (k : ClassId) (z : Int32) (r0 : Addr) (r1 : Addr) (Xs_ : Stand pp_ l ee_ room_1 ss_ mm_ #[(.int p1), (.int p2), (.int p3), (.int p4)] bb_ me_ cc_ Ts_ locs_ 18 90) (es_ : Ts_.heap = hs_) (Ns_ : Fr n0 locs_) (Ks_ : Keep h0 hs_ []) (Os_ : Old Z n0 hs_)  (sp0_ : Exa Z hs_ x sc1) (sp1_ : Fld Z hs_ x sc1 "hashed" sc5 .null) (sp2_ : Fld Z hs_ x sc1 "members" sc3 (.ref ar)) (sp3_ : Fld Z hs_ x sc1 "size" "I" (.int 2)) (sp4_ : Arv Z hs_ ar k (.object sc2) z [(.ref r0), (.ref r1)] .null) (sp5_ : Exa Z hs_ ar sc3) (hov : Ovr Z k sc2) (g_x : n0 ≤ x) (g_ar : n0 ≤ ar) (hz0 : (0 : Int32) < z) (hz1 : (1 : Int32) < z) (hf1 : 1 ≤ z.toNatClampNeg) (hf2 : 2 ≤ z.toNatClampNeg) (sp13_ : Exa Z hs_ r0 sc0) (sp14_ : Fld Z hs_ r0 sc0 "value" "I" (.int p1)) (sp15_ : Exa Z hs_ r1 sc0) (sp16_ : Fld Z hs_ r1 sc0 "value" "I" (.int p2)) (hc0 : ¬ (p2 = p1)) (hc1 : p3 = p1), own_Go pp_ ee_ bb_ (fun s₂ oo_ => s₂.status = .running ∧ Ended s₂ bb_ oo_ ∧ (∃ vv_ LL_, oo_ = .returned vv_ ∧ Qrm0 Z p1 p2 p3 p4 h0 n0 vv_ s₂.heap LL_ ∧ FrameEnd ss_ oo_ s₂ LL_ room_1.cells room_1.slots)) Ts_ (mkF mm_ 123 #[vi p1, vi p2, vi p3, vi p4, vi cp, vi rk, vr x, vi 1, un, un, un, un] []) := by
  intro Ts_ locs_ hs_ cp rk x ar k z r0 r1  Xs_ es_ Ns_ Ks_ Os_  sp0_ sp1_ sp2_ sp3_ sp4_ sp5_ hov g_x g_ar hz0 hz1 hf1 hf2 sp13_ sp14_ sp15_ sp16_ hc0 hc1
  show Go_ Ts_ (mkF mm_ 123 #[vi p1, vi p2, vi p3, vi p4, vi cp, vi rk, vr x, vi 1, un, un, un, un] [])
  refine sp_ (fun t_ k_ => XS.iconst Xs_.here hx rfl (B_ at_123) k_) ?_
  obtain ⟨T376, h376, k376, X376, e376, E376, A376, st376⟩ := newP Xs_ hx hZ (w_ hw 90 rfl) es_ (g := (mkF mm_ 124 #[vi p1, vi p2, vi p3, vi p4, vi cp, vi rk, vr x, vi 1, un, un, un, un] [(.int 3)])) rfl (B_ at_124) rfl (by decide) (cap := 3) (by decide) (by decide) (by decide) (by decide)
  obtain ⟨b376, q376⟩ : ∃ z, z = hs_.size := ⟨_, rfl⟩
  rw [← q376] at A376 st376
  have lo_b376 : h0.size ≤ b376 := Nat.le_trans Ks_.1 (Nat.le_of_eq q376.symm)
  have g_b376 : n0 ≤ b376 := Nat.le_trans Z0 lo_b376
  refine sp_ st376 ?_
  have V376 : Arv Z h376 b376 k376 .int (3 : Int32) [(.int 0), (.int 0), (.int 0)] (.int 0) := (Arv.new A376 (by decide)).pad (pad_rep [] (.int 0) 3)
  show Go_ T376 (mkF mm_ 126 #[vi p1, vi p2, vi p3, vi p4, vi cp, vi rk, vr x, vi 1, un, un, un, un] [(.ref b376)])
  refine sp_ (fun t_ k_ => XS.astore X376.here hx rfl (B_ at_126) rfl rfl (l' := #[vi p1, vi p2, vi p3, vi p4, vi cp, vi rk, vr x, vi 1, vr b376, un, un, un]) rfl (XS.iconst X376.here hx rfl (B_ at_128) (XS.istore X376.here hx rfl (B_ at_129) rfl (l' := #[vi p1, vi p2, vi p3, vi p4, vi cp, vi rk, vr x, vi 1, vr b376, vi 0, un, un]) rfl (XS.aload X376.here hx rfl (B_ at_131) rfl rfl (XS.iload X376.here hx rfl (B_ at_133) rfl  (XS.iloadN X376.here hx rfl (B_ at_135) rfl  k_)))))) ?_
  obtain ⟨cl377, Ar377, q377, S377, M377, H377, G377⟩ := id V376
  have hin377 : ¬ ((0 : Int32) < 0 ∨ cl377.slots.size ≤ ((0 : Int32)).toNatClampNeg) := inb_of S377 ⟨by decide, by decide⟩
  obtain ⟨T377, h377, X377, e377, W377, st377⟩ := stI X376 hx hZ e376 Ar377 (j := (0 : Int32)) hin377 (g := (mkF mm_ 136 #[vi p1, vi p2, vi p3, vi p4, vi cp, vi rk, vr x, vi 1, vr b376, vi 0, un, un] [(.int p1), (.int 0), (.ref b376)])) rfl rfl (B_ at_136)
  have V377 : Arv Z h377 b376 k376 .int (3 : Int32) [(.int p1), (.int 0), (.int 0)] (.int 0) := Arv.set Ar377 q377 S377 M377 H377 G377 rfl W377 0 rfl (Nat.le_of_ble_eq_true rfl)
  have N377 := Fr.snoc X377 Ns_ g_b376
  refine sp_ st377 ?_
  show Go_ T377 (mkF mm_ 137 #[vi p1, vi p2, vi p3, vi p4, vi cp, vi rk, vr x, vi 1, vr b376, vi 0, un, un] [])
  refine sp_ (fun t_ k_ => XS.iload X377.here hx rfl (B_ at_137) rfl  (XS.iconst X377.here hx rfl (B_ at_139) (XS.iadd X377.here hx rfl (B_ at_140) rfl (XS.istore X377.here hx rfl (B_ at_141) rfl (l' := #[vi p1, vi p2, vi p3, vi p4, vi cp, vi rk, vr x, vi 1, vr b376, vi 1, un, un]) rfl (XS.iloadN X377.here hx rfl (B_ at_143) rfl  (XS.iloadN X377.here hx rfl (B_ at_144) rfl  k_)))))) ?_
  show Go_ T377 (mkF mm_ 145 #[vi p1, vi p2, vi p3, vi p4, vi cp, vi rk, vr x, vi 1, vr b376, vi 1, un, un] [(.int p1), (.int p2)])
  refine sp_ (fun t_ k_ => XS.icmpNo X377.here hx rfl (B_ at_145) rfl (feq hc0).1 k_) ?_
  show Go_ T377 (mkF mm_ 148 #[vi p1, vi p2, vi p3, vi p4, vi cp, vi rk, vr x, vi 1, vr b376, vi 1, un, un] [])
  refine sp_ (fun t_ k_ => XS.aload X377.here hx rfl (B_ at_148) rfl rfl (XS.iload X377.here hx rfl (B_ at_150) rfl  (XS.iloadN X377.here hx rfl (B_ at_152) rfl  k_))) ?_
  obtain ⟨cl378, Ar378, q378, S378, M378, H378, G378⟩ := id V377
  have hin378 : ¬ ((1 : Int32) < 0 ∨ cl378.slots.size ≤ ((1 : Int32)).toNatClampNeg) := inb_of S378 ⟨by decide, by decide⟩
  obtain ⟨T378, h378, X378, e378, W378, st378⟩ := stI X377 hx hZ e377 Ar378 (j := (1 : Int32)) hin378 (g := (mkF mm_ 153 #[vi p1, vi p2, vi p3, vi p4, vi cp, vi rk, vr x, vi 1, vr b376, vi 1, un, un] [(.int p2), (.int 1), (.ref b376)])) rfl rfl (B_ at_153)
  have V378 : Arv Z h378 b376 k376 .int (3 : Int32) [(.int p1), (.int p2), (.int 0)] (.int 0) := Arv.set Ar378 q378 S378 M378 H378 G378 rfl W378 1 rfl (Nat.le_of_ble_eq_true rfl)
  have N378 := Fr.snoc X378 N377 g_b376
  refine sp_ st378 ?_
  show Go_ T378 (mkF mm_ 154 #[vi p1, vi p2, vi p3, vi p4, vi cp, vi rk, vr x, vi 1, vr b376, vi 1, un, un] [])
  refine sp_ (fun t_ k_ => XS.iload X378.here hx rfl (B_ at_154) rfl  (XS.iconst X378.here hx rfl (B_ at_156) (XS.iadd X378.here hx rfl (B_ at_157) rfl (XS.istore X378.here hx rfl (B_ at_158) rfl (l' := #[vi p1, vi p2, vi p3, vi p4, vi cp, vi rk, vr x, vi 1, vr b376, vi 2, un, un]) rfl (XS.iloadN X378.here hx rfl (B_ at_160) rfl  (XS.iloadN X378.here hx rfl (B_ at_161) rfl  k_)))))) ?_
  show Go_ T378 (mkF mm_ 162 #[vi p1, vi p2, vi p3, vi p4, vi cp, vi rk, vr x, vi 1, vr b376, vi 2, un, un] [(.int p1), (.int p3)])
  refine sp_ (fun t_ k_ => XS.icmpYes X378.here hx rfl (pc0 := 162) (pc' := 182) rfl (B_ at_162) rfl (teq hc1).1 (by decide) (by decide) k_) ?_
  show Go_ T378 (mkF mm_ 182 #[vi p1, vi p2, vi p3, vi p4, vi cp, vi rk, vr x, vi 1, vr b376, vi 2, un, un] [])
  refine sp_ (fun t_ k_ => XS.iload X378.here hx rfl (B_ at_182) rfl  k_) ?_
  show Go_ T378 (mkF mm_ 184 #[vi p1, vi p2, vi p3, vi p4, vi cp, vi rk, vr x, vi 1, vr b376, vi 2, un, un] [(.int rk)])
  by_cases hc184_379 : rk = (0 : Int32)
  · skip
    refine sp_ (fun t_ k_ => XS.ifYes X378.here hx rfl (pc0 := 184) (pc' := 310) rfl (B_ at_184) rfl ((if0 _ _).trans (teq hc184_379).1) (by decide) (by decide) k_) ?_
    have f380 : Exa Z h378 x sc1 := (((sp0_.ext E376).wr W377).wr W378)
    have f381 : Fld Z h378 x sc1 "hashed" sc5 .null := (((sp1_.ext E376).other W377 (Or.inl (Nat.ne_of_lt (Nat.lt_of_lt_of_le sp0_.lt (Nat.le_of_eq q376.symm))))).other W378 (Or.inl (Nat.ne_of_lt (Nat.lt_of_lt_of_le sp0_.lt (Nat.le_of_eq q376.symm)))))
    have f382 : Fld Z h378 x sc1 "members" sc3 (.ref ar) := (((sp2_.ext E376).other W377 (Or.inl (Nat.ne_of_lt (Nat.lt_of_lt_of_le sp0_.lt (Nat.le_of_eq q376.symm))))).other W378 (Or.inl (Nat.ne_of_lt (Nat.lt_of_lt_of_le sp0_.lt (Nat.le_of_eq q376.symm)))))
    have f383 : Fld Z h378 x sc1 "size" "I" (.int 2) := (((sp3_.ext E376).other W377 (Or.inl (Nat.ne_of_lt (Nat.lt_of_lt_of_le sp0_.lt (Nat.le_of_eq q376.symm))))).other W378 (Or.inl (Nat.ne_of_lt (Nat.lt_of_lt_of_le sp0_.lt (Nat.le_of_eq q376.symm)))))
    have f384 : Arv Z h378 ar k (.object sc2) z [(.ref r0), (.ref r1)] .null := (((sp4_.ext E376).other W377 (Nat.ne_of_lt (Nat.lt_of_lt_of_le sp4_.lt (Nat.le_of_eq q376.symm)))).other W378 (Nat.ne_of_lt (Nat.lt_of_lt_of_le sp4_.lt (Nat.le_of_eq q376.symm))))
    have f385 : Exa Z h378 ar sc3 := (((sp5_.ext E376).wr W377).wr W378)
    have f386 : Exa Z h378 r0 sc0 := (((sp13_.ext E376).wr W377).wr W378)
    have f387 : Fld Z h378 r0 sc0 "value" "I" (.int p1) := (((sp14_.ext E376).other W377 (Or.inl (Nat.ne_of_lt (Nat.lt_of_lt_of_le sp13_.lt (Nat.le_of_eq q376.symm))))).other W378 (Or.inl (Nat.ne_of_lt (Nat.lt_of_lt_of_le sp13_.lt (Nat.le_of_eq q376.symm)))))
    have f388 : Exa Z h378 r1 sc0 := (((sp15_.ext E376).wr W377).wr W378)
    have f389 : Fld Z h378 r1 sc0 "value" "I" (.int p2) := (((sp16_.ext E376).other W377 (Or.inl (Nat.ne_of_lt (Nat.lt_of_lt_of_le sp15_.lt (Nat.le_of_eq q376.symm))))).other W378 (Or.inl (Nat.ne_of_lt (Nat.lt_of_lt_of_le sp15_.lt (Nat.le_of_eq q376.symm)))))
    have K390 : Keep h0 h378 [] := (((Ks_.ext E376).wr W377 (Or.inr lo_b376)).wr W378 (Or.inr lo_b376))
    have O391 : Old Z n0 h378 := (((Os_.ext E376).wr W377 g_b376).wr W378 g_b376)
    exact seg_e2u _ _ _ cp rk x ar b376 k k376 z r0 r1 p1 p2 (0 : Int32)  (X378.more (by decide) (by decide)) e378 N378 K390 O391  f380 f381 f382 f383 f384 f385 hz0 hz1 f386 f387 f388 f389 V378
  · skip
    refine sp_ (fun t_ k_ => XS.ifNo X378.here hx rfl (B_ at_184) rfl ((if0 _ _).trans (feq hc184_379).1) k_) ?_
    show Go_ T378 (mkF mm_ 187 #[vi p1, vi p2, vi p3, vi p4, vi cp, vi rk, vr x, vi 1, vr b376, vi 2, un, un] [])
    refine sp_ (fun t_ k_ => XS.iload X378.here hx rfl (B_ at_187) rfl  (XS.iconst X378.here hx rfl (B_ at_189) k_)) ?_
    show Go_ T378 (mkF mm_ 190 #[vi p1, vi p2, vi p3, vi p4, vi cp, vi rk, vr x, vi 1, vr b376, vi 2, un, un] [(.int 1), (.int rk)])
    by_cases hc190_392 : rk = (1 : Int32)
    · skip
      refine sp_ (fun t_ k_ => XS.icmpNo X378.here hx rfl (B_ at_190) rfl (teq hc190_392).2 k_) ?_
      show Go_ T378 (mkF mm_ 193 #[vi p1, vi p2, vi p3, vi p4, vi cp, vi rk, vr x, vi 1, vr b376, vi 2, un, un] [])
      refine sp_ (fun t_ k_ => XS.iloadN X378.here hx rfl (B_ at_193) rfl  (XS.goto X378.here hx rfl (pc0 := 194) (pc' := 208) rfl (B_ at_194) (by decide) (by decide) (XS.istore X378.here hx rfl (B_ at_208) rfl (l' := #[vi p1, vi p2, vi p3, vi p4, vi cp, vi rk, vr x, vi 1, vr b376, vi 2, vi p1, un]) rfl k_))) ?_
      have f393 : Exa Z h378 x sc1 := (((sp0_.ext E376).wr W377).wr W378)
      have f394 : Fld Z h378 x sc1 "hashed" sc5 .null := (((sp1_.ext E376).other W377 (Or.inl (Nat.ne_of_lt (Nat.lt_of_lt_of_le sp0_.lt (Nat.le_of_eq q376.symm))))).other W378 (Or.inl (Nat.ne_of_lt (Nat.lt_of_lt_of_le sp0_.lt (Nat.le_of_eq q376.symm)))))
      have f395 : Fld Z h378 x sc1 "members" sc3 (.ref ar) := (((sp2_.ext E376).other W377 (Or.inl (Nat.ne_of_lt (Nat.lt_of_lt_of_le sp0_.lt (Nat.le_of_eq q376.symm))))).other W378 (Or.inl (Nat.ne_of_lt (Nat.lt_of_lt_of_le sp0_.lt (Nat.le_of_eq q376.symm)))))
      have f396 : Fld Z h378 x sc1 "size" "I" (.int 2) := (((sp3_.ext E376).other W377 (Or.inl (Nat.ne_of_lt (Nat.lt_of_lt_of_le sp0_.lt (Nat.le_of_eq q376.symm))))).other W378 (Or.inl (Nat.ne_of_lt (Nat.lt_of_lt_of_le sp0_.lt (Nat.le_of_eq q376.symm)))))
      have f397 : Arv Z h378 ar k (.object sc2) z [(.ref r0), (.ref r1)] .null := (((sp4_.ext E376).other W377 (Nat.ne_of_lt (Nat.lt_of_lt_of_le sp4_.lt (Nat.le_of_eq q376.symm)))).other W378 (Nat.ne_of_lt (Nat.lt_of_lt_of_le sp4_.lt (Nat.le_of_eq q376.symm))))
      have f398 : Exa Z h378 ar sc3 := (((sp5_.ext E376).wr W377).wr W378)
      have f399 : Exa Z h378 r0 sc0 := (((sp13_.ext E376).wr W377).wr W378)
      have f400 : Fld Z h378 r0 sc0 "value" "I" (.int p1) := (((sp14_.ext E376).other W377 (Or.inl (Nat.ne_of_lt (Nat.lt_of_lt_of_le sp13_.lt (Nat.le_of_eq q376.symm))))).other W378 (Or.inl (Nat.ne_of_lt (Nat.lt_of_lt_of_le sp13_.lt (Nat.le_of_eq q376.symm)))))
      have f401 : Exa Z h378 r1 sc0 := (((sp15_.ext E376).wr W377).wr W378)
      have f402 : Fld Z h378 r1 sc0 "value" "I" (.int p2) := (((sp16_.ext E376).other W377 (Or.inl (Nat.ne_of_lt (Nat.lt_of_lt_of_le sp15_.lt (Nat.le_of_eq q376.symm))))).other W378 (Or.inl (Nat.ne_of_lt (Nat.lt_of_lt_of_le sp15_.lt (Nat.le_of_eq q376.symm)))))
      have K403 : Keep h0 h378 [] := (((Ks_.ext E376).wr W377 (Or.inr lo_b376)).wr W378 (Or.inr lo_b376))
      have O404 : Old Z n0 h378 := (((Os_.ext E376).wr W377 g_b376).wr W378 g_b376)
      exact seg_g2_0 _ _ _ cp rk x ar b376 k k376 z p1 r0 r1 p1 p2 (0 : Int32)  (X378.more (by decide) (by decide)) e378 N378 K403 O404  f393 f394 f395 f396 f397 f398 hov g_x g_ar hz0 hz1 hf1 hf2 f399 f400 f401 f402 V378 g_b376 (Ne.symm (Nat.ne_of_lt (Nat.lt_of_lt_of_le sp4_.lt (Nat.le_of_eq q376.symm)))) (Nat.ne_of_lt (Nat.lt_of_lt_of_le sp0_.lt (Nat.le_of_eq q376.symm))) (Nat.ne_of_lt (Nat.lt_of_lt_of_le sp13_.lt (Nat.le_of_eq q376.symm))) (Nat.ne_of_lt (Nat.lt_of_lt_of_le sp15_.lt (Nat.le_of_eq q376.symm))) rfl
    · skip
      refine sp_ (fun t_ k_ => XS.icmpYes X378.here hx rfl (pc0 := 190) (pc' := 197) rfl (B_ at_190) rfl (feq hc190_392).2 (by decide) (by decide) k_) ?_
      show Go_ T378 (mkF mm_ 197 #[vi p1, vi p2, vi p3, vi p4, vi cp, vi rk, vr x, vi 1, vr b376, vi 2, un, un] [])
      refine sp_ (fun t_ k_ => XS.iload X378.here hx rfl (B_ at_197) rfl  (XS.iconst X378.here hx rfl (B_ at_199) k_)) ?_
      show Go_ T378 (mkF mm_ 200 #[vi p1, vi p2, vi p3, vi p4, vi cp, vi rk, vr x, vi 1, vr b376, vi 2, un, un] [(.int 2), (.int rk)])
      by_cases hc200_405 : rk = (2 : Int32)
      · skip
        refine sp_ (fun t_ k_ => XS.icmpNo X378.here hx rfl (B_ at_200) rfl (teq hc200_405).2 k_) ?_
        show Go_ T378 (mkF mm_ 203 #[vi p1, vi p2, vi p3, vi p4, vi cp, vi rk, vr x, vi 1, vr b376, vi 2, un, un] [])
        refine sp_ (fun t_ k_ => XS.iloadN X378.here hx rfl (B_ at_203) rfl  (XS.goto X378.here hx rfl (pc0 := 204) (pc' := 208) rfl (B_ at_204) (by decide) (by decide) (XS.istore X378.here hx rfl (B_ at_208) rfl (l' := #[vi p1, vi p2, vi p3, vi p4, vi cp, vi rk, vr x, vi 1, vr b376, vi 2, vi p2, un]) rfl k_))) ?_
        have f406 : Exa Z h378 x sc1 := (((sp0_.ext E376).wr W377).wr W378)
        have f407 : Fld Z h378 x sc1 "hashed" sc5 .null := (((sp1_.ext E376).other W377 (Or.inl (Nat.ne_of_lt (Nat.lt_of_lt_of_le sp0_.lt (Nat.le_of_eq q376.symm))))).other W378 (Or.inl (Nat.ne_of_lt (Nat.lt_of_lt_of_le sp0_.lt (Nat.le_of_eq q376.symm)))))
        have f408 : Fld Z h378 x sc1 "members" sc3 (.ref ar) := (((sp2_.ext E376).other W377 (Or.inl (Nat.ne_of_lt (Nat.lt_of_lt_of_le sp0_.lt (Nat.le_of_eq q376.symm))))).other W378 (Or.inl (Nat.ne_of_lt (Nat.lt_of_lt_of_le sp0_.lt (Nat.le_of_eq q376.symm)))))
        have f409 : Fld Z h378 x sc1 "size" "I" (.int 2) := (((sp3_.ext E376).other W377 (Or.inl (Nat.ne_of_lt (Nat.lt_of_lt_of_le sp0_.lt (Nat.le_of_eq q376.symm))))).other W378 (Or.inl (Nat.ne_of_lt (Nat.lt_of_lt_of_le sp0_.lt (Nat.le_of_eq q376.symm)))))
        have f410 : Arv Z h378 ar k (.object sc2) z [(.ref r0), (.ref r1)] .null := (((sp4_.ext E376).other W377 (Nat.ne_of_lt (Nat.lt_of_lt_of_le sp4_.lt (Nat.le_of_eq q376.symm)))).other W378 (Nat.ne_of_lt (Nat.lt_of_lt_of_le sp4_.lt (Nat.le_of_eq q376.symm))))
        have f411 : Exa Z h378 ar sc3 := (((sp5_.ext E376).wr W377).wr W378)
        have f412 : Exa Z h378 r0 sc0 := (((sp13_.ext E376).wr W377).wr W378)
        have f413 : Fld Z h378 r0 sc0 "value" "I" (.int p1) := (((sp14_.ext E376).other W377 (Or.inl (Nat.ne_of_lt (Nat.lt_of_lt_of_le sp13_.lt (Nat.le_of_eq q376.symm))))).other W378 (Or.inl (Nat.ne_of_lt (Nat.lt_of_lt_of_le sp13_.lt (Nat.le_of_eq q376.symm)))))
        have f414 : Exa Z h378 r1 sc0 := (((sp15_.ext E376).wr W377).wr W378)
        have f415 : Fld Z h378 r1 sc0 "value" "I" (.int p2) := (((sp16_.ext E376).other W377 (Or.inl (Nat.ne_of_lt (Nat.lt_of_lt_of_le sp15_.lt (Nat.le_of_eq q376.symm))))).other W378 (Or.inl (Nat.ne_of_lt (Nat.lt_of_lt_of_le sp15_.lt (Nat.le_of_eq q376.symm)))))
        have K416 : Keep h0 h378 [] := (((Ks_.ext E376).wr W377 (Or.inr lo_b376)).wr W378 (Or.inr lo_b376))
        have O417 : Old Z n0 h378 := (((Os_.ext E376).wr W377 g_b376).wr W378 g_b376)
        exact seg_g2_1 _ _ _ cp rk x ar b376 k k376 z p2 r0 r1 p1 p2 (0 : Int32)  (X378.more (by decide) (by decide)) e378 N378 K416 O417  f406 f407 f408 f409 f410 f411 hov g_x g_ar hz0 hz1 hf1 hf2 f412 f413 f414 f415 V378 g_b376 (Ne.symm (Nat.ne_of_lt (Nat.lt_of_lt_of_le sp4_.lt (Nat.le_of_eq q376.symm)))) (Nat.ne_of_lt (Nat.lt_of_lt_of_le sp0_.lt (Nat.le_of_eq q376.symm))) (Nat.ne_of_lt (Nat.lt_of_lt_of_le sp13_.lt (Nat.le_of_eq q376.symm))) (Nat.ne_of_lt (Nat.lt_of_lt_of_le sp15_.lt (Nat.le_of_eq q376.symm))) (fun q_ => hc0 q_.symm) rfl
      · skip
        refine sp_ (fun t_ k_ => XS.icmpYes X378.here hx rfl (pc0 := 200) (pc' := 207) rfl (B_ at_200) rfl (feq hc200_405).2 (by decide) (by decide) k_) ?_
        show Go_ T378 (mkF mm_ 207 #[vi p1, vi p2, vi p3, vi p4, vi cp, vi rk, vr x, vi 1, vr b376, vi 2, un, un] [])
        refine sp_ (fun t_ k_ => XS.iloadN X378.here hx rfl (B_ at_207) rfl  (XS.istore X378.here hx rfl (B_ at_208) rfl (l' := #[vi p1, vi p2, vi p3, vi p4, vi cp, vi rk, vr x, vi 1, vr b376, vi 2, vi p3, un]) rfl k_)) ?_
        have f418 : Exa Z h378 x sc1 := (((sp0_.ext E376).wr W377).wr W378)
        have f419 : Fld Z h378 x sc1 "hashed" sc5 .null := (((sp1_.ext E376).other W377 (Or.inl (Nat.ne_of_lt (Nat.lt_of_lt_of_le sp0_.lt (Nat.le_of_eq q376.symm))))).other W378 (Or.inl (Nat.ne_of_lt (Nat.lt_of_lt_of_le sp0_.lt (Nat.le_of_eq q376.symm)))))
        have f420 : Fld Z h378 x sc1 "members" sc3 (.ref ar) := (((sp2_.ext E376).other W377 (Or.inl (Nat.ne_of_lt (Nat.lt_of_lt_of_le sp0_.lt (Nat.le_of_eq q376.symm))))).other W378 (Or.inl (Nat.ne_of_lt (Nat.lt_of_lt_of_le sp0_.lt (Nat.le_of_eq q376.symm)))))
        have f421 : Fld Z h378 x sc1 "size" "I" (.int 2) := (((sp3_.ext E376).other W377 (Or.inl (Nat.ne_of_lt (Nat.lt_of_lt_of_le sp0_.lt (Nat.le_of_eq q376.symm))))).other W378 (Or.inl (Nat.ne_of_lt (Nat.lt_of_lt_of_le sp0_.lt (Nat.le_of_eq q376.symm)))))
        have f422 : Arv Z h378 ar k (.object sc2) z [(.ref r0), (.ref r1)] .null := (((sp4_.ext E376).other W377 (Nat.ne_of_lt (Nat.lt_of_lt_of_le sp4_.lt (Nat.le_of_eq q376.symm)))).other W378 (Nat.ne_of_lt (Nat.lt_of_lt_of_le sp4_.lt (Nat.le_of_eq q376.symm))))
        have f423 : Exa Z h378 ar sc3 := (((sp5_.ext E376).wr W377).wr W378)
        have f424 : Exa Z h378 r0 sc0 := (((sp13_.ext E376).wr W377).wr W378)
        have f425 : Fld Z h378 r0 sc0 "value" "I" (.int p1) := (((sp14_.ext E376).other W377 (Or.inl (Nat.ne_of_lt (Nat.lt_of_lt_of_le sp13_.lt (Nat.le_of_eq q376.symm))))).other W378 (Or.inl (Nat.ne_of_lt (Nat.lt_of_lt_of_le sp13_.lt (Nat.le_of_eq q376.symm)))))
        have f426 : Exa Z h378 r1 sc0 := (((sp15_.ext E376).wr W377).wr W378)
        have f427 : Fld Z h378 r1 sc0 "value" "I" (.int p2) := (((sp16_.ext E376).other W377 (Or.inl (Nat.ne_of_lt (Nat.lt_of_lt_of_le sp15_.lt (Nat.le_of_eq q376.symm))))).other W378 (Or.inl (Nat.ne_of_lt (Nat.lt_of_lt_of_le sp15_.lt (Nat.le_of_eq q376.symm)))))
        have K428 : Keep h0 h378 [] := (((Ks_.ext E376).wr W377 (Or.inr lo_b376)).wr W378 (Or.inr lo_b376))
        have O429 : Old Z n0 h378 := (((Os_.ext E376).wr W377 g_b376).wr W378 g_b376)
        exact seg_g2_0 _ _ _ cp rk x ar b376 k k376 z p3 r0 r1 p1 p2 (0 : Int32)  (X378.more (by decide) (by decide)) e378 N378 K428 O429  f418 f419 f420 f421 f422 f423 hov g_x g_ar hz0 hz1 hf1 hf2 f424 f425 f426 f427 V378 g_b376 (Ne.symm (Nat.ne_of_lt (Nat.lt_of_lt_of_le sp4_.lt (Nat.le_of_eq q376.symm)))) (Nat.ne_of_lt (Nat.lt_of_lt_of_le sp0_.lt (Nat.le_of_eq q376.symm))) (Nat.ne_of_lt (Nat.lt_of_lt_of_le sp13_.lt (Nat.le_of_eq q376.symm))) (Nat.ne_of_lt (Nat.lt_of_lt_of_le sp15_.lt (Nat.le_of_eq q376.symm))) hc1.symm
 have seg_sbb : ∀ (Ts_ : State) (locs_ : List Loc) (hs_ : Heap) (cp : Int32) (rk : Int32) (x : Addr) (ar : Addr) (k : ClassId) (z : Int32) (r0 : Addr) (r1 : Addr) (Xs_ : Stand pp_ l ee_ room_1 ss_ mm_ #[(.int p1), (.int p2), (.int p3), (.int p4)] bb_ me_ cc_ Ts_ locs_ 18 90) (es_ : Ts_.heap = hs_) (Ns_ : Fr n0 locs_) (Ks_ : Keep h0 hs_ []) (Os_ : Old Z n0 hs_)  (sp0_ : Exa Z hs_ x sc1) (sp1_ : Fld Z hs_ x sc1 "hashed" sc5 .null) (sp2_ : Fld Z hs_ x sc1 "members" sc3 (.ref ar)) (sp3_ : Fld Z hs_ x sc1 "size" "I" (.int 2)) (sp4_ : Arv Z hs_ ar k (.object sc2) z [(.ref r0), (.ref r1)] .null) (sp5_ : Exa Z hs_ ar sc3) (hov : Ovr Z k sc2) (g_x : n0 ≤ x) (g_ar : n0 ≤ ar) (hz0 : (0 : Int32) < z) (hz1 : (1 : Int32) < z) (hf1 : 1 ≤ z.toNatClampNeg) (hf2 : 2 ≤ z.toNatClampNeg) (sp13_ : Exa Z hs_ r0 sc0) (sp14_ : Fld Z hs_ r0 sc0 "value" "I" (.int p1)) (sp15_ : Exa Z hs_ r1 sc0) (sp16_ : Fld Z hs_ r1 sc0 "value" "I" (.int p2)) (hc0 : ¬ (p2 = p1)) (hc1 : ¬ (p3 = p1)) (hc2 : p3 = p2), own_Go pp_ ee_ bb_ (fun s₂ oo_ => s₂.status = .running ∧ Ended s₂ bb_ oo_ ∧ (∃ vv_ LL_, oo_ = .returned vv_ ∧ Qrm0 Z p1 p2 p3 p4 h0 n0 vv_ s₂.heap LL_ ∧ FrameEnd ss_ oo_ s₂ LL_ room_1.cells room_1.slots)) Ts_ (mkF mm_ 123 #[vi p1, vi p2, vi p3, vi p4, vi cp, vi rk, vr x, vi 1, un, un, un, un] []) := by
  intro Ts_ locs_ hs_ cp rk x ar k z r0 r1  Xs_ es_ Ns_ Ks_ Os_  sp0_ sp1_ sp2_ sp3_ sp4_ sp5_ hov g_x g_ar hz0 hz1 hf1 hf2 sp13_ sp14_ sp15_ sp16_ hc0 hc1 hc2
  show Go_ Ts_ (mkF mm_ 123 #[vi p1, vi p2, vi p3, vi p4, vi cp, vi rk, vr x, vi 1, un, un, un, un] [])
  refine sp_ (fun t_ k_ => XS.iconst Xs_.here hx rfl (B_ at_123) k_) ?_
  obtain ⟨T430, h430, k430, X430, e430, E430, A430, st430⟩ := newP Xs_ hx hZ (w_ hw 90 rfl) es_ (g := (mkF mm_ 124 #[vi p1, vi p2, vi p3, vi p4, vi cp, vi rk, vr x, vi 1, un, un, un, un] [(.int 3)])) rfl (B_ at_124) rfl (by decide) (cap := 3) (by decide) (by decide) (by decide) (by decide)
  obtain ⟨b430, q430⟩ : ∃ z, z = hs_.size := ⟨_, rfl⟩
  rw [← q430] at A430 st430
  have lo_b430 : h0.size ≤ b430 := Nat.le_trans Ks_.1 (Nat.le_of_eq q430.symm)
  have g_b430 : n0 ≤ b430 := Nat.le_trans Z0 lo_b430
  refine sp_ st430 ?_
  have V430 : Arv Z h430 b430 k430 .int (3 : Int32) [(.int 0), (.int 0), (.int 0)] (.int 0) := (Arv.new A430 (by decide)).pad (pad_rep [] (.int 0) 3)
  show Go_ T430 (mkF mm_ 126 #[vi p1, vi p2, vi p3, vi p4, vi cp, vi rk, vr x, vi 1, un, un, un, un] [(.ref b430)])
  refine sp_ (fun t_ k_ => XS.astore X430.here hx rfl (B_ at_126) rfl rfl (l' := #[vi p1, vi p2, vi p3, vi p4, vi cp, vi rk, vr x, vi 1, vr b430, un, un, un]) rfl (XS.iconst X430.here hx rfl (B_ at_128) (XS.istore X430.here hx rfl (B_ at_129) rfl (l' := #[vi p1, vi p2, vi p3, vi p4, vi cp, vi rk, vr x, vi 1, vr b430, vi 0, un, un]) rfl (XS.aload X430.here hx rfl (B_ at_131) rfl rfl (XS.iload X430.here hx rfl (B_ at_133) rfl  (XS.iloadN X430.here hx rfl (B_ at_135) rfl  k_)))))) ?_
  obtain ⟨cl431, Ar431, q431, S431, M431, H431, G431⟩ := id V430
  have hin431 : ¬ ((0 : Int32) < 0 ∨ cl431.slots.size ≤ ((0 : Int32)).toNatClampNeg) := inb_of S431 ⟨by decide, by decide⟩
  obtain ⟨T431, h431, X431, e431, W431, st431⟩ := stI X430 hx hZ e430 Ar431 (j := (0 : Int32)) hin431 (g := (mkF mm_ 136 #[vi p1, vi p2, vi p3, vi p4, vi cp, vi rk, vr x, vi 1, vr b430, vi 0, un, un] [(.int p1), (.int 0), (.ref b430)])) rfl rfl (B_ at_136)
  have V431 : Arv Z h431 b430 k430 .int (3 : Int32) [(.int p1), (.int 0), (.int 0)] (.int 0) := Arv.set Ar431 q431 S431 M431 H431 G431 rfl W431 0 rfl (Nat.le_of_ble_eq_true rfl)
  have N431 := Fr.snoc X431 Ns_ g_b430
  refine sp_ st431 ?_
  show Go_ T431 (mkF mm_ 137 #[vi p1, vi p2, vi p3, vi p4, vi cp, vi rk, vr x, vi 1, vr b430, vi 0, un, un] [])
  refine sp_ (fun t_ k_ => XS.iload X431.here hx rfl (B_ at_137) rfl  (XS.iconst X431.here hx rfl (B_ at_139) (XS.iadd X431.here hx rfl (B_ at_140) rfl (XS.istore X431.here hx rfl (B_ at_141) rfl (l' := #[vi p1, vi p2, vi p3, vi p4, vi cp, vi rk, vr x, vi 1, vr b430, vi 1, un, un]) rfl (XS.iloadN X431.here hx rfl (B_ at_143) rfl  (XS.iloadN X431.here hx rfl (B_ at_144) rfl  k_)))))) ?_
  show Go_ T431 (mkF mm_ 145 #[vi p1, vi p2, vi p3, vi p4, vi cp, vi rk, vr x, vi 1, vr b430, vi 1, un, un] [(.int p1), (.int p2)])
  refine sp_ (fun t_ k_ => XS.icmpNo X431.here hx rfl (B_ at_145) rfl (feq hc0).1 k_) ?_
  show Go_ T431 (mkF mm_ 148 #[vi p1, vi p2, vi p3, vi p4, vi cp, vi rk, vr x, vi 1, vr b430, vi 1, un, un] [])
  refine sp_ (fun t_ k_ => XS.aload X431.here hx rfl (B_ at_148) rfl rfl (XS.iload X431.here hx rfl (B_ at_150) rfl  (XS.iloadN X431.here hx rfl (B_ at_152) rfl  k_))) ?_
  obtain ⟨cl432, Ar432, q432, S432, M432, H432, G432⟩ := id V431
  have hin432 : ¬ ((1 : Int32) < 0 ∨ cl432.slots.size ≤ ((1 : Int32)).toNatClampNeg) := inb_of S432 ⟨by decide, by decide⟩
  obtain ⟨T432, h432, X432, e432, W432, st432⟩ := stI X431 hx hZ e431 Ar432 (j := (1 : Int32)) hin432 (g := (mkF mm_ 153 #[vi p1, vi p2, vi p3, vi p4, vi cp, vi rk, vr x, vi 1, vr b430, vi 1, un, un] [(.int p2), (.int 1), (.ref b430)])) rfl rfl (B_ at_153)
  have V432 : Arv Z h432 b430 k430 .int (3 : Int32) [(.int p1), (.int p2), (.int 0)] (.int 0) := Arv.set Ar432 q432 S432 M432 H432 G432 rfl W432 1 rfl (Nat.le_of_ble_eq_true rfl)
  have N432 := Fr.snoc X432 N431 g_b430
  refine sp_ st432 ?_
  show Go_ T432 (mkF mm_ 154 #[vi p1, vi p2, vi p3, vi p4, vi cp, vi rk, vr x, vi 1, vr b430, vi 1, un, un] [])
  refine sp_ (fun t_ k_ => XS.iload X432.here hx rfl (B_ at_154) rfl  (XS.iconst X432.here hx rfl (B_ at_156) (XS.iadd X432.here hx rfl (B_ at_157) rfl (XS.istore X432.here hx rfl (B_ at_158) rfl (l' := #[vi p1, vi p2, vi p3, vi p4, vi cp, vi rk, vr x, vi 1, vr b430, vi 2, un, un]) rfl (XS.iloadN X432.here hx rfl (B_ at_160) rfl  (XS.iloadN X432.here hx rfl (B_ at_161) rfl  k_)))))) ?_
  show Go_ T432 (mkF mm_ 162 #[vi p1, vi p2, vi p3, vi p4, vi cp, vi rk, vr x, vi 1, vr b430, vi 2, un, un] [(.int p1), (.int p3)])
  refine sp_ (fun t_ k_ => XS.icmpNo X432.here hx rfl (B_ at_162) rfl (feq hc1).1 k_) ?_
  show Go_ T432 (mkF mm_ 165 #[vi p1, vi p2, vi p3, vi p4, vi cp, vi rk, vr x, vi 1, vr b430, vi 2, un, un] [])
  refine sp_ (fun t_ k_ => XS.iloadN X432.here hx rfl (B_ at_165) rfl  (XS.iloadN X432.here hx rfl (B_ at_166) rfl  k_)) ?_
  show Go_ T432 (mkF mm_ 167 #[vi p1, vi p2, vi p3, vi p4, vi cp, vi rk, vr x, vi 1, vr b430, vi 2, un, un] [(.int p2), (.int p3)])
  refine sp_ (fun t_ k_ => XS.icmpYes X432.here hx rfl (pc0 := 167) (pc' := 182) rfl (B_ at_167) rfl (teq hc2).1 (by decide) (by decide) k_) ?_
  show Go_ T432 (mkF mm_ 182 #[vi p1, vi p2, vi p3, vi p4, vi cp, vi rk, vr x, vi 1, vr b430, vi 2, un, un] [])
  refine sp_ (fun t_ k_ => XS.iload X432.here hx rfl (B_ at_182) rfl  k_) ?_
  show Go_ T432 (mkF mm_ 184 #[vi p1, vi p2, vi p3, vi p4, vi cp, vi rk, vr x, vi 1, vr b430, vi 2, un, un] [(.int rk)])
  by_cases hc184_433 : rk = (0 : Int32)
  · skip
    refine sp_ (fun t_ k_ => XS.ifYes X432.here hx rfl (pc0 := 184) (pc' := 310) rfl (B_ at_184) rfl ((if0 _ _).trans (teq hc184_433).1) (by decide) (by decide) k_) ?_
    have f434 : Exa Z h432 x sc1 := (((sp0_.ext E430).wr W431).wr W432)
    have f435 : Fld Z h432 x sc1 "hashed" sc5 .null := (((sp1_.ext E430).other W431 (Or.inl (Nat.ne_of_lt (Nat.lt_of_lt_of_le sp0_.lt (Nat.le_of_eq q430.symm))))).other W432 (Or.inl (Nat.ne_of_lt (Nat.lt_of_lt_of_le sp0_.lt (Nat.le_of_eq q430.symm)))))
    have f436 : Fld Z h432 x sc1 "members" sc3 (.ref ar) := (((sp2_.ext E430).other W431 (Or.inl (Nat.ne_of_lt (Nat.lt_of_lt_of_le sp0_.lt (Nat.le_of_eq q430.symm))))).other W432 (Or.inl (Nat.ne_of_lt (Nat.lt_of_lt_of_le sp0_.lt (Nat.le_of_eq q430.symm)))))
    have f437 : Fld Z h432 x sc1 "size" "I" (.int 2) := (((sp3_.ext E430).other W431 (Or.inl (Nat.ne_of_lt (Nat.lt_of_lt_of_le sp0_.lt (Nat.le_of_eq q430.symm))))).other W432 (Or.inl (Nat.ne_of_lt (Nat.lt_of_lt_of_le sp0_.lt (Nat.le_of_eq q430.symm)))))
    have f438 : Arv Z h432 ar k (.object sc2) z [(.ref r0), (.ref r1)] .null := (((sp4_.ext E430).other W431 (Nat.ne_of_lt (Nat.lt_of_lt_of_le sp4_.lt (Nat.le_of_eq q430.symm)))).other W432 (Nat.ne_of_lt (Nat.lt_of_lt_of_le sp4_.lt (Nat.le_of_eq q430.symm))))
    have f439 : Exa Z h432 ar sc3 := (((sp5_.ext E430).wr W431).wr W432)
    have f440 : Exa Z h432 r0 sc0 := (((sp13_.ext E430).wr W431).wr W432)
    have f441 : Fld Z h432 r0 sc0 "value" "I" (.int p1) := (((sp14_.ext E430).other W431 (Or.inl (Nat.ne_of_lt (Nat.lt_of_lt_of_le sp13_.lt (Nat.le_of_eq q430.symm))))).other W432 (Or.inl (Nat.ne_of_lt (Nat.lt_of_lt_of_le sp13_.lt (Nat.le_of_eq q430.symm)))))
    have f442 : Exa Z h432 r1 sc0 := (((sp15_.ext E430).wr W431).wr W432)
    have f443 : Fld Z h432 r1 sc0 "value" "I" (.int p2) := (((sp16_.ext E430).other W431 (Or.inl (Nat.ne_of_lt (Nat.lt_of_lt_of_le sp15_.lt (Nat.le_of_eq q430.symm))))).other W432 (Or.inl (Nat.ne_of_lt (Nat.lt_of_lt_of_le sp15_.lt (Nat.le_of_eq q430.symm)))))
    have K444 : Keep h0 h432 [] := (((Ks_.ext E430).wr W431 (Or.inr lo_b430)).wr W432 (Or.inr lo_b430))
    have O445 : Old Z n0 h432 := (((Os_.ext E430).wr W431 g_b430).wr W432 g_b430)
    exact seg_e2u _ _ _ cp rk x ar b430 k k430 z r0 r1 p1 p2 (0 : Int32)  (X432.more (by decide) (by decide)) e432 N432 K444 O445  f434 f435 f436 f437 f438 f439 hz0 hz1 f440 f441 f442 f443 V432
  · skip
    refine sp_ (fun t_ k_ => XS.ifNo X432.here hx rfl (B_ at_184) rfl ((if0 _ _).trans (feq hc184_433).1) k_) ?_
    show Go_ T432 (mkF mm_ 187 #[vi p1, vi p2, vi p3, vi p4, vi cp, vi rk, vr x, vi 1, vr b430, vi 2, un, un] [])
    refine sp_ (fun t_ k_ => XS.iload X432.here hx rfl (B_ at_187) rfl  (XS.iconst X432.here hx rfl (B_ at_189) k_)) ?_
    show Go_ T432 (mkF mm_ 190 #[vi p1, vi p2, vi p3, vi p4, vi cp, vi rk, vr x, vi 1, vr b430, vi 2, un, un] [(.int 1), (.int rk)])
    by_cases hc190_446 : rk = (1 : Int32)
    · skip
      refine sp_ (fun t_ k_ => XS.icmpNo X432.here hx rfl (B_ at_190) rfl (teq hc190_446).2 k_) ?_
      show Go_ T432 (mkF mm_ 193 #[vi p1, vi p2, vi p3, vi p4, vi cp, vi rk, vr x, vi 1, vr b430, vi 2, un, un] [])
      refine sp_ (fun t_ k_ => XS.iloadN X432.here hx rfl (B_ at_193) rfl  (XS.goto X432.here hx rfl (pc0 := 194) (pc' := 208) rfl (B_ at_194) (by decide) (by decide) (XS.istore X432.here hx rfl (B_ at_208) rfl (l' := #[vi p1, vi p2, vi p3, vi p4, vi cp, vi rk, vr x, vi 1, vr b430, vi 2, vi p1, un]) rfl k_))) ?_
      have f447 : Exa Z h432 x sc1 := (((sp0_.ext E430).wr W431).wr W432)
      have f448 : Fld Z h432 x sc1 "hashed" sc5 .null := (((sp1_.ext E430).other W431 (Or.inl (Nat.ne_of_lt (Nat.lt_of_lt_of_le sp0_.lt (Nat.le_of_eq q430.symm))))).other W432 (Or.inl (Nat.ne_of_lt (Nat.lt_of_lt_of_le sp0_.lt (Nat.le_of_eq q430.symm)))))
      have f449 : Fld Z h432 x sc1 "members" sc3 (.ref ar) := (((sp2_.ext E430).other W431 (Or.inl (Nat.ne_of_lt (Nat.lt_of_lt_of_le sp0_.lt (Nat.le_of_eq q430.symm))))).other W432 (Or.inl (Nat.ne_of_lt (Nat.lt_of_lt_of_le sp0_.lt (Nat.le_of_eq q430.symm)))))
      have f450 : Fld Z h432 x sc1 "size" "I" (.int 2) := (((sp3_.ext E430).other W431 (Or.inl (Nat.ne_of_lt (Nat.lt_of_lt_of_le sp0_.lt (Nat.le_of_eq q430.symm))))).other W432 (Or.inl (Nat.ne_of_lt (Nat.lt_of_lt_of_le sp0_.lt (Nat.le_of_eq q430.symm)))))
      have f451 : Arv Z h432 ar k (.object sc2) z [(.ref r0), (.ref r1)] .null := (((sp4_.ext E430).other W431 (Nat.ne_of_lt (Nat.lt_of_lt_of_le sp4_.lt (Nat.le_of_eq q430.symm)))).other W432 (Nat.ne_of_lt (Nat.lt_of_lt_of_le sp4_.lt (Nat.le_of_eq q430.symm))))
      have f452 : Exa Z h432 ar sc3 := (((sp5_.ext E430).wr W431).wr W432)
      have f453 : Exa Z h432 r0 sc0 := (((sp13_.ext E430).wr W431).wr W432)
      have f454 : Fld Z h432 r0 sc0 "value" "I" (.int p1) := (((sp14_.ext E430).other W431 (Or.inl (Nat.ne_of_lt (Nat.lt_of_lt_of_le sp13_.lt (Nat.le_of_eq q430.symm))))).other W432 (Or.inl (Nat.ne_of_lt (Nat.lt_of_lt_of_le sp13_.lt (Nat.le_of_eq q430.symm)))))
      have f455 : Exa Z h432 r1 sc0 := (((sp15_.ext E430).wr W431).wr W432)
      have f456 : Fld Z h432 r1 sc0 "value" "I" (.int p2) := (((sp16_.ext E430).other W431 (Or.inl (Nat.ne_of_lt (Nat.lt_of_lt_of_le sp15_.lt (Nat.le_of_eq q430.symm))))).other W432 (Or.inl (Nat.ne_of_lt (Nat.lt_of_lt_of_le sp15_.lt (Nat.le_of_eq q430.symm)))))
      have K457 : Keep h0 h432 [] := (((Ks_.ext E430).wr W431 (Or.inr lo_b430)).wr W432 (Or.inr lo_b430))
      have O458 : Old Z n0 h432 := (((Os_.ext E430).wr W431 g_b430).wr W432 g_b430)
      exact seg_g2_0 _ _ _ cp rk x ar b430 k k430 z p1 r0 r1 p1 p2 (0 : Int32)  (X432.more (by decide) (by decide)) e432 N432 K457 O458  f447 f448 f449 f450 f451 f452 hov g_x g_ar hz0 hz1 hf1 hf2 f453 f454 f455 f456 V432 g_b430 (Ne.symm (Nat.ne_of_lt (Nat.lt_of_lt_of_le sp4_.lt (Nat.le_of_eq q430.symm)))) (Nat.ne_of_lt (Nat.lt_of_lt_of_le sp0_.lt (Nat.le_of_eq q430.symm))) (Nat.ne_of_lt (Nat.lt_of_lt_of_le sp13_.lt (Nat.le_of_eq q430.symm))) (Nat.ne_of_lt (Nat.lt_of_lt_of_le sp15_.lt (Nat.le_of_eq q430.symm))) rfl
    · skip
      refine sp_ (fun t_ k_ => XS.icmpYes X432.here hx rfl (pc0 := 190) (pc' := 197) rfl (B_ at_190) rfl (feq hc190_446).2 (by decide) (by decide) k_) ?_
      show Go_ T432 (mkF mm_ 197 #[vi p1, vi p2, vi p3, vi p4, vi cp, vi rk, vr x, vi 1, vr b430, vi 2, un, un] [])
      refine sp_ (fun t_ k_ => XS.iload X432.here hx rfl (B_ at_197) rfl  (XS.iconst X432.here hx rfl (B_ at_199) k_)) ?_
      show Go_ T432 (mkF mm_ 200 #[vi p1, vi p2, vi p3, vi p4, vi cp, vi rk, vr x, vi 1, vr b430, vi 2, un, un] [(.int 2), (.int rk)])
      by_cases hc200_459 : rk = (2 : Int32)
      · skip
        refine sp_ (fun t_ k_ => XS.icmpNo X432.here hx rfl (B_ at_200) rfl (teq hc200_459).2 k_) ?_
        show Go_ T432 (mkF mm_ 203 #[vi p1, vi p2, vi p3, vi p4, vi cp, vi rk, vr x, vi 1, vr b430, vi 2, un, un] [])
        refine sp_ (fun t_ k_ => XS.iloadN X432.here hx rfl (B_ at_203) rfl  (XS.goto X432.here hx rfl (pc0 := 204) (pc' := 208) rfl (B_ at_204) (by decide) (by decide) (XS.istore X432.here hx rfl (B_ at_208) rfl (l' := #[vi p1, vi p2, vi p3, vi p4, vi cp, vi rk, vr x, vi 1, vr b430, vi 2, vi p2, un]) rfl k_))) ?_
        have f460 : Exa Z h432 x sc1 := (((sp0_.ext E430).wr W431).wr W432)
        have f461 : Fld Z h432 x sc1 "hashed" sc5 .null := (((sp1_.ext E430).other W431 (Or.inl (Nat.ne_of_lt (Nat.lt_of_lt_of_le sp0_.lt (Nat.le_of_eq q430.symm))))).other W432 (Or.inl (Nat.ne_of_lt (Nat.lt_of_lt_of_le sp0_.lt (Nat.le_of_eq q430.symm)))))
        have f462 : Fld Z h432 x sc1 "members" sc3 (.ref ar) := (((sp2_.ext E430).other W431 (Or.inl (Nat.ne_of_lt (Nat.lt_of_lt_of_le sp0_.lt (Nat.le_of_eq q430.symm))))).other W432 (Or.inl (Nat.ne_of_lt (Nat.lt_of_lt_of_le sp0_.lt (Nat.le_of_eq q430.symm)))))
        have f463 : Fld Z h432 x sc1 "size" "I" (.int 2) := (((sp3_.ext E430).other W431 (Or.inl (Nat.ne_of_lt (Nat.lt_of_lt_of_le sp0_.lt (Nat.le_of_eq q430.symm))))).other W432 (Or.inl (Nat.ne_of_lt (Nat.lt_of_lt_of_le sp0_.lt (Nat.le_of_eq q430.symm)))))
        have f464 : Arv Z h432 ar k (.object sc2) z [(.ref r0), (.ref r1)] .null := (((sp4_.ext E430).other W431 (Nat.ne_of_lt (Nat.lt_of_lt_of_le sp4_.lt (Nat.le_of_eq q430.symm)))).other W432 (Nat.ne_of_lt (Nat.lt_of_lt_of_le sp4_.lt (Nat.le_of_eq q430.symm))))
        have f465 : Exa Z h432 ar sc3 := (((sp5_.ext E430).wr W431).wr W432)
        have f466 : Exa Z h432 r0 sc0 := (((sp13_.ext E430).wr W431).wr W432)
        have f467 : Fld Z h432 r0 sc0 "value" "I" (.int p1) := (((sp14_.ext E430).other W431 (Or.inl (Nat.ne_of_lt (Nat.lt_of_lt_of_le sp13_.lt (Nat.le_of_eq q430.symm))))).other W432 (Or.inl (Nat.ne_of_lt (Nat.lt_of_lt_of_le sp13_.lt (Nat.le_of_eq q430.symm)))))
        have f468 : Exa Z h432 r1 sc0 := (((sp15_.ext E430).wr W431).wr W432)
        have f469 : Fld Z h432 r1 sc0 "value" "I" (.int p2) := (((sp16_.ext E430).other W431 (Or.inl (Nat.ne_of_lt (Nat.lt_of_lt_of_le sp15_.lt (Nat.le_of_eq q430.symm))))).other W432 (Or.inl (Nat.ne_of_lt (Nat.lt_of_lt_of_le sp15_.lt (Nat.le_of_eq q430.symm)))))
        have K470 : Keep h0 h432 [] := (((Ks_.ext E430).wr W431 (Or.inr lo_b430)).wr W432 (Or.inr lo_b430))
        have O471 : Old Z n0 h432 := (((Os_.ext E430).wr W431 g_b430).wr W432 g_b430)
        exact seg_g2_1 _ _ _ cp rk x ar b430 k k430 z p2 r0 r1 p1 p2 (0 : Int32)  (X432.more (by decide) (by decide)) e432 N432 K470 O471  f460 f461 f462 f463 f464 f465 hov g_x g_ar hz0 hz1 hf1 hf2 f466 f467 f468 f469 V432 g_b430 (Ne.symm (Nat.ne_of_lt (Nat.lt_of_lt_of_le sp4_.lt (Nat.le_of_eq q430.symm)))) (Nat.ne_of_lt (Nat.lt_of_lt_of_le sp0_.lt (Nat.le_of_eq q430.symm))) (Nat.ne_of_lt (Nat.lt_of_lt_of_le sp13_.lt (Nat.le_of_eq q430.symm))) (Nat.ne_of_lt (Nat.lt_of_lt_of_le sp15_.lt (Nat.le_of_eq q430.symm))) (fun q_ => hc0 q_.symm) rfl
      · skip
        refine sp_ (fun t_ k_ => XS.icmpYes X432.here hx rfl (pc0 := 200) (pc' := 207) rfl (B_ at_200) rfl (feq hc200_459).2 (by decide) (by decide) k_) ?_
        show Go_ T432 (mkF mm_ 207 #[vi p1, vi p2, vi p3, vi p4, vi cp, vi rk, vr x, vi 1, vr b430, vi 2, un, un] [])
        refine sp_ (fun t_ k_ => XS.iloadN X432.here hx rfl (B_ at_207) rfl  (XS.istore X432.here hx rfl (B_ at_208) rfl (l' := #[vi p1, vi p2, vi p3, vi p4, vi cp, vi rk, vr x, vi 1, vr b430, vi 2, vi p3, un]) rfl k_)) ?_
        have f472 : Exa Z h432 x sc1 := (((sp0_.ext E430).wr W431).wr W432)
        have f473 : Fld Z h432 x sc1 "hashed" sc5 .null := (((sp1_.ext E430).other W431 (Or.inl (Nat.ne_of_lt (Nat.lt_of_lt_of_le sp0_.lt (Nat.le_of_eq q430.symm))))).other W432 (Or.inl (Nat.ne_of_lt (Nat.lt_of_lt_of_le sp0_.lt (Nat.le_of_eq q430.symm)))))
        have f474 : Fld Z h432 x sc1 "members" sc3 (.ref ar) := (((sp2_.ext E430).other W431 (Or.inl (Nat.ne_of_lt (Nat.lt_of_lt_of_le sp0_.lt (Nat.le_of_eq q430.symm))))).other W432 (Or.inl (Nat.ne_of_lt (Nat.lt_of_lt_of_le sp0_.lt (Nat.le_of_eq q430.symm)))))
        have f475 : Fld Z h432 x sc1 "size" "I" (.int 2) := (((sp3_.ext E430).other W431 (Or.inl (Nat.ne_of_lt (Nat.lt_of_lt_of_le sp0_.lt (Nat.le_of_eq q430.symm))))).other W432 (Or.inl (Nat.ne_of_lt (Nat.lt_of_lt_of_le sp0_.lt (Nat.le_of_eq q430.symm)))))
        have f476 : Arv Z h432 ar k (.object sc2) z [(.ref r0), (.ref r1)] .null := (((sp4_.ext E430).other W431 (Nat.ne_of_lt (Nat.lt_of_lt_of_le sp4_.lt (Nat.le_of_eq q430.symm)))).other W432 (Nat.ne_of_lt (Nat.lt_of_lt_of_le sp4_.lt (Nat.le_of_eq q430.symm))))
        have f477 : Exa Z h432 ar sc3 := (((sp5_.ext E430).wr W431).wr W432)
        have f478 : Exa Z h432 r0 sc0 := (((sp13_.ext E430).wr W431).wr W432)
        have f479 : Fld Z h432 r0 sc0 "value" "I" (.int p1) := (((sp14_.ext E430).other W431 (Or.inl (Nat.ne_of_lt (Nat.lt_of_lt_of_le sp13_.lt (Nat.le_of_eq q430.symm))))).other W432 (Or.inl (Nat.ne_of_lt (Nat.lt_of_lt_of_le sp13_.lt (Nat.le_of_eq q430.symm)))))
        have f480 : Exa Z h432 r1 sc0 := (((sp15_.ext E430).wr W431).wr W432)
        have f481 : Fld Z h432 r1 sc0 "value" "I" (.int p2) := (((sp16_.ext E430).other W431 (Or.inl (Nat.ne_of_lt (Nat.lt_of_lt_of_le sp15_.lt (Nat.le_of_eq q430.symm))))).other W432 (Or.inl (Nat.ne_of_lt (Nat.lt_of_lt_of_le sp15_.lt (Nat.le_of_eq q430.symm)))))
        have K482 : Keep h0 h432 [] := (((Ks_.ext E430).wr W431 (Or.inr lo_b430)).wr W432 (Or.inr lo_b430))
        have O483 : Old Z n0 h432 := (((Os_.ext E430).wr W431 g_b430).wr W432 g_b430)
        exact seg_g2_1 _ _ _ cp rk x ar b430 k k430 z p3 r0 r1 p1 p2 (0 : Int32)  (X432.more (by decide) (by decide)) e432 N432 K482 O483  f472 f473 f474 f475 f476 f477 hov g_x g_ar hz0 hz1 hf1 hf2 f478 f479 f480 f481 V432 g_b430 (Ne.symm (Nat.ne_of_lt (Nat.lt_of_lt_of_le sp4_.lt (Nat.le_of_eq q430.symm)))) (Nat.ne_of_lt (Nat.lt_of_lt_of_le sp0_.lt (Nat.le_of_eq q430.symm))) (Nat.ne_of_lt (Nat.lt_of_lt_of_le sp13_.lt (Nat.le_of_eq q430.symm))) (Nat.ne_of_lt (Nat.lt_of_lt_of_le sp15_.lt (Nat.le_of_eq q430.symm))) (fun q_ => hc1 q_.symm) hc2.symm
 have seg_sbc : ∀ (Ts_ : State) (locs_ : List Loc) (hs_ : Heap) (cp : Int32) (rk : Int32) (x : Addr) (ar : Addr) (k : ClassId) (z : Int32) (r0 : Addr) (r1 : Addr) (r2 : Addr) (Xs_ : Stand pp_ l ee_ room_1 ss_ mm_ #[(.int p1), (.int p2), (.int p3), (.int p4)] bb_ me_ cc_ Ts_ locs_ 18 90) (es_ : Ts_.heap = hs_) (Ns_ : Fr n0 locs_) (Ks_ : Keep h0 hs_ []) (Os_ : Old Z n0 hs_)  (sp0_ : Exa Z hs_ x sc1) (sp1_ : Fld Z hs_ x sc1 "hashed" sc5 .null) (sp2_ : Fld Z hs_ x sc1 "members" sc3 (.ref ar)) (sp3_ : Fld Z hs_ x sc1 "size" "I" (.int 3)) (sp4_ : Arv Z hs_ ar k (.object sc2) z [(.ref r0), (.ref r1), (.ref r2)] .null) (sp5_ : Exa Z hs_ ar sc3) (hov : Ovr Z k sc2) (g_x : n0 ≤ x) (g_ar : n0 ≤ ar) (hz0 : (0 : Int32) < z) (hz1 : (1 : Int32) < z) (hz2 : (2 : Int32) < z) (hf2 : 2 ≤ z.toNatClampNeg) (hf3 : 3 ≤ z.toNatClampNeg) (sp14_ : Exa Z hs_ r0 sc0) (sp15_ : Fld Z hs_ r0 sc0 "value" "I" (.int p1)) (sp16_ : Exa Z hs_ r1 sc0) (sp17_ : Fld Z hs_ r1 sc0 "value" "I" (.int p2)) (sp18_ : Exa Z hs_ r2 sc0) (sp19_ : Fld Z hs_ r2 sc0 "value" "I" (.int p3)) (hc0 : ¬ (p2 = p1)) (hc1 : ¬ (p3 = p1)) (hc2 : ¬ (p3 = p2)), own_Go pp_ ee_ bb_ (fun s₂ oo_ => s₂.status = .running ∧ Ended s₂ bb_ oo_ ∧ (∃ vv_ LL_, oo_ = .returned vv_ ∧ Qrm0 Z p1 p2 p3 p4 h0 n0 vv_ s₂.heap LL_ ∧ FrameEnd ss_ oo_ s₂ LL_ room_1.cells room_1.slots)) Ts_ (mkF mm_ 123 #[vi p1, vi p2, vi p3, vi p4, vi cp, vi rk, vr x, vi 1, un, un, un, un] []) := by
  intro Ts_ locs_ hs_ cp rk x ar k z r0 r1 r2  Xs_ es_ Ns_ Ks_ Os_  sp0_ sp1_ sp2_ sp3_ sp4_ sp5_ hov g_x g_ar hz0 hz1 hz2 hf2 hf3 sp14_ sp15_ sp16_ sp17_ sp18_ sp19_ hc0 hc1 hc2
  show Go_ Ts_ (mkF mm_ 123 #[vi p1, vi p2, vi p3, vi p4, vi cp, vi rk, vr x, vi 1, un, un, un, un] [])
  refine sp_ (fun t_ k_ => XS.iconst Xs_.here hx rfl (B_ at_123) k_) ?_
  obtain ⟨T484, h484, k484, X484, e484, E484, A484, st484⟩ := newP Xs_ hx hZ (w_ hw 90 rfl) es_ (g := (mkF mm_ 124 #[vi p1, vi p2, vi p3, vi p4, vi cp, vi rk, vr x, vi 1, un, un, un, un] [(.int 3)])) rfl (B_ at_124) rfl (by decide) (cap := 3) (by decide) (by decide) (by decide) (by decide)
  obtain ⟨b484, q484⟩ : ∃ z, z = hs_.size := ⟨_, rfl⟩
  rw [← q484] at A484 st484
  have lo_b484 : h0.size ≤ b484 := Nat.le_trans Ks_.1 (Nat.le_of_eq q484.symm)
  have g_b484 : n0 ≤ b484 := Nat.le_trans Z0 lo_b484
  refine sp_ st484 ?_
  have V484 : Arv Z h484 b484 k484 .int (3 : Int32) [(.int 0), (.int 0), (.int 0)] (.int 0) := (Arv.new A484 (by decide)).pad (pad_rep [] (.int 0) 3)
  show Go_ T484 (mkF mm_ 126 #[vi p1, vi p2, vi p3, vi p4, vi cp, vi rk, vr x, vi 1, un, un, un, un] [(.ref b484)])
  refine sp_ (fun t_ k_ => XS.astore X484.here hx rfl (B_ at_126) rfl rfl (l' := #[vi p1, vi p2, vi p3, vi p4, vi cp, vi rk, vr x, vi 1, vr b484, un, un, un]) rfl (XS.iconst X484.here hx rfl (B_ at_128) (XS.istore X484.here hx rfl (B_ at_129) rfl (l' := #[vi p1, vi p2, vi p3, vi p4, vi cp, vi rk, vr x, vi 1, vr b484, vi 0, un, un]) rfl (XS.aload X484.here hx rfl (B_ at_131) rfl rfl (XS.iload X484.here hx rfl (B_ at_133) rfl  (XS.iloadN X484.here hx rfl (B_ at_135) rfl  k_)))))) ?_
  obtain ⟨cl485, Ar485, q485, S485, M485, H485, G485⟩ := id V484
  have hin485 : ¬ ((0 : Int32) < 0 ∨ cl485.slots.size ≤ ((0 : Int32)).toNatClampNeg) := inb_of S485 ⟨by decide, by decide⟩
  obtain ⟨T485, h485, X485, e485, W485, st485⟩ := stI X484 hx hZ e484 Ar485 (j := (0 : Int32)) hin485 (g := (mkF mm_ 136 #[vi p1, vi p2, vi p3, vi p4, vi cp, vi rk, vr x, vi 1, vr b484, vi 0, un, un] [(.int p1), (.int 0), (.ref b484)])) rfl rfl (B_ at_136)
  have V485 : Arv Z h485 b484 k484 .int (3 : Int32) [(.int p1), (.int 0), (.int 0)] (.int 0) := Arv.set Ar485 q485 S485 M485 H485 G485 rfl W485 0 rfl (Nat.le_of_ble_eq_true rfl)
  have N485 := Fr.snoc X485 Ns_ g_b484
  refine sp_ st485 ?_
  show Go_ T485 (mkF mm_ 137 #[vi p1, vi p2, vi p3, vi p4, vi cp, vi rk, vr x, vi 1, vr b484, vi 0, un, un] [])
  refine sp_ (fun t_ k_ => XS.iload X485.here hx rfl (B_ at_137) rfl  (XS.iconst X485.here hx rfl (B_ at_139) (XS.iadd X485.here hx rfl (B_ at_140) rfl (XS.istore X485.here hx rfl (B_ at_141) rfl (l' := #[vi p1, vi p2, vi p3, vi p4, vi cp, vi rk, vr x, vi 1, vr b484, vi 1, un, un]) rfl (XS.iloadN X485.here hx rfl (B_ at_143) rfl  (XS.iloadN X485.here hx rfl (B_ at_144) rfl  k_)))))) ?_
  show Go_ T485 (mkF mm_ 145 #[vi p1, vi p2, vi p3, vi p4, vi cp, vi rk, vr x, vi 1, vr b484, vi 1, un, un] [(.int p1), (.int p2)])
  refine sp_ (fun t_ k_ => XS.icmpNo X485.here hx rfl (B_ at_145) rfl (feq hc0).1 k_) ?_
  show Go_ T485 (mkF mm_ 148 #[vi p1, vi p2, vi p3, vi p4, vi cp, vi rk, vr x, vi 1, vr b484, vi 1, un, un] [])
  refine sp_ (fun t_ k_ => XS.aload X485.here hx rfl (B_ at_148) rfl rfl (XS.iload X485.here hx rfl (B_ at_150) rfl  (XS.iloadN X485.here hx rfl (B_ at_152) rfl  k_))) ?_
  obtain ⟨cl486, Ar486, q486, S486, M486, H486, G486⟩ := id V485
  have hin486 : ¬ ((1 : Int32) < 0 ∨ cl486.slots.size ≤ ((1 : Int32)).toNatClampNeg) := inb_of S486 ⟨by decide, by decide⟩
  obtain ⟨T486, h486, X486, e486, W486, st486⟩ := stI X485 hx hZ e485 Ar486 (j := (1 : Int32)) hin486 (g := (mkF mm_ 153 #[vi p1, vi p2, vi p3, vi p4, vi cp, vi rk, vr x, vi 1, vr b484, vi 1, un, un] [(.int p2), (.int 1), (.ref b484)])) rfl rfl (B_ at_153)
  have V486 : Arv Z h486 b484 k484 .int (3 : Int32) [(.int p1), (.int p2), (.int 0)] (.int 0) := Arv.set Ar486 q486 S486 M486 H486 G486 rfl W486 1 rfl (Nat.le_of_ble_eq_true rfl)
  have N486 := Fr.snoc X486 N485 g_b484
  refine sp_ st486 ?_
  show Go_ T486 (mkF mm_ 154 #[vi p1, vi p2, vi p3, vi p4, vi cp, vi rk, vr x, vi 1, vr b484, vi 1, un, un] [])
  refine sp_ (fun t_ k_ => XS.iload X486.here hx rfl (B_ at_154) rfl  (XS.iconst X486.here hx rfl (B_ at_156) (XS.iadd X486.here hx rfl (B_ at_157) rfl (XS.istore X486.here hx rfl (B_ at_158) rfl (l' := #[vi p1, vi p2, vi p3, vi p4, vi cp, vi rk, vr x, vi 1, vr b484, vi 2, un, un]) rfl (XS.iloadN X486.here hx rfl (B_ at_160) rfl  (XS.iloadN X486.here hx rfl (B_ at_161) rfl  k_)))))) ?_
  show Go_ T486 (mkF mm_ 162 #[vi p1, vi p2, vi p3, vi p4, vi cp, vi rk, vr x, vi 1, vr b484, vi 2, un, un] [(.int p1), (.int p3)])
  refine sp_ (fun t_ k_ => XS.icmpNo X486.here hx rfl (B_ at_162) rfl (feq hc1).1 k_) ?_
  show Go_ T486 (mkF mm_ 165 #[vi p1, vi p2, vi p3, vi p4, vi cp, vi rk, vr x, vi 1, vr b484, vi 2, un, un] [])
  refine sp_ (fun t_ k_ => XS.iloadN X486.here hx rfl (B_ at_165) rfl  (XS.iloadN X486.here hx rfl (B_ at_166) rfl  k_)) ?_
  show Go_ T486 (mkF mm_ 167 #[vi p1, vi p2, vi p3, vi p4, vi cp, vi rk, vr x, vi 1, vr b484, vi 2, un, un] [(.int p2), (.int p3)])
  refine sp_ (fun t_ k_ => XS.icmpNo X486.here hx rfl (B_ at_167) rfl (feq hc2).1 k_) ?_
  show Go_ T486 (mkF mm_ 170 #[vi p1, vi p2, vi p3, vi p4, vi cp, vi rk, vr x, vi 1, vr b484, vi 2, un, un] [])
  refine sp_ (fun t_ k_ => XS.aload X486.here hx rfl (B_ at_170) rfl rfl (XS.iload X486.here hx rfl (B_ at_172) rfl  (XS.iloadN X486.here hx rfl (B_ at_174) rfl  k_))) ?_
  obtain ⟨cl487, Ar487, q487, S487, M487, H487, G487⟩ := id V486
  have hin487 : ¬ ((2 : Int32) < 0 ∨ cl487.slots.size ≤ ((2 : Int32)).toNatClampNeg) := inb_of S487 ⟨by decide, by decide⟩
  obtain ⟨T487, h487, X487, e487, W487, st487⟩ := stI X486 hx hZ e486 Ar487 (j := (2 : Int32)) hin487 (g := (mkF mm_ 175 #[vi p1, vi p2, vi p3, vi p4, vi cp, vi rk, vr x, vi 1, vr b484, vi 2, un, un] [(.int p3), (.int 2), (.ref b484)])) rfl rfl (B_ at_175)
  have V487 : Arv Z h487 b484 k484 .int (3 : Int32) [(.int p1), (.int p2), (.int p3)] (.int 0) := Arv.set Ar487 q487 S487 M487 H487 G487 rfl W487 2 rfl (Nat.le_of_ble_eq_true rfl)
  have N487 := Fr.snoc X487 N486 g_b484
  refine sp_ st487 ?_
  show Go_ T487 (mkF mm_ 176 #[vi p1, vi p2, vi p3, vi p4, vi cp, vi rk, vr x, vi 1, vr b484, vi 2, un, un] [])
  refine sp_ (fun t_ k_ => XS.iload X487.here hx rfl (B_ at_176) rfl  (XS.iconst X487.here hx rfl (B_ at_178) (XS.iadd X487.here hx rfl (B_ at_179) rfl (XS.istore X487.here hx rfl (B_ at_180) rfl (l' := #[vi p1, vi p2, vi p3, vi p4, vi cp, vi rk, vr x, vi 1, vr b484, vi 3, un, un]) rfl (XS.iload X487.here hx rfl (B_ at_182) rfl  k_))))) ?_
  show Go_ T487 (mkF mm_ 184 #[vi p1, vi p2, vi p3, vi p4, vi cp, vi rk, vr x, vi 1, vr b484, vi 3, un, un] [(.int rk)])
  by_cases hc184_488 : rk = (0 : Int32)
  · skip
    refine sp_ (fun t_ k_ => XS.ifYes X487.here hx rfl (pc0 := 184) (pc' := 310) rfl (B_ at_184) rfl ((if0 _ _).trans (teq hc184_488).1) (by decide) (by decide) k_) ?_
    have f489 : Exa Z h487 x sc1 := ((((sp0_.ext E484).wr W485).wr W486).wr W487)
    have f490 : Fld Z h487 x sc1 "hashed" sc5 .null := ((((sp1_.ext E484).other W485 (Or.inl (Nat.ne_of_lt (Nat.lt_of_lt_of_le sp0_.lt (Nat.le_of_eq q484.symm))))).other W486 (Or.inl (Nat.ne_of_lt (Nat.lt_of_lt_of_le sp0_.lt (Nat.le_of_eq q484.symm))))).other W487 (Or.inl (Nat.ne_of_lt (Nat.lt_of_lt_of_le sp0_.lt (Nat.le_of_eq q484.symm)))))
    have f491 : Fld Z h487 x sc1 "members" sc3 (.ref ar) := ((((sp2_.ext E484).other W485 (Or.inl (Nat.ne_of_lt (Nat.lt_of_lt_of_le sp0_.lt (Nat.le_of_eq q484.symm))))).other W486 (Or.inl (Nat.ne_of_lt (Nat.lt_of_lt_of_le sp0_.lt (Nat.le_of_eq q484.symm))))).other W487 (Or.inl (Nat.ne_of_lt (Nat.lt_of_lt_of_le sp0_.lt (Nat.le_of_eq q484.symm)))))
    have f492 : Fld Z h487 x sc1 "size" "I" (.int 3) := ((((sp3_.ext E484).other W485 (Or.inl (Nat.ne_of_lt (Nat.lt_of_lt_of_le sp0_.lt (Nat.le_of_eq q484.symm))))).other W486 (Or.inl (Nat.ne_of_lt (Nat.lt_of_lt_of_le sp0_.lt (Nat.le_of_eq q484.symm))))).other W487 (Or.inl (Nat.ne_of_lt (Nat.lt_of_lt_of_le sp0_.lt (Nat.le_of_eq q484.symm)))))
    have f493 : Arv Z h487 ar k (.object sc2) z [(.ref r0), (.ref r1), (.ref r2)] .null := ((((sp4_.ext E484).other W485 (Nat.ne_of_lt (Nat.lt_of_lt_of_le sp4_.lt (Nat.le_of_eq q484.symm)))).other W486 (Nat.ne_of_lt (Nat.lt_of_lt_of_le sp4_.lt (Nat.le_of_eq q484.symm)))).other W487 (Nat.ne_of_lt (Nat.lt_of_lt_of_le sp4_.lt (Nat.le_of_eq q484.symm))))
    have f494 : Exa Z h487 ar sc3 := ((((sp5_.ext E484).wr W485).wr W486).wr W487)
    have f495 : Exa Z h487 r0 sc0 := ((((sp14_.ext E484).wr W485).wr W486).wr W487)
    have f496 : Fld Z h487 r0 sc0 "value" "I" (.int p1) := ((((sp15_.ext E484).other W485 (Or.inl (Nat.ne_of_lt (Nat.lt_of_lt_of_le sp14_.lt (Nat.le_of_eq q484.symm))))).other W486 (Or.inl (Nat.ne_of_lt (Nat.lt_of_lt_of_le sp14_.lt (Nat.le_of_eq q484.symm))))).other W487 (Or.inl (Nat.ne_of_lt (Nat.lt_of_lt_of_le sp14_.lt (Nat.le_of_eq q484.symm)))))
    have f497 : Exa Z h487 r1 sc0 := ((((sp16_.ext E484).wr W485).wr W486).wr W487)
    have f498 : Fld Z h487 r1 sc0 "value" "I" (.int p2) := ((((sp17_.ext E484).other W485 (Or.inl (Nat.ne_of_lt (Nat.lt_of_lt_of_le sp16_.lt (Nat.le_of_eq q484.symm))))).other W486 (Or.inl (Nat.ne_of_lt (Nat.lt_of_lt_of_le sp16_.lt (Nat.le_of_eq q484.symm))))).other W487 (Or.inl (Nat.ne_of_lt (Nat.lt_of_lt_of_le sp16_.lt (Nat.le_of_eq q484.symm)))))
    have f499 : Exa Z h487 r2 sc0 := ((((sp18_.ext E484).wr W485).wr W486).wr W487)
    have f500 : Fld Z h487 r2 sc0 "value" "I" (.int p3) := ((((sp19_.ext E484).other W485 (Or.inl (Nat.ne_of_lt (Nat.lt_of_lt_of_le sp18_.lt (Nat.le_of_eq q484.symm))))).other W486 (Or.inl (Nat.ne_of_lt (Nat.lt_of_lt_of_le sp18_.lt (Nat.le_of_eq q484.symm))))).other W487 (Or.inl (Nat.ne_of_lt (Nat.lt_of_lt_of_le sp18_.lt (Nat.le_of_eq q484.symm)))))
    have K501 : Keep h0 h487 [] := ((((Ks_.ext E484).wr W485 (Or.inr lo_b484)).wr W486 (Or.inr lo_b484)).wr W487 (Or.inr lo_b484))
    have O502 : Old Z n0 h487 := ((((Os_.ext E484).wr W485 g_b484).wr W486 g_b484).wr W487 g_b484)
    exact seg_e3u _ _ _ cp rk x ar b484 k k484 z r0 r1 r2 p1 p2 p3  (X487.more (by decide) (by decide)) e487 N487 K501 O502  f489 f490 f491 f492 f493 f494 hz0 hz1 hz2 f495 f496 f497 f498 f499 f500 V487
  · skip
    refine sp_ (fun t_ k_ => XS.ifNo X487.here hx rfl (B_ at_184) rfl ((if0 _ _).trans (feq hc184_488).1) k_) ?_
    show Go_ T487 (mkF mm_ 187 #[vi p1, vi p2, vi p3, vi p4, vi cp, vi rk, vr x, vi 1, vr b484, vi 3, un, un] [])
    refine sp_ (fun t_ k_ => XS.iload X487.here hx rfl (B_ at_187) rfl  (XS.iconst X487.here hx rfl (B_ at_189) k_)) ?_
    show Go_ T487 (mkF mm_ 190 #[vi p1, vi p2, vi p3, vi p4, vi cp, vi rk, vr x, vi 1, vr b484, vi 3, un, un] [(.int 1), (.int rk)])
    by_cases hc190_503 : rk = (1 : Int32)
    · skip
      refine sp_ (fun t_ k_ => XS.icmpNo X487.here hx rfl (B_ at_190) rfl (teq hc190_503).2 k_) ?_
      show Go_ T487 (mkF mm_ 193 #[vi p1, vi p2, vi p3, vi p4, vi cp, vi rk, vr x, vi 1, vr b484, vi 3, un, un] [])
      refine sp_ (fun t_ k_ => XS.iloadN X487.here hx rfl (B_ at_193) rfl  (XS.goto X487.here hx rfl (pc0 := 194) (pc' := 208) rfl (B_ at_194) (by decide) (by decide) (XS.istore X487.here hx rfl (B_ at_208) rfl (l' := #[vi p1, vi p2, vi p3, vi p4, vi cp, vi rk, vr x, vi 1, vr b484, vi 3, vi p1, un]) rfl k_))) ?_
      have f504 : Exa Z h487 x sc1 := ((((sp0_.ext E484).wr W485).wr W486).wr W487)
      have f505 : Fld Z h487 x sc1 "hashed" sc5 .null := ((((sp1_.ext E484).other W485 (Or.inl (Nat.ne_of_lt (Nat.lt_of_lt_of_le sp0_.lt (Nat.le_of_eq q484.symm))))).other W486 (Or.inl (Nat.ne_of_lt (Nat.lt_of_lt_of_le sp0_.lt (Nat.le_of_eq q484.symm))))).other W487 (Or.inl (Nat.ne_of_lt (Nat.lt_of_lt_of_le sp0_.lt (Nat.le_of_eq q484.symm)))))
      have f506 : Fld Z h487 x sc1 "members" sc3 (.ref ar) := ((((sp2_.ext E484).other W485 (Or.inl (Nat.ne_of_lt (Nat.lt_of_lt_of_le sp0_.lt (Nat.le_of_eq q484.symm))))).other W486 (Or.inl (Nat.ne_of_lt (Nat.lt_of_lt_of_le sp0_.lt (Nat.le_of_eq q484.symm))))).other W487 (Or.inl (Nat.ne_of_lt (Nat.lt_of_lt_of_le sp0_.lt (Nat.le_of_eq q484.symm)))))
      have f507 : Fld Z h487 x sc1 "size" "I" (.int 3) := ((((sp3_.ext E484).other W485 (Or.inl (Nat.ne_of_lt (Nat.lt_of_lt_of_le sp0_.lt (Nat.le_of_eq q484.symm))))).other W486 (Or.inl (Nat.ne_of_lt (Nat.lt_of_lt_of_le sp0_.lt (Nat.le_of_eq q484.symm))))).other W487 (Or.inl (Nat.ne_of_lt (Nat.lt_of_lt_of_le sp0_.lt (Nat.le_of_eq q484.symm)))))
      have f508 : Arv Z h487 ar k (.object sc2) z [(.ref r0), (.ref r1), (.ref r2)] .null := ((((sp4_.ext E484).other W485 (Nat.ne_of_lt (Nat.lt_of_lt_of_le sp4_.lt (Nat.le_of_eq q484.symm)))).other W486 (Nat.ne_of_lt (Nat.lt_of_lt_of_le sp4_.lt (Nat.le_of_eq q484.symm)))).other W487 (Nat.ne_of_lt (Nat.lt_of_lt_of_le sp4_.lt (Nat.le_of_eq q484.symm))))
      have f509 : Exa Z h487 ar sc3 := ((((sp5_.ext E484).wr W485).wr W486).wr W487)
      have f510 : Exa Z h487 r0 sc0 := ((((sp14_.ext E484).wr W485).wr W486).wr W487)
      have f511 : Fld Z h487 r0 sc0 "value" "I" (.int p1) := ((((sp15_.ext E484).other W485 (Or.inl (Nat.ne_of_lt (Nat.lt_of_lt_of_le sp14_.lt (Nat.le_of_eq q484.symm))))).other W486 (Or.inl (Nat.ne_of_lt (Nat.lt_of_lt_of_le sp14_.lt (Nat.le_of_eq q484.symm))))).other W487 (Or.inl (Nat.ne_of_lt (Nat.lt_of_lt_of_le sp14_.lt (Nat.le_of_eq q484.symm)))))
      have f512 : Exa Z h487 r1 sc0 := ((((sp16_.ext E484).wr W485).wr W486).wr W487)
      have f513 : Fld Z h487 r1 sc0 "value" "I" (.int p2) := ((((sp17_.ext E484).other W485 (Or.inl (Nat.ne_of_lt (Nat.lt_of_lt_of_le sp16_.lt (Nat.le_of_eq q484.symm))))).other W486 (Or.inl (Nat.ne_of_lt (Nat.lt_of_lt_of_le sp16_.lt (Nat.le_of_eq q484.symm))))).other W487 (Or.inl (Nat.ne_of_lt (Nat.lt_of_lt_of_le sp16_.lt (Nat.le_of_eq q484.symm)))))
      have f514 : Exa Z h487 r2 sc0 := ((((sp18_.ext E484).wr W485).wr W486).wr W487)
      have f515 : Fld Z h487 r2 sc0 "value" "I" (.int p3) := ((((sp19_.ext E484).other W485 (Or.inl (Nat.ne_of_lt (Nat.lt_of_lt_of_le sp18_.lt (Nat.le_of_eq q484.symm))))).other W486 (Or.inl (Nat.ne_of_lt (Nat.lt_of_lt_of_le sp18_.lt (Nat.le_of_eq q484.symm))))).other W487 (Or.inl (Nat.ne_of_lt (Nat.lt_of_lt_of_le sp18_.lt (Nat.le_of_eq q484.symm)))))
      have K516 : Keep h0 h487 [] := ((((Ks_.ext E484).wr W485 (Or.inr lo_b484)).wr W486 (Or.inr lo_b484)).wr W487 (Or.inr lo_b484))
      have O517 : Old Z n0 h487 := ((((Os_.ext E484).wr W485 g_b484).wr W486 g_b484).wr W487 g_b484)
      exact seg_g3_0 _ _ _ cp rk x ar b484 k k484 z p1 r0 r1 r2 p1 p2 p3  (X487.more (by decide) (by decide)) e487 N487 K516 O517  f504 f505 f506 f507 f508 f509 hov g_x g_ar hz0 hz1 hz2 hf2 hf3 f510 f511 f512 f513 f514 f515 V487 g_b484 (Ne.symm (Nat.ne_of_lt (Nat.lt_of_lt_of_le sp4_.lt (Nat.le_of_eq q484.symm)))) (Nat.ne_of_lt (Nat.lt_of_lt_of_le sp0_.lt (Nat.le_of_eq q484.symm))) (Nat.ne_of_lt (Nat.lt_of_lt_of_le sp14_.lt (Nat.le_of_eq q484.symm))) (Nat.ne_of_lt (Nat.lt_of_lt_of_le sp16_.lt (Nat.le_of_eq q484.symm))) (Nat.ne_of_lt (Nat.lt_of_lt_of_le sp18_.lt (Nat.le_of_eq q484.symm))) rfl
    · skip
      refine sp_ (fun t_ k_ => XS.icmpYes X487.here hx rfl (pc0 := 190) (pc' := 197) rfl (B_ at_190) rfl (feq hc190_503).2 (by decide) (by decide) k_) ?_
      show Go_ T487 (mkF mm_ 197 #[vi p1, vi p2, vi p3, vi p4, vi cp, vi rk, vr x, vi 1, vr b484, vi 3, un, un] [])
      refine sp_ (fun t_ k_ => XS.iload X487.here hx rfl (B_ at_197) rfl  (XS.iconst X487.here hx rfl (B_ at_199) k_)) ?_
      show Go_ T487 (mkF mm_ 200 #[vi p1, vi p2, vi p3, vi p4, vi cp, vi rk, vr x, vi 1, vr b484, vi 3, un, un] [(.int 2), (.int rk)])
      by_cases hc200_518 : rk = (2 : Int32)
      · skip
        refine sp_ (fun t_ k_ => XS.icmpNo X487.here hx rfl (B_ at_200) rfl (teq hc200_518).2 k_) ?_
        show Go_ T487 (mkF mm_ 203 #[vi p1, vi p2, vi p3, vi p4, vi cp, vi rk, vr x, vi 1, vr b484, vi 3, un, un] [])
        refine sp_ (fun t_ k_ => XS.iloadN X487.here hx rfl (B_ at_203) rfl  (XS.goto X487.here hx rfl (pc0 := 204) (pc' := 208) rfl (B_ at_204) (by decide) (by decide) (XS.istore X487.here hx rfl (B_ at_208) rfl (l' := #[vi p1, vi p2, vi p3, vi p4, vi cp, vi rk, vr x, vi 1, vr b484, vi 3, vi p2, un]) rfl k_))) ?_
        have f519 : Exa Z h487 x sc1 := ((((sp0_.ext E484).wr W485).wr W486).wr W487)
        have f520 : Fld Z h487 x sc1 "hashed" sc5 .null := ((((sp1_.ext E484).other W485 (Or.inl (Nat.ne_of_lt (Nat.lt_of_lt_of_le sp0_.lt (Nat.le_of_eq q484.symm))))).other W486 (Or.inl (Nat.ne_of_lt (Nat.lt_of_lt_of_le sp0_.lt (Nat.le_of_eq q484.symm))))).other W487 (Or.inl (Nat.ne_of_lt (Nat.lt_of_lt_of_le sp0_.lt (Nat.le_of_eq q484.symm)))))
        have f521 : Fld Z h487 x sc1 "members" sc3 (.ref ar) := ((((sp2_.ext E484).other W485 (Or.inl (Nat.ne_of_lt (Nat.lt_of_lt_of_le sp0_.lt (Nat.le_of_eq q484.symm))))).other W486 (Or.inl (Nat.ne_of_lt (Nat.lt_of_lt_of_le sp0_.lt (Nat.le_of_eq q484.symm))))).other W487 (Or.inl (Nat.ne_of_lt (Nat.lt_of_lt_of_le sp0_.lt (Nat.le_of_eq q484.symm)))))
        have f522 : Fld Z h487 x sc1 "size" "I" (.int 3) := ((((sp3_.ext E484).other W485 (Or.inl (Nat.ne_of_lt (Nat.lt_of_lt_of_le sp0_.lt (Nat.le_of_eq q484.symm))))).other W486 (Or.inl (Nat.ne_of_lt (Nat.lt_of_lt_of_le sp0_.lt (Nat.le_of_eq q484.symm))))).other W487 (Or.inl (Nat.ne_of_lt (Nat.lt_of_lt_of_le sp0_.lt (Nat.le_of_eq q484.symm)))))
        have f523 : Arv Z h487 ar k (.object sc2) z [(.ref r0), (.ref r1), (.ref r2)] .null := ((((sp4_.ext E484).other W485 (Nat.ne_of_lt (Nat.lt_of_lt_of_le sp4_.lt (Nat.le_of_eq q484.symm)))).other W486 (Nat.ne_of_lt (Nat.lt_of_lt_of_le sp4_.lt (Nat.le_of_eq q484.symm)))).other W487 (Nat.ne_of_lt (Nat.lt_of_lt_of_le sp4_.lt (Nat.le_of_eq q484.symm))))
        have f524 : Exa Z h487 ar sc3 := ((((sp5_.ext E484).wr W485).wr W486).wr W487)
        have f525 : Exa Z h487 r0 sc0 := ((((sp14_.ext E484).wr W485).wr W486).wr W487)
        have f526 : Fld Z h487 r0 sc0 "value" "I" (.int p1) := ((((sp15_.ext E484).other W485 (Or.inl (Nat.ne_of_lt (Nat.lt_of_lt_of_le sp14_.lt (Nat.le_of_eq q484.symm))))).other W486 (Or.inl (Nat.ne_of_lt (Nat.lt_of_lt_of_le sp14_.lt (Nat.le_of_eq q484.symm))))).other W487 (Or.inl (Nat.ne_of_lt (Nat.lt_of_lt_of_le sp14_.lt (Nat.le_of_eq q484.symm)))))
        have f527 : Exa Z h487 r1 sc0 := ((((sp16_.ext E484).wr W485).wr W486).wr W487)
        have f528 : Fld Z h487 r1 sc0 "value" "I" (.int p2) := ((((sp17_.ext E484).other W485 (Or.inl (Nat.ne_of_lt (Nat.lt_of_lt_of_le sp16_.lt (Nat.le_of_eq q484.symm))))).other W486 (Or.inl (Nat.ne_of_lt (Nat.lt_of_lt_of_le sp16_.lt (Nat.le_of_eq q484.symm))))).other W487 (Or.inl (Nat.ne_of_lt (Nat.lt_of_lt_of_le sp16_.lt (Nat.le_of_eq q484.symm)))))
        have f529 : Exa Z h487 r2 sc0 := ((((sp18_.ext E484).wr W485).wr W486).wr W487)
        have f530 : Fld Z h487 r2 sc0 "value" "I" (.int p3) := ((((sp19_.ext E484).other W485 (Or.inl (Nat.ne_of_lt (Nat.lt_of_lt_of_le sp18_.lt (Nat.le_of_eq q484.symm))))).other W486 (Or.inl (Nat.ne_of_lt (Nat.lt_of_lt_of_le sp18_.lt (Nat.le_of_eq q484.symm))))).other W487 (Or.inl (Nat.ne_of_lt (Nat.lt_of_lt_of_le sp18_.lt (Nat.le_of_eq q484.symm)))))
        have K531 : Keep h0 h487 [] := ((((Ks_.ext E484).wr W485 (Or.inr lo_b484)).wr W486 (Or.inr lo_b484)).wr W487 (Or.inr lo_b484))
        have O532 : Old Z n0 h487 := ((((Os_.ext E484).wr W485 g_b484).wr W486 g_b484).wr W487 g_b484)
        exact seg_g3_1 _ _ _ cp rk x ar b484 k k484 z p2 r0 r1 r2 p1 p2 p3  (X487.more (by decide) (by decide)) e487 N487 K531 O532  f519 f520 f521 f522 f523 f524 hov g_x g_ar hz0 hz1 hz2 hf2 hf3 f525 f526 f527 f528 f529 f530 V487 g_b484 (Ne.symm (Nat.ne_of_lt (Nat.lt_of_lt_of_le sp4_.lt (Nat.le_of_eq q484.symm)))) (Nat.ne_of_lt (Nat.lt_of_lt_of_le sp0_.lt (Nat.le_of_eq q484.symm))) (Nat.ne_of_lt (Nat.lt_of_lt_of_le sp14_.lt (Nat.le_of_eq q484.symm))) (Nat.ne_of_lt (Nat.lt_of_lt_of_le sp16_.lt (Nat.le_of_eq q484.symm))) (Nat.ne_of_lt (Nat.lt_of_lt_of_le sp18_.lt (Nat.le_of_eq q484.symm))) (fun q_ => hc0 q_.symm) rfl
      · skip
        refine sp_ (fun t_ k_ => XS.icmpYes X487.here hx rfl (pc0 := 200) (pc' := 207) rfl (B_ at_200) rfl (feq hc200_518).2 (by decide) (by decide) k_) ?_
        show Go_ T487 (mkF mm_ 207 #[vi p1, vi p2, vi p3, vi p4, vi cp, vi rk, vr x, vi 1, vr b484, vi 3, un, un] [])
        refine sp_ (fun t_ k_ => XS.iloadN X487.here hx rfl (B_ at_207) rfl  (XS.istore X487.here hx rfl (B_ at_208) rfl (l' := #[vi p1, vi p2, vi p3, vi p4, vi cp, vi rk, vr x, vi 1, vr b484, vi 3, vi p3, un]) rfl k_)) ?_
        have f533 : Exa Z h487 x sc1 := ((((sp0_.ext E484).wr W485).wr W486).wr W487)
        have f534 : Fld Z h487 x sc1 "hashed" sc5 .null := ((((sp1_.ext E484).other W485 (Or.inl (Nat.ne_of_lt (Nat.lt_of_lt_of_le sp0_.lt (Nat.le_of_eq q484.symm))))).other W486 (Or.inl (Nat.ne_of_lt (Nat.lt_of_lt_of_le sp0_.lt (Nat.le_of_eq q484.symm))))).other W487 (Or.inl (Nat.ne_of_lt (Nat.lt_of_lt_of_le sp0_.lt (Nat.le_of_eq q484.symm)))))
        have f535 : Fld Z h487 x sc1 "members" sc3 (.ref ar) := ((((sp2_.ext E484).other W485 (Or.inl (Nat.ne_of_lt (Nat.lt_of_lt_of_le sp0_.lt (Nat.le_of_eq q484.symm))))).other W486 (Or.inl (Nat.ne_of_lt (Nat.lt_of_lt_of_le sp0_.lt (Nat.le_of_eq q484.symm))))).other W487 (Or.inl (Nat.ne_of_lt (Nat.lt_of_lt_of_le sp0_.lt (Nat.le_of_eq q484.symm)))))
        have f536 : Fld Z h487 x sc1 "size" "I" (.int 3) := ((((sp3_.ext E484).other W485 (Or.inl (Nat.ne_of_lt (Nat.lt_of_lt_of_le sp0_.lt (Nat.le_of_eq q484.symm))))).other W486 (Or.inl (Nat.ne_of_lt (Nat.lt_of_lt_of_le sp0_.lt (Nat.le_of_eq q484.symm))))).other W487 (Or.inl (Nat.ne_of_lt (Nat.lt_of_lt_of_le sp0_.lt (Nat.le_of_eq q484.symm)))))
        have f537 : Arv Z h487 ar k (.object sc2) z [(.ref r0), (.ref r1), (.ref r2)] .null := ((((sp4_.ext E484).other W485 (Nat.ne_of_lt (Nat.lt_of_lt_of_le sp4_.lt (Nat.le_of_eq q484.symm)))).other W486 (Nat.ne_of_lt (Nat.lt_of_lt_of_le sp4_.lt (Nat.le_of_eq q484.symm)))).other W487 (Nat.ne_of_lt (Nat.lt_of_lt_of_le sp4_.lt (Nat.le_of_eq q484.symm))))
        have f538 : Exa Z h487 ar sc3 := ((((sp5_.ext E484).wr W485).wr W486).wr W487)
        have f539 : Exa Z h487 r0 sc0 := ((((sp14_.ext E484).wr W485).wr W486).wr W487)
        have f540 : Fld Z h487 r0 sc0 "value" "I" (.int p1) := ((((sp15_.ext E484).other W485 (Or.inl (Nat.ne_of_lt (Nat.lt_of_lt_of_le sp14_.lt (Nat.le_of_eq q484.symm))))).other W486 (Or.inl (Nat.ne_of_lt (Nat.lt_of_lt_of_le sp14_.lt (Nat.le_of_eq q484.symm))))).other W487 (Or.inl (Nat.ne_of_lt (Nat.lt_of_lt_of_le sp14_.lt (Nat.le_of_eq q484.symm)))))
        have f541 : Exa Z h487 r1 sc0 := ((((sp16_.ext E484).wr W485).wr W486).wr W487)
        have f542 : Fld Z h487 r1 sc0 "value" "I" (.int p2) := ((((sp17_.ext E484).other W485 (Or.inl (Nat.ne_of_lt (Nat.lt_of_lt_of_le sp16_.lt (Nat.le_of_eq q484.symm))))).other W486 (Or.inl (Nat.ne_of_lt (Nat.lt_of_lt_of_le sp16_.lt (Nat.le_of_eq q484.symm))))).other W487 (Or.inl (Nat.ne_of_lt (Nat.lt_of_lt_of_le sp16_.lt (Nat.le_of_eq q484.symm)))))
        have f543 : Exa Z h487 r2 sc0 := ((((sp18_.ext E484).wr W485).wr W486).wr W487)
        have f544 : Fld Z h487 r2 sc0 "value" "I" (.int p3) := ((((sp19_.ext E484).other W485 (Or.inl (Nat.ne_of_lt (Nat.lt_of_lt_of_le sp18_.lt (Nat.le_of_eq q484.symm))))).other W486 (Or.inl (Nat.ne_of_lt (Nat.lt_of_lt_of_le sp18_.lt (Nat.le_of_eq q484.symm))))).other W487 (Or.inl (Nat.ne_of_lt (Nat.lt_of_lt_of_le sp18_.lt (Nat.le_of_eq q484.symm)))))
        have K545 : Keep h0 h487 [] := ((((Ks_.ext E484).wr W485 (Or.inr lo_b484)).wr W486 (Or.inr lo_b484)).wr W487 (Or.inr lo_b484))
        have O546 : Old Z n0 h487 := ((((Os_.ext E484).wr W485 g_b484).wr W486 g_b484).wr W487 g_b484)
        exact seg_g3_2 _ _ _ cp rk x ar b484 k k484 z p3 r0 r1 r2 p1 p2 p3  (X487.more (by decide) (by decide)) e487 N487 K545 O546  f533 f534 f535 f536 f537 f538 hov g_x g_ar hz0 hz1 hz2 hf2 hf3 f539 f540 f541 f542 f543 f544 V487 g_b484 (Ne.symm (Nat.ne_of_lt (Nat.lt_of_lt_of_le sp4_.lt (Nat.le_of_eq q484.symm)))) (Nat.ne_of_lt (Nat.lt_of_lt_of_le sp0_.lt (Nat.le_of_eq q484.symm))) (Nat.ne_of_lt (Nat.lt_of_lt_of_le sp14_.lt (Nat.le_of_eq q484.symm))) (Nat.ne_of_lt (Nat.lt_of_lt_of_le sp16_.lt (Nat.le_of_eq q484.symm))) (Nat.ne_of_lt (Nat.lt_of_lt_of_le sp18_.lt (Nat.le_of_eq q484.symm))) (fun q_ => hc1 q_.symm) (fun q_ => hc2 q_.symm) rfl
 have seg_c : ∀ (Ts_ : State) (locs_ : List Loc) (hs_ : Heap) (cp : Int32) (rk : Int32) (x : Addr) (ar : Addr) (k : ClassId) (z : Int32) (Xs_ : Stand pp_ l ee_ room_1 ss_ mm_ #[(.int p1), (.int p2), (.int p3), (.int p4)] bb_ me_ cc_ Ts_ locs_ 3 14) (es_ : Ts_.heap = hs_) (Ns_ : Fr n0 locs_) (Ks_ : Keep h0 hs_ []) (Os_ : Old Z n0 hs_)  (sp0_ : Exa Z hs_ x sc1) (sp1_ : Fld Z hs_ x sc1 "hashed" sc5 .null) (sp2_ : Fld Z hs_ x sc1 "members" sc3 (.ref ar)) (sp3_ : Fld Z hs_ x sc1 "size" "I" (.int 0)) (sp4_ : Arv Z hs_ ar k (.object sc2) z [] .null) (sp5_ : Exa Z hs_ ar sc3) (hov : Ovr Z k sc2) (g_x : n0 ≤ x) (g_ar : n0 ≤ ar) (hnz : ¬ (z < (0 : Int32))), own_Go pp_ ee_ bb_ (fun s₂ oo_ => s₂.status = .running ∧ Ended s₂ bb_ oo_ ∧ (∃ vv_ LL_, oo_ = .returned vv_ ∧ Qrm0 Z p1 p2 p3 p4 h0 n0 vv_ s₂.heap LL_ ∧ FrameEnd ss_ oo_ s₂ LL_ room_1.cells room_1.slots)) Ts_ (mkF mm_ 26 #[vi p1, vi p2, vi p3, vi p4, vi cp, vi rk, vr x, vi 1, un, un, un, un] []) := by
  intro Ts_ locs_ hs_ cp rk x ar k z  Xs_ es_ Ns_ Ks_ Os_  sp0_ sp1_ sp2_ sp3_ sp4_ sp5_ hov g_x g_ar hnz
  show Go_ Ts_ (mkF mm_ 26 #[vi p1, vi p2, vi p3, vi p4, vi cp, vi rk, vr x, vi 1, un, un, un, un] [])
  refine sp_ (fun t_ k_ => XS.iload Xs_.here hx rfl (B_ at_26) rfl  k_) ?_
  show Go_ Ts_ (mkF mm_ 28 #[vi p1, vi p2, vi p3, vi p4, vi cp, vi rk, vr x, vi 1, un, un, un, un] [(.int 1)])
  refine sp_ (fun t_ k_ => XS.ifNo Xs_.here hx rfl (B_ at_28) rfl ((if0 _ _).trans (feq (by decide : ¬ ((1 : Int32) = (0 : Int32)))).1) k_) ?_
  show Go_ Ts_ (mkF mm_ 31 #[vi p1, vi p2, vi p3, vi p4, vi cp, vi rk, vr x, vi 1, un, un, un, un] [])
  refine sp_ (fun t_ k_ => XS.aload Xs_.here hx rfl (B_ at_31) rfl rfl (XS.iloadN Xs_.here hx rfl (B_ at_33) rfl  k_)) ?_
  obtain ⟨_, T547, Lc547, X547, hQ547, st547⟩ := own_cS Xs_ hx hZ hown (w_ hw 28 rfl) (w_ hw 29 rfl) (w_ hw 30 rfl) (w_ hw 31 rfl) (by decide) (backOf (W := 1) (rmVO l Z a0 hw [] p1 hs_ n0 Os_ G_ ) hZ (w_ hw 31 rfl) (w_ hw 30 rfl) (by decide) (by decide)) (g := (mkF mm_ 34 #[vi p1, vi p2, vi p3, vi p4, vi cp, vi rk, vr x, vi 1, un, un, un, un] [(.int p1), (.ref x)])) rfl hml.symm (argsL := [(.int p1)]) (rest := [(.ref x)]) (lenOf pd_15 rfl) rfl (Nat.le_of_eq rfl) (B_ at_34) rfl es_ (by decide) (by decide)
  obtain ⟨r_547, rfl, Nq547, Kc547, r547_0, r547_1⟩ := hQ547
  have N547 := Fr.app Ns_ Nq547
  refine jp_ st547 ?_
  show Go_ T547 (mkF mm_ 37 #[vi p1, vi p2, vi p3, vi p4, vi cp, vi rk, vr x, vi 1, un, un, un, un] [(.ref r_547), (.ref x)])
  have f549 : Exa Z T547.heap x sc1 := (sp0_.keep Kc547)
  have f550 : Fld Z T547.heap x sc1 "hashed" sc5 .null := (sp1_.keep Kc547 nin0)
  have f551 : Fld Z T547.heap x sc1 "members" sc3 (.ref ar) := (sp2_.keep Kc547 nin0)
  have f552 : Fld Z T547.heap x sc1 "size" "I" (.int 0) := (sp3_.keep Kc547 nin0)
  have f553 : Arv Z T547.heap ar k (.object sc2) z [] .null := (sp4_.keep Kc547 nin0)
  have f554 : Exa Z T547.heap ar sc3 := (sp5_.keep Kc547)
  have O555 : Old Z n0 T547.heap := (Os_.keep Kc547 all0)
  obtain ⟨_, T548, Lc548, X548, hQ548, st548⟩ := own_cV X547 hx hZ hown (w_ hw 35 rfl) (w_ hw 36 rfl) (notFace_of_selects (args := #[]) (mvT hZ (w_ hw 38 rfl))) (w_ hw 38 rfl) (w_ hw 37 rfl) (by decide) (backOf (W := 0) (rmAd0 l Z a0 hw [] x r_547 ar k z p1 T547.heap n0 O555 G_ f549 f550 f551 f552 f553 f554 hnz hov g_x g_ar r547_0 r547_1) hZ (w_ hw 39 rfl) (w_ hw 2 rfl) (by decide) (by decide)) f549 (g := (mkF mm_ 37 #[vi p1, vi p2, vi p3, vi p4, vi cp, vi rk, vr x, vi 1, un, un, un, un] [(.ref r_547), (.ref x)])) rfl hml.symm (argsL := [(.ref r_547)]) (rest := []) (lenOf pd_4 rfl) rfl (Nat.le_of_eq rfl) (B_ at_37) rfl rfl (by decide) (by decide)
  obtain ⟨nr_548, k2_548, z2_548, rfl, Nq548, Kc548, r548_0, r548_1, r548_2, r548_3, r548_4, r548_5, r548_6, r548_7⟩ := hQ548
  have N548 := Fr.app N547 Nq548
  have g_nr_548 := r548_0
  refine jp_ st548 ?_
  show Go_ T548 (mkF mm_ 40 #[vi p1, vi p2, vi p3, vi p4, vi cp, vi rk, vr x, vi 1, un, un, un, un] [(.int 1)])
  refine sp_ (fun t_ k_ => XS.ifNo X548.here hx rfl (B_ at_40) rfl ((if0 _ _).trans (feq (by decide : ¬ ((1 : Int32) = (0 : Int32)))).1) k_) ?_
  show Go_ T548 (mkF mm_ 43 #[vi p1, vi p2, vi p3, vi p4, vi cp, vi rk, vr x, vi 1, un, un, un, un] [])
  refine sp_ (fun t_ k_ => XS.iconst X548.here hx rfl (B_ at_43) (XS.goto X548.here hx rfl (pc0 := 44) (pc' := 48) rfl (B_ at_44) (by decide) (by decide) (XS.istore X548.here hx rfl (B_ at_48) rfl (l' := #[vi p1, vi p2, vi p3, vi p4, vi cp, vi rk, vr x, vi 1, un, un, un, un]) rfl (XS.iload X548.here hx rfl (B_ at_50) rfl  k_)))) ?_
  show Go_ T548 (mkF mm_ 52 #[vi p1, vi p2, vi p3, vi p4, vi cp, vi rk, vr x, vi 1, un, un, un, un] [(.int 1)])
  refine sp_ (fun t_ k_ => XS.ifNo X548.here hx rfl (B_ at_52) rfl ((if0 _ _).trans (feq (by decide : ¬ ((1 : Int32) = (0 : Int32)))).1) k_) ?_
  show Go_ T548 (mkF mm_ 55 #[vi p1, vi p2, vi p3, vi p4, vi cp, vi rk, vr x, vi 1, un, un, un, un] [])
  refine sp_ (fun t_ k_ => XS.aload X548.here hx rfl (B_ at_55) rfl rfl (XS.iloadN X548.here hx rfl (B_ at_57) rfl  k_)) ?_
  have O557 : Old Z n0 T548.heap := (O555.keep Kc548 (allS g_x (allS g_ar all0)))
  obtain ⟨_, T556, Lc556, X556, hQ556, st556⟩ := own_cS X548 hx hZ hown (w_ hw 28 rfl) (w_ hw 29 rfl) (w_ hw 30 rfl) (w_ hw 31 rfl) (by decide) (backOf (W := 1) (rmVO l Z a0 hw [] p2 T548.heap n0 O557 G_ ) hZ (w_ hw 31 rfl) (w_ hw 30 rfl) (by decide) (by decide)) (g := (mkF mm_ 58 #[vi p1, vi p2, vi p3, vi p4, vi cp, vi rk, vr x, vi 1, un, un, un, un] [(.int p2), (.ref x)])) rfl hml.symm (argsL := [(.int p2)]) (rest := [(.ref x)]) (lenOf pd_15 rfl) rfl (Nat.le_of_eq rfl) (B_ at_58) rfl rfl (by decide) (by decide)
  obtain ⟨r_556, rfl, Nq556, Kc556, r556_0, r556_1⟩ := hQ556
  have N556 := Fr.app N548 Nq556
  refine jp_ st556 ?_
  show Go_ T556 (mkF mm_ 61 #[vi p1, vi p2, vi p3, vi p4, vi cp, vi rk, vr x, vi 1, un, un, un, un] [(.ref r_556), (.ref x)])
  by_cases hq558 : p2 = p1
  · skip
    have f560 : Exa Z T556.heap x sc1 := ((f549.keep Kc548).keep Kc556)
    have f561 : Fld Z T556.heap x sc1 "hashed" sc5 .null := (r548_2.keep Kc556 nin0)
    have f562 : Fld Z T556.heap x sc1 "members" sc3 (.ref nr_548) := (r548_3.keep Kc556 nin0)
    have f563 : Fld Z T556.heap x sc1 "size" "I" (.int 1) := (r548_4.keep Kc556 nin0)
    have f564 : Arv Z T556.heap nr_548 k2_548 (.object sc2) z2_548 [(.ref r_547)] .null := (r548_5.keep Kc556 nin0)
    have f565 : Exa Z T556.heap nr_548 sc3 := (r548_1.keep Kc556)
    have f566 : Exa Z T556.heap r_547 sc0 := ((r547_0.keep Kc548).keep Kc556)
    have f567 : Fld Z T556.heap r_547 sc0 "value" "I" (.int p1) := ((r547_1.keep Kc548 (ninS (Exa.ne r547_0 f549 (by decide)) (ninS (Exa.ne r547_0 f554 (by decide)) nin0))).keep Kc556 nin0)
    have O568 : Old Z n0 T556.heap := (O557.keep Kc556 all0)
    obtain ⟨_, T559, Lc559, X559, hQ559, st559⟩ := own_cV X556 hx hZ hown (w_ hw 35 rfl) (w_ hw 36 rfl) (notFace_of_selects (args := #[]) (mvT hZ (w_ hw 38 rfl))) (w_ hw 38 rfl) (w_ hw 37 rfl) (by decide) (backOf (W := 0) (rmAdF1_0 l Z a0 hw [] x r_556 nr_548 k2_548 z2_548 r_547 p1 p2 T556.heap n0 O568 f560 f561 f562 f563 f564 f565 r548_7 f566 f567 r556_0 r556_1 hq558.symm) hZ (w_ hw 39 rfl) (w_ hw 2 rfl) (by decide) (by decide)) f560 (g := (mkF mm_ 61 #[vi p1, vi p2, vi p3, vi p4, vi cp, vi rk, vr x, vi 1, un, un, un, un] [(.ref r_556), (.ref x)])) rfl hml.symm (argsL := [(.ref r_556)]) (rest := []) (lenOf pd_4 rfl) rfl (Nat.le_of_eq rfl) (B_ at_61) rfl rfl (by decide) (by decide)
    obtain ⟨rfl, rfl, Eh559⟩ := hQ559
    have N559 := Fr.app N556 (Fr.nil n0)
    refine jp_ st559 ?_
    show Go_ T559 (mkF mm_ 64 #[vi p1, vi p2, vi p3, vi p4, vi cp, vi rk, vr x, vi 1, un, un, un, un] [(.int 0)])
    refine sp_ (fun t_ k_ => XS.iloadN X559.here hx rfl (B_ at_64) rfl  (XS.iloadN X559.here hx rfl (B_ at_65) rfl  k_)) ?_
    show Go_ T559 (mkF mm_ 66 #[vi p1, vi p2, vi p3, vi p4, vi cp, vi rk, vr x, vi 1, un, un, un, un] [(.int p1), (.int p2), (.int 0)])
    refine sp_ (fun t_ k_ => XS.icmpYes X559.here hx rfl (pc0 := 66) (pc' := 73) rfl (B_ at_66) rfl (teq hq558).1 (by decide) (by decide) k_) ?_
    show Go_ T559 (mkF mm_ 73 #[vi p1, vi p2, vi p3, vi p4, vi cp, vi rk, vr x, vi 1, un, un, un, un] [(.int 0)])
    refine sp_ (fun t_ k_ => XS.iconst X559.here hx rfl (B_ at_73) k_) ?_
    show Go_ T559 (mkF mm_ 74 #[vi p1, vi p2, vi p3, vi p4, vi cp, vi rk, vr x, vi 1, un, un, un, un] [(.int 0), (.int 0)])
    refine sp_ (fun t_ k_ => XS.icmpNo X559.here hx rfl (B_ at_74) rfl (teq (by decide : (0 : Int32) = (0 : Int32))).2 k_) ?_
    show Go_ T559 (mkF mm_ 77 #[vi p1, vi p2, vi p3, vi p4, vi cp, vi rk, vr x, vi 1, un, un, un, un] [])
    refine sp_ (fun t_ k_ => XS.iconst X559.here hx rfl (B_ at_77) (XS.goto X559.here hx rfl (pc0 := 78) (pc' := 82) rfl (B_ at_78) (by decide) (by decide) (XS.istore X559.here hx rfl (B_ at_82) rfl (l' := #[vi p1, vi p2, vi p3, vi p4, vi cp, vi rk, vr x, vi 1, un, un, un, un]) rfl (XS.iload X559.here hx rfl (B_ at_84) rfl  k_)))) ?_
    show Go_ T559 (mkF mm_ 86 #[vi p1, vi p2, vi p3, vi p4, vi cp, vi rk, vr x, vi 1, un, un, un, un] [(.int 1)])
    refine sp_ (fun t_ k_ => XS.ifNo X559.here hx rfl (B_ at_86) rfl ((if0 _ _).trans (feq (by decide : ¬ ((1 : Int32) = (0 : Int32)))).1) k_) ?_
    show Go_ T559 (mkF mm_ 89 #[vi p1, vi p2, vi p3, vi p4, vi cp, vi rk, vr x, vi 1, un, un, un, un] [])
    refine sp_ (fun t_ k_ => XS.aload X559.here hx rfl (B_ at_89) rfl rfl (XS.iloadN X559.here hx rfl (B_ at_91) rfl  k_)) ?_
    obtain ⟨_, T569, Lc569, X569, hQ569, st569⟩ := own_cS X559 hx hZ hown (w_ hw 28 rfl) (w_ hw 29 rfl) (w_ hw 30 rfl) (w_ hw 31 rfl) (by decide) (backOf (W := 1) (rmVO l Z a0 hw [] p3 T556.heap n0 O568 G_ ) hZ (w_ hw 31 rfl) (w_ hw 30 rfl) (by decide) (by decide)) (g := (mkF mm_ 92 #[vi p1, vi p2, vi p3, vi p4, vi cp, vi rk, vr x, vi 1, un, un, un, un] [(.int p3), (.ref x)])) rfl hml.symm (argsL := [(.int p3)]) (rest := [(.ref x)]) (lenOf pd_15 rfl) rfl (Nat.le_of_eq rfl) (B_ at_92) rfl Eh559 (by decide) (by decide)
    obtain ⟨r_569, rfl, Nq569, Kc569, r569_0, r569_1⟩ := hQ569
    have N569 := Fr.app N559 Nq569
    refine jp_ st569 ?_
    show Go_ T569 (mkF mm_ 95 #[vi p1, vi p2, vi p3, vi p4, vi cp, vi rk, vr x, vi 1, un, un, un, un] [(.ref r_569), (.ref x)])
    by_cases hq570 : p3 = p1
    · skip
      have f572 : Exa Z T569.heap x sc1 := (f560.keep Kc569)
      have f573 : Fld Z T569.heap x sc1 "hashed" sc5 .null := (f561.keep Kc569 nin0)
      have f574 : Fld Z T569.heap x sc1 "members" sc3 (.ref nr_548) := (f562.keep Kc569 nin0)
      have f575 : Fld Z T569.heap x sc1 "size" "I" (.int 1) := (f563.keep Kc569 nin0)
      have f576 : Arv Z T569.heap nr_548 k2_548 (.object sc2) z2_548 [(.ref r_547)] .null := (f564.keep Kc569 nin0)
      have f577 : Exa Z T569.heap nr_548 sc3 := (f565.keep Kc569)
      have f578 : Exa Z T569.heap r_547 sc0 := (f566.keep Kc569)
      have f579 : Fld Z T569.heap r_547 sc0 "value" "I" (.int p1) := (f567.keep Kc569 nin0)
      have O580 : Old Z n0 T569.heap := (O568.keep Kc569 all0)
      obtain ⟨_, T571, Lc571, X571, hQ571, st571⟩ := own_cV X569 hx hZ hown (w_ hw 35 rfl) (w_ hw 36 rfl) (notFace_of_selects (args := #[]) (mvT hZ (w_ hw 38 rfl))) (w_ hw 38 rfl) (w_ hw 37 rfl) (by decide) (backOf (W := 0) (rmAdF1_0 l Z a0 hw [] x r_569 nr_548 k2_548 z2_548 r_547 p1 p3 T569.heap n0 O580 f572 f573 f574 f575 f576 f577 r548_7 f578 f579 r569_0 r569_1 hq570.symm) hZ (w_ hw 39 rfl) (w_ hw 2 rfl) (by decide) (by decide)) f572 (g := (mkF mm_ 95 #[vi p1, vi p2, vi p3, vi p4, vi cp, vi rk, vr x, vi 1, un, un, un, un] [(.ref r_569), (.ref x)])) rfl hml.symm (argsL := [(.ref r_569)]) (rest := []) (lenOf pd_4 rfl) rfl (Nat.le_of_eq rfl) (B_ at_95) rfl rfl (by decide) (by decide)
      obtain ⟨rfl, rfl, Eh571⟩ := hQ571
      have N571 := Fr.app N569 (Fr.nil n0)
      refine jp_ st571 ?_
      show Go_ T571 (mkF mm_ 98 #[vi p1, vi p2, vi p3, vi p4, vi cp, vi rk, vr x, vi 1, un, un, un, un] [(.int 0)])
      refine sp_ (fun t_ k_ => XS.iloadN X571.here hx rfl (B_ at_98) rfl  (XS.iloadN X571.here hx rfl (B_ at_99) rfl  k_)) ?_
      show Go_ T571 (mkF mm_ 100 #[vi p1, vi p2, vi p3, vi p4, vi cp, vi rk, vr x, vi 1, un, un, un, un] [(.int p1), (.int p3), (.int 0)])
      refine sp_ (fun t_ k_ => XS.icmpYes X571.here hx rfl (pc0 := 100) (pc' := 112) rfl (B_ at_100) rfl (teq hq570).1 (by decide) (by decide) k_) ?_
      show Go_ T571 (mkF mm_ 112 #[vi p1, vi p2, vi p3, vi p4, vi cp, vi rk, vr x, vi 1, un, un, un, un] [(.int 0)])
      refine sp_ (fun t_ k_ => XS.iconst X571.here hx rfl (B_ at_112) k_) ?_
      show Go_ T571 (mkF mm_ 113 #[vi p1, vi p2, vi p3, vi p4, vi cp, vi rk, vr x, vi 1, un, un, un, un] [(.int 0), (.int 0)])
      refine sp_ (fun t_ k_ => XS.icmpNo X571.here hx rfl (B_ at_113) rfl (teq (by decide : (0 : Int32) = (0 : Int32))).2 k_) ?_
      show Go_ T571 (mkF mm_ 116 #[vi p1, vi p2, vi p3, vi p4, vi cp, vi rk, vr x, vi 1, un, un, un, un] [])
      refine sp_ (fun t_ k_ => XS.iconst X571.here hx rfl (B_ at_116) (XS.goto X571.here hx rfl (pc0 := 117) (pc' := 121) rfl (B_ at_117) (by decide) (by decide) (XS.istore X571.here hx rfl (B_ at_121) rfl (l' := #[vi p1, vi p2, vi p3, vi p4, vi cp, vi rk, vr x, vi 1, un, un, un, un]) rfl k_))) ?_
      have K581 : Keep h0 T569.heap [] := ((((Ks_.trans Kc547 all0).trans Kc548 (allS (Or.inr (Nat.le_trans (Nat.le_of_eq hZ0_) g_x)) (allS (Or.inr (Nat.le_trans (Nat.le_of_eq hZ0_) g_ar)) all0))).trans Kc556 all0).trans Kc569 all0)
      exact seg_saa _ _ _ cp rk x nr_548 k2_548 z2_548 r_547  (X571.more (by decide) (by decide)) Eh571 N571 K581 O580  f572 f573 f574 f575 f576 f577 r548_6 g_x g_nr_548 r548_7 (own_fit (by decide) r548_7) (own_fit (by decide) r548_7) f578 f579 hq558 hq570
    · skip
      have f583 : Exa Z T569.heap x sc1 := (f560.keep Kc569)
      have f584 : Fld Z T569.heap x sc1 "hashed" sc5 .null := (f561.keep Kc569 nin0)
      have f585 : Fld Z T569.heap x sc1 "members" sc3 (.ref nr_548) := (f562.keep Kc569 nin0)
      have f586 : Fld Z T569.heap x sc1 "size" "I" (.int 1) := (f563.keep Kc569 nin0)
      have f587 : Arv Z T569.heap nr_548 k2_548 (.object sc2) z2_548 [(.ref r_547)] .null := (f564.keep Kc569 nin0)
      have f588 : Exa Z T569.heap nr_548 sc3 := (f565.keep Kc569)
      have f589 : Exa Z T569.heap r_547 sc0 := (f566.keep Kc569)
      have f590 : Fld Z T569.heap r_547 sc0 "value" "I" (.int p1) := (f567.keep Kc569 nin0)
      have O591 : Old Z n0 T569.heap := (O568.keep Kc569 all0)
      obtain ⟨_, T582, Lc582, X582, hQ582, st582⟩ := own_cV X569 hx hZ hown (w_ hw 35 rfl) (w_ hw 36 rfl) (notFace_of_selects (args := #[]) (mvT hZ (w_ hw 38 rfl))) (w_ hw 38 rfl) (w_ hw 37 rfl) (by decide) (backOf (W := 0) (rmAd1 l Z a0 hw [] x r_569 nr_548 k2_548 z2_548 r_547 p1 p3 T569.heap n0 O591 G_ f583 f584 f585 f586 f587 f588 r548_7 (own_nl (by decide) r548_7) r548_6 g_x g_nr_548 f589 f590 r569_0 r569_1 (fun q_ => hq570 q_.symm)) hZ (w_ hw 39 rfl) (w_ hw 2 rfl) (by decide) (by decide)) f583 (g := (mkF mm_ 95 #[vi p1, vi p2, vi p3, vi p4, vi cp, vi rk, vr x, vi 1, un, un, un, un] [(.ref r_569), (.ref x)])) rfl hml.symm (argsL := [(.ref r_569)]) (rest := []) (lenOf pd_4 rfl) rfl (Nat.le_of_eq rfl) (B_ at_95) rfl rfl (by decide) (by decide)
      obtain ⟨nr_582, k2_582, z2_582, rfl, Nq582, Kc582, r582_0, r582_1, r582_2, r582_3, r582_4, r582_5, r582_6, r582_7, r582_8⟩ := hQ582
      have N582 := Fr.app N569 Nq582
      have g_nr_582 := r582_0
      refine jp_ st582 ?_
      show Go_ T582 (mkF mm_ 98 #[vi p1, vi p2, vi p3, vi p4, vi cp, vi rk, vr x, vi 1, un, un, un, un] [(.int 1)])
      refine sp_ (fun t_ k_ => XS.iloadN X582.here hx rfl (B_ at_98) rfl  (XS.iloadN X582.here hx rfl (B_ at_99) rfl  k_)) ?_
      show Go_ T582 (mkF mm_ 100 #[vi p1, vi p2, vi p3, vi p4, vi cp, vi rk, vr x, vi 1, un, un, un, un] [(.int p1), (.int p3), (.int 1)])
      refine sp_ (fun t_ k_ => XS.icmpNo X582.here hx rfl (B_ at_100) rfl (feq hq570).1 k_) ?_
      show Go_ T582 (mkF mm_ 103 #[vi p1, vi p2, vi p3, vi p4, vi cp, vi rk, vr x, vi 1, un, un, un, un] [(.int 1)])
      refine sp_ (fun t_ k_ => XS.iloadN X582.here hx rfl (B_ at_103) rfl  (XS.iloadN X582.here hx rfl (B_ at_104) rfl  k_)) ?_
      show Go_ T582 (mkF mm_ 105 #[vi p1, vi p2, vi p3, vi p4, vi cp, vi rk, vr x, vi 1, un, un, un, un] [(.int p2), (.int p3), (.int 1)])
      refine sp_ (fun t_ k_ => XS.icmpNo X582.here hx rfl (B_ at_105) rfl (feq (fun q_ => hq570 (q_.trans hq558))).1 k_) ?_
      show Go_ T582 (mkF mm_ 108 #[vi p1, vi p2, vi p3, vi p4, vi cp, vi rk, vr x, vi 1, un, un, un, un] [(.int 1)])
      refine sp_ (fun t_ k_ => XS.iconst X582.here hx rfl (B_ at_108) (XS.goto X582.here hx rfl (pc0 := 109) (pc' := 113) rfl (B_ at_109) (by decide) (by decide) k_)) ?_
      show Go_ T582 (mkF mm_ 113 #[vi p1, vi p2, vi p3, vi p4, vi cp, vi rk, vr x, vi 1, un, un, un, un] [(.int 1), (.int 1)])
      refine sp_ (fun t_ k_ => XS.icmpNo X582.here hx rfl (B_ at_113) rfl (teq (by decide : (1 : Int32) = (1 : Int32))).2 k_) ?_
      show Go_ T582 (mkF mm_ 116 #[vi p1, vi p2, vi p3, vi p4, vi cp, vi rk, vr x, vi 1, un, un, un, un] [])
      refine sp_ (fun t_ k_ => XS.iconst X582.here hx rfl (B_ at_116) (XS.goto X582.here hx rfl (pc0 := 117) (pc' := 121) rfl (B_ at_117) (by decide) (by decide) (XS.istore X582.here hx rfl (B_ at_121) rfl (l' := #[vi p1, vi p2, vi p3, vi p4, vi cp, vi rk, vr x, vi 1, un, un, un, un]) rfl k_))) ?_
      have f592 : Exa Z T582.heap x sc1 := (f583.keep Kc582)
      have f593 : Exa Z T582.heap r_547 sc0 := (f589.keep Kc582)
      have f594 : Fld Z T582.heap r_547 sc0 "value" "I" (.int p1) := (f590.keep Kc582 (ninS (Exa.ne f589 f583 (by decide)) (ninS (Exa.ne f589 f588 (by decide)) nin0)))
      have f595 : Exa Z T582.heap r_569 sc0 := (r569_0.keep Kc582)
      have f596 : Fld Z T582.heap r_569 sc0 "value" "I" (.int p3) := (r569_1.keep Kc582 (ninS (Exa.ne r569_0 f583 (by decide)) (ninS (Exa.ne r569_0 f588 (by decide)) nin0)))
      have K597 : Keep h0 T582.heap [] := (((((Ks_.trans Kc547 all0).trans Kc548 (allS (Or.inr (Nat.le_trans (Nat.le_of_eq hZ0_) g_x)) (allS (Or.inr (Nat.le_trans (Nat.le_of_eq hZ0_) g_ar)) all0))).trans Kc556 all0).trans Kc569 all0).trans Kc582 (allS (Or.inr (Nat.le_trans (Nat.le_of_eq hZ0_) g_x)) (allS (Or.inr (Nat.le_trans (Nat.le_of_eq hZ0_) g_nr_548)) all0)))
      have O598 : Old Z n0 T582.heap := (O591.keep Kc582 (allS g_x (allS g_nr_548 all0)))
      exact seg_sac _ _ _ cp rk x nr_582 k2_582 z2_582 r_547 r_569  (X582.more (by decide) (by decide)) rfl N582 K597 O598  f592 r582_2 r582_3 r582_4 r582_5 r582_1 r582_6 g_x g_nr_582 r582_7 r582_8 (own_fit (by decide) r582_8) (own_fit (by decide) r582_8) f593 f594 f595 f596 hq558 hq570
  · skip
    have f600 : Exa Z T556.heap x sc1 := ((f549.keep Kc548).keep Kc556)
    have f601 : Fld Z T556.heap x sc1 "hashed" sc5 .null := (r548_2.keep Kc556 nin0)
    have f602 : Fld Z T556.heap x sc1 "members" sc3 (.ref nr_548) := (r548_3.keep Kc556 nin0)
    have f603 : Fld Z T556.heap x sc1 "size" "I" (.int 1) := (r548_4.keep Kc556 nin0)
    have f604 : Arv Z T556.heap nr_548 k2_548 (.object sc2) z2_548 [(.ref r_547)] .null := (r548_5.keep Kc556 nin0)
    have f605 : Exa Z T556.heap nr_548 sc3 := (r548_1.keep Kc556)
    have f606 : Exa Z T556.heap r_547 sc0 := ((r547_0.keep Kc548).keep Kc556)
    have f607 : Fld Z T556.heap r_547 sc0 "value" "I" (.int p1) := ((r547_1.keep Kc548 (ninS (Exa.ne r547_0 f549 (by decide)) (ninS (Exa.ne r547_0 f554 (by decide)) nin0))).keep Kc556 nin0)
    have O608 : Old Z n0 T556.heap := (O557.keep Kc556 all0)
    obtain ⟨_, T599, Lc599, X599, hQ599, st599⟩ := own_cV X556 hx hZ hown (w_ hw 35 rfl) (w_ hw 36 rfl) (notFace_of_selects (args := #[]) (mvT hZ (w_ hw 38 rfl))) (w_ hw 38 rfl) (w_ hw 37 rfl) (by decide) (backOf (W := 0) (rmAd1 l Z a0 hw [] x r_556 nr_548 k2_548 z2_548 r_547 p1 p2 T556.heap n0 O608 G_ f600 f601 f602 f603 f604 f605 r548_7 (own_nl (by decide) r548_7) r548_6 g_x g_nr_548 f606 f607 r556_0 r556_1 (fun q_ => hq558 q_.symm)) hZ (w_ hw 39 rfl) (w_ hw 2 rfl) (by decide) (by decide)) f600 (g := (mkF mm_ 61 #[vi p1, vi p2, vi p3, vi p4, vi cp, vi rk, vr x, vi 1, un, un, un, un] [(.ref r_556), (.ref x)])) rfl hml.symm (argsL := [(.ref r_556)]) (rest := []) (lenOf pd_4 rfl) rfl (Nat.le_of_eq rfl) (B_ at_61) rfl rfl (by decide) (by decide)
    obtain ⟨nr_599, k2_599, z2_599, rfl, Nq599, Kc599, r599_0, r599_1, r599_2, r599_3, r599_4, r599_5, r599_6, r599_7, r599_8⟩ := hQ599
    have N599 := Fr.app N556 Nq599
    have g_nr_599 := r599_0
    refine jp_ st599 ?_
    show Go_ T599 (mkF mm_ 64 #[vi p1, vi p2, vi p3, vi p4, vi cp, vi rk, vr x, vi 1, un, un, un, un] [(.int 1)])
    refine sp_ (fun t_ k_ => XS.iloadN X599.here hx rfl (B_ at_64) rfl  (XS.iloadN X599.here hx rfl (B_ at_65) rfl  k_)) ?_
    show Go_ T599 (mkF mm_ 66 #[vi p1, vi p2, vi p3, vi p4, vi cp, vi rk, vr x, vi 1, un, un, un, un] [(.int p1), (.int p2), (.int 1)])
    refine sp_ (fun t_ k_ => XS.icmpNo X599.here hx rfl (B_ at_66) rfl (feq hq558).1 k_) ?_
    show Go_ T599 (mkF mm_ 69 #[vi p1, vi p2, vi p3, vi p4, vi cp, vi rk, vr x, vi 1, un, un, un, un] [(.int 1)])
    refine sp_ (fun t_ k_ => XS.iconst X599.here hx rfl (B_ at_69) (XS.goto X599.here hx rfl (pc0 := 70) (pc' := 74) rfl (B_ at_70) (by decide) (by decide) k_)) ?_
    show Go_ T599 (mkF mm_ 74 #[vi p1, vi p2, vi p3, vi p4, vi cp, vi rk, vr x, vi 1, un, un, un, un] [(.int 1), (.int 1)])
    refine sp_ (fun t_ k_ => XS.icmpNo X599.here hx rfl (B_ at_74) rfl (teq (by decide : (1 : Int32) = (1 : Int32))).2 k_) ?_
    show Go_ T599 (mkF mm_ 77 #[vi p1, vi p2, vi p3, vi p4, vi cp, vi rk, vr x, vi 1, un, un, un, un] [])
    refine sp_ (fun t_ k_ => XS.iconst X599.here hx rfl (B_ at_77) (XS.goto X599.here hx rfl (pc0 := 78) (pc' := 82) rfl (B_ at_78) (by decide) (by decide) (XS.istore X599.here hx rfl (B_ at_82) rfl (l' := #[vi p1, vi p2, vi p3, vi p4, vi cp, vi rk, vr x, vi 1, un, un, un, un]) rfl (XS.iload X599.here hx rfl (B_ at_84) rfl  k_)))) ?_
    show Go_ T599 (mkF mm_ 86 #[vi p1, vi p2, vi p3, vi p4, vi cp, vi rk, vr x, vi 1, un, un, un, un] [(.int 1)])
    refine sp_ (fun t_ k_ => XS.ifNo X599.here hx rfl (B_ at_86) rfl ((if0 _ _).trans (feq (by decide : ¬ ((1 : Int32) = (0 : Int32)))).1) k_) ?_
    show Go_ T599 (mkF mm_ 89 #[vi p1, vi p2, vi p3, vi p4, vi cp, vi rk, vr x, vi 1, un, un, un, un] [])
    refine sp_ (fun t_ k_ => XS.aload X599.here hx rfl (B_ at_89) rfl rfl (XS.iloadN X599.here hx rfl (B_ at_91) rfl  k_)) ?_
    have O610 : Old Z n0 T599.heap := (O608.keep Kc599 (allS g_x (allS g_nr_548 all0)))
    obtain ⟨_, T609, Lc609, X609, hQ609, st609⟩ := own_cS X599 hx hZ hown (w_ hw 28 rfl) (w_ hw 29 rfl) (w_ hw 30 rfl) (w_ hw 31 rfl) (by decide) (backOf (W := 1) (rmVO l Z a0 hw [] p3 T599.heap n0 O610 G_ ) hZ (w_ hw 31 rfl) (w_ hw 30 rfl) (by decide) (by decide)) (g := (mkF mm_ 92 #[vi p1, vi p2, vi p3, vi p4, vi cp, vi rk, vr x, vi 1, un, un, un, un] [(.int p3), (.ref x)])) rfl hml.symm (argsL := [(.int p3)]) (rest := [(.ref x)]) (lenOf pd_15 rfl) rfl (Nat.le_of_eq rfl) (B_ at_92) rfl rfl (by decide) (by decide)
    obtain ⟨r_609, rfl, Nq609, Kc609, r609_0, r609_1⟩ := hQ609
    have N609 := Fr.app N599 Nq609
    refine jp_ st609 ?_
    show Go_ T609 (mkF mm_ 95 #[vi p1, vi p2, vi p3, vi p4, vi cp, vi rk, vr x, vi 1, un, un, un, un] [(.ref r_609), (.ref x)])
    by_cases hq611 : p3 = p1
    · skip
      have f613 : Exa Z T609.heap x sc1 := ((f600.keep Kc599).keep Kc609)
      have f614 : Fld Z T609.heap x sc1 "hashed" sc5 .null := (r599_2.keep Kc609 nin0)
      have f615 : Fld Z T609.heap x sc1 "members" sc3 (.ref nr_599) := (r599_3.keep Kc609 nin0)
      have f616 : Fld Z T609.heap x sc1 "size" "I" (.int 2) := (r599_4.keep Kc609 nin0)
      have f617 : Arv Z T609.heap nr_599 k2_599 (.object sc2) z2_599 [(.ref r_547), (.ref r_556)] .null := (r599_5.keep Kc609 nin0)
      have f618 : Exa Z T609.heap nr_599 sc3 := (r599_1.keep Kc609)
      have f619 : Exa Z T609.heap r_547 sc0 := ((f606.keep Kc599).keep Kc609)
      have f620 : Fld Z T609.heap r_547 sc0 "value" "I" (.int p1) := ((f607.keep Kc599 (ninS (Exa.ne f606 f600 (by decide)) (ninS (Exa.ne f606 f605 (by decide)) nin0))).keep Kc609 nin0)
      have f621 : Exa Z T609.heap r_556 sc0 := ((r556_0.keep Kc599).keep Kc609)
      have f622 : Fld Z T609.heap r_556 sc0 "value" "I" (.int p2) := ((r556_1.keep Kc599 (ninS (Exa.ne r556_0 f600 (by decide)) (ninS (Exa.ne r556_0 f605 (by decide)) nin0))).keep Kc609 nin0)
      have O623 : Old Z n0 T609.heap := (O610.keep Kc609 all0)
      obtain ⟨_, T612, Lc612, X612, hQ612, st612⟩ := own_cV X609 hx hZ hown (w_ hw 35 rfl) (w_ hw 36 rfl) (notFace_of_selects (args := #[]) (mvT hZ (w_ hw 38 rfl))) (w_ hw 38 rfl) (w_ hw 37 rfl) (by decide) (backOf (W := 0) (rmAdF2_0 l Z a0 hw [] x r_609 nr_599 k2_599 z2_599 r_547 r_556 p1 p2 p3 T609.heap n0 O623 f613 f614 f615 f616 f617 f618 r599_7 r599_8 f619 f620 f621 f622 r609_0 r609_1 hq611.symm) hZ (w_ hw 39 rfl) (w_ hw 2 rfl) (by decide) (by decide)) f613 (g := (mkF mm_ 95 #[vi p1, vi p2, vi p3, vi p4, vi cp, vi rk, vr x, vi 1, un, un, un, un] [(.ref r_609), (.ref x)])) rfl hml.symm (argsL := [(.ref r_609)]) (rest := []) (lenOf pd_4 rfl) rfl (Nat.le_of_eq rfl) (B_ at_95) rfl rfl (by decide) (by decide)
      obtain ⟨rfl, rfl, Eh612⟩ := hQ612
      have N612 := Fr.app N609 (Fr.nil n0)
      refine jp_ st612 ?_
      show Go_ T612 (mkF mm_ 98 #[vi p1, vi p2, vi p3, vi p4, vi cp, vi rk, vr x, vi 1, un, un, un, un] [(.int 0)])
      refine sp_ (fun t_ k_ => XS.iloadN X612.here hx rfl (B_ at_98) rfl  (XS.iloadN X612.here hx rfl (B_ at_99) rfl  k_)) ?_
      show Go_ T612 (mkF mm_ 100 #[vi p1, vi p2, vi p3, vi p4, vi cp, vi rk, vr x, vi 1, un, un, un, un] [(.int p1), (.int p3), (.int 0)])
      refine sp_ (fun t_ k_ => XS.icmpYes X612.here hx rfl (pc0 := 100) (pc' := 112) rfl (B_ at_100) rfl (teq hq611).1 (by decide) (by decide) k_) ?_
      show Go_ T612 (mkF mm_ 112 #[vi p1, vi p2, vi p3, vi p4, vi cp, vi rk, vr x, vi 1, un, un, un, un] [(.int 0)])
      refine sp_ (fun t_ k_ => XS.iconst X612.here hx rfl (B_ at_112) k_) ?_
      show Go_ T612 (mkF mm_ 113 #[vi p1, vi p2, vi p3, vi p4, vi cp, vi rk, vr x, vi 1, un, un, un, un] [(.int 0), (.int 0)])
      refine sp_ (fun t_ k_ => XS.icmpNo X612.here hx rfl (B_ at_113) rfl (teq (by decide : (0 : Int32) = (0 : Int32))).2 k_) ?_
      show Go_ T612 (mkF mm_ 116 #[vi p1, vi p2, vi p3, vi p4, vi cp, vi rk, vr x, vi 1, un, un, un, un] [])
      refine sp_ (fun t_ k_ => XS.iconst X612.here hx rfl (B_ at_116) (XS.goto X612.here hx rfl (pc0 := 117) (pc' := 121) rfl (B_ at_117) (by decide) (by decide) (XS.istore X612.here hx rfl (B_ at_121) rfl (l' := #[vi p1, vi p2, vi p3, vi p4, vi cp, vi rk, vr x, vi 1, un, un, un, un]) rfl k_))) ?_
      have K624 : Keep h0 T609.heap [] := (((((Ks_.trans Kc547 all0).trans Kc548 (allS (Or.inr (Nat.le_trans (Nat.le_of_eq hZ0_) g_x)) (allS (Or.inr (Nat.le_trans (Nat.le_of_eq hZ0_) g_ar)) all0))).trans Kc556 all0).trans Kc599 (allS (Or.inr (Nat.le_trans (Nat.le_of_eq hZ0_) g_x)) (allS (Or.inr (Nat.le_trans (Nat.le_of_eq hZ0_) g_nr_548)) all0))).trans Kc609 all0)
      exact seg_sba _ _ _ cp rk x nr_599 k2_599 z2_599 r_547 r_556  (X612.more (by decide) (by decide)) Eh612 N612 K624 O623  f613 f614 f615 f616 f617 f618 r599_6 g_x g_nr_599 r599_7 r599_8 (own_fit (by decide) r599_8) (own_fit (by decide) r599_8) f619 f620 f621 f622 hq558 hq611
    · skip
      by_cases hq625 : p3 = p2
      · skip
        have f627 : Exa Z T609.heap x sc1 := ((f600.keep Kc599).keep Kc609)
        have f628 : Fld Z T609.heap x sc1 "hashed" sc5 .null := (r599_2.keep Kc609 nin0)
        have f629 : Fld Z T609.heap x sc1 "members" sc3 (.ref nr_599) := (r599_3.keep Kc609 nin0)
        have f630 : Fld Z T609.heap x sc1 "size" "I" (.int 2) := (r599_4.keep Kc609 nin0)
        have f631 : Arv Z T609.heap nr_599 k2_599 (.object sc2) z2_599 [(.ref r_547), (.ref r_556)] .null := (r599_5.keep Kc609 nin0)
        have f632 : Exa Z T609.heap nr_599 sc3 := (r599_1.keep Kc609)
        have f633 : Exa Z T609.heap r_547 sc0 := ((f606.keep Kc599).keep Kc609)
        have f634 : Fld Z T609.heap r_547 sc0 "value" "I" (.int p1) := ((f607.keep Kc599 (ninS (Exa.ne f606 f600 (by decide)) (ninS (Exa.ne f606 f605 (by decide)) nin0))).keep Kc609 nin0)
        have f635 : Exa Z T609.heap r_556 sc0 := ((r556_0.keep Kc599).keep Kc609)
        have f636 : Fld Z T609.heap r_556 sc0 "value" "I" (.int p2) := ((r556_1.keep Kc599 (ninS (Exa.ne r556_0 f600 (by decide)) (ninS (Exa.ne r556_0 f605 (by decide)) nin0))).keep Kc609 nin0)
        have O637 : Old Z n0 T609.heap := (O610.keep Kc609 all0)
        obtain ⟨_, T626, Lc626, X626, hQ626, st626⟩ := own_cV X609 hx hZ hown (w_ hw 35 rfl) (w_ hw 36 rfl) (notFace_of_selects (args := #[]) (mvT hZ (w_ hw 38 rfl))) (w_ hw 38 rfl) (w_ hw 37 rfl) (by decide) (backOf (W := 0) (rmAdF2_1 l Z a0 hw [] x r_609 nr_599 k2_599 z2_599 r_547 r_556 p1 p2 p3 T609.heap n0 O637 f627 f628 f629 f630 f631 f632 r599_7 r599_8 f633 f634 f635 f636 r609_0 r609_1 (fun q_ => hq611 q_.symm) hq625.symm) hZ (w_ hw 39 rfl) (w_ hw 2 rfl) (by decide) (by decide)) f627 (g := (mkF mm_ 95 #[vi p1, vi p2, vi p3, vi p4, vi cp, vi rk, vr x, vi 1, un, un, un, un] [(.ref r_609), (.ref x)])) rfl hml.symm (argsL := [(.ref r_609)]) (rest := []) (lenOf pd_4 rfl) rfl (Nat.le_of_eq rfl) (B_ at_95) rfl rfl (by decide) (by decide)
        obtain ⟨rfl, rfl, Eh626⟩ := hQ626
        have N626 := Fr.app N609 (Fr.nil n0)
        refine jp_ st626 ?_
        show Go_ T626 (mkF mm_ 98 #[vi p1, vi p2, vi p3, vi p4, vi cp, vi rk, vr x, vi 1, un, un, un, un] [(.int 0)])
        refine sp_ (fun t_ k_ => XS.iloadN X626.here hx rfl (B_ at_98) rfl  (XS.iloadN X626.here hx rfl (B_ at_99) rfl  k_)) ?_
        show Go_ T626 (mkF mm_ 100 #[vi p1, vi p2, vi p3, vi p4, vi cp, vi rk, vr x, vi 1, un, un, un, un] [(.int p1), (.int p3), (.int 0)])
        refine sp_ (fun t_ k_ => XS.icmpNo X626.here hx rfl (B_ at_100) rfl (feq hq611).1 k_) ?_
        show Go_ T626 (mkF mm_ 103 #[vi p1, vi p2, vi p3, vi p4, vi cp, vi rk, vr x, vi 1, un, un, un, un] [(.int 0)])
        refine sp_ (fun t_ k_ => XS.iloadN X626.here hx rfl (B_ at_103) rfl  (XS.iloadN X626.here hx rfl (B_ at_104) rfl  k_)) ?_
        show Go_ T626 (mkF mm_ 105 #[vi p1, vi p2, vi p3, vi p4, vi cp, vi rk, vr x, vi 1, un, un, un, un] [(.int p2), (.int p3), (.int 0)])
        refine sp_ (fun t_ k_ => XS.icmpYes X626.here hx rfl (pc0 := 105) (pc' := 112) rfl (B_ at_105) rfl (teq hq625).1 (by decide) (by decide) k_) ?_
        show Go_ T626 (mkF mm_ 112 #[vi p1, vi p2, vi p3, vi p4, vi cp, vi rk, vr x, vi 1, un, un, un, un] [(.int 0)])
        refine sp_ (fun t_ k_ => XS.iconst X626.here hx rfl (B_ at_112) k_) ?_
        show Go_ T626 (mkF mm_ 113 #[vi p1, vi p2, vi p3, vi p4, vi cp, vi rk, vr x, vi 1, un, un, un, un] [(.int 0), (.int 0)])
        refine sp_ (fun t_ k_ => XS.icmpNo X626.here hx rfl (B_ at_113) rfl (teq (by decide : (0 : Int32) = (0 : Int32))).2 k_) ?_
        show Go_ T626 (mkF mm_ 116 #[vi p1, vi p2, vi p3, vi p4, vi cp, vi rk, vr x, vi 1, un, un, un, un] [])
        refine sp_ (fun t_ k_ => XS.iconst X626.here hx rfl (B_ at_116) (XS.goto X626.here hx rfl (pc0 := 117) (pc' := 121) rfl (B_ at_117) (by decide) (by decide) (XS.istore X626.here hx rfl (B_ at_121) rfl (l' := #[vi p1, vi p2, vi p3, vi p4, vi cp, vi rk, vr x, vi 1, un, un, un, un]) rfl k_))) ?_
        have K638 : Keep h0 T609.heap [] := (((((Ks_.trans Kc547 all0).trans Kc548 (allS (Or.inr (Nat.le_trans (Nat.le_of_eq hZ0_) g_x)) (allS (Or.inr (Nat.le_trans (Nat.le_of_eq hZ0_) g_ar)) all0))).trans Kc556 all0).trans Kc599 (allS (Or.inr (Nat.le_trans (Nat.le_of_eq hZ0_) g_x)) (allS (Or.inr (Nat.le_trans (Nat.le_of_eq hZ0_) g_nr_548)) all0))).trans Kc609 all0)
        exact seg_sbb _ _ _ cp rk x nr_599 k2_599 z2_599 r_547 r_556  (X626.more (by decide) (by decide)) Eh626 N626 K638 O637  f627 f628 f629 f630 f631 f632 r599_6 g_x g_nr_599 r599_7 r599_8 (own_fit (by decide) r599_8) (own_fit (by decide) r599_8) f633 f634 f635 f636 hq558 hq611 hq625
      · skip
        have f640 : Exa Z T609.heap x sc1 := ((f600.keep Kc599).keep Kc609)
        have f641 : Fld Z T609.heap x sc1 "hashed" sc5 .null := (r599_2.keep Kc609 nin0)
        have f642 : Fld Z T609.heap x sc1 "members" sc3 (.ref nr_599) := (r599_3.keep Kc609 nin0)
        have f643 : Fld Z T609.heap x sc1 "size" "I" (.int 2) := (r599_4.keep Kc609 nin0)
        have f644 : Arv Z T609.heap nr_599 k2_599 (.object sc2) z2_599 [(.ref r_547), (.ref r_556)] .null := (r599_5.keep Kc609 nin0)
        have f645 : Exa Z T609.heap nr_599 sc3 := (r599_1.keep Kc609)
        have f646 : Exa Z T609.heap r_547 sc0 := ((f606.keep Kc599).keep Kc609)
        have f647 : Fld Z T609.heap r_547 sc0 "value" "I" (.int p1) := ((f607.keep Kc599 (ninS (Exa.ne f606 f600 (by decide)) (ninS (Exa.ne f606 f605 (by decide)) nin0))).keep Kc609 nin0)
        have f648 : Exa Z T609.heap r_556 sc0 := ((r556_0.keep Kc599).keep Kc609)
        have f649 : Fld Z T609.heap r_556 sc0 "value" "I" (.int p2) := ((r556_1.keep Kc599 (ninS (Exa.ne r556_0 f600 (by decide)) (ninS (Exa.ne r556_0 f605 (by decide)) nin0))).keep Kc609 nin0)
        have O650 : Old Z n0 T609.heap := (O610.keep Kc609 all0)
        obtain ⟨_, T639, Lc639, X639, hQ639, st639⟩ := own_cV X609 hx hZ hown (w_ hw 35 rfl) (w_ hw 36 rfl) (notFace_of_selects (args := #[]) (mvT hZ (w_ hw 38 rfl))) (w_ hw 38 rfl) (w_ hw 37 rfl) (by decide) (backOf (W := 0) (rmAd2 l Z a0 hw [] x r_609 nr_599 k2_599 z2_599 r_547 r_556 p1 p2 p3 T609.heap n0 O650 G_ f640 f641 f642 f643 f644 f645 r599_7 r599_8 (own_nl (by decide) r599_8) r599_6 g_x g_nr_599 f646 f647 f648 f649 r609_0 r609_1 (fun q_ => hq611 q_.symm) (fun q_ => hq625 q_.symm)) hZ (w_ hw 39 rfl) (w_ hw 2 rfl) (by decide) (by decide)) f640 (g := (mkF mm_ 95 #[vi p1, vi p2, vi p3, vi p4, vi cp, vi rk, vr x, vi 1, un, un, un, un] [(.ref r_609), (.ref x)])) rfl hml.symm (argsL := [(.ref r_609)]) (rest := []) (lenOf pd_4 rfl) rfl (Nat.le_of_eq rfl) (B_ at_95) rfl rfl (by decide) (by decide)
        obtain ⟨nr_639, k2_639, z2_639, rfl, Nq639, Kc639, r639_0, r639_1, r639_2, r639_3, r639_4, r639_5, r639_6, r639_7, r639_8, r639_9⟩ := hQ639
        have N639 := Fr.app N609 Nq639
        have g_nr_639 := r639_0
        refine jp_ st639 ?_
        show Go_ T639 (mkF mm_ 98 #[vi p1, vi p2, vi p3, vi p4, vi cp, vi rk, vr x, vi 1, un, un, un, un] [(.int 1)])
        refine sp_ (fun t_ k_ => XS.iloadN X639.here hx rfl (B_ at_98) rfl  (XS.iloadN X639.here hx rfl (B_ at_99) rfl  k_)) ?_
        show Go_ T639 (mkF mm_ 100 #[vi p1, vi p2, vi p3, vi p4, vi cp, vi rk, vr x, vi 1, un, un, un, un] [(.int p1), (.int p3), (.int 1)])
        refine sp_ (fun t_ k_ => XS.icmpNo X639.here hx rfl (B_ at_100) rfl (feq hq611).1 k_) ?_
        show Go_ T639 (mkF mm_ 103 #[vi p1, vi p2, vi p3, vi p4, vi cp, vi rk, vr x, vi 1, un, un, un, un] [(.int 1)])
        refine sp_ (fun t_ k_ => XS.iloadN X639.here hx rfl (B_ at_103) rfl  (XS.iloadN X639.here hx rfl (B_ at_104) rfl  k_)) ?_
        show Go_ T639 (mkF mm_ 105 #[vi p1, vi p2, vi p3, vi p4, vi cp, vi rk, vr x, vi 1, un, un, un, un] [(.int p2), (.int p3), (.int 1)])
        refine sp_ (fun t_ k_ => XS.icmpNo X639.here hx rfl (B_ at_105) rfl (feq hq625).1 k_) ?_
        show Go_ T639 (mkF mm_ 108 #[vi p1, vi p2, vi p3, vi p4, vi cp, vi rk, vr x, vi 1, un, un, un, un] [(.int 1)])
        refine sp_ (fun t_ k_ => XS.iconst X639.here hx rfl (B_ at_108) (XS.goto X639.here hx rfl (pc0 := 109) (pc' := 113) rfl (B_ at_109) (by decide) (by decide) k_)) ?_
        show Go_ T639 (mkF mm_ 113 #[vi p1, vi p2, vi p3, vi p4, vi cp, vi rk, vr x, vi 1, un, un, un, un] [(.int 1), (.int 1)])
        refine sp_ (fun t_ k_ => XS.icmpNo X639.here hx rfl (B_ at_113) rfl (teq (by decide : (1 : Int32) = (1 : Int32))).2 k_) ?_
        show Go_ T639 (mkF mm_ 116 #[vi p1, vi p2, vi p3, vi p4, vi cp, vi rk, vr x, vi 1, un, un, un, un] [])
        refine sp_ (fun t_ k_ => XS.iconst X639.here hx rfl (B_ at_116) (XS.goto X639.here hx rfl (pc0 := 117) (pc' := 121) rfl (B_ at_117) (by decide) (by decide) (XS.istore X639.here hx rfl (B_ at_121) rfl (l' := #[vi p1, vi p2, vi p3, vi p4, vi cp, vi rk, vr x, vi 1, un, un, un, un]) rfl k_))) ?_
        have f651 : Exa Z T639.heap x sc1 := (f640.keep Kc639)
        have f652 : Exa Z T639.heap r_547 sc0 := (f646.keep Kc639)
        have f653 : Fld Z T639.heap r_547 sc0 "value" "I" (.int p1) := (f647.keep Kc639 (ninS (Exa.ne f646 f640 (by decide)) (ninS (Exa.ne f646 f645 (by decide)) nin0)))
        have f654 : Exa Z T639.heap r_556 sc0 := (f648.keep Kc639)
        have f655 : Fld Z T639.heap r_556 sc0 "value" "I" (.int p2) := (f649.keep Kc639 (ninS (Exa.ne f648 f640 (by decide)) (ninS (Exa.ne f648 f645 (by decide)) nin0)))
        have f656 : Exa Z T639.heap r_609 sc0 := (r609_0.keep Kc639)
        have f657 : Fld Z T639.heap r_609 sc0 "value" "I" (.int p3) := (r609_1.keep Kc639 (ninS (Exa.ne r609_0 f640 (by decide)) (ninS (Exa.ne r609_0 f645 (by decide)) nin0)))
        have K658 : Keep h0 T639.heap [] := ((((((Ks_.trans Kc547 all0).trans Kc548 (allS (Or.inr (Nat.le_trans (Nat.le_of_eq hZ0_) g_x)) (allS (Or.inr (Nat.le_trans (Nat.le_of_eq hZ0_) g_ar)) all0))).trans Kc556 all0).trans Kc599 (allS (Or.inr (Nat.le_trans (Nat.le_of_eq hZ0_) g_x)) (allS (Or.inr (Nat.le_trans (Nat.le_of_eq hZ0_) g_nr_548)) all0))).trans Kc609 all0).trans Kc639 (allS (Or.inr (Nat.le_trans (Nat.le_of_eq hZ0_) g_x)) (allS (Or.inr (Nat.le_trans (Nat.le_of_eq hZ0_) g_nr_599)) all0)))
        have O659 : Old Z n0 T639.heap := (O650.keep Kc639 (allS g_x (allS g_nr_599 all0)))
        exact seg_sbc _ _ _ cp rk x nr_639 k2_639 z2_639 r_547 r_556 r_609  (X639.more (by decide) (by decide)) rfl N639 K658 O659  f651 r639_2 r639_3 r639_4 r639_5 r639_1 r639_6 g_x g_nr_639 r639_7 r639_8 r639_9 (own_fit (by decide) r639_9) (own_fit (by decide) r639_9) f652 f653 f654 f655 f656 f657 hq558 hq611 hq625
 show Go_ s₁ (mkF mm_ 0 #[vi p1, vi p2, vi p3, vi p4, un, un, un, un, un, un, un, un] [])
 refine sp_ (fun t_ k_ => XS.iloadN X0.here hx rfl (B_ at_0) rfl  (XS.iconst X0.here hx rfl (B_ at_1) (XS.iand X0.here hx rfl (B_ at_2) rfl (XS.istore X0.here hx rfl (B_ at_3) rfl (l' := #[vi p1, vi p2, vi p3, vi p4, vi (p4 &&& (3 : Int32)), un, un, un, un, un, un, un]) rfl (XS.iloadN X0.here hx rfl (B_ at_5) rfl  (XS.iconst X0.here hx rfl (B_ at_6) (XS.iushr X0.here hx rfl (B_ at_7) rfl (XS.iconst X0.here hx rfl (B_ at_8) (XS.iand X0.here hx rfl (B_ at_9) rfl (XS.istore X0.here hx rfl (B_ at_10) rfl (l' := #[vi p1, vi p2, vi p3, vi p4, vi (p4 &&& (3 : Int32)), vi (((p4.toUInt32 >>> ((2 : Int32) &&& 31).toUInt32).toInt32) &&& (3 : Int32)), un, un, un, un, un, un]) rfl k_)))))))))) ?_
 show Go_ s₁ (mkF mm_ 12 #[vi p1, vi p2, vi p3, vi p4, vi (p4 &&& (3 : Int32)), vi (((p4.toUInt32 >>> ((2 : Int32) &&& 31).toUInt32).toInt32) &&& (3 : Int32)), un, un, un, un, un, un] [])
 rcases own_and3 p4 with hk_ | hk_ | hk_ | hk_
 · skip
   rw [hk_]
   show Go_ s₁ (mkF mm_ 12 #[vi p1, vi p2, vi p3, vi p4, vi 0, vi (((p4.toUInt32 >>> ((2 : Int32) &&& 31).toUInt32).toInt32) &&& (3 : Int32)), un, un, un, un, un, un] [])
   obtain ⟨T660, h660, X660, e660, E660, A660, D660, -, st660⟩ := newO X0 hx hZ hown (w_ hw 0 rfl) (w_ hw 1 rfl) (w_ hw 2 rfl) e0 (g := (mkF mm_ 12 #[vi p1, vi p2, vi p3, vi p4, vi 0, vi (((p4.toUInt32 >>> ((2 : Int32) &&& 31).toUInt32).toInt32) &&& (3 : Int32)), un, un, un, un, un, un] [])) rfl (B_ at_12) (by decide) (by decide)
   obtain ⟨b660, q660⟩ : ∃ z, z = h0.size := ⟨_, rfl⟩
   rw [← q660] at A660 D660 st660
   have lo_b660 : h0.size ≤ b660 := Nat.le_trans K0.1 (Nat.le_of_eq q660.symm)
   have g_b660 : n0 ≤ b660 := Nat.le_trans Z0 lo_b660
   refine sp_ st660 ?_
   have F660_members : Fld Z h660 b660 sc1 "members" sc3 .null := D660 (Or.inl (w_ hw 27 rfl)) (ty := (.array (.object sc2))) (by decide)
   have F660_hashed : Fld Z h660 b660 sc1 "hashed" sc5 .null := D660 (Or.inl (w_ hw 41 rfl)) (ty := (.object sc6)) (by decide)
   have F660_size : Fld Z h660 b660 sc1 "size" "I" (.int 0) := D660 (Or.inl (w_ hw 47 rfl)) (ty := .int) (by decide)
   show Go_ T660 (mkF mm_ 15 #[vi p1, vi p2, vi p3, vi p4, vi 0, vi (((p4.toUInt32 >>> ((2 : Int32) &&& 31).toUInt32).toInt32) &&& (3 : Int32)), un, un, un, un, un, un] [(.ref b660)])
   refine sp_ (fun t_ k_ => XS.dup X660.here hx rfl (B_ at_15) rfl rfl (XS.iload X660.here hx rfl (B_ at_16) rfl  k_)) ?_
   have O662 : Old Z n0 h660 := (O0.ext E660)
   obtain ⟨_, T661, Lc661, X661, hQ661, st661⟩ := own_cI X660 hx hZ rfl hown (w_ hw 3 rfl) (w_ hw 4 rfl) (w_ hw 5 rfl) (by decide) (backOf (W := 1) (rmSI0 l Z a0 hw [] b660 h660 n0 O662 A660 g_b660 F660_hashed F660_members F660_size) hZ (w_ hw 5 rfl) (w_ hw 2 rfl) (by decide) (by decide)) (g := (mkF mm_ 18 #[vi p1, vi p2, vi p3, vi p4, vi 0, vi (((p4.toUInt32 >>> ((2 : Int32) &&& 31).toUInt32).toInt32) &&& (3 : Int32)), un, un, un, un, un, un] [(.int 0), (.ref b660), (.ref b660)])) rfl hml.symm (a := b660) (argsL := [(.int 0)]) (rest := [(.ref b660)]) (lenOf pd_1 rfl) rfl (Nat.le_of_eq rfl) (B_ at_18) rfl e660 (by decide) (by decide)
   obtain ⟨nr_661, k2_661, rfl, Nq661, Kc661, r661_0, r661_1, r661_2, r661_3, r661_4, r661_5, r661_6⟩ := hQ661
   have N661 := Fr.app N0 Nq661
   have K663 : Keep h0 h660 [] := (K0.ext E660)
   have lo_nr_661 : h0.size ≤ nr_661 := Nat.le_trans K663.1 r661_0
   have g_nr_661 : n0 ≤ nr_661 := Nat.le_trans Z0 lo_nr_661
   refine jp_ st661 ?_
   show Go_ T661 (mkF mm_ 21 #[vi p1, vi p2, vi p3, vi p4, vi 0, vi (((p4.toUInt32 >>> ((2 : Int32) &&& 31).toUInt32).toInt32) &&& (3 : Int32)), un, un, un, un, un, un] [(.ref b660)])
   refine sp_ (fun t_ k_ => XS.astore X661.here hx rfl (B_ at_21) rfl rfl (l' := #[vi p1, vi p2, vi p3, vi p4, vi 0, vi (((p4.toUInt32 >>> ((2 : Int32) &&& 31).toUInt32).toInt32) &&& (3 : Int32)), vr b660, un, un, un, un, un]) rfl (XS.iconst X661.here hx rfl (B_ at_23) (XS.istore X661.here hx rfl (B_ at_24) rfl (l' := #[vi p1, vi p2, vi p3, vi p4, vi 0, vi (((p4.toUInt32 >>> ((2 : Int32) &&& 31).toUInt32).toInt32) &&& (3 : Int32)), vr b660, vi 1, un, un, un, un]) rfl k_))) ?_
   have f664 : Exa Z T661.heap b660 sc1 := (A660.keep Kc661)
   have K665 : Keep h0 T661.heap [] := (K663.trans Kc661 (allS (Or.inr lo_b660) all0))
   have O666 : Old Z n0 T661.heap := (O662.keep Kc661 (allS g_b660 all0))
   exact seg_c _ _ _ (0 : Int32) (((p4.toUInt32 >>> ((2 : Int32) &&& 31).toUInt32).toInt32) &&& (3 : Int32)) b660 nr_661 k2_661 (0 : Int32)  (X661.more (by decide) (by decide)) rfl N661 K665 O666  f664 r661_4 r661_5 r661_6 r661_2 r661_1 r661_3 g_b660 g_nr_661 (by first | assumption | decide | (simp; done))
 · skip
   rw [hk_]
   show Go_ s₁ (mkF mm_ 12 #[vi p1, vi p2, vi p3, vi p4, vi 1, vi (((p4.toUInt32 >>> ((2 : Int32) &&& 31).toUInt32).toInt32) &&& (3 : Int32)), un, un, un, un, un, un] [])
   obtain ⟨T667, h667, X667, e667, E667, A667, D667, -, st667⟩ := newO X0 hx hZ hown (w_ hw 0 rfl) (w_ hw 1 rfl) (w_ hw 2 rfl) e0 (g := (mkF mm_ 12 #[vi p1, vi p2, vi p3, vi p4, vi 1, vi (((p4.toUInt32 >>> ((2 : Int32) &&& 31).toUInt32).toInt32) &&& (3 : Int32)), un, un, un, un, un, un] [])) rfl (B_ at_12) (by decide) (by decide)
   obtain ⟨b667, q667⟩ : ∃ z, z = h0.size := ⟨_, rfl⟩
   rw [← q667] at A667 D667 st667
   have lo_b667 : h0.size ≤ b667 := Nat.le_trans K0.1 (Nat.le_of_eq q667.symm)
   have g_b667 : n0 ≤ b667 := Nat.le_trans Z0 lo_b667
   refine sp_ st667 ?_
   have F667_members : Fld Z h667 b667 sc1 "members" sc3 .null := D667 (Or.inl (w_ hw 27 rfl)) (ty := (.array (.object sc2))) (by decide)
   have F667_hashed : Fld Z h667 b667 sc1 "hashed" sc5 .null := D667 (Or.inl (w_ hw 41 rfl)) (ty := (.object sc6)) (by decide)
   have F667_size : Fld Z h667 b667 sc1 "size" "I" (.int 0) := D667 (Or.inl (w_ hw 47 rfl)) (ty := .int) (by decide)
   show Go_ T667 (mkF mm_ 15 #[vi p1, vi p2, vi p3, vi p4, vi 1, vi (((p4.toUInt32 >>> ((2 : Int32) &&& 31).toUInt32).toInt32) &&& (3 : Int32)), un, un, un, un, un, un] [(.ref b667)])
   refine sp_ (fun t_ k_ => XS.dup X667.here hx rfl (B_ at_15) rfl rfl (XS.iload X667.here hx rfl (B_ at_16) rfl  k_)) ?_
   have O669 : Old Z n0 h667 := (O0.ext E667)
   obtain ⟨_, T668, Lc668, X668, hQ668, st668⟩ := own_cI X667 hx hZ rfl hown (w_ hw 3 rfl) (w_ hw 4 rfl) (w_ hw 5 rfl) (by decide) (backOf (W := 1) (rmSI1 l Z a0 hw [] b667 h667 n0 O669 A667 g_b667 F667_hashed F667_members F667_size) hZ (w_ hw 5 rfl) (w_ hw 2 rfl) (by decide) (by decide)) (g := (mkF mm_ 18 #[vi p1, vi p2, vi p3, vi p4, vi 1, vi (((p4.toUInt32 >>> ((2 : Int32) &&& 31).toUInt32).toInt32) &&& (3 : Int32)), un, un, un, un, un, un] [(.int 1), (.ref b667), (.ref b667)])) rfl hml.symm (a := b667) (argsL := [(.int 1)]) (rest := [(.ref b667)]) (lenOf pd_1 rfl) rfl (Nat.le_of_eq rfl) (B_ at_18) rfl e667 (by decide) (by decide)
   obtain ⟨nr_668, k2_668, rfl, Nq668, Kc668, r668_0, r668_1, r668_2, r668_3, r668_4, r668_5, r668_6⟩ := hQ668
   have N668 := Fr.app N0 Nq668
   have K670 : Keep h0 h667 [] := (K0.ext E667)
   have lo_nr_668 : h0.size ≤ nr_668 := Nat.le_trans K670.1 r668_0
   have g_nr_668 : n0 ≤ nr_668 := Nat.le_trans Z0 lo_nr_668
   refine jp_ st668 ?_
   show Go_ T668 (mkF mm_ 21 #[vi p1, vi p2, vi p3, vi p4, vi 1, vi (((p4.toUInt32 >>> ((2 : Int32) &&& 31).toUInt32).toInt32) &&& (3 : Int32)), un, un, un, un, un, un] [(.ref b667)])
   refine sp_ (fun t_ k_ => XS.astore X668.here hx rfl (B_ at_21) rfl rfl (l' := #[vi p1, vi p2, vi p3, vi p4, vi 1, vi (((p4.toUInt32 >>> ((2 : Int32) &&& 31).toUInt32).toInt32) &&& (3 : Int32)), vr b667, un, un, un, un, un]) rfl (XS.iconst X668.here hx rfl (B_ at_23) (XS.istore X668.here hx rfl (B_ at_24) rfl (l' := #[vi p1, vi p2, vi p3, vi p4, vi 1, vi (((p4.toUInt32 >>> ((2 : Int32) &&& 31).toUInt32).toInt32) &&& (3 : Int32)), vr b667, vi 1, un, un, un, un]) rfl k_))) ?_
   have f671 : Exa Z T668.heap b667 sc1 := (A667.keep Kc668)
   have K672 : Keep h0 T668.heap [] := (K670.trans Kc668 (allS (Or.inr lo_b667) all0))
   have O673 : Old Z n0 T668.heap := (O669.keep Kc668 (allS g_b667 all0))
   exact seg_c _ _ _ (1 : Int32) (((p4.toUInt32 >>> ((2 : Int32) &&& 31).toUInt32).toInt32) &&& (3 : Int32)) b667 nr_668 k2_668 (1 : Int32)  (X668.more (by decide) (by decide)) rfl N668 K672 O673  f671 r668_4 r668_5 r668_6 r668_2 r668_1 r668_3 g_b667 g_nr_668 (by first | assumption | decide | (simp; done))
 · skip
   rw [hk_]
   show Go_ s₁ (mkF mm_ 12 #[vi p1, vi p2, vi p3, vi p4, vi 2, vi (((p4.toUInt32 >>> ((2 : Int32) &&& 31).toUInt32).toInt32) &&& (3 : Int32)), un, un, un, un, un, un] [])
   obtain ⟨T674, h674, X674, e674, E674, A674, D674, -, st674⟩ := newO X0 hx hZ hown (w_ hw 0 rfl) (w_ hw 1 rfl) (w_ hw 2 rfl) e0 (g := (mkF mm_ 12 #[vi p1, vi p2, vi p3, vi p4, vi 2, vi (((p4.toUInt32 >>> ((2 : Int32) &&& 31).toUInt32).toInt32) &&& (3 : Int32)), un, un, un, un, un, un] [])) rfl (B_ at_12) (by decide) (by decide)
   obtain ⟨b674, q674⟩ : ∃ z, z = h0.size := ⟨_, rfl⟩
   rw [← q674] at A674 D674 st674
   have lo_b674 : h0.size ≤ b674 := Nat.le_trans K0.1 (Nat.le_of_eq q674.symm)
   have g_b674 : n0 ≤ b674 := Nat.le_trans Z0 lo_b674
   refine sp_ st674 ?_
   have F674_members : Fld Z h674 b674 sc1 "members" sc3 .null := D674 (Or.inl (w_ hw 27 rfl)) (ty := (.array (.object sc2))) (by decide)
   have F674_hashed : Fld Z h674 b674 sc1 "hashed" sc5 .null := D674 (Or.inl (w_ hw 41 rfl)) (ty := (.object sc6)) (by decide)
   have F674_size : Fld Z h674 b674 sc1 "size" "I" (.int 0) := D674 (Or.inl (w_ hw 47 rfl)) (ty := .int) (by decide)
   show Go_ T674 (mkF mm_ 15 #[vi p1, vi p2, vi p3, vi p4, vi 2, vi (((p4.toUInt32 >>> ((2 : Int32) &&& 31).toUInt32).toInt32) &&& (3 : Int32)), un, un, un, un, un, un] [(.ref b674)])
   refine sp_ (fun t_ k_ => XS.dup X674.here hx rfl (B_ at_15) rfl rfl (XS.iload X674.here hx rfl (B_ at_16) rfl  k_)) ?_
   have O676 : Old Z n0 h674 := (O0.ext E674)
   obtain ⟨_, T675, Lc675, X675, hQ675, st675⟩ := own_cI X674 hx hZ rfl hown (w_ hw 3 rfl) (w_ hw 4 rfl) (w_ hw 5 rfl) (by decide) (backOf (W := 1) (rmSI2 l Z a0 hw [] b674 h674 n0 O676 A674 g_b674 F674_hashed F674_members F674_size) hZ (w_ hw 5 rfl) (w_ hw 2 rfl) (by decide) (by decide)) (g := (mkF mm_ 18 #[vi p1, vi p2, vi p3, vi p4, vi 2, vi (((p4.toUInt32 >>> ((2 : Int32) &&& 31).toUInt32).toInt32) &&& (3 : Int32)), un, un, un, un, un, un] [(.int 2), (.ref b674), (.ref b674)])) rfl hml.symm (a := b674) (argsL := [(.int 2)]) (rest := [(.ref b674)]) (lenOf pd_1 rfl) rfl (Nat.le_of_eq rfl) (B_ at_18) rfl e674 (by decide) (by decide)
   obtain ⟨nr_675, k2_675, rfl, Nq675, Kc675, r675_0, r675_1, r675_2, r675_3, r675_4, r675_5, r675_6⟩ := hQ675
   have N675 := Fr.app N0 Nq675
   have K677 : Keep h0 h674 [] := (K0.ext E674)
   have lo_nr_675 : h0.size ≤ nr_675 := Nat.le_trans K677.1 r675_0
   have g_nr_675 : n0 ≤ nr_675 := Nat.le_trans Z0 lo_nr_675
   refine jp_ st675 ?_
   show Go_ T675 (mkF mm_ 21 #[vi p1, vi p2, vi p3, vi p4, vi 2, vi (((p4.toUInt32 >>> ((2 : Int32) &&& 31).toUInt32).toInt32) &&& (3 : Int32)), un, un, un, un, un, un] [(.ref b674)])
   refine sp_ (fun t_ k_ => XS.astore X675.here hx rfl (B_ at_21) rfl rfl (l' := #[vi p1, vi p2, vi p3, vi p4, vi 2, vi (((p4.toUInt32 >>> ((2 : Int32) &&& 31).toUInt32).toInt32) &&& (3 : Int32)), vr b674, un, un, un, un, un]) rfl (XS.iconst X675.here hx rfl (B_ at_23) (XS.istore X675.here hx rfl (B_ at_24) rfl (l' := #[vi p1, vi p2, vi p3, vi p4, vi 2, vi (((p4.toUInt32 >>> ((2 : Int32) &&& 31).toUInt32).toInt32) &&& (3 : Int32)), vr b674, vi 1, un, un, un, un]) rfl k_))) ?_
   have f678 : Exa Z T675.heap b674 sc1 := (A674.keep Kc675)
   have K679 : Keep h0 T675.heap [] := (K677.trans Kc675 (allS (Or.inr lo_b674) all0))
   have O680 : Old Z n0 T675.heap := (O676.keep Kc675 (allS g_b674 all0))
   exact seg_c _ _ _ (2 : Int32) (((p4.toUInt32 >>> ((2 : Int32) &&& 31).toUInt32).toInt32) &&& (3 : Int32)) b674 nr_675 k2_675 (2 : Int32)  (X675.more (by decide) (by decide)) rfl N675 K679 O680  f678 r675_4 r675_5 r675_6 r675_2 r675_1 r675_3 g_b674 g_nr_675 (by first | assumption | decide | (simp; done))
 · skip
   rw [hk_]
   show Go_ s₁ (mkF mm_ 12 #[vi p1, vi p2, vi p3, vi p4, vi 3, vi (((p4.toUInt32 >>> ((2 : Int32) &&& 31).toUInt32).toInt32) &&& (3 : Int32)), un, un, un, un, un, un] [])
   obtain ⟨T681, h681, X681, e681, E681, A681, D681, -, st681⟩ := newO X0 hx hZ hown (w_ hw 0 rfl) (w_ hw 1 rfl) (w_ hw 2 rfl) e0 (g := (mkF mm_ 12 #[vi p1, vi p2, vi p3, vi p4, vi 3, vi (((p4.toUInt32 >>> ((2 : Int32) &&& 31).toUInt32).toInt32) &&& (3 : Int32)), un, un, un, un, un, un] [])) rfl (B_ at_12) (by decide) (by decide)
   obtain ⟨b681, q681⟩ : ∃ z, z = h0.size := ⟨_, rfl⟩
   rw [← q681] at A681 D681 st681
   have lo_b681 : h0.size ≤ b681 := Nat.le_trans K0.1 (Nat.le_of_eq q681.symm)
   have g_b681 : n0 ≤ b681 := Nat.le_trans Z0 lo_b681
   refine sp_ st681 ?_
   have F681_members : Fld Z h681 b681 sc1 "members" sc3 .null := D681 (Or.inl (w_ hw 27 rfl)) (ty := (.array (.object sc2))) (by decide)
   have F681_hashed : Fld Z h681 b681 sc1 "hashed" sc5 .null := D681 (Or.inl (w_ hw 41 rfl)) (ty := (.object sc6)) (by decide)
   have F681_size : Fld Z h681 b681 sc1 "size" "I" (.int 0) := D681 (Or.inl (w_ hw 47 rfl)) (ty := .int) (by decide)
   show Go_ T681 (mkF mm_ 15 #[vi p1, vi p2, vi p3, vi p4, vi 3, vi (((p4.toUInt32 >>> ((2 : Int32) &&& 31).toUInt32).toInt32) &&& (3 : Int32)), un, un, un, un, un, un] [(.ref b681)])
   refine sp_ (fun t_ k_ => XS.dup X681.here hx rfl (B_ at_15) rfl rfl (XS.iload X681.here hx rfl (B_ at_16) rfl  k_)) ?_
   have O683 : Old Z n0 h681 := (O0.ext E681)
   obtain ⟨_, T682, Lc682, X682, hQ682, st682⟩ := own_cI X681 hx hZ rfl hown (w_ hw 3 rfl) (w_ hw 4 rfl) (w_ hw 5 rfl) (by decide) (backOf (W := 1) (rmSI3 l Z a0 hw [] b681 h681 n0 O683 A681 g_b681 F681_hashed F681_members F681_size) hZ (w_ hw 5 rfl) (w_ hw 2 rfl) (by decide) (by decide)) (g := (mkF mm_ 18 #[vi p1, vi p2, vi p3, vi p4, vi 3, vi (((p4.toUInt32 >>> ((2 : Int32) &&& 31).toUInt32).toInt32) &&& (3 : Int32)), un, un, un, un, un, un] [(.int 3), (.ref b681), (.ref b681)])) rfl hml.symm (a := b681) (argsL := [(.int 3)]) (rest := [(.ref b681)]) (lenOf pd_1 rfl) rfl (Nat.le_of_eq rfl) (B_ at_18) rfl e681 (by decide) (by decide)
   obtain ⟨nr_682, k2_682, rfl, Nq682, Kc682, r682_0, r682_1, r682_2, r682_3, r682_4, r682_5, r682_6⟩ := hQ682
   have N682 := Fr.app N0 Nq682
   have K684 : Keep h0 h681 [] := (K0.ext E681)
   have lo_nr_682 : h0.size ≤ nr_682 := Nat.le_trans K684.1 r682_0
   have g_nr_682 : n0 ≤ nr_682 := Nat.le_trans Z0 lo_nr_682
   refine jp_ st682 ?_
   show Go_ T682 (mkF mm_ 21 #[vi p1, vi p2, vi p3, vi p4, vi 3, vi (((p4.toUInt32 >>> ((2 : Int32) &&& 31).toUInt32).toInt32) &&& (3 : Int32)), un, un, un, un, un, un] [(.ref b681)])
   refine sp_ (fun t_ k_ => XS.astore X682.here hx rfl (B_ at_21) rfl rfl (l' := #[vi p1, vi p2, vi p3, vi p4, vi 3, vi (((p4.toUInt32 >>> ((2 : Int32) &&& 31).toUInt32).toInt32) &&& (3 : Int32)), vr b681, un, un, un, un, un]) rfl (XS.iconst X682.here hx rfl (B_ at_23) (XS.istore X682.here hx rfl (B_ at_24) rfl (l' := #[vi p1, vi p2, vi p3, vi p4, vi 3, vi (((p4.toUInt32 >>> ((2 : Int32) &&& 31).toUInt32).toInt32) &&& (3 : Int32)), vr b681, vi 1, un, un, un, un]) rfl k_))) ?_
   have f685 : Exa Z T682.heap b681 sc1 := (A681.keep Kc682)
   have K686 : Keep h0 T682.heap [] := (K684.trans Kc682 (allS (Or.inr lo_b681) all0))
   have O687 : Old Z n0 T682.heap := (O683.keep Kc682 (allS g_b681 all0))
   exact seg_c _ _ _ (3 : Int32) (((p4.toUInt32 >>> ((2 : Int32) &&& 31).toUInt32).toInt32) &&& (3 : Int32)) b681 nr_682 k2_682 (3 : Int32)  (X682.more (by decide) (by decide)) rfl N682 K686 O687  f685 r682_4 r682_5 r682_6 r682_2 r682_1 r682_3 g_b681 g_nr_682 (by first | assumption | decide | (simp; done))
theorem comes_1 {Post : Tables → Env → Array Value → State → Outcome → State → Prop} (hpost : ∀ tb e args s v u, (limb_1_1.after args s (.returned v) u = true ∧ limb_1_2.after args s (.returned v) u = true ∧ True) → FrameEnd s (.returned v) u (Jvm.fieldLocs frame_1_writes args s ++ Jvm.arrayLocs frame_1_arrays args s ++ Jvm.staticLocs frame_1_statics s) 32 128 → Post tb e args s (.returned v) u) :
 ArmFor flags0 classFile x code maxLocals ret World_1 tables_1 room_1 Calls_1 rest_1 Pre_1 Post := by
 intro l hfl _ _ p e ha hc hk s m args below hf hA hF happ hP
 obtain ⟨hcalls, hrest, hpre⟩ := hP
 obtain ⟨-, -, -, hnamed, -, -, -, hat⟩ := (Spec.applies_iff hf).mp happ
 obtain ⟨hg, hn⟩ := and_e (Cond.before_iff.mp (show (Jvm.Cond.and given_1 narrow_1).before args s = true from hpre))
 obtain ⟨ga, gb0⟩ := and_e hg
 obtain ⟨w0_, w1_, w2_, w3_, rfl⟩ : ∃ w0_ w1_ w2_ w3_ : Value, args = #[w0_, w1_, w2_, w3_] := by
  have hs : args.size = 4 := by simpa [Cond.value, given_1] using ga
  obtain ⟨L⟩ := args
  match L, hs with
  | [w0_, w1_, w2_, w3_], _ => exact ⟨w0_, w1_, w2_, w3_, rfl⟩
 have hw := fun d (hd : d ∈ tables_1) => atoms_spec (ws := Jvm.Cond.code x code maxLocals ret :: tables_1) hat d (List.mem_cons_of_mem _ hd)
 have hfit : Fit s := fun {y c} hc i hi => by
  obtain ⟨ha, rfl⟩ := Array.getElem?_eq_some_iff.mp hc
  have q := List.all_eq_true.mp ((Array.all_eq_true_iff_forall_mem.mp hF) _ (Array.getElem_mem ha)) i (List.mem_range.mpr hi)
  simpa [Array.getElem?_eq_getElem hi] using q
 obtain ⟨hsets, hown0⟩ := atoms_of _ (rest_1_c_eq ▸ (show rest_1_c.before _ s = true from hrest))
 obtain ⟨gc0, gb1⟩ := and_e gb0
 obtain ⟨i0, ei0⟩ := is_v gc0
 obtain rfl : w0_ = (.int i0) := Option.some.inj ei0
 obtain ⟨gc1, gb2⟩ := and_e gb1
 obtain ⟨i1, ei1⟩ := is_v gc1
 obtain rfl : w1_ = (.int i1) := Option.some.inj ei1
 obtain ⟨gc2, gb3⟩ := and_e gb2
 obtain ⟨i2, ei2⟩ := is_v gc2
 obtain rfl : w2_ = (.int i2) := Option.some.inj ei2
 obtain ⟨i3, ei3⟩ := is_v gb3
 obtain rfl : w3_ = (.int i3) := Option.some.inj ei3
 have G_hi : Sta s s.heap "java/lang/Integer$IntegerCache" "high" "I" (.int 127) := Sta.start (own_eqInt (Cond.before_iff.mp (hsets _ (List.mem_of_getElem? (i := 3) rfl)))) (Or.inl (hsets _ (List.mem_of_getElem? (i := 1) rfl)))
 obtain ⟨w_ca, ev_ca⟩ := arr_v (Cond.before_iff.mp (hsets _ (List.mem_of_getElem? (i := 4) rfl)))
 have G_ca : Sta s s.heap "java/lang/Integer$IntegerCache" "cache" "[Ljava/lang/Integer;" (.ref w_ca) := Sta.start ev_ca (Or.inr ⟨(w_ hw 33 rfl), (hsets _ (List.mem_of_getElem? (i := 2) rfl))⟩)
 have G_cc : own_Cache s s.heap w_ca := own_Cache.start (fun _ => ev_ca) (Cond.before_iff.mp (hsets _ (List.mem_of_getElem? (i := 4) rfl))) (Cond.before_iff.mp (hsets _ (List.mem_of_getElem? (i := 6) rfl))) (Cond.before_iff.mp (hsets _ (List.mem_of_getElem? (i := 7) rfl)))
 obtain ⟨_, _, mir, hm1, hm2, hm3⟩ := hcalls.1
 have G_mi : own_Mir s sc3 mir := ⟨_, _, hm1, hm2, hm3.1⟩
 obtain ⟨n, o, h1, h2, h3, _, L, rfl, ⟨rfl, N, -⟩, hq⟩ := rm0 l s _ hw tables_1 i0 i1 i2 i3 s.heap s.heap.size (Old.start s) (⟨G_hi, G_ca, G_cc, G_mi⟩ : own_St s (w_ca) (mir)) rfl p e ha hc hk s m _ below hf ((Spec.applies_iff_loose hf).mp happ).1 ⟨rfl, State.Warmed39.refl s, rfl⟩ trivial
 refine ⟨n, _, h1, h2, h3, hpost _ _ _ _ _ _ ⟨Cond.after_iff.mpr rfl, Cond.after_iff.mpr (eq_i res_at (Term.int_eval (1)) rfl), trivial⟩ ⟨hq.1, hq.2.1, (hq.2.2.sift fun y hy => Or.inr (N y hy)).mono (by decide) (by decide)⟩⟩
theorem main_1_1 : Claimed_1_1 := comes_1 fun _ _ _ _ _ _ h hF => ⟨h.1, hF⟩
theorem main_1_2 : Claimed_1_2 := comes_1 fun _ _ _ _ _ _ h hF => ⟨h.2.1, hF⟩
end Jvm.Pilot.@@N@@
namespace Jvm.Pilot.@@N@@
open Jvm Jvm.ClassFile Sem Op Lib Jvm.Free Jvm.Stand Jvm.Pilot.@@N@@.Jvm.D
/-! MADE BY PROGRAM (witnessworld.py) out of the Statement's table words and the real class files: 28 classes; the members and pool entries that the words name. The judged class is class 1, her method 2. -/
namespace start1
open Jvm.ClassFile
def u (s : String) : CpInfo := .utf8 (stringToUtf16 s)
/-- a pool by its gaps: so many unusable entries, then the entry; so many at the end -/
def gap : Nat → List CpInfo → List CpInfo
  | 0, r => r
  | n + 1, r => .unusable :: gap n r
def poolList (es : List (Nat × CpInfo)) (last : Nat) : List CpInfo := es.foldr (fun e r => gap e.1 (e.2 :: r)) (gap last [])
def pool (es : List (Nat × CpInfo)) (last : Nat) : Array CpInfo := ⟨poolList es last⟩
def fileOf (pool : Array CpInfo) (this : Nat) (attrs : Array Attribute := #[]) (ms : Array MethodInfo := #[]) (fl : Nat := 33) (sup : Nat := 0) (ifs : Array Nat := #[]) (fds : Array FieldInfo := #[]) : ClassFile where
  minorVersion := 0
  majorVersion := 65
  constantPool := pool
  accessFlags := fl
  thisClass := this
  superClass := sup
  interfaces := ifs
  fields := fds
  methods := ms
  attributes := attrs
def plain (name : String) (sup : Option ClassId) : Class where
  name := name
  kind := .ordinary
  loader := none
  accessFlags := 33
  super := sup
  interfaces := #[]
  cf := none
  fields := #[]
  methods := #[]
  instanceTypes := #[]
  staticTypes := #[]
  resolved := #[]
  callSites := []
  init := .initialized
  statics := none
  mirror := none

def pool0 : Array CpInfo := pool [(5, u "<init>"), (0, u "()V"), (1, .class_ 10), (1, u "java/lang/Object"), (0, u "getClass"), (0, u "()Ljava/lang/Class;"), (79, u "equals"), (0, u "(Ljava/lang/Object;)Z")] 30

def k0c0 : Code := { maxStack := 0, maxLocals := 1, code := object_method_1_code, exceptionTable := #[], attributes := #[] }
def k0m0 : Method := { name := "<init>", desc := "()V", sig := { parameters := [], returnType := none }, accessFlags := 1, code := some k0c0 }
def k0m1 : Method := { name := "getClass", desc := "()Ljava/lang/Class;", sig := { parameters := [], returnType := some (.object "java/lang/Class") }, accessFlags := 273, code := none }
def k0c2 : Code := { maxStack := 2, maxLocals := 2, code := ⟨#[0x2a, 0x2b, 0xa6, 0x00, 0x07, 0x04, 0xa7, 0x00, 0x04, 0x03, 0xac]⟩, exceptionTable := #[], attributes := #[] }
def k0m2 : Method := { name := "equals", desc := "(Ljava/lang/Object;)Z", sig := { parameters := [(.object "java/lang/Object")], returnType := some .boolean }, accessFlags := 1, code := some k0c2 }
/-- java/lang/Object -/
def k0 : Class := { plain "java/lang/Object" none with
  accessFlags := 33
  interfaces := #[]
  cf := some (fileOf pool0 8 #[] #[{ accessFlags := 1, nameIndex := 5, descriptorIndex := 6, attributes := #[] }, { accessFlags := 273, nameIndex := 11, descriptorIndex := 12, attributes := #[] }, { accessFlags := 1, nameIndex := 92, descriptorIndex := 93, attributes := #[] }] 33 0 #[] #[])
  fields := #[]
  methods := #[k0m0, k0m1, k0m2]
  instanceTypes := #[]
  staticTypes := #[]
  resolved := Array.replicate 124 none
  statics := none }

def pool1 : Array CpInfo := pool [(2, .class_ 4), (1, u "java/lang/Object"), (0, u "<init>"), (0, u "()V"), (0, .interfaceMethodref 8 9), (0, .class_ 10), (0, .nameAndType 11 12), (0, u "java/util/Iterator"), (0, u "hasNext"), (0, u "()Z"), (0, .interfaceMethodref 8 14), (0, .nameAndType 15 16), (0, u "next"), (0, u "()Ljava/lang/Object;"), (0, .class_ 18), (0, u "java/lang/Integer"), (0, .methodref 17 20), (0, .nameAndType 21 22), (0, u "intValue"), (0, u "()I"), (0, .class_ 24), (0, u "com/example/compact_abox/compactabox/ArraySet"), (0, .methodref 23 26), (0, .nameAndType 5 27), (0, u "(I)V"), (0, .methodref 17 29), (0, .nameAndType 30 31), (0, u "valueOf"), (0, u "(I)Ljava/lang/Integer;"), (0, .methodref 23 33), (0, .nameAndType 34 35), (0, u "add"), (0, u "(Ljava/lang/Object;)Z"), (0, .methodref 23 37), (0, .nameAndType 38 35), (0, u "remove"), (0, .methodref 23 40), (0, .nameAndType 41 42), (0, u "iterator"), (0, u "()Ljava/util/Iterator;"), (0, .methodref 44 45), (0, .class_ 46), (0, .nameAndType 47 48), (0, u "com/example/compact_abox/compactabox/ArraySetIteratorPinLaw"), (0, u "step"), (0, u "(Ljava/util/Iterator;ZI)Z"), (5, u "law"), (0, u "(IIII)Z")] 4

def k1m0 : Method := { name := "<init>", desc := "()V", sig := { parameters := [], returnType := none }, accessFlags := 2, code := none }
def k1c1 : Code := { maxStack := 2, maxLocals := 4, code := method_2_code, exceptionTable := #[], attributes := #[] }
def k1m1 : Method := { name := "step", desc := "(Ljava/util/Iterator;ZI)Z", sig := { parameters := [(.object "java/util/Iterator"), .boolean, .int], returnType := some .boolean }, accessFlags := 10, code := some k1c1 }
def k1c2 : Code := { maxStack := 4, maxLocals := 12, code := code, exceptionTable := #[], attributes := #[] }
def k1m2 : Method := { name := "law", desc := "(IIII)Z", sig := { parameters := [.int, .int, .int, .int], returnType := some .boolean }, accessFlags := 9, code := some k1c2 }
/-- com/example/compact_abox/compactabox/ArraySetIteratorPinLaw -/
def k1 : Class := { plain "com/example/compact_abox/compactabox/ArraySetIteratorPinLaw" (some 0) with
  accessFlags := 49
  interfaces := #[]
  cf := some (fileOf pool1 44 #[] #[{ accessFlags := 2, nameIndex := 5, descriptorIndex := 6, attributes := #[] }, { accessFlags := 10, nameIndex := 47, descriptorIndex := 48, attributes := #[] }, { accessFlags := 9, nameIndex := 54, descriptorIndex := 55, attributes := #[] }] 49 2 #[] #[])
  fields := #[]
  methods := #[k1m0, k1m1, k1m2]
  instanceTypes := #[]
  staticTypes := #[]
  resolved := Array.replicate 60 none
  statics := none }

def pool2 : Array CpInfo := pool [(8, .class_ 10), (1, u "java/lang/Iterable"), (24, .class_ 36), (0, u "java/lang/Object")] 25

/-- java/lang/Iterable -/
def k2 : Class := { plain "java/lang/Iterable" (some 0) with
  accessFlags := 1537
  interfaces := #[]
  cf := some (fileOf pool2 8 #[] #[] 1537 35 #[] #[])
  fields := #[]
  methods := #[]
  instanceTypes := #[]
  staticTypes := #[]
  resolved := Array.replicate 62 none
  statics := none }

def pool3 : Array CpInfo := pool [(10, .class_ 12), (1, u "java/util/Collection"), (47, .class_ 61), (0, u "java/lang/Object"), (0, .class_ 63), (0, u "java/lang/Iterable")] 51

/-- java/util/Collection -/
def k3 : Class := { plain "java/util/Collection" (some 0) with
  accessFlags := 1537
  interfaces := #[2]
  cf := some (fileOf pool3 10 #[] #[] 1537 60 #[62] #[])
  fields := #[]
  methods := #[]
  instanceTypes := #[]
  staticTypes := #[]
  resolved := Array.replicate 115 none
  statics := none }

def pool4 : Array CpInfo := pool [(1, .methodref 2 3), (0, .class_ 4), (0, .nameAndType 5 6), (0, u "java/lang/Object"), (0, u "<init>"), (0, u "()V"), (1, .class_ 10), (1, u "java/util/AbstractCollection"), (66, .class_ 78), (0, u "java/util/Collection")] 81

def k4c0 : Code := { maxStack := 1, maxLocals := 1, code := jdk_22_method_1_code, exceptionTable := #[], attributes := #[] }
def k4m0 : Method := { name := "<init>", desc := "()V", sig := { parameters := [], returnType := none }, accessFlags := 4, code := some k4c0 }
/-- java/util/AbstractCollection -/
def k4 : Class := { plain "java/util/AbstractCollection" (some 0) with
  accessFlags := 1057
  interfaces := #[3]
  cf := some (fileOf pool4 8 #[] #[{ accessFlags := 4, nameIndex := 5, descriptorIndex := 6, attributes := #[] }] 1057 2 #[77] #[])
  fields := #[]
  methods := #[k4m0]
  instanceTypes := #[]
  staticTypes := #[]
  resolved := Array.replicate 160 none
  statics := none }

def pool5 : Array CpInfo := pool [(26, .class_ 27), (0, u "java/lang/Object"), (5, .class_ 34), (0, u "java/util/Set"), (1, .class_ 38), (1, u "java/util/Collection"), (21, u "(Ljava/lang/Object;)Z"), (0, u "iterator"), (0, u "()Ljava/util/Iterator;"), (4, u "add"), (1, u "remove")] 74

def k5m0 : Method := { name := "iterator", desc := "()Ljava/util/Iterator;", sig := { parameters := [], returnType := some (.object "java/util/Iterator") }, accessFlags := 1025, code := none }
def k5m1 : Method := { name := "add", desc := "(Ljava/lang/Object;)Z", sig := { parameters := [(.object "java/lang/Object")], returnType := some .boolean }, accessFlags := 1025, code := none }
def k5m2 : Method := { name := "remove", desc := "(Ljava/lang/Object;)Z", sig := { parameters := [(.object "java/lang/Object")], returnType := some .boolean }, accessFlags := 1025, code := none }
/-- java/util/Set -/
def k5 : Class := { plain "java/util/Set" (some 0) with
  accessFlags := 1537
  interfaces := #[3]
  cf := some (fileOf pool5 33 #[] #[{ accessFlags := 1025, nameIndex := 61, descriptorIndex := 62, attributes := #[] }, { accessFlags := 1025, nameIndex := 67, descriptorIndex := 60, attributes := #[] }, { accessFlags := 1025, nameIndex := 69, descriptorIndex := 60, attributes := #[] }] 1537 26 #[36] #[])
  fields := #[]
  methods := #[k5m0, k5m1, k5m2]
  instanceTypes := #[]
  staticTypes := #[]
  resolved := Array.replicate 144 none
  statics := none }

def pool6 : Array CpInfo := pool [(1, .methodref 2 3), (0, .class_ 4), (0, .nameAndType 5 6), (0, u "java/util/AbstractCollection"), (0, u "<init>"), (0, u "()V"), (0, .class_ 8), (0, u "java/util/Set"), (7, .class_ 17), (0, u "java/util/AbstractSet")] 78

def k6c0 : Code := { maxStack := 1, maxLocals := 1, code := jdk_91_method_1_code, exceptionTable := #[], attributes := #[] }
def k6m0 : Method := { name := "<init>", desc := "()V", sig := { parameters := [], returnType := none }, accessFlags := 4, code := some k6c0 }
/-- java/util/AbstractSet -/
def k6 : Class := { plain "java/util/AbstractSet" (some 4) with
  accessFlags := 1057
  interfaces := #[5]
  cf := some (fileOf pool6 16 #[] #[{ accessFlags := 4, nameIndex := 5, descriptorIndex := 6, attributes := #[] }] 1057 2 #[7] #[])
  fields := #[]
  methods := #[k6m0]
  instanceTypes := #[]
  staticTypes := #[]
  resolved := Array.replicate 96 none
  statics := none }

def pool7 : Array CpInfo := pool [(1, .methodref 2 3), (0, .class_ 4), (0, .nameAndType 5 6), (0, u "java/util/AbstractSet"), (0, u "<init>"), (0, u "()V"), (0, .class_ 8), (0, u "com/example/compact_abox/compactabox/ArraySet"), (0, .methodref 10 11), (0, .class_ 12), (0, .nameAndType 13 14), (0, u "java/lang/Math"), (0, u "min"), (0, u "(II)I"), (0, .class_ 16), (0, u "java/lang/Object"), (0, .fieldref 7 18), (0, .nameAndType 19 20), (0, u "members"), (0, u "[Ljava/lang/Object;"), (0, .fieldref 7 22), (0, .nameAndType 23 24), (0, u "hashed"), (0, u "Ljava/util/Set;"), (0, .interfaceMethodref 26 27), (0, .class_ 28), (0, .nameAndType 29 30), (0, u "java/util/Set"), (0, u "add"), (0, u "(Ljava/lang/Object;)Z"), (0, .methodref 7 32), (0, .nameAndType 33 34), (0, u "indexOf"), (0, u "(Ljava/lang/Object;)I"), (0, .fieldref 7 36), (0, .nameAndType 37 38), (0, u "size"), (0, u "I"), (5, .methodref 10 45), (0, .nameAndType 46 14), (0, u "max"), (0, .methodref 48 49), (0, .class_ 50), (0, .nameAndType 51 52), (0, u "java/util/Arrays"), (0, u "copyOf"), (0, u "([Ljava/lang/Object;I)[Ljava/lang/Object;"), (0, .interfaceMethodref 26 54), (0, .nameAndType 55 30), (0, u "remove"), (0, .methodref 7 57), (0, .nameAndType 58 59), (0, u "removeAt"), (0, u "([Ljava/lang/Object;II)V"), (6, .interfaceMethodref 26 67), (0, .nameAndType 68 69), (0, u "iterator"), (0, u "()Ljava/util/Iterator;"), (0, .class_ 71), (0, u "com/example/compact_abox/compactabox/ArraySet$ArrayIterator"), (0, .methodref 70 73), (0, .nameAndType 5 74), (0, u "([Ljava/lang/Object;I)V"), (0, .methodref 7 76), (0, .nameAndType 33 77), (0, u "([Ljava/lang/Object;ILjava/lang/Object;)I"), (0, .methodref 15 79), (0, .nameAndType 80 30), (0, u "equals"), (0, .methodref 82 83), (0, .class_ 84), (0, .nameAndType 85 86), (0, u "java/lang/System"), (0, u "arraycopy"), (0, u "(Ljava/lang/Object;ILjava/lang/Object;II)V"), (0, u "MOST_IN_ARRAY"), (4, u "(I)V")] 13

def k7c0 : Code := { maxStack := 3, maxLocals := 2, code := prog_6_method_1_code, exceptionTable := #[], attributes := #[] }
def k7m0 : Method := { name := "<init>", desc := "(I)V", sig := { parameters := [.int], returnType := none }, accessFlags := 0, code := some k7c0 }
def k7c1 : Code := { maxStack := 5, maxLocals := 2, code := prog_6_method_2_code, exceptionTable := #[], attributes := #[] }
def k7m1 : Method := { name := "add", desc := "(Ljava/lang/Object;)Z", sig := { parameters := [(.object "java/lang/Object")], returnType := some .boolean }, accessFlags := 1, code := some k7c1 }
def k7c2 : Code := { maxStack := 5, maxLocals := 3, code := prog_6_method_3_code, exceptionTable := #[], attributes := #[] }
def k7m2 : Method := { name := "remove", desc := "(Ljava/lang/Object;)Z", sig := { parameters := [(.object "java/lang/Object")], returnType := some .boolean }, accessFlags := 1, code := some k7c2 }
def k7c3 : Code := { maxStack := 4, maxLocals := 1, code := prog_6_method_6_code, exceptionTable := #[], attributes := #[] }
def k7m3 : Method := { name := "iterator", desc := "()Ljava/util/Iterator;", sig := { parameters := [], returnType := some (.object "java/util/Iterator") }, accessFlags := 1, code := some k7c3 }
def k7c4 : Code := { maxStack := 3, maxLocals := 2, code := prog_6_method_7_code, exceptionTable := #[], attributes := #[] }
def k7m4 : Method := { name := "indexOf", desc := "(Ljava/lang/Object;)I", sig := { parameters := [(.object "java/lang/Object")], returnType := some .int }, accessFlags := 2, code := some k7c4 }
def k7c5 : Code := { maxStack := 2, maxLocals := 5, code := prog_6_method_8_code, exceptionTable := #[], attributes := #[] }
def k7m5 : Method := { name := "indexOf", desc := "([Ljava/lang/Object;ILjava/lang/Object;)I", sig := { parameters := [(.array (.object "java/lang/Object")), .int, (.object "java/lang/Object")], returnType := some .int }, accessFlags := 8, code := some k7c5 }
def k7c6 : Code := { maxStack := 6, maxLocals := 3, code := prog_6_method_9_code, exceptionTable := #[], attributes := #[] }
def k7m6 : Method := { name := "removeAt", desc := "([Ljava/lang/Object;II)V", sig := { parameters := [(.array (.object "java/lang/Object")), .int, .int], returnType := none }, accessFlags := 8, code := some k7c6 }
/-- com/example/compact_abox/compactabox/ArraySet -/
def k7 : Class := { plain "com/example/compact_abox/compactabox/ArraySet" (some 6) with
  accessFlags := 32
  interfaces := #[]
  cf := some (fileOf pool7 7 #[.nestMembers #[70]] #[{ accessFlags := 0, nameIndex := 5, descriptorIndex := 92, attributes := #[] }, { accessFlags := 1, nameIndex := 29, descriptorIndex := 30, attributes := #[] }, { accessFlags := 1, nameIndex := 55, descriptorIndex := 30, attributes := #[] }, { accessFlags := 1, nameIndex := 68, descriptorIndex := 69, attributes := #[] }, { accessFlags := 2, nameIndex := 33, descriptorIndex := 34, attributes := #[] }, { accessFlags := 8, nameIndex := 33, descriptorIndex := 77, attributes := #[] }, { accessFlags := 8, nameIndex := 58, descriptorIndex := 59, attributes := #[] }] 32 2 #[] #[{ accessFlags := 26, nameIndex := 87, descriptorIndex := 38, attributes := #[] }, { accessFlags := 2, nameIndex := 19, descriptorIndex := 20, attributes := #[] }, { accessFlags := 2, nameIndex := 37, descriptorIndex := 38, attributes := #[] }, { accessFlags := 2, nameIndex := 23, descriptorIndex := 24, attributes := #[] }])
  fields := #[{ name := "MOST_IN_ARRAY", type := .int, accessFlags := 26, slot := 0, constantValue := 0 }, { name := "members", type := (.array (.object "java/lang/Object")), accessFlags := 2, slot := 0, constantValue := 0 }, { name := "size", type := .int, accessFlags := 2, slot := 1, constantValue := 0 }, { name := "hashed", type := (.object "java/util/Set"), accessFlags := 2, slot := 2, constantValue := 0 }]
  methods := #[k7m0, k7m1, k7m2, k7m3, k7m4, k7m5, k7m6]
  instanceTypes := #[(.array (.object "java/lang/Object")), .int, (.object "java/util/Set")]
  staticTypes := #[.int]
  resolved := Array.replicate 106 none
  statics := none }

def pool8 : Array CpInfo := pool [(1, .class_ 2), (0, u "java/lang/Math"), (1, .class_ 6), (1, u "java/lang/Object"), (0, u "<init>"), (0, u "()V"), (89, .class_ 100), (1, u "java/lang/Math$RandomNumberGeneratorHolder"), (71, u "negativeZeroFloatBits"), (0, u "J"), (2, u "negativeZeroDoubleBits"), (21, u "max"), (2, u "min"), (43, u "$assertionsDisabled"), (0, u "Z"), (88, u "(II)I"), (2, u "twoToTheDoubleScaleDown"), (0, u "D"), (4, u "twoToTheDoubleScaleUp"), (9, u "E"), (3, u "PI"), (2, u "TAU"), (2, u "DEGREES_TO_RADIANS"), (0, u "RADIANS_TO_DEGREES")] 94

def k8m0 : Method := { name := "<init>", desc := "()V", sig := { parameters := [], returnType := none }, accessFlags := 2, code := none }
def k8c1 : Code := { maxStack := 2, maxLocals := 2, code := jdk_29_method_65_code, exceptionTable := #[], attributes := #[] }
def k8m1 : Method := { name := "max", desc := "(II)I", sig := { parameters := [.int, .int], returnType := some .int }, accessFlags := 9, code := some k8c1 }
def k8c2 : Code := { maxStack := 2, maxLocals := 2, code := jdk_29_method_69_code, exceptionTable := #[], attributes := #[] }
def k8m2 : Method := { name := "min", desc := "(II)I", sig := { parameters := [.int, .int], returnType := some .int }, accessFlags := 9, code := some k8c2 }
/-- java/lang/Math -/
def k8 : Class := { plain "java/lang/Math" (some 0) with
  accessFlags := 49
  interfaces := #[]
  cf := some (fileOf pool8 1 #[.nestMembers #[98]] #[{ accessFlags := 2, nameIndex := 7, descriptorIndex := 8, attributes := #[] }, { accessFlags := 9, nameIndex := 198, descriptorIndex := 335, attributes := #[] }, { accessFlags := 9, nameIndex := 201, descriptorIndex := 335, attributes := #[] }] 49 4 #[] #[{ accessFlags := 25, nameIndex := 354, descriptorIndex := 339, attributes := #[] }, { accessFlags := 25, nameIndex := 358, descriptorIndex := 339, attributes := #[] }, { accessFlags := 25, nameIndex := 361, descriptorIndex := 339, attributes := #[] }, { accessFlags := 26, nameIndex := 364, descriptorIndex := 339, attributes := #[] }, { accessFlags := 26, nameIndex := 365, descriptorIndex := 339, attributes := #[] }, { accessFlags := 26, nameIndex := 172, descriptorIndex := 173, attributes := #[] }, { accessFlags := 26, nameIndex := 176, descriptorIndex := 173, attributes := #[] }, { accessFlags := 8, nameIndex := 344, descriptorIndex := 339, attributes := #[] }, { accessFlags := 8, nameIndex := 338, descriptorIndex := 339, attributes := #[] }, { accessFlags := 4120, nameIndex := 245, descriptorIndex := 246, attributes := #[] }])
  fields := #[{ name := "E", type := .double, accessFlags := 25, slot := 0, constantValue := 0 }, { name := "PI", type := .double, accessFlags := 25, slot := 1, constantValue := 0 }, { name := "TAU", type := .double, accessFlags := 25, slot := 2, constantValue := 0 }, { name := "DEGREES_TO_RADIANS", type := .double, accessFlags := 26, slot := 3, constantValue := 0 }, { name := "RADIANS_TO_DEGREES", type := .double, accessFlags := 26, slot := 4, constantValue := 0 }, { name := "negativeZeroFloatBits", type := .long, accessFlags := 26, slot := 5, constantValue := 0 }, { name := "negativeZeroDoubleBits", type := .long, accessFlags := 26, slot := 6, constantValue := 0 }, { name := "twoToTheDoubleScaleUp", type := .double, accessFlags := 8, slot := 7, constantValue := 0 }, { name := "twoToTheDoubleScaleDown", type := .double, accessFlags := 8, slot := 8, constantValue := 0 }, { name := "$assertionsDisabled", type := .boolean, accessFlags := 4120, slot := 9, constantValue := 0 }]
  methods := #[k8m0, k8m1, k8m2]
  instanceTypes := #[]
  staticTypes := #[.double, .double, .double, .double, .double, .long, .long, .double, .double, .boolean]
  resolved := Array.replicate 460 none
  statics := none }

def pool9 : Array CpInfo := pool [(1, .class_ 2), (0, u "java/io/Serializable"), (0, .class_ 4), (0, u "java/lang/Object")] 2

/-- java/io/Serializable -/
def k9 : Class := { plain "java/io/Serializable" (some 0) with
  accessFlags := 1537
  interfaces := #[]
  cf := some (fileOf pool9 1 #[] #[] 1537 3 #[] #[])
  fields := #[]
  methods := #[]
  instanceTypes := #[]
  staticTypes := #[]
  resolved := Array.replicate 7 none
  statics := none }

def pool10 : Array CpInfo := pool [(1, .methodref 2 3), (0, .class_ 4), (0, .nameAndType 5 6), (0, u "java/lang/Object"), (0, u "<init>"), (0, u "()V"), (1, .class_ 10), (1, u "java/lang/Number"), (2, .class_ 14), (0, u "java/io/Serializable"), (0, u "serialVersionUID"), (0, u "J")] 20

def k10c0 : Code := { maxStack := 1, maxLocals := 1, code := jdk_18_method_1_code, exceptionTable := #[], attributes := #[] }
def k10m0 : Method := { name := "<init>", desc := "()V", sig := { parameters := [], returnType := none }, accessFlags := 1, code := some k10c0 }
/-- java/lang/Number -/
def k10 : Class := { plain "java/lang/Number" (some 0) with
  accessFlags := 1057
  interfaces := #[9]
  cf := some (fileOf pool10 8 #[] #[{ accessFlags := 1, nameIndex := 5, descriptorIndex := 6, attributes := #[] }] 1057 2 #[13] #[{ accessFlags := 26, nameIndex := 15, descriptorIndex := 16, attributes := #[] }])
  fields := #[{ name := "serialVersionUID", type := .long, accessFlags := 26, slot := 0, constantValue := 0 }]
  methods := #[k10m0]
  instanceTypes := #[]
  staticTypes := #[.long]
  resolved := Array.replicate 37 none
  statics := none }

def pool11 : Array CpInfo := pool [(1, .class_ 2), (0, u "java/lang/Comparable"), (0, .class_ 4), (0, u "java/lang/Object")] 7

/-- java/lang/Comparable -/
def k11 : Class := { plain "java/lang/Comparable" (some 0) with
  accessFlags := 1537
  interfaces := #[]
  cf := some (fileOf pool11 1 #[] #[] 1537 3 #[] #[])
  fields := #[]
  methods := #[]
  instanceTypes := #[]
  staticTypes := #[]
  resolved := Array.replicate 12 none
  statics := none }

def pool12 : Array CpInfo := pool [(1, .class_ 2), (0, u "java/lang/constant/Constable"), (0, .class_ 4), (0, u "java/lang/Object")] 6

/-- java/lang/constant/Constable -/
def k12 : Class := { plain "java/lang/constant/Constable" (some 0) with
  accessFlags := 1537
  interfaces := #[]
  cf := some (fileOf pool12 1 #[] #[] 1537 3 #[] #[])
  fields := #[]
  methods := #[]
  instanceTypes := #[]
  staticTypes := #[]
  resolved := Array.replicate 11 none
  statics := none }

def pool13 : Array CpInfo := pool [(1, .class_ 2), (0, u "java/lang/constant/ConstantDesc"), (0, .class_ 4), (0, u "java/lang/Object")] 32

/-- java/lang/constant/ConstantDesc -/
def k13 : Class := { plain "java/lang/constant/ConstantDesc" (some 0) with
  accessFlags := 1537
  interfaces := #[]
  cf := some (fileOf pool13 1 #[] #[] 1537 3 #[] #[])
  fields := #[]
  methods := #[]
  instanceTypes := #[]
  staticTypes := #[]
  resolved := Array.replicate 37 none
  statics := none }

def pool14 : Array CpInfo := pool [(1, .class_ 2), (0, u "java/lang/Integer"), (16, u "digits"), (0, u "[C"), (46, u "<init>"), (17, u "DigitOnes"), (0, u "[B"), (2, u "DigitTens"), (10, .nameAndType 67 101), (0, u "()V"), (19, u "()I"), (65, u "valueOf"), (0, u "(I)Ljava/lang/Integer;"), (0, .class_ 190), (0, u "java/lang/Integer$IntegerCache"), (0, .fieldref 189 192), (0, .nameAndType 193 194), (0, u "high"), (0, u "I"), (0, .fieldref 189 196), (0, .nameAndType 197 198), (0, u "cache"), (0, u "[Ljava/lang/Integer;"), (0, .methodref 1 200), (0, .nameAndType 67 201), (0, u "(I)V"), (0, .methodref 203 100), (0, .class_ 204), (0, u "java/lang/Number"), (0, .fieldref 1 206), (0, .nameAndType 207 194), (0, u "value"), (3, .methodref 1 212), (0, .nameAndType 213 121), (0, u "intValue"), (88, u "TYPE"), (0, u "Ljava/lang/Class;"), (0, .class_ 305), (0, u "java/lang/Comparable"), (0, .class_ 307), (0, u "java/lang/constant/Constable"), (0, .class_ 309), (0, u "java/lang/constant/ConstantDesc"), (0, u "MIN_VALUE"), (1, u "MAX_VALUE"), (3, u "SIZE"), (1, u "BYTES"), (1, u "serialVersionUID"), (0, u "J"), (63, u "equals"), (0, u "(Ljava/lang/Object;)Z")] 66

def k14c0 : Code := { maxStack := 3, maxLocals := 1, code := jdk_33_method_22_code, exceptionTable := #[], attributes := #[] }
def k14m0 : Method := { name := "valueOf", desc := "(I)Ljava/lang/Integer;", sig := { parameters := [.int], returnType := some (.object "java/lang/Integer") }, accessFlags := 9, code := some k14c0 }
def k14c1 : Code := { maxStack := 2, maxLocals := 2, code := jdk_33_method_23_code, exceptionTable := #[], attributes := #[] }
def k14m1 : Method := { name := "<init>", desc := "(I)V", sig := { parameters := [.int], returnType := none }, accessFlags := 1, code := some k14c1 }
def k14c2 : Code := { maxStack := 1, maxLocals := 1, code := jdk_33_method_27_code, exceptionTable := #[], attributes := #[] }
def k14m2 : Method := { name := "intValue", desc := "()I", sig := { parameters := [], returnType := some .int }, accessFlags := 1, code := some k14c2 }
def k14c3 : Code := { maxStack := 2, maxLocals := 2, code := jdk_33_method_34_code, exceptionTable := #[], attributes := #[] }
def k14m3 : Method := { name := "equals", desc := "(Ljava/lang/Object;)Z", sig := { parameters := [(.object "java/lang/Object")], returnType := some .boolean }, accessFlags := 1, code := some k14c3 }
/-- java/lang/Integer -/
def k14 : Class := { plain "java/lang/Integer" (some 10) with
  accessFlags := 49
  interfaces := #[11, 12, 13]
  cf := some (fileOf pool14 1 #[.nestMembers #[189]] #[{ accessFlags := 9, nameIndex := 187, descriptorIndex := 188, attributes := #[] }, { accessFlags := 1, nameIndex := 67, descriptorIndex := 201, attributes := #[] }, { accessFlags := 1, nameIndex := 213, descriptorIndex := 121, attributes := #[] }, { accessFlags := 1, nameIndex := 385, descriptorIndex := 386, attributes := #[] }] 49 203 #[304, 306, 308] #[{ accessFlags := 25, nameIndex := 310, descriptorIndex := 194, attributes := #[] }, { accessFlags := 25, nameIndex := 312, descriptorIndex := 194, attributes := #[] }, { accessFlags := 25, nameIndex := 302, descriptorIndex := 303, attributes := #[] }, { accessFlags := 24, nameIndex := 19, descriptorIndex := 20, attributes := #[] }, { accessFlags := 24, nameIndex := 89, descriptorIndex := 86, attributes := #[] }, { accessFlags := 24, nameIndex := 85, descriptorIndex := 86, attributes := #[] }, { accessFlags := 18, nameIndex := 207, descriptorIndex := 194, attributes := #[] }, { accessFlags := 25, nameIndex := 316, descriptorIndex := 194, attributes := #[] }, { accessFlags := 25, nameIndex := 318, descriptorIndex := 194, attributes := #[] }, { accessFlags := 26, nameIndex := 320, descriptorIndex := 321, attributes := #[] }])
  fields := #[{ name := "MIN_VALUE", type := .int, accessFlags := 25, slot := 0, constantValue := 0 }, { name := "MAX_VALUE", type := .int, accessFlags := 25, slot := 1, constantValue := 0 }, { name := "TYPE", type := (.object "java/lang/Class"), accessFlags := 25, slot := 2, constantValue := 0 }, { name := "digits", type := (.array .char), accessFlags := 24, slot := 3, constantValue := 0 }, { name := "DigitTens", type := (.array .byte), accessFlags := 24, slot := 4, constantValue := 0 }, { name := "DigitOnes", type := (.array .byte), accessFlags := 24, slot := 5, constantValue := 0 }, { name := "value", type := .int, accessFlags := 18, slot := 0, constantValue := 0 }, { name := "SIZE", type := .int, accessFlags := 25, slot := 6, constantValue := 0 }, { name := "BYTES", type := .int, accessFlags := 25, slot := 7, constantValue := 0 }, { name := "serialVersionUID", type := .long, accessFlags := 26, slot := 8, constantValue := 0 }]
  methods := #[k14m0, k14m1, k14m2, k14m3]
  instanceTypes := #[.int]
  staticTypes := #[.int, .int, (.object "java/lang/Class"), (.array .char), (.array .byte), (.array .byte), .int, .int, .long]
  resolved := Array.replicate 453 none
  statics := none }

def pool15 : Array CpInfo := pool [(2, .class_ 4), (1, u "java/lang/Object"), (0, u "<init>"), (0, u "()V"), (0, .class_ 8), (0, u "java/lang/Integer"), (7, .class_ 18), (1, u "java/lang/Integer$IntegerCache"), (0, u "$assertionsDisabled"), (0, u "Z"), (26, u "high"), (0, u "I"), (8, u "archivedCache"), (0, u "[Ljava/lang/Integer;"), (12, u "cache"), (0, u "low")] 27

def k15m0 : Method := { name := "<init>", desc := "()V", sig := { parameters := [], returnType := none }, accessFlags := 2, code := none }
/-- java/lang/Integer$IntegerCache -/
def k15 : Class := { plain "java/lang/Integer$IntegerCache" (some 0) with
  accessFlags := 48
  interfaces := #[]
  cf := some (fileOf pool15 16 #[.nestHost 7] #[{ accessFlags := 2, nameIndex := 5, descriptorIndex := 6, attributes := #[] }] 48 2 #[] #[{ accessFlags := 24, nameIndex := 72, descriptorIndex := 48, attributes := #[] }, { accessFlags := 24, nameIndex := 47, descriptorIndex := 48, attributes := #[] }, { accessFlags := 24, nameIndex := 71, descriptorIndex := 58, attributes := #[] }, { accessFlags := 8, nameIndex := 57, descriptorIndex := 58, attributes := #[] }, { accessFlags := 4120, nameIndex := 19, descriptorIndex := 20, attributes := #[] }])
  fields := #[{ name := "low", type := .int, accessFlags := 24, slot := 0, constantValue := 0 }, { name := "high", type := .int, accessFlags := 24, slot := 1, constantValue := 0 }, { name := "cache", type := (.array (.object "java/lang/Integer")), accessFlags := 24, slot := 2, constantValue := 0 }, { name := "archivedCache", type := (.array (.object "java/lang/Integer")), accessFlags := 8, slot := 3, constantValue := 0 }, { name := "$assertionsDisabled", type := .boolean, accessFlags := 4120, slot := 4, constantValue := 0 }]
  methods := #[k15m0]
  instanceTypes := #[]
  staticTypes := #[.int, .int, (.array (.object "java/lang/Integer")), (.array (.object "java/lang/Integer")), .boolean]
  resolved := Array.replicate 100 none
  statics := some 0 }

def pool16 : Array CpInfo := pool [(2, .class_ 4), (1, u "java/lang/Object"), (0, u "<init>"), (0, u "()V"), (7, .class_ 16), (1, u "java/util/Arrays"), (57, .class_ 76), (1, u "java/util/Arrays$NaturalOrder"), (9, .methodref 2 87), (0, .nameAndType 88 89), (0, u "getClass"), (0, u "()Ljava/lang/Class;"), (20, .class_ 111), (0, u "[Ljava/lang/Object;"), (1, .class_ 115), (1, u "java/util/Arrays$LegacyMergeSort"), (1, u "Z"), (32, .methodref 151 152), (0, .class_ 153), (0, .nameAndType 154 155), (0, u "java/lang/System"), (0, u "arraycopy"), (0, u "(Ljava/lang/Object;ILjava/lang/Object;II)V"), (144, .methodref 14 301), (0, .nameAndType 302 303), (0, u "copyOf"), (0, u "([Ljava/lang/Object;ILjava/lang/Class;)[Ljava/lang/Object;"), (0, .methodref 305 306), (0, .class_ 307), (0, .nameAndType 308 309), (0, u "java/lang/Math"), (0, u "min"), (0, u "(II)I"), (65, .class_ 376), (0, u "java/util/Arrays$ArrayList"), (68, u "$assertionsDisabled"), (269, u "MIN_ARRAY_SORT_GRAN"), (0, u "I"), (2, u "INSERTIONSORT_THRESHOLD"), (140, u "([Ljava/lang/Object;I)[Ljava/lang/Object;"), (114, .class_ 976), (0, u "java/util/Arrays$ArrayItr")] 52

def k16m0 : Method := { name := "<init>", desc := "()V", sig := { parameters := [], returnType := none }, accessFlags := 2, code := none }
def k16c1 : Code := { maxStack := 3, maxLocals := 2, code := jdk_65_method_119_code, exceptionTable := #[], attributes := #[] }
def k16m1 : Method := { name := "copyOf", desc := "([Ljava/lang/Object;I)[Ljava/lang/Object;", sig := { parameters := [(.array (.object "java/lang/Object")), .int], returnType := some (.array (.object "java/lang/Object")) }, accessFlags := 9, code := some k16c1 }
def k16c2 : Code := { maxStack := 6, maxLocals := 4, code := jdk_65_method_120_code, exceptionTable := #[], attributes := #[] }
def k16m2 : Method := { name := "copyOf", desc := "([Ljava/lang/Object;ILjava/lang/Class;)[Ljava/lang/Object;", sig := { parameters := [(.array (.object "java/lang/Object")), .int, (.object "java/lang/Class")], returnType := some (.array (.object "java/lang/Object")) }, accessFlags := 9, code := some k16c2 }
/-- java/util/Arrays -/
def k16 : Class := { plain "java/util/Arrays" (some 0) with
  accessFlags := 49
  interfaces := #[]
  cf := some (fileOf pool16 14 #[.nestMembers #[975, 375, 113, 74]] #[{ accessFlags := 2, nameIndex := 5, descriptorIndex := 6, attributes := #[] }, { accessFlags := 9, nameIndex := 302, descriptorIndex := 860, attributes := #[] }, { accessFlags := 9, nameIndex := 302, descriptorIndex := 303, attributes := #[] }] 49 2 #[] #[{ accessFlags := 26, nameIndex := 715, descriptorIndex := 716, attributes := #[] }, { accessFlags := 26, nameIndex := 719, descriptorIndex := 716, attributes := #[] }, { accessFlags := 4120, nameIndex := 445, descriptorIndex := 117, attributes := #[] }])
  fields := #[{ name := "MIN_ARRAY_SORT_GRAN", type := .int, accessFlags := 26, slot := 0, constantValue := 0 }, { name := "INSERTIONSORT_THRESHOLD", type := .int, accessFlags := 26, slot := 1, constantValue := 0 }, { name := "$assertionsDisabled", type := .boolean, accessFlags := 4120, slot := 2, constantValue := 0 }]
  methods := #[k16m0, k16m1, k16m2]
  instanceTypes := #[]
  staticTypes := #[.int, .int, .boolean]
  resolved := Array.replicate 1029 none
  statics := none }

def pool17 : Array CpInfo := pool [(2, .class_ 4), (1, u "java/lang/Object"), (0, u "<init>"), (0, u "()V"), (1, .class_ 10), (1, u "java/lang/System"), (0, u "allowSecurityManager"), (0, u "I"), (16, u "cons"), (0, u "Ljava/io/Console;"), (77, .class_ 110), (1, u "java/lang/System$CallersHolder"), (43, u "initialErrStream"), (0, u "Ljava/io/PrintStream;"), (19, u "security"), (0, u "Ljava/lang/SecurityManager;"), (31, .class_ 209), (0, u "java/lang/System$1"), (7, u "props"), (0, u "Ljava/util/Properties;"), (2, u "lineSeparator"), (0, u "Ljava/lang/String;"), (96, .class_ 321), (1, u "java/lang/System$LoggerFinder"), (5, .class_ 328), (0, u "java/lang/System$Logger"), (67, u "err"), (2, u "out"), (91, u "notSupportedJnuEncoding"), (15, u "in"), (17, u "initialIn"), (0, u "Ljava/io/InputStream;"), (35, u "bootLayer"), (0, u "Ljava/lang/ModuleLayer;"), (99, .class_ 664), (0, u "java/lang/System$2"), (9, u "NEVER"), (2, u "MAYBE"), (49, u "arraycopy"), (0, u "(Ljava/lang/Object;ILjava/lang/Object;II)V"), (72, .class_ 802), (0, u "java/lang/System$Logger$Level")] 31

def k17m0 : Method := { name := "<init>", desc := "()V", sig := { parameters := [], returnType := none }, accessFlags := 2, code := none }
def k17m1 : Method := { name := "arraycopy", desc := "(Ljava/lang/Object;ILjava/lang/Object;II)V", sig := { parameters := [(.object "java/lang/Object"), .int, (.object "java/lang/Object"), .int, .int], returnType := none }, accessFlags := 265, code := none }
/-- java/lang/System -/
def k17 : Class := { plain "java/lang/System" (some 0) with
  accessFlags := 49
  interfaces := #[]
  cf := some (fileOf pool17 8 #[.nestMembers #[319, 327, 801, 108, 663, 208]] #[{ accessFlags := 2, nameIndex := 5, descriptorIndex := 6, attributes := #[] }, { accessFlags := 265, nameIndex := 727, descriptorIndex := 728, attributes := #[] }] 49 2 #[] #[{ accessFlags := 25, nameIndex := 507, descriptorIndex := 526, attributes := #[] }, { accessFlags := 25, nameIndex := 399, descriptorIndex := 155, attributes := #[] }, { accessFlags := 25, nameIndex := 396, descriptorIndex := 155, attributes := #[] }, { accessFlags := 10, nameIndex := 525, descriptorIndex := 526, attributes := #[] }, { accessFlags := 26, nameIndex := 674, descriptorIndex := 12, attributes := #[] }, { accessFlags := 26, nameIndex := 677, descriptorIndex := 12, attributes := #[] }, { accessFlags := 10, nameIndex := 11, descriptorIndex := 12, attributes := #[] }, { accessFlags := 74, nameIndex := 175, descriptorIndex := 176, attributes := #[] }, { accessFlags := 10, nameIndex := 491, descriptorIndex := 222, attributes := #[] }, { accessFlags := 74, nameIndex := 29, descriptorIndex := 30, attributes := #[] }, { accessFlags := 74, nameIndex := 154, descriptorIndex := 155, attributes := #[] }, { accessFlags := 10, nameIndex := 217, descriptorIndex := 218, attributes := #[] }, { accessFlags := 10, nameIndex := 221, descriptorIndex := 222, attributes := #[] }, { accessFlags := 8, nameIndex := 562, descriptorIndex := 563, attributes := #[] }])
  fields := #[{ name := "in", type := (.object "java/io/InputStream"), accessFlags := 25, slot := 0, constantValue := 0 }, { name := "out", type := (.object "java/io/PrintStream"), accessFlags := 25, slot := 1, constantValue := 0 }, { name := "err", type := (.object "java/io/PrintStream"), accessFlags := 25, slot := 2, constantValue := 0 }, { name := "initialIn", type := (.object "java/io/InputStream"), accessFlags := 10, slot := 3, constantValue := 0 }, { name := "NEVER", type := .int, accessFlags := 26, slot := 4, constantValue := 0 }, { name := "MAYBE", type := .int, accessFlags := 26, slot := 5, constantValue := 0 }, { name := "allowSecurityManager", type := .int, accessFlags := 10, slot := 6, constantValue := 0 }, { name := "security", type := (.object "java/lang/SecurityManager"), accessFlags := 74, slot := 7, constantValue := 0 }, { name := "notSupportedJnuEncoding", type := (.object "java/lang/String"), accessFlags := 10, slot := 8, constantValue := 0 }, { name := "cons", type := (.object "java/io/Console"), accessFlags := 74, slot := 9, constantValue := 0 }, { name := "initialErrStream", type := (.object "java/io/PrintStream"), accessFlags := 74, slot := 10, constantValue := 0 }, { name := "props", type := (.object "java/util/Properties"), accessFlags := 10, slot := 11, constantValue := 0 }, { name := "lineSeparator", type := (.object "java/lang/String"), accessFlags := 10, slot := 12, constantValue := 0 }, { name := "bootLayer", type := (.object "java/lang/ModuleLayer"), accessFlags := 8, slot := 13, constantValue := 0 }]
  methods := #[k17m0, k17m1]
  instanceTypes := #[]
  staticTypes := #[(.object "java/io/InputStream"), (.object "java/io/PrintStream"), (.object "java/io/PrintStream"), (.object "java/io/InputStream"), .int, .int, .int, (.object "java/lang/SecurityManager"), (.object "java/lang/String"), (.object "java/io/Console"), (.object "java/io/PrintStream"), (.object "java/util/Properties"), (.object "java/lang/String"), (.object "java/lang/ModuleLayer")]
  resolved := Array.replicate 834 none
  statics := none }

def pool18 : Array CpInfo := pool [(16, .class_ 18), (1, u "java/util/Iterator"), (0, u "hasNext"), (0, u "()Z"), (2, u "next"), (0, u "()Ljava/lang/Object;"), (6, .class_ 32), (0, u "java/lang/Object")] 20

def k18m0 : Method := { name := "hasNext", desc := "()Z", sig := { parameters := [], returnType := some .boolean }, accessFlags := 1025, code := none }
def k18m1 : Method := { name := "next", desc := "()Ljava/lang/Object;", sig := { parameters := [], returnType := some (.object "java/lang/Object") }, accessFlags := 1025, code := none }
/-- java/util/Iterator -/
def k18 : Class := { plain "java/util/Iterator" (some 0) with
  accessFlags := 1537
  interfaces := #[]
  cf := some (fileOf pool18 16 #[] #[{ accessFlags := 1025, nameIndex := 19, descriptorIndex := 20, attributes := #[] }, { accessFlags := 1025, nameIndex := 23, descriptorIndex := 24, attributes := #[] }] 1537 31 #[] #[])
  fields := #[]
  methods := #[k18m0, k18m1]
  instanceTypes := #[]
  staticTypes := #[]
  resolved := Array.replicate 53 none
  statics := none }

def pool19 : Array CpInfo := pool [(1, .methodref 2 3), (0, .class_ 4), (0, .nameAndType 5 6), (0, u "java/lang/Object"), (0, u "<init>"), (0, u "()V"), (0, .fieldref 8 9), (0, .class_ 10), (0, .nameAndType 11 12), (0, u "com/example/compact_abox/compactabox/ArraySet$ArrayIterator"), (0, u "members"), (0, u "[Ljava/lang/Object;"), (0, .fieldref 8 14), (0, .nameAndType 15 16), (0, u "size"), (0, u "I"), (0, .fieldref 8 18), (0, .nameAndType 19 16), (0, u "next"), (3, .class_ 24), (0, u "java/util/Iterator"), (0, u "([Ljava/lang/Object;I)V"), (2, u "hasNext"), (0, u "()Z"), (1, u "()Ljava/lang/Object;"), (6, .class_ 39), (0, u "com/example/compact_abox/compactabox/ArraySet")] 2

def k19c0 : Code := { maxStack := 2, maxLocals := 3, code := prog_7_method_1_code, exceptionTable := #[], attributes := #[] }
def k19m0 : Method := { name := "<init>", desc := "([Ljava/lang/Object;I)V", sig := { parameters := [(.array (.object "java/lang/Object")), .int], returnType := none }, accessFlags := 0, code := some k19c0 }
def k19c1 : Code := { maxStack := 2, maxLocals := 1, code := prog_7_method_2_code, exceptionTable := #[], attributes := #[] }
def k19m1 : Method := { name := "hasNext", desc := "()Z", sig := { parameters := [], returnType := some .boolean }, accessFlags := 1, code := some k19c1 }
def k19c2 : Code := { maxStack := 5, maxLocals := 1, code := prog_7_method_3_code, exceptionTable := #[], attributes := #[] }
def k19m2 : Method := { name := "next", desc := "()Ljava/lang/Object;", sig := { parameters := [], returnType := some (.object "java/lang/Object") }, accessFlags := 1, code := some k19c2 }
/-- com/example/compact_abox/compactabox/ArraySet$ArrayIterator -/
def k19 : Class := { plain "com/example/compact_abox/compactabox/ArraySet$ArrayIterator" (some 0) with
  accessFlags := 32
  interfaces := #[18]
  cf := some (fileOf pool19 8 #[.nestHost 38] #[{ accessFlags := 0, nameIndex := 5, descriptorIndex := 25, attributes := #[] }, { accessFlags := 1, nameIndex := 28, descriptorIndex := 29, attributes := #[] }, { accessFlags := 1, nameIndex := 19, descriptorIndex := 31, attributes := #[] }] 32 2 #[23] #[{ accessFlags := 18, nameIndex := 11, descriptorIndex := 12, attributes := #[] }, { accessFlags := 18, nameIndex := 15, descriptorIndex := 16, attributes := #[] }, { accessFlags := 2, nameIndex := 19, descriptorIndex := 16, attributes := #[] }])
  fields := #[{ name := "members", type := (.array (.object "java/lang/Object")), accessFlags := 18, slot := 0, constantValue := 0 }, { name := "size", type := .int, accessFlags := 18, slot := 1, constantValue := 0 }, { name := "next", type := .int, accessFlags := 2, slot := 2, constantValue := 0 }]
  methods := #[k19m0, k19m1, k19m2]
  instanceTypes := #[(.array (.object "java/lang/Object")), .int, .int]
  staticTypes := #[]
  resolved := Array.replicate 42 none
  statics := none }

def pool20 : Array CpInfo := pool [(1, u "java/lang/Class"), (0, .class_ 1), (0, u "java/lang/Object"), (0, .class_ 3)] 3

/-- java/lang/Class -/
def k20 : Class := { plain "java/lang/Class" (some 0) with
  accessFlags := 49
  interfaces := #[]
  cf := some (fileOf pool20 2 #[] #[] 49 4 #[] #[])
  fields := #[]
  methods := #[]
  instanceTypes := #[]
  staticTypes := #[]
  resolved := Array.replicate 8 none
  statics := none }

def pool21 : Array CpInfo := pool [(1, u "java/lang/Cloneable"), (0, .class_ 1), (0, u "java/lang/Object"), (0, .class_ 3)] 3

/-- java/lang/Cloneable -/
def k21 : Class := { plain "java/lang/Cloneable" (some 0) with
  accessFlags := 1537
  interfaces := #[]
  cf := some (fileOf pool21 2 #[] #[] 1537 4 #[] #[])
  fields := #[]
  methods := #[]
  instanceTypes := #[]
  staticTypes := #[]
  resolved := Array.replicate 8 none
  statics := none }

/-- the primitive byte -/
def k22 : Class := { plain "byte" none with kind := .primitive 'B', accessFlags := 0x411 }
/-- [B -/
def k23 : Class := { plain "[B" (some 0) with kind := .array 22 .byte, interfaces := #[21, 9], accessFlags := 1041 }

/-- the primitive int -/
def k24 : Class := { plain "int" none with kind := .primitive 'I', accessFlags := 0x411 }
/-- [I -/
def k25 : Class := { plain "[I" (some 0) with kind := .array 24 .int, interfaces := #[21, 9], accessFlags := 1041 }

/-- [Ljava/lang/Integer; -/
def k26 : Class := { plain "[Ljava/lang/Integer;" (some 0) with kind := .array 14 (.object "java/lang/Integer"), interfaces := #[21, 9], accessFlags := 1041 }

/-- [Ljava/lang/Object; -/
def k27 : Class := { plain "[Ljava/lang/Object;" (some 0) with kind := .array 0 (.object "java/lang/Object"), interfaces := #[21, 9], accessFlags := 1041, mirror := some 1 }

def heap : Heap := #[{ cls := 15, slots := #[.int 0, .int 127, .ref 2, .null, .int 0], vm := .statics 15 },
  { cls := 20, slots := #[], vm := .mirror 27 },
  { cls := 26, slots := #[.ref 3, .ref 4, .ref 5, .ref 6, .ref 7, .ref 8, .ref 9, .ref 10, .ref 11, .ref 12, .ref 13, .ref 14, .ref 15, .ref 16, .ref 17, .ref 18, .ref 19, .ref 20, .ref 21, .ref 22, .ref 23, .ref 24, .ref 25, .ref 26, .ref 27, .ref 28, .ref 29, .ref 30, .ref 31, .ref 32, .ref 33, .ref 34, .ref 35, .ref 36, .ref 37, .ref 38, .ref 39, .ref 40, .ref 41, .ref 42, .ref 43, .ref 44, .ref 45, .ref 46, .ref 47, .ref 48, .ref 49, .ref 50, .ref 51, .ref 52, .ref 53, .ref 54, .ref 55, .ref 56, .ref 57, .ref 58, .ref 59, .ref 60, .ref 61, .ref 62, .ref 63, .ref 64, .ref 65, .ref 66, .ref 67, .ref 68, .ref 69, .ref 70, .ref 71, .ref 72, .ref 73, .ref 74, .ref 75, .ref 76, .ref 77, .ref 78, .ref 79, .ref 80, .ref 81, .ref 82, .ref 83, .ref 84, .ref 85, .ref 86, .ref 87, .ref 88, .ref 89, .ref 90, .ref 91, .ref 92, .ref 93, .ref 94, .ref 95, .ref 96, .ref 97, .ref 98, .ref 99, .ref 100, .ref 101, .ref 102, .ref 103, .ref 104, .ref 105, .ref 106, .ref 107, .ref 108, .ref 109, .ref 110, .ref 111, .ref 112, .ref 113, .ref 114, .ref 115, .ref 116, .ref 117, .ref 118, .ref 119, .ref 120, .ref 121, .ref 122, .ref 123, .ref 124, .ref 125, .ref 126, .ref 127, .ref 128, .ref 129, .ref 130, .ref 131, .ref 132, .ref 133, .ref 134, .ref 135, .ref 136, .ref 137, .ref 138, .ref 139, .ref 140, .ref 141, .ref 142, .ref 143, .ref 144, .ref 145, .ref 146, .ref 147, .ref 148, .ref 149, .ref 150, .ref 151, .ref 152, .ref 153, .ref 154, .ref 155, .ref 156, .ref 157, .ref 158, .ref 159, .ref 160, .ref 161, .ref 162, .ref 163, .ref 164, .ref 165, .ref 166, .ref 167, .ref 168, .ref 169, .ref 170, .ref 171, .ref 172, .ref 173, .ref 174, .ref 175, .ref 176, .ref 177, .ref 178, .ref 179, .ref 180, .ref 181, .ref 182, .ref 183, .ref 184, .ref 185, .ref 186, .ref 187, .ref 188, .ref 189, .ref 190, .ref 191, .ref 192, .ref 193, .ref 194, .ref 195, .ref 196, .ref 197, .ref 198, .ref 199, .ref 200, .ref 201, .ref 202, .ref 203, .ref 204, .ref 205, .ref 206, .ref 207, .ref 208, .ref 209, .ref 210, .ref 211, .ref 212, .ref 213, .ref 214, .ref 215, .ref 216, .ref 217, .ref 218, .ref 219, .ref 220, .ref 221, .ref 222, .ref 223, .ref 224, .ref 225, .ref 226, .ref 227, .ref 228, .ref 229, .ref 230, .ref 231, .ref 232, .ref 233, .ref 234, .ref 235, .ref 236, .ref 237, .ref 238, .ref 239, .ref 240, .ref 241, .ref 242, .ref 243, .ref 244, .ref 245, .ref 246, .ref 247, .ref 248, .ref 249, .ref 250, .ref 251, .ref 252, .ref 253, .ref 254, .ref 255, .ref 256, .ref 257, .ref 258], vm := .none },
  { cls := 14, slots := #[.int (-128)], vm := .none },
  { cls := 14, slots := #[.int (-127)], vm := .none },
  { cls := 14, slots := #[.int (-126)], vm := .none },
  { cls := 14, slots := #[.int (-125)], vm := .none },
  { cls := 14, slots := #[.int (-124)], vm := .none },
  { cls := 14, slots := #[.int (-123)], vm := .none },
  { cls := 14, slots := #[.int (-122)], vm := .none },
  { cls := 14, slots := #[.int (-121)], vm := .none },
  { cls := 14, slots := #[.int (-120)], vm := .none },
  { cls := 14, slots := #[.int (-119)], vm := .none },
  { cls := 14, slots := #[.int (-118)], vm := .none },
  { cls := 14, slots := #[.int (-117)], vm := .none },
  { cls := 14, slots := #[.int (-116)], vm := .none },
  { cls := 14, slots := #[.int (-115)], vm := .none },
  { cls := 14, slots := #[.int (-114)], vm := .none },
  { cls := 14, slots := #[.int (-113)], vm := .none },
  { cls := 14, slots := #[.int (-112)], vm := .none },
  { cls := 14, slots := #[.int (-111)], vm := .none },
  { cls := 14, slots := #[.int (-110)], vm := .none },
  { cls := 14, slots := #[.int (-109)], vm := .none },
  { cls := 14, slots := #[.int (-108)], vm := .none },
  { cls := 14, slots := #[.int (-107)], vm := .none },
  { cls := 14, slots := #[.int (-106)], vm := .none },
  { cls := 14, slots := #[.int (-105)], vm := .none },
  { cls := 14, slots := #[.int (-104)], vm := .none },
  { cls := 14, slots := #[.int (-103)], vm := .none },
  { cls := 14, slots := #[.int (-102)], vm := .none },
  { cls := 14, slots := #[.int (-101)], vm := .none },
  { cls := 14, slots := #[.int (-100)], vm := .none },
  { cls := 14, slots := #[.int (-99)], vm := .none },
  { cls := 14, slots := #[.int (-98)], vm := .none },
  { cls := 14, slots := #[.int (-97)], vm := .none },
  { cls := 14, slots := #[.int (-96)], vm := .none },
  { cls := 14, slots := #[.int (-95)], vm := .none },
  { cls := 14, slots := #[.int (-94)], vm := .none },
  { cls := 14, slots := #[.int (-93)], vm := .none },
  { cls := 14, slots := #[.int (-92)], vm := .none },
  { cls := 14, slots := #[.int (-91)], vm := .none },
  { cls := 14, slots := #[.int (-90)], vm := .none },
  { cls := 14, slots := #[.int (-89)], vm := .none },
  { cls := 14, slots := #[.int (-88)], vm := .none },
  { cls := 14, slots := #[.int (-87)], vm := .none },
  { cls := 14, slots := #[.int (-86)], vm := .none },
  { cls := 14, slots := #[.int (-85)], vm := .none },
  { cls := 14, slots := #[.int (-84)], vm := .none },
  { cls := 14, slots := #[.int (-83)], vm := .none },
  { cls := 14, slots := #[.int (-82)], vm := .none },
  { cls := 14, slots := #[.int (-81)], vm := .none },
  { cls := 14, slots := #[.int (-80)], vm := .none },
  { cls := 14, slots := #[.int (-79)], vm := .none },
  { cls := 14, slots := #[.int (-78)], vm := .none },
  { cls := 14, slots := #[.int (-77)], vm := .none },
  { cls := 14, slots := #[.int (-76)], vm := .none },
  { cls := 14, slots := #[.int (-75)], vm := .none },
  { cls := 14, slots := #[.int (-74)], vm := .none },
  { cls := 14, slots := #[.int (-73)], vm := .none },
  { cls := 14, slots := #[.int (-72)], vm := .none },
  { cls := 14, slots := #[.int (-71)], vm := .none },
  { cls := 14, slots := #[.int (-70)], vm := .none },
  { cls := 14, slots := #[.int (-69)], vm := .none },
  { cls := 14, slots := #[.int (-68)], vm := .none },
  { cls := 14, slots := #[.int (-67)], vm := .none },
  { cls := 14, slots := #[.int (-66)], vm := .none },
  { cls := 14, slots := #[.int (-65)], vm := .none },
  { cls := 14, slots := #[.int (-64)], vm := .none },
  { cls := 14, slots := #[.int (-63)], vm := .none },
  { cls := 14, slots := #[.int (-62)], vm := .none },
  { cls := 14, slots := #[.int (-61)], vm := .none },
  { cls := 14, slots := #[.int (-60)], vm := .none },
  { cls := 14, slots := #[.int (-59)], vm := .none },
  { cls := 14, slots := #[.int (-58)], vm := .none },
  { cls := 14, slots := #[.int (-57)], vm := .none },
  { cls := 14, slots := #[.int (-56)], vm := .none },
  { cls := 14, slots := #[.int (-55)], vm := .none },
  { cls := 14, slots := #[.int (-54)], vm := .none },
  { cls := 14, slots := #[.int (-53)], vm := .none },
  { cls := 14, slots := #[.int (-52)], vm := .none },
  { cls := 14, slots := #[.int (-51)], vm := .none },
  { cls := 14, slots := #[.int (-50)], vm := .none },
  { cls := 14, slots := #[.int (-49)], vm := .none },
  { cls := 14, slots := #[.int (-48)], vm := .none },
  { cls := 14, slots := #[.int (-47)], vm := .none },
  { cls := 14, slots := #[.int (-46)], vm := .none },
  { cls := 14, slots := #[.int (-45)], vm := .none },
  { cls := 14, slots := #[.int (-44)], vm := .none },
  { cls := 14, slots := #[.int (-43)], vm := .none },
  { cls := 14, slots := #[.int (-42)], vm := .none },
  { cls := 14, slots := #[.int (-41)], vm := .none },
  { cls := 14, slots := #[.int (-40)], vm := .none },
  { cls := 14, slots := #[.int (-39)], vm := .none },
  { cls := 14, slots := #[.int (-38)], vm := .none },
  { cls := 14, slots := #[.int (-37)], vm := .none },
  { cls := 14, slots := #[.int (-36)], vm := .none },
  { cls := 14, slots := #[.int (-35)], vm := .none },
  { cls := 14, slots := #[.int (-34)], vm := .none },
  { cls := 14, slots := #[.int (-33)], vm := .none },
  { cls := 14, slots := #[.int (-32)], vm := .none },
  { cls := 14, slots := #[.int (-31)], vm := .none },
  { cls := 14, slots := #[.int (-30)], vm := .none },
  { cls := 14, slots := #[.int (-29)], vm := .none },
  { cls := 14, slots := #[.int (-28)], vm := .none },
  { cls := 14, slots := #[.int (-27)], vm := .none },
  { cls := 14, slots := #[.int (-26)], vm := .none },
  { cls := 14, slots := #[.int (-25)], vm := .none },
  { cls := 14, slots := #[.int (-24)], vm := .none },
  { cls := 14, slots := #[.int (-23)], vm := .none },
  { cls := 14, slots := #[.int (-22)], vm := .none },
  { cls := 14, slots := #[.int (-21)], vm := .none },
  { cls := 14, slots := #[.int (-20)], vm := .none },
  { cls := 14, slots := #[.int (-19)], vm := .none },
  { cls := 14, slots := #[.int (-18)], vm := .none },
  { cls := 14, slots := #[.int (-17)], vm := .none },
  { cls := 14, slots := #[.int (-16)], vm := .none },
  { cls := 14, slots := #[.int (-15)], vm := .none },
  { cls := 14, slots := #[.int (-14)], vm := .none },
  { cls := 14, slots := #[.int (-13)], vm := .none },
  { cls := 14, slots := #[.int (-12)], vm := .none },
  { cls := 14, slots := #[.int (-11)], vm := .none },
  { cls := 14, slots := #[.int (-10)], vm := .none },
  { cls := 14, slots := #[.int (-9)], vm := .none },
  { cls := 14, slots := #[.int (-8)], vm := .none },
  { cls := 14, slots := #[.int (-7)], vm := .none },
  { cls := 14, slots := #[.int (-6)], vm := .none },
  { cls := 14, slots := #[.int (-5)], vm := .none },
  { cls := 14, slots := #[.int (-4)], vm := .none },
  { cls := 14, slots := #[.int (-3)], vm := .none },
  { cls := 14, slots := #[.int (-2)], vm := .none },
  { cls := 14, slots := #[.int (-1)], vm := .none },
  { cls := 14, slots := #[.int 0], vm := .none },
  { cls := 14, slots := #[.int 1], vm := .none },
  { cls := 14, slots := #[.int 2], vm := .none },
  { cls := 14, slots := #[.int 3], vm := .none },
  { cls := 14, slots := #[.int 4], vm := .none },
  { cls := 14, slots := #[.int 5], vm := .none },
  { cls := 14, slots := #[.int 6], vm := .none },
  { cls := 14, slots := #[.int 7], vm := .none },
  { cls := 14, slots := #[.int 8], vm := .none },
  { cls := 14, slots := #[.int 9], vm := .none },
  { cls := 14, slots := #[.int 10], vm := .none },
  { cls := 14, slots := #[.int 11], vm := .none },
  { cls := 14, slots := #[.int 12], vm := .none },
  { cls := 14, slots := #[.int 13], vm := .none },
  { cls := 14, slots := #[.int 14], vm := .none },
  { cls := 14, slots := #[.int 15], vm := .none },
  { cls := 14, slots := #[.int 16], vm := .none },
  { cls := 14, slots := #[.int 17], vm := .none },
  { cls := 14, slots := #[.int 18], vm := .none },
  { cls := 14, slots := #[.int 19], vm := .none },
  { cls := 14, slots := #[.int 20], vm := .none },
  { cls := 14, slots := #[.int 21], vm := .none },
  { cls := 14, slots := #[.int 22], vm := .none },
  { cls := 14, slots := #[.int 23], vm := .none },
  { cls := 14, slots := #[.int 24], vm := .none },
  { cls := 14, slots := #[.int 25], vm := .none },
  { cls := 14, slots := #[.int 26], vm := .none },
  { cls := 14, slots := #[.int 27], vm := .none },
  { cls := 14, slots := #[.int 28], vm := .none },
  { cls := 14, slots := #[.int 29], vm := .none },
  { cls := 14, slots := #[.int 30], vm := .none },
  { cls := 14, slots := #[.int 31], vm := .none },
  { cls := 14, slots := #[.int 32], vm := .none },
  { cls := 14, slots := #[.int 33], vm := .none },
  { cls := 14, slots := #[.int 34], vm := .none },
  { cls := 14, slots := #[.int 35], vm := .none },
  { cls := 14, slots := #[.int 36], vm := .none },
  { cls := 14, slots := #[.int 37], vm := .none },
  { cls := 14, slots := #[.int 38], vm := .none },
  { cls := 14, slots := #[.int 39], vm := .none },
  { cls := 14, slots := #[.int 40], vm := .none },
  { cls := 14, slots := #[.int 41], vm := .none },
  { cls := 14, slots := #[.int 42], vm := .none },
  { cls := 14, slots := #[.int 43], vm := .none },
  { cls := 14, slots := #[.int 44], vm := .none },
  { cls := 14, slots := #[.int 45], vm := .none },
  { cls := 14, slots := #[.int 46], vm := .none },
  { cls := 14, slots := #[.int 47], vm := .none },
  { cls := 14, slots := #[.int 48], vm := .none },
  { cls := 14, slots := #[.int 49], vm := .none },
  { cls := 14, slots := #[.int 50], vm := .none },
  { cls := 14, slots := #[.int 51], vm := .none },
  { cls := 14, slots := #[.int 52], vm := .none },
  { cls := 14, slots := #[.int 53], vm := .none },
  { cls := 14, slots := #[.int 54], vm := .none },
  { cls := 14, slots := #[.int 55], vm := .none },
  { cls := 14, slots := #[.int 56], vm := .none },
  { cls := 14, slots := #[.int 57], vm := .none },
  { cls := 14, slots := #[.int 58], vm := .none },
  { cls := 14, slots := #[.int 59], vm := .none },
  { cls := 14, slots := #[.int 60], vm := .none },
  { cls := 14, slots := #[.int 61], vm := .none },
  { cls := 14, slots := #[.int 62], vm := .none },
  { cls := 14, slots := #[.int 63], vm := .none },
  { cls := 14, slots := #[.int 64], vm := .none },
  { cls := 14, slots := #[.int 65], vm := .none },
  { cls := 14, slots := #[.int 66], vm := .none },
  { cls := 14, slots := #[.int 67], vm := .none },
  { cls := 14, slots := #[.int 68], vm := .none },
  { cls := 14, slots := #[.int 69], vm := .none },
  { cls := 14, slots := #[.int 70], vm := .none },
  { cls := 14, slots := #[.int 71], vm := .none },
  { cls := 14, slots := #[.int 72], vm := .none },
  { cls := 14, slots := #[.int 73], vm := .none },
  { cls := 14, slots := #[.int 74], vm := .none },
  { cls := 14, slots := #[.int 75], vm := .none },
  { cls := 14, slots := #[.int 76], vm := .none },
  { cls := 14, slots := #[.int 77], vm := .none },
  { cls := 14, slots := #[.int 78], vm := .none },
  { cls := 14, slots := #[.int 79], vm := .none },
  { cls := 14, slots := #[.int 80], vm := .none },
  { cls := 14, slots := #[.int 81], vm := .none },
  { cls := 14, slots := #[.int 82], vm := .none },
  { cls := 14, slots := #[.int 83], vm := .none },
  { cls := 14, slots := #[.int 84], vm := .none },
  { cls := 14, slots := #[.int 85], vm := .none },
  { cls := 14, slots := #[.int 86], vm := .none },
  { cls := 14, slots := #[.int 87], vm := .none },
  { cls := 14, slots := #[.int 88], vm := .none },
  { cls := 14, slots := #[.int 89], vm := .none },
  { cls := 14, slots := #[.int 90], vm := .none },
  { cls := 14, slots := #[.int 91], vm := .none },
  { cls := 14, slots := #[.int 92], vm := .none },
  { cls := 14, slots := #[.int 93], vm := .none },
  { cls := 14, slots := #[.int 94], vm := .none },
  { cls := 14, slots := #[.int 95], vm := .none },
  { cls := 14, slots := #[.int 96], vm := .none },
  { cls := 14, slots := #[.int 97], vm := .none },
  { cls := 14, slots := #[.int 98], vm := .none },
  { cls := 14, slots := #[.int 99], vm := .none },
  { cls := 14, slots := #[.int 100], vm := .none },
  { cls := 14, slots := #[.int 101], vm := .none },
  { cls := 14, slots := #[.int 102], vm := .none },
  { cls := 14, slots := #[.int 103], vm := .none },
  { cls := 14, slots := #[.int 104], vm := .none },
  { cls := 14, slots := #[.int 105], vm := .none },
  { cls := 14, slots := #[.int 106], vm := .none },
  { cls := 14, slots := #[.int 107], vm := .none },
  { cls := 14, slots := #[.int 108], vm := .none },
  { cls := 14, slots := #[.int 109], vm := .none },
  { cls := 14, slots := #[.int 110], vm := .none },
  { cls := 14, slots := #[.int 111], vm := .none },
  { cls := 14, slots := #[.int 112], vm := .none },
  { cls := 14, slots := #[.int 113], vm := .none },
  { cls := 14, slots := #[.int 114], vm := .none },
  { cls := 14, slots := #[.int 115], vm := .none },
  { cls := 14, slots := #[.int 116], vm := .none },
  { cls := 14, slots := #[.int 117], vm := .none },
  { cls := 14, slots := #[.int 118], vm := .none },
  { cls := 14, slots := #[.int 119], vm := .none },
  { cls := 14, slots := #[.int 120], vm := .none },
  { cls := 14, slots := #[.int 121], vm := .none },
  { cls := 14, slots := #[.int 122], vm := .none },
  { cls := 14, slots := #[.int 123], vm := .none },
  { cls := 14, slots := #[.int 124], vm := .none },
  { cls := 14, slots := #[.int 125], vm := .none },
  { cls := 14, slots := #[.int 126], vm := .none },
  { cls := 14, slots := #[.int 127], vm := .none }]
def classes : Array Class := #[k0, k1, k2, k3, k4, k5, k6, k7, k8, k9, k10, k11, k12, k13, k14, k15, k16, k17, k18, k19, k20, k21, k22, k23, k24, k25, k26, k27]
def interned : List (Array UInt16 × Addr) := []
def slotsUsed : Nat := 517
def theMethod : MethodId := ⟨1, 2⟩
def args0 : Array Value := #[.int 3, .int 4, .int 5, .int 6]
def aboutOver (below : List Frame) : State where
  vm := { classes := classes, interned := interned.toArray }
  heap := heap
  slotsUsed := slotsUsed
  threads := #[{ frames := .invoking theMethod args0 :: below }]
def below0 : List Frame := [.native { method := ⟨0, 0⟩, args := #[] }]
def about1 : State := aboutOver below0
def p0 : Program := .bare "" "" ""
def e0 : Env := launch0.env 0 0 0
theorem w_frames : about1.frames = Frame.invoking theMethod args0 :: below0 := rfl
set_option maxRecDepth 65536 in
theorem w_args : argsFit about1.vm theMethod args0 = true := by decide +kernel
set_option maxRecDepth 65536 in
theorem w_heap : heapFits about1 = true := by decide +kernel
set_option maxRecDepth 65536 in
theorem w_runnable : about1.curStatus? = some .runnable := by decide +kernel
set_option maxRecDepth 65536 in
theorem w_alone : about1.alone = true := by decide +kernel
set_option maxRecDepth 65536 in
theorem w_named : about1.methodNamed? x = some theMethod := by decide +kernel
set_option maxRecDepth 65536 in
theorem w_hears : about1.hears theMethod below0 = true := by decide +kernel
set_option maxRecDepth 65536 in
theorem w_ripe : about1.ripe theMethod args0 below0 = true := by decide +kernel
theorem w_running : about1.status = .running := rfl
set_option maxRecDepth 65536 in
theorem w_room : about1.hasRoom e0.platform room_1 = true :=
  launch0.hasRoom_least _ room_1 (by decide +kernel) (by decide +kernel) (by decide +kernel) (by decide +kernel) (by decide +kernel) (by decide +kernel)
theorem allAtoms_all (ts : List Jvm.Cond) (a : Array Jvm.Value) (st : Jvm.State) : (allAtoms ts).before a st = ts.all (fun c => c.before a st) := by
  induction ts with
  | nil => rfl
  | cons c t ih =>
    show (Jvm.Cond.and c (allAtoms t)).before a st = _
    rw [Jvm.Cond.before_and, ih, List.all_cons]
def words1 : List Jvm.Cond := Jvm.Cond.code x code maxLocals ret :: tables_1
/-- a 'code' word, met by the world's own term for the bytes: nothing is compared byte by byte -/
theorem code_word {y : MethodName} {bytes : ByteArray} {mx : Nat} {rt : Option FieldType} {a : Array Value} {s : State} {m : MethodId} {meth : Method} {c : Code} (h1 : s.methodNamed? y = some m) (h2 : s.vm.method? m = some meth) (h3 : meth.code = some c) (h4 : c.code = bytes)
    (h5 : (c.maxLocals == mx && c.exceptionTable.isEmpty && decide (c.maxStack ≤ mostOperands) && decide (meth.sig.returnType = rt) && !meth.locks && decide (parseMethodDescriptor y.desc = some meth.sig)) = true) : (Jvm.Cond.code y bytes mx rt).before a s = true := by
  simp only [Bool.and_eq_true, beq_iff_eq, Bool.not_eq_true', decide_eq_true_eq] at h5
  obtain ⟨⟨⟨⟨⟨g1, g2⟩, g3⟩, g4⟩, g5⟩, g6⟩ := h5
  simp [Cond.before, Cond.holds, Cond.value, h1, h2, h3, h4, g1, g2, g3, g4, g5, g6]
def isCode : Jvm.Cond → Bool
  | .code _ _ _ _ => true
  | _ => false
theorem all_split {L : List Jvm.Cond} {P : Jvm.Cond → Bool} (h1 : L.all (fun c => isCode c || P c) = true) (h2 : ∀ c ∈ L.filter isCode, P c = true) : L.all P = true := by
  refine List.all_eq_true.mpr fun c hc => ?_
  have h := List.all_eq_true.mp h1 c hc
  rcases Bool.eq_false_or_eq_true (isCode c) with hi | hi
  · exact h2 c (List.mem_filter.mpr ⟨hc, hi⟩)
  · simpa [hi] using h
set_option maxRecDepth 65536 in
theorem w_c0 : (Jvm.Cond.code x code maxLocals ret).before args0 about1 = true := code_word (m := ⟨1, 2⟩) (meth := k1m2) (c := k1c2) (by decide +kernel) rfl rfl rfl (by decide +kernel)
set_option maxRecDepth 65536 in
theorem w_c1 : (Jvm.Cond.code ({ cls := "com/example/compact_abox/compactabox/ArraySet", name := "<init>", desc := "(I)V" } : Jvm.MethodName) prog_6_method_1_code (2 : Nat) (Option.none : Option Jvm.ClassFile.FieldType)).before args0 about1 = true := code_word (m := ⟨7, 0⟩) (meth := k7m0) (c := k7c0) (by decide +kernel) rfl rfl rfl (by decide +kernel)
set_option maxRecDepth 65536 in
theorem w_c2 : (Jvm.Cond.code ({ cls := "java/util/AbstractSet", name := "<init>", desc := "()V" } : Jvm.MethodName) jdk_91_method_1_code (1 : Nat) (Option.none : Option Jvm.ClassFile.FieldType)).before args0 about1 = true := code_word (m := ⟨6, 0⟩) (meth := k6m0) (c := k6c0) (by decide +kernel) rfl rfl rfl (by decide +kernel)
set_option maxRecDepth 65536 in
theorem w_c3 : (Jvm.Cond.code ({ cls := "java/util/AbstractCollection", name := "<init>", desc := "()V" } : Jvm.MethodName) jdk_22_method_1_code (1 : Nat) (Option.none : Option Jvm.ClassFile.FieldType)).before args0 about1 = true := code_word (m := ⟨4, 0⟩) (meth := k4m0) (c := k4c0) (by decide +kernel) rfl rfl rfl (by decide +kernel)
set_option maxRecDepth 65536 in
theorem w_c4 : (Jvm.Cond.code ({ cls := "java/lang/Object", name := "<init>", desc := "()V" } : Jvm.MethodName) object_method_1_code (1 : Nat) (Option.none : Option Jvm.ClassFile.FieldType)).before args0 about1 = true := code_word (m := ⟨0, 0⟩) (meth := k0m0) (c := k0c0) (by decide +kernel) rfl rfl rfl (by decide +kernel)
set_option maxRecDepth 65536 in
theorem w_c5 : (Jvm.Cond.code ({ cls := "java/lang/Math", name := "min", desc := "(II)I" } : Jvm.MethodName) jdk_29_method_69_code (2 : Nat) (Option.some Jvm.ClassFile.FieldType.int)).before args0 about1 = true := code_word (m := ⟨8, 2⟩) (meth := k8m2) (c := k8c2) (by decide +kernel) rfl rfl rfl (by decide +kernel)
set_option maxRecDepth 65536 in
theorem w_c6 : (Jvm.Cond.code ({ cls := "java/lang/Integer", name := "valueOf", desc := "(I)Ljava/lang/Integer;" } : Jvm.MethodName) jdk_33_method_22_code (1 : Nat) (Option.some (Jvm.ClassFile.FieldType.object "java/lang/Integer"))).before args0 about1 = true := code_word (m := ⟨14, 0⟩) (meth := k14m0) (c := k14c0) (by decide +kernel) rfl rfl rfl (by decide +kernel)
set_option maxRecDepth 65536 in
theorem w_c7 : (Jvm.Cond.code ({ cls := "com/example/compact_abox/compactabox/ArraySet", name := "add", desc := "(Ljava/lang/Object;)Z" } : Jvm.MethodName) prog_6_method_2_code (2 : Nat) (Option.some Jvm.ClassFile.FieldType.boolean)).before args0 about1 = true := code_word (m := ⟨7, 1⟩) (meth := k7m1) (c := k7c1) (by decide +kernel) rfl rfl rfl (by decide +kernel)
set_option maxRecDepth 65536 in
theorem w_c8 : (Jvm.Cond.code ({ cls := "com/example/compact_abox/compactabox/ArraySet", name := "indexOf", desc := "(Ljava/lang/Object;)I" } : Jvm.MethodName) prog_6_method_7_code (2 : Nat) (Option.some Jvm.ClassFile.FieldType.int)).before args0 about1 = true := code_word (m := ⟨7, 4⟩) (meth := k7m4) (c := k7c4) (by decide +kernel) rfl rfl rfl (by decide +kernel)
set_option maxRecDepth 65536 in
theorem w_c9 : (Jvm.Cond.code ({ cls := "com/example/compact_abox/compactabox/ArraySet", name := "indexOf", desc := "([Ljava/lang/Object;ILjava/lang/Object;)I" } : Jvm.MethodName) prog_6_method_8_code (5 : Nat) (Option.some Jvm.ClassFile.FieldType.int)).before args0 about1 = true := code_word (m := ⟨7, 5⟩) (meth := k7m5) (c := k7c5) (by decide +kernel) rfl rfl rfl (by decide +kernel)
set_option maxRecDepth 65536 in
theorem w_c10 : (Jvm.Cond.code ({ cls := "java/lang/Integer", name := "equals", desc := "(Ljava/lang/Object;)Z" } : Jvm.MethodName) jdk_33_method_34_code (2 : Nat) (Option.some Jvm.ClassFile.FieldType.boolean)).before args0 about1 = true := code_word (m := ⟨14, 3⟩) (meth := k14m3) (c := k14c3) (by decide +kernel) rfl rfl rfl (by decide +kernel)
set_option maxRecDepth 65536 in
theorem w_c11 : (Jvm.Cond.code ({ cls := "java/lang/Integer", name := "intValue", desc := "()I" } : Jvm.MethodName) jdk_33_method_27_code (1 : Nat) (Option.some Jvm.ClassFile.FieldType.int)).before args0 about1 = true := code_word (m := ⟨14, 2⟩) (meth := k14m2) (c := k14c2) (by decide +kernel) rfl rfl rfl (by decide +kernel)
set_option maxRecDepth 65536 in
theorem w_c12 : (Jvm.Cond.code ({ cls := "java/lang/Math", name := "max", desc := "(II)I" } : Jvm.MethodName) jdk_29_method_65_code (2 : Nat) (Option.some Jvm.ClassFile.FieldType.int)).before args0 about1 = true := code_word (m := ⟨8, 1⟩) (meth := k8m1) (c := k8c1) (by decide +kernel) rfl rfl rfl (by decide +kernel)
set_option maxRecDepth 65536 in
theorem w_c13 : (Jvm.Cond.code ({ cls := "java/util/Arrays", name := "copyOf", desc := "([Ljava/lang/Object;I)[Ljava/lang/Object;" } : Jvm.MethodName) jdk_65_method_119_code (2 : Nat) (Option.some (Jvm.ClassFile.FieldType.array (Jvm.ClassFile.FieldType.object "java/lang/Object")))).before args0 about1 = true := code_word (m := ⟨16, 1⟩) (meth := k16m1) (c := k16c1) (by decide +kernel) rfl rfl rfl (by decide +kernel)
set_option maxRecDepth 65536 in
theorem w_c14 : (Jvm.Cond.code ({ cls := "java/util/Arrays", name := "copyOf", desc := "([Ljava/lang/Object;ILjava/lang/Class;)[Ljava/lang/Object;" } : Jvm.MethodName) jdk_65_method_120_code (4 : Nat) (Option.some (Jvm.ClassFile.FieldType.array (Jvm.ClassFile.FieldType.object "java/lang/Object")))).before args0 about1 = true := code_word (m := ⟨16, 2⟩) (meth := k16m2) (c := k16c2) (by decide +kernel) rfl rfl rfl (by decide +kernel)
set_option maxRecDepth 65536 in
theorem w_c15 : (Jvm.Cond.code ({ cls := "com/example/compact_abox/compactabox/ArraySet", name := "iterator", desc := "()Ljava/util/Iterator;" } : Jvm.MethodName) prog_6_method_6_code (1 : Nat) (Option.some (Jvm.ClassFile.FieldType.object "java/util/Iterator"))).before args0 about1 = true := code_word (m := ⟨7, 3⟩) (meth := k7m3) (c := k7c3) (by decide +kernel) rfl rfl rfl (by decide +kernel)
set_option maxRecDepth 65536 in
theorem w_c16 : (Jvm.Cond.code ({ cls := "com/example/compact_abox/compactabox/ArraySet$ArrayIterator", name := "<init>", desc := "([Ljava/lang/Object;I)V" } : Jvm.MethodName) prog_7_method_1_code (3 : Nat) (Option.none : Option Jvm.ClassFile.FieldType)).before args0 about1 = true := code_word (m := ⟨19, 0⟩) (meth := k19m0) (c := k19c0) (by decide +kernel) rfl rfl rfl (by decide +kernel)
set_option maxRecDepth 65536 in
theorem w_c17 : (Jvm.Cond.code ({ cls := "com/example/compact_abox/compactabox/ArraySetIteratorPinLaw", name := "step", desc := "(Ljava/util/Iterator;ZI)Z" } : Jvm.MethodName) method_2_code (4 : Nat) (Option.some Jvm.ClassFile.FieldType.boolean)).before args0 about1 = true := code_word (m := ⟨1, 1⟩) (meth := k1m1) (c := k1c1) (by decide +kernel) rfl rfl rfl (by decide +kernel)
set_option maxRecDepth 65536 in
theorem w_c18 : (Jvm.Cond.code ({ cls := "com/example/compact_abox/compactabox/ArraySet$ArrayIterator", name := "hasNext", desc := "()Z" } : Jvm.MethodName) prog_7_method_2_code (1 : Nat) (Option.some Jvm.ClassFile.FieldType.boolean)).before args0 about1 = true := code_word (m := ⟨19, 1⟩) (meth := k19m1) (c := k19c1) (by decide +kernel) rfl rfl rfl (by decide +kernel)
set_option maxRecDepth 65536 in
theorem w_c19 : (Jvm.Cond.code ({ cls := "com/example/compact_abox/compactabox/ArraySet$ArrayIterator", name := "next", desc := "()Ljava/lang/Object;" } : Jvm.MethodName) prog_7_method_3_code (1 : Nat) (Option.some (Jvm.ClassFile.FieldType.object "java/lang/Object"))).before args0 about1 = true := code_word (m := ⟨19, 2⟩) (meth := k19m2) (c := k19c2) (by decide +kernel) rfl rfl rfl (by decide +kernel)
set_option maxRecDepth 65536 in
theorem w_c20 : (Jvm.Cond.code ({ cls := "com/example/compact_abox/compactabox/ArraySet", name := "remove", desc := "(Ljava/lang/Object;)Z" } : Jvm.MethodName) prog_6_method_3_code (3 : Nat) (Option.some Jvm.ClassFile.FieldType.boolean)).before args0 about1 = true := code_word (m := ⟨7, 2⟩) (meth := k7m2) (c := k7c2) (by decide +kernel) rfl rfl rfl (by decide +kernel)
set_option maxRecDepth 65536 in
theorem w_c21 : (Jvm.Cond.code ({ cls := "com/example/compact_abox/compactabox/ArraySet", name := "removeAt", desc := "([Ljava/lang/Object;II)V" } : Jvm.MethodName) prog_6_method_9_code (3 : Nat) (Option.none : Option Jvm.ClassFile.FieldType)).before args0 about1 = true := code_word (m := ⟨7, 6⟩) (meth := k7m6) (c := k7c6) (by decide +kernel) rfl rfl rfl (by decide +kernel)
set_option maxRecDepth 65536 in
theorem w_c22 : (Jvm.Cond.code ({ cls := "java/lang/Integer", name := "<init>", desc := "(I)V" } : Jvm.MethodName) jdk_33_method_23_code (2 : Nat) (Option.none : Option Jvm.ClassFile.FieldType)).before args0 about1 = true := code_word (m := ⟨14, 1⟩) (meth := k14m1) (c := k14c1) (by decide +kernel) rfl rfl rfl (by decide +kernel)
set_option maxRecDepth 65536 in
theorem w_c23 : (Jvm.Cond.code ({ cls := "java/lang/Number", name := "<init>", desc := "()V" } : Jvm.MethodName) jdk_18_method_1_code (1 : Nat) (Option.none : Option Jvm.ClassFile.FieldType)).before args0 about1 = true := code_word (m := ⟨10, 0⟩) (meth := k10m0) (c := k10c0) (by decide +kernel) rfl rfl rfl (by decide +kernel)
def codes1 : List Jvm.Cond := [Jvm.Cond.code x code maxLocals ret, Jvm.Cond.code ({ cls := "com/example/compact_abox/compactabox/ArraySet", name := "<init>", desc := "(I)V" } : Jvm.MethodName) prog_6_method_1_code (2 : Nat) (Option.none : Option Jvm.ClassFile.FieldType), Jvm.Cond.code ({ cls := "java/util/AbstractSet", name := "<init>", desc := "()V" } : Jvm.MethodName) jdk_91_method_1_code (1 : Nat) (Option.none : Option Jvm.ClassFile.FieldType), Jvm.Cond.code ({ cls := "java/util/AbstractCollection", name := "<init>", desc := "()V" } : Jvm.MethodName) jdk_22_method_1_code (1 : Nat) (Option.none : Option Jvm.ClassFile.FieldType), Jvm.Cond.code ({ cls := "java/lang/Object", name := "<init>", desc := "()V" } : Jvm.MethodName) object_method_1_code (1 : Nat) (Option.none : Option Jvm.ClassFile.FieldType), Jvm.Cond.code ({ cls := "java/lang/Math", name := "min", desc := "(II)I" } : Jvm.MethodName) jdk_29_method_69_code (2 : Nat) (Option.some Jvm.ClassFile.FieldType.int), Jvm.Cond.code ({ cls := "java/lang/Integer", name := "valueOf", desc := "(I)Ljava/lang/Integer;" } : Jvm.MethodName) jdk_33_method_22_code (1 : Nat) (Option.some (Jvm.ClassFile.FieldType.object "java/lang/Integer")), Jvm.Cond.code ({ cls := "com/example/compact_abox/compactabox/ArraySet", name := "add", desc := "(Ljava/lang/Object;)Z" } : Jvm.MethodName) prog_6_method_2_code (2 : Nat) (Option.some Jvm.ClassFile.FieldType.boolean), Jvm.Cond.code ({ cls := "com/example/compact_abox/compactabox/ArraySet", name := "indexOf", desc := "(Ljava/lang/Object;)I" } : Jvm.MethodName) prog_6_method_7_code (2 : Nat) (Option.some Jvm.ClassFile.FieldType.int), Jvm.Cond.code ({ cls := "com/example/compact_abox/compactabox/ArraySet", name := "indexOf", desc := "([Ljava/lang/Object;ILjava/lang/Object;)I" } : Jvm.MethodName) prog_6_method_8_code (5 : Nat) (Option.some Jvm.ClassFile.FieldType.int), Jvm.Cond.code ({ cls := "java/lang/Integer", name := "equals", desc := "(Ljava/lang/Object;)Z" } : Jvm.MethodName) jdk_33_method_34_code (2 : Nat) (Option.some Jvm.ClassFile.FieldType.boolean), Jvm.Cond.code ({ cls := "java/lang/Integer", name := "intValue", desc := "()I" } : Jvm.MethodName) jdk_33_method_27_code (1 : Nat) (Option.some Jvm.ClassFile.FieldType.int), Jvm.Cond.code ({ cls := "java/lang/Math", name := "max", desc := "(II)I" } : Jvm.MethodName) jdk_29_method_65_code (2 : Nat) (Option.some Jvm.ClassFile.FieldType.int), Jvm.Cond.code ({ cls := "java/util/Arrays", name := "copyOf", desc := "([Ljava/lang/Object;I)[Ljava/lang/Object;" } : Jvm.MethodName) jdk_65_method_119_code (2 : Nat) (Option.some (Jvm.ClassFile.FieldType.array (Jvm.ClassFile.FieldType.object "java/lang/Object"))), Jvm.Cond.code ({ cls := "java/util/Arrays", name := "copyOf", desc := "([Ljava/lang/Object;ILjava/lang/Class;)[Ljava/lang/Object;" } : Jvm.MethodName) jdk_65_method_120_code (4 : Nat) (Option.some (Jvm.ClassFile.FieldType.array (Jvm.ClassFile.FieldType.object "java/lang/Object"))), Jvm.Cond.code ({ cls := "com/example/compact_abox/compactabox/ArraySet", name := "iterator", desc := "()Ljava/util/Iterator;" } : Jvm.MethodName) prog_6_method_6_code (1 : Nat) (Option.some (Jvm.ClassFile.FieldType.object "java/util/Iterator")), Jvm.Cond.code ({ cls := "com/example/compact_abox/compactabox/ArraySet$ArrayIterator", name := "<init>", desc := "([Ljava/lang/Object;I)V" } : Jvm.MethodName) prog_7_method_1_code (3 : Nat) (Option.none : Option Jvm.ClassFile.FieldType), Jvm.Cond.code ({ cls := "com/example/compact_abox/compactabox/ArraySetIteratorPinLaw", name := "step", desc := "(Ljava/util/Iterator;ZI)Z" } : Jvm.MethodName) method_2_code (4 : Nat) (Option.some Jvm.ClassFile.FieldType.boolean), Jvm.Cond.code ({ cls := "com/example/compact_abox/compactabox/ArraySet$ArrayIterator", name := "hasNext", desc := "()Z" } : Jvm.MethodName) prog_7_method_2_code (1 : Nat) (Option.some Jvm.ClassFile.FieldType.boolean), Jvm.Cond.code ({ cls := "com/example/compact_abox/compactabox/ArraySet$ArrayIterator", name := "next", desc := "()Ljava/lang/Object;" } : Jvm.MethodName) prog_7_method_3_code (1 : Nat) (Option.some (Jvm.ClassFile.FieldType.object "java/lang/Object")), Jvm.Cond.code ({ cls := "com/example/compact_abox/compactabox/ArraySet", name := "remove", desc := "(Ljava/lang/Object;)Z" } : Jvm.MethodName) prog_6_method_3_code (3 : Nat) (Option.some Jvm.ClassFile.FieldType.boolean), Jvm.Cond.code ({ cls := "com/example/compact_abox/compactabox/ArraySet", name := "removeAt", desc := "([Ljava/lang/Object;II)V" } : Jvm.MethodName) prog_6_method_9_code (3 : Nat) (Option.none : Option Jvm.ClassFile.FieldType), Jvm.Cond.code ({ cls := "java/lang/Integer", name := "<init>", desc := "(I)V" } : Jvm.MethodName) jdk_33_method_23_code (2 : Nat) (Option.none : Option Jvm.ClassFile.FieldType), Jvm.Cond.code ({ cls := "java/lang/Number", name := "<init>", desc := "()V" } : Jvm.MethodName) jdk_18_method_1_code (1 : Nat) (Option.none : Option Jvm.ClassFile.FieldType)]
set_option maxRecDepth 65536 in
theorem codes_eq : words1.filter isCode = codes1 := rfl
theorem w_codes : ∀ c ∈ words1.filter isCode, c.before args0 about1 = true := by
  rw [codes_eq]
  intro c hc
  simp only [codes1, List.mem_cons, List.not_mem_nil, or_false] at hc
  rcases hc with rfl | rfl | rfl | rfl | rfl | rfl | rfl | rfl | rfl | rfl | rfl | rfl | rfl | rfl | rfl | rfl | rfl | rfl | rfl | rfl | rfl | rfl | rfl | rfl
  · exact w_c0
  · exact w_c1
  · exact w_c2
  · exact w_c3
  · exact w_c4
  · exact w_c5
  · exact w_c6
  · exact w_c7
  · exact w_c8
  · exact w_c9
  · exact w_c10
  · exact w_c11
  · exact w_c12
  · exact w_c13
  · exact w_c14
  · exact w_c15
  · exact w_c16
  · exact w_c17
  · exact w_c18
  · exact w_c19
  · exact w_c20
  · exact w_c21
  · exact w_c22
  · exact w_c23
set_option maxRecDepth 65536 in
theorem w_t1 : (words1.take 24).all (fun c => isCode c || c.before args0 about1) = true := by decide +kernel
set_option maxRecDepth 65536 in
theorem w_t2 : ((words1.drop 24).take 24).all (fun c => isCode c || c.before args0 about1) = true := by decide +kernel
set_option maxRecDepth 65536 in
theorem w_t3 : (((words1.drop 24).drop 24).take 24).all (fun c => isCode c || c.before args0 about1) = true := by decide +kernel
set_option maxRecDepth 65536 in
theorem w_t4 : ((((words1.drop 24).drop 24).drop 24).take 24).all (fun c => isCode c || c.before args0 about1) = true := by decide +kernel
set_option maxRecDepth 65536 in
theorem w_t5 : (((((words1.drop 24).drop 24).drop 24).drop 24).take 24).all (fun c => isCode c || c.before args0 about1) = true := by decide +kernel
set_option maxRecDepth 65536 in
theorem w_t6 : ((((((words1.drop 24).drop 24).drop 24).drop 24).drop 24).take 24).all (fun c => isCode c || c.before args0 about1) = true := by decide +kernel
set_option maxRecDepth 65536 in
theorem w_t7 : (((((((words1.drop 24).drop 24).drop 24).drop 24).drop 24).drop 24).take 24).all (fun c => isCode c || c.before args0 about1) = true := by decide +kernel
set_option maxRecDepth 65536 in
theorem w_t8 : (((((((words1.drop 24).drop 24).drop 24).drop 24).drop 24).drop 24).drop 24).all (fun c => isCode c || c.before args0 about1) = true := by decide +kernel
theorem w_tables : (allAtoms (Jvm.Cond.code x code maxLocals ret :: tables_1)).before args0 about1 = true := by
  rw [allAtoms_all]
  show words1.all (fun c => c.before args0 about1) = true
  refine all_split ?_ w_codes
  rw [← List.take_append_drop 24 words1, List.all_append, w_t1, ← List.take_append_drop 24 (words1.drop 24), List.all_append, w_t2, ← List.take_append_drop 24 ((words1.drop 24).drop 24), List.all_append, w_t3, ← List.take_append_drop 24 (((words1.drop 24).drop 24).drop 24), List.all_append, w_t4, ← List.take_append_drop 24 ((((words1.drop 24).drop 24).drop 24).drop 24), List.all_append, w_t5, ← List.take_append_drop 24 (((((words1.drop 24).drop 24).drop 24).drop 24).drop 24), List.all_append, w_t6, ← List.take_append_drop 24 ((((((words1.drop 24).drop 24).drop 24).drop 24).drop 24).drop 24), List.all_append, w_t7, w_t8]
  rfl
set_option maxRecDepth 65536 in
theorem w_rest : rest_1_c.before args0 about1 = true := by decide +kernel
set_option maxRecDepth 65536 in
theorem w_case : (Jvm.Cond.and given_1 narrow_1).before args0 about1 = true := by decide +kernel
theorem w_applies : (headSpec (Jvm.Cond.code x code maxLocals ret :: tables_1) room_1).applies x e0.platform about1 = true :=
  (Spec.applies_iff w_frames).mpr ⟨w_running, w_runnable, w_alone, w_named, w_hears, w_ripe, w_room, w_tables⟩
set_option maxRecDepth 65536 in
theorem atStart : AtStart classFile x code maxLocals ret World_1 tables_1 room_1 Calls_1 rest_1 Pre_1 launch0 p0 e0 about1 theMethod args0 below0 :=
  ⟨lists_1, trivial, launch0.admits_env _ _ _, launch0.least_env, fairChoices_fair.cas, fairChoices_fair.clock, w_frames, w_args, w_heap, w_applies, ⟨⟨27, k27, 1, by decide +kernel, rfl, rfl, _, rfl, rfl⟩, trivial⟩, w_rest, w_case⟩
end start1
theorem witness_1 : WitnessClaimed_1 := ⟨start1.p0, start1.e0, start1.about1, start1.theMethod, start1.args0, start1.below0, start1.atStart⟩
end Jvm.Pilot.@@N@@
