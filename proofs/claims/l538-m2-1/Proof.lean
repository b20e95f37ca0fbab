import JvmDerived
import JvmDerived.Pilot.@@N@@Statement
import JvmDerived.Pilot.@@N@@Code
set_option linter.unusedVariables false
set_option linter.unusedSimpArgs false
@@BLOCK:LamKit.lean.txt@@
namespace Jvm.Pilot.@@N@@
open Jvm Jvm.ClassFile Sem Op Lib Jvm.Free Jvm.Stand Jvm.LawKit Jvm.RoadKit Bundle Jvm.Pilot.@@N@@.Jvm.D
section OwnLayer
variable {p : Program} {l : Launch} {e : Env} {R : Room} {s : State} {m : MethodId} {args : Array Value} {below : List Frame} {meth : Method} {c : Code} {T : State} {locs : List Loc} {cells slots : Nat} {Z : State} {a0 : Array Value} {h : Heap}
/-- from here the body comes to its return, and Q holds of what it returns, of the heap and of the places written -/
def own_Ends (p : Program) (e : Env) (s : State) (below : List Frame) (C S : Nat) (Q : Option Value → Heap → List Loc → Prop) (T : State) (g : JFrame) : Prop :=
  ∃ s₂ o, Steps p.tables e below (T.setTop g) s₂ ∧ s₂.status = .running ∧ Ended s₂ below o ∧ ∃ v L, o = .returned v ∧ Q v s₂.heap L ∧ FrameEnd s o s₂ L C S
theorem own_go {C S : Nat} {Q : Option Value → Heap → List Loc → Prop} {T' : State} {g g' : JFrame} (st : ∀ t, Steps p.tables e below (T'.setTop g') t → Steps p.tables e below (T.setTop g) t) (k : own_Ends p e s below C S Q T' g') : own_Ends p e s below C S Q T g := by
  obtain ⟨s₂, o, h, r⟩ := k
  exact ⟨s₂, o, st _ h, r⟩
theorem own_cast {C S : Nat} {Q : Option Value → Heap → List Loc → Prop} {g g' : JFrame} (q : g = g') (k : own_Ends p e s below C S Q T g') : own_Ends p e s below C S Q T g := q ▸ k
/-- a body's contract -/
def own_C (l : Launch) (y : MethodName) (bytes : ByteArray) (maxL : Nat) (ret : Option FieldType) (rm : Room) (Z : State) (A : Array Value) (h : Heap) (Q : Option Value → Heap → List Loc → Prop) : Prop :=
  ∀ ws : List Jvm.Cond, MetFree l y (head1 (Jvm.Cond.code y bytes maxL ret :: ws) rm) (fun a U => a = A ∧ Z.WarmedH U.vm ∧ U.heap = h) (fun _ _ _ _ _ => True) (fun _ U o U' => ∃ v L, o = .returned v ∧ Q v U'.heap L ∧ FrameEnd U o U' L rm.cells rm.slots)
theorem own_enter {y : MethodName} {bytes : ByteArray} {maxL : Nat} {ret : Option FieldType} {rm : Room} {A : Array Value} {Q : Option Value → Heap → List Loc → Prop} (hp : plainFor y = true)
    (body : ∀ (p : Program) (e : Env) (s : State) (m : MethodId) (below : List Frame) (meth : Method) (c : Code) (s₁ : State), Stand p l e rm s m A below meth c s₁ [] 0 0 → p.tables.exec = Jvm.exec → c.code = bytes → c.maxLocals = maxL → s.vm.findClass y.cls = some m.cls → meth.name = y.name → meth.sig.returnType = ret → meth.locks = false → Z.Warmed39 s.vm → s₁.heap = h → Z.WarmedH s.vm → s.methodNamed? y = some m →
      own_Ends p e s below rm.cells rm.slots Q s₁ (entryFrame m A maxL)) : own_C l y bytes maxL ret rm Z A h Q := by
  intro ws
  refine MetFree.of_bodySF hp hisR ?_
  intro p e s m args below meth c s₁ Bd hml hP hK
  obtain ⟨rfl, hZ, hh⟩ := hP
  exact body p e s m below meth c s₁ (Stand.of_body Bd) Bd.exec Bd.bytes hml (findClass_of_methodNamed Bd.named) (name_of_methodNamed Bd.named Bd.method).1 Bd.returns Bd.notSynchronized hZ.wide (by rw [← hh, Bd.state]; rfl) hZ Bd.named
theorem own_backOf {y : MethodName} {bytes : ByteArray} {maxL : Nat} {ret : Option FieldType} {rm : Room} {len W : Nat} {as' : Array Value} {Q : Option Value → Heap → List Loc → Prop}
    (hM : MetFree l y (head1 [Cond.code y bytes maxL ret] rm) (fun a U => a = as' ∧ Z.WarmedH U.vm ∧ U.heap = h) (fun _ _ _ _ _ => True) (fun _ U o U' => ∃ v L, o = .returned v ∧ Q v U'.heap L ∧ FrameEnd U o U' L rm.cells rm.slots))
    (hZ : Z.WarmedH s.vm) (wc : (Cond.code y bytes maxL ret).before a0 Z = true) (wz : (Cond.initialized y.cls).before a0 Z = true) (hf : rm.frames + 1 ≤ R.frames) (hl : W + (maxL + 11) + rm.locals ≤ R.locals) :
    Back l R p e below s args y len W (fun A a => a = as' ∧ A.U.heap = h ∧ A.cells + rm.cells ≤ R.cells ∧ A.slots + rm.slots ≤ R.slots)
      (fun A _ v B => ∃ L, Q v B.U.heap L ∧ B.locs = A.locs ++ L ∧ B.cells = A.cells + rm.cells ∧ B.slots = A.slots + rm.slots) :=
  Back.of_free (bytes := bytes) (maxL := maxL) (ret := ret) (E := fun _ _ o t L k n => k = rm.cells ∧ n = rm.slots ∧ ∃ v, o = .returned v ∧ Q v t.heap L) hM hf hl
    (fun m meth c A a Y hp => have hU : Z.Warmed39 A.U.vm := wtrans hZ.wide Y.warmed
      ⟨by show (Cond.and _ .tt).before a A.U = true; rw [Cond.before_and, mv hU wc]; rfl, mv hU wc, mv hU wz, hp.2.2.1, hp.2.2.2⟩)
    (fun m meth c A a g mk Y hp => ⟨hp.1, State.WarmedH.trans hZ Y.warmed, hp.2.1⟩) (fun _ _ _ _ _ _ _ _ _ => trivial)
    (fun _ _ _ _ ⟨v, L, h1, h2, h3⟩ => ⟨L, _, _, h3, rfl, rfl, v, h1, h2⟩)
    (fun m meth c A a g mk v t L k n Y hp _ _ ⟨e1, e2, v', e3, e4⟩ => by cases e3; subst e1 e2; exact ⟨L, e4, rfl, rfl, rfl⟩)
theorem own_ret (X : Stand p l e R s m args below meth c T locs cells slots) (hx : p.tables.exec = Jvm.exec) (hlk : meth.locks = false) {Q : Option Value → Heap → List Loc → Prop} {C S pc : Nat} {Ls : Array Slot} {w : Value} {t : FieldType} {i : Instr} {rest : List Value} (hret : meth.sig.returnType = some t) (hn : narrow t w = w)
    (hi : (i = .ireturn ∧ (t = .int ∨ t = .boolean ∨ t = .byte ∨ t = .char ∨ t = .short) ∧ ∃ z, w = .int z) ∨ (i = .lreturn ∧ t = .long ∧ ∃ z, w = .long z) ∨ (i = .dreturn ∧ t = .double ∧ ∃ z, w = .double z) ∨ (i = .freturn ∧ t = .float ∧ ∃ z, w = .float z) ∨ (i = .areturn ∧ t.isReference = true ∧ w.isRef = true))
    (hd : decode c.code pc = .ok (i, 1)) (hc : cells ≤ C) (hs : slots ≤ S) (hq : Q (some w) T.heap locs) : own_Ends p e s below C S Q T (mkF m pc Ls (w :: rest)) := by
  obtain ⟨fs, hr, hrun, hended, hW, hsame⟩ := X.leave (v := some w) (fun h => by rw [hret] at h; cases h) hlk
  exact ⟨_, _, retOut X hx hret hn hi hd hr, hrun, hended, _, _, rfl, hq, ⟨_, rfl⟩, hW, hsame.mono hc hs⟩
theorem own_retI (X : Stand p l e R s m args below meth c T locs cells slots) (hx : p.tables.exec = Jvm.exec) (hlk : meth.locks = false) {Q : Option Value → Heap → List Loc → Prop} {C S pc : Nat} {Ls : Array Slot} {z : Int32} {rest : List Value} (hret : meth.sig.returnType = some .int)
    (hd : decode c.code pc = .ok (.ireturn, 1)) (hc : cells ≤ C) (hs : slots ≤ S) (hq : Q (some (.int z)) T.heap locs) : own_Ends p e s below C S Q T (mkF m pc Ls (.int z :: rest)) :=
  own_ret X hx hlk hret rfl (Or.inl ⟨rfl, Or.inl rfl, z, rfl⟩) hd hc hs hq
theorem own_retZ (X : Stand p l e R s m args below meth c T locs cells slots) (hx : p.tables.exec = Jvm.exec) (hlk : meth.locks = false) {Q : Option Value → Heap → List Loc → Prop} {C S pc : Nat} {Ls : Array Slot} {z : Int32} {rest : List Value} (hret : meth.sig.returnType = some .boolean) (hz : z = 0 ∨ z = 1)
    (hd : decode c.code pc = .ok (.ireturn, 1)) (hc : cells ≤ C) (hs : slots ≤ S) (hq : Q (some (.int z)) T.heap locs) : own_Ends p e s below C S Q T (mkF m pc Ls (.int z :: rest)) :=
  own_ret X hx hlk hret (by rcases hz with rfl | rfl <;> rfl) (Or.inl ⟨rfl, Or.inr (Or.inl rfl), z, rfl⟩) hd hc hs hq
theorem own_retJ (X : Stand p l e R s m args below meth c T locs cells slots) (hx : p.tables.exec = Jvm.exec) (hlk : meth.locks = false) {Q : Option Value → Heap → List Loc → Prop} {C S pc : Nat} {Ls : Array Slot} {z : Int64} {rest : List Value} (hret : meth.sig.returnType = some .long)
    (hd : decode c.code pc = .ok (.lreturn, 1)) (hc : cells ≤ C) (hs : slots ≤ S) (hq : Q (some (.long z)) T.heap locs) : own_Ends p e s below C S Q T (mkF m pc Ls (.long z :: rest)) :=
  own_ret X hx hlk hret rfl (Or.inr (Or.inl ⟨rfl, rfl, z, rfl⟩)) hd hc hs hq
theorem own_retR (X : Stand p l e R s m args below meth c T locs cells slots) (hx : p.tables.exec = Jvm.exec) (hlk : meth.locks = false) {Q : Option Value → Heap → List Loc → Prop} {C S pc : Nat} {Ls : Array Slot} {w : Value} {t : FieldType} {rest : List Value} (hret : meth.sig.returnType = some t) (ht : t.isReference = true) (hn : narrow t w = w) (hw : w.isRef = true)
    (hd : decode c.code pc = .ok (.areturn, 1)) (hc : cells ≤ C) (hs : slots ≤ S) (hq : Q (some w) T.heap locs) : own_Ends p e s below C S Q T (mkF m pc Ls (w :: rest)) :=
  own_ret X hx hlk hret hn (Or.inr (Or.inr (Or.inr (Or.inr ⟨rfl, ht, hw⟩)))) hd hc hs hq
theorem own_retV (X : Stand p l e R s m args below meth c T locs cells slots) (hx : p.tables.exec = Jvm.exec) (hlk : meth.locks = false) {Q : Option Value → Heap → List Loc → Prop} {C S pc : Nat} {Ls : Array Slot} (hret : meth.sig.returnType = none)
    (hd : decode c.code pc = .ok (.return_, 1)) (hc : cells ≤ C) (hs : slots ≤ S) (hq : Q none T.heap locs) : own_Ends p e s below C S Q T (mkF m pc Ls []) := by
  obtain ⟨fs, hr, hrun, hended, hW, hsame⟩ := X.leave (v := none) (fun _ => rfl) hlk
  exact ⟨_, _, X.returnOut hx hret hd hr, hrun, hended, _, _, rfl, hq, ⟨_, rfl⟩, hW, hsame.mono hc hs⟩
theorem own_callS (X : Stand p l e R s m args below meth c T locs cells slots) (hx : p.tables.exec = Jvm.exec) (hZ : Z.Warmed39 s.vm) {own : String} {index : Nat} {y : MethodName} {bytes : ByteArray} {maxL W : Nat} {ret : Option FieldType} {rm : Room} {A : Array Value} {Q : Option Value → Heap → List Loc → Prop}
    (hown : s.vm.findClass own = some m.cls) (wl : (Cond.methodLink own index y).before a0 Z = true) (ws : (Cond.static y).before a0 Z = true) (wz : (Cond.initialized y.cls).before a0 Z = true) (wc : (Cond.code y bytes maxL ret).before a0 Z = true)
    (hM : own_C l y bytes maxL ret rm Z A h Q) (eT : T.heap = h) {g : JFrame} (hg : g.method = m) (hsize : g.locals.size = c.maxLocals) {argsL rest : List Value} (hlen : ∀ sig, parseMethodDescriptor y.desc = some sig → argsL.length = sig.parameters.length) (hstack : g.stack = argsL.reverse ++ rest) (hA : argsL.toArray = A)
    (hW : 2 * g.monitorRoom + (rest.map fun v => v.category).sum ≤ W) (hd : decode c.code g.pc = .ok (.invokestatic index, 3)) (hy : y.cls ≠ "java/lang/invoke/MethodHandle" ∧ y.cls ≠ "java/lang/invoke/VarHandle")
    (hf : rm.frames + 1 ≤ R.frames) (hl : W + (maxL + 11) + rm.locals ≤ R.locals) (hc : cells + rm.cells ≤ R.cells) (hs : slots + rm.slots ≤ R.slots) (hZH : Z.WarmedH s.vm := by assumption) :
    ∃ v T' L, Stand p l e R s m args below meth c T' (locs ++ L) (cells + rm.cells) (slots + rm.slots) ∧ Q v T'.heap L ∧ ∀ target, Steps p.tables e below (T'.setTop { g with pc := g.pc + 3, stack := v.toList ++ rest }) target → Steps p.tables e below (T.setTop g) target := by
  obtain ⟨v, vm₁, ⟨T', L', k', n'⟩, -, X', ⟨L, hQ, l1, l2, l3⟩, st⟩ := Jvm.LawKit.callS X hx hown (mvT hZ wl) (mvT hZ ws) (mvT hZ wz) (mvT hZ wc) hy (own_backOf (W := W) (hM []) hZH wc wz hf hl) hg hsize hlen hstack hW hd (fun _ _ => ⟨hA, eT, hc, hs⟩)
  dsimp only [Pt.U, Pt.locs, Pt.cells, Pt.slots] at X' l1 l2 l3 st hQ
  subst l1 l2 l3
  exact ⟨v, T', L, X', hQ, st⟩
theorem own_callI (X : Stand p l e R s m args below meth c T locs cells slots) (hx : p.tables.exec = Jvm.exec) (hZ : Z.Warmed39 s.vm) {own : String} {index : Nat} {y : MethodName} {bytes : ByteArray} {maxL W : Nat} {rm : Room} {A : Array Value} {Q : Option Value → Heap → List Loc → Prop}
    (hown : s.vm.findClass own = some m.cls) (hy1 : y.name = "<init>") (wl : (Cond.methodLink own index y).before a0 Z = true) (ws : (Cond.instanceMethod y).before a0 Z = true) (wz : (Cond.initialized y.cls).before a0 Z = true) (wc : (Cond.code y bytes maxL none).before a0 Z = true)
    (hM : own_C l y bytes maxL none rm Z A h Q) (eT : T.heap = h) {g : JFrame} (hg : g.method = m) (hsize : g.locals.size = c.maxLocals) {a : Addr} {argsL rest : List Value} (hlen : ∀ sig, parseMethodDescriptor y.desc = some sig → argsL.length = sig.parameters.length) (hstack : g.stack = argsL.reverse ++ .ref a :: rest) (hA : (.ref a :: argsL).toArray = A)
    (hW : 2 * g.monitorRoom + (rest.map fun v => v.category).sum ≤ W) (hd : decode c.code g.pc = .ok (.invokespecial index, 3)) (hy : y.cls ≠ "java/lang/invoke/MethodHandle" ∧ y.cls ≠ "java/lang/invoke/VarHandle")
    (hf : rm.frames + 1 ≤ R.frames) (hl : W + (maxL + 11) + rm.locals ≤ R.locals) (hc : cells + rm.cells ≤ R.cells) (hs : slots + rm.slots ≤ R.slots) (hZH : Z.WarmedH s.vm := by assumption) :
    ∃ v T' L, Stand p l e R s m args below meth c T' (locs ++ L) (cells + rm.cells) (slots + rm.slots) ∧ Q v T'.heap L ∧ ∀ target, Steps p.tables e below (T'.setTop { g with pc := g.pc + 3, stack := v.toList ++ rest }) target → Steps p.tables e below (T.setTop g) target := by
  obtain ⟨v, vm₁, ⟨T', L', k', n'⟩, -, X', ⟨L, hQ, l1, l2, l3⟩, st⟩ := X.specialBack hx hy1 hown (mvT hZ wl) (mvT hZ ws) (mvT hZ wc) hy (own_backOf (W := W) (hM []) hZH wc wz hf hl) hg hsize (Steps.refl _) hlen hstack hW hd (fun _ _ => ⟨hA, eT, hc, hs⟩)
  dsimp only [Pt.U, Pt.locs, Pt.cells, Pt.slots] at X' l1 l2 l3 st hQ
  subst l1 l2 l3
  exact ⟨v, T', L, X', hQ, fun _ k => st.trans k⟩
theorem own_callV (X : Stand p l e R s m args below meth c T locs cells slots) (hx : p.tables.exec = Jvm.exec) (hZ : Z.Warmed39 s.vm) {own K : String} {index : Nat} {y : MethodName} {bytes : ByteArray} {maxL W : Nat} {ret : Option FieldType} {rm : Room} {A : Array Value} {Q : Option Value → Heap → List Loc → Prop}
    (hown : s.vm.findClass own = some m.cls) (wl : (Cond.methodLink own index y).before a0 Z = true) (wd : (Cond.declares y).before a0 Z = true) (wsel : (Cond.selects K y y).before a0 Z = true) (ws : (Cond.instanceMethod y).before a0 Z = true) (wz : (Cond.initialized y.cls).before a0 Z = true) (wc : (Cond.code y bytes maxL ret).before a0 Z = true)
    (hM : own_C l y bytes maxL ret rm Z A h Q) (eT : T.heap = h) {g : JFrame} (hg : g.method = m) (hsize : g.locals.size = c.maxLocals) {a : Addr} {argsL rest : List Value} (hE : Exa Z h a K) (hlen : ∀ sig, parseMethodDescriptor y.desc = some sig → argsL.length = sig.parameters.length) (hstack : g.stack = argsL.reverse ++ .ref a :: rest) (hA : (.ref a :: argsL).toArray = A)
    (hW : 2 * g.monitorRoom + (rest.map fun v => v.category).sum ≤ W) (hd : decode c.code g.pc = .ok (.invokevirtual index, 3)) (hy : y.cls ≠ "java/lang/invoke/MethodHandle" ∧ y.cls ≠ "java/lang/invoke/VarHandle")
    (hf : rm.frames + 1 ≤ R.frames) (hl : W + (maxL + 11) + rm.locals ≤ R.locals) (hc : cells + rm.cells ≤ R.cells) (hs : slots + rm.slots ≤ R.slots) (hZH : Z.WarmedH s.vm := by assumption) :
    ∃ v T' L, Stand p l e R s m args below meth c T' (locs ++ L) (cells + rm.cells) (slots + rm.slots) ∧ Q v T'.heap L ∧ ∀ target, Steps p.tables e below (T'.setTop { g with pc := g.pc + 3, stack := v.toList ++ rest }) target → Steps p.tables e below (T.setTop g) target := by
  obtain ⟨cq, kq, qa, qb, qc⟩ := isOf hZ eT hE
  obtain ⟨v, vm₁, ⟨T', L', k', n'⟩, -, X', ⟨L, hQ, l1, l2, l3⟩, st⟩ := X.virtualBack hx hown (mvT hZ wl) (mvT hZ wd) (notFace_of_selects (args := #[]) (mvT hZ wsel)) (mvT hZ wsel) (mvT hZ ws) hy (own_backOf (W := W) (hM []) hZH wc wz hf hl) qa qc hg hsize (Steps.refl _) hlen hstack hW hd (fun _ _ => ⟨hA, eT, hc, hs⟩)
  dsimp only [Pt.U, Pt.locs, Pt.cells, Pt.slots] at X' l1 l2 l3 st hQ
  subst l1 l2 l3
  exact ⟨v, T', L, X', hQ, fun _ k => st.trans k⟩
theorem own_callP (X : Stand p l e R s m args below meth c T locs cells slots) (hx : p.tables.exec = Jvm.exec) (hZ : Z.Warmed39 s.vm) {own K : String} {index kk : Nat} {y : MethodName} {bytes : ByteArray} {maxL W : Nat} {ret : Option FieldType} {rm : Room} {A : Array Value} {Q : Option Value → Heap → List Loc → Prop}
    (hown : s.vm.findClass own = some m.cls) (wl : (Cond.methodLink own index y).before a0 Z = true) (wp : (Cond.privateMethod y).before a0 Z = true) (wi : (Cond.instantiable y.cls kk).before a0 Z = true) (ws : (Cond.instanceMethod y).before a0 Z = true) (wz : (Cond.initialized y.cls).before a0 Z = true) (wc : (Cond.code y bytes maxL ret).before a0 Z = true)
    (hM : own_C l y bytes maxL ret rm Z A h Q) (eT : T.heap = h) {g : JFrame} (hg : g.method = m) (hsize : g.locals.size = c.maxLocals) {a : Addr} {argsL rest : List Value} (hE : Exa Z h a K) (hlen : ∀ sig, parseMethodDescriptor y.desc = some sig → argsL.length = sig.parameters.length) (hstack : g.stack = argsL.reverse ++ .ref a :: rest) (hA : (.ref a :: argsL).toArray = A)
    (hW : 2 * g.monitorRoom + (rest.map fun v => v.category).sum ≤ W) (hd : decode c.code g.pc = .ok (.invokevirtual index, 3)) (hy : y.cls ≠ "java/lang/invoke/MethodHandle" ∧ y.cls ≠ "java/lang/invoke/VarHandle")
    (hf : rm.frames + 1 ≤ R.frames) (hl : W + (maxL + 11) + rm.locals ≤ R.locals) (hc : cells + rm.cells ≤ R.cells) (hs : slots + rm.slots ≤ R.slots) (hZH : Z.WarmedH s.vm := by assumption) :
    ∃ v T' L, Stand p l e R s m args below meth c T' (locs ++ L) (cells + rm.cells) (slots + rm.slots) ∧ Q v T'.heap L ∧ ∀ target, Steps p.tables e below (T'.setTop { g with pc := g.pc + 3, stack := v.toList ++ rest }) target → Steps p.tables e below (T.setTop g) target := by
  obtain ⟨cq, q1, q2⟩ := hE.cell
  have hpriv : s.PrivateAt y := Cond.privateMethod_at (mvP hZ wp (args := #[]))
  obtain ⟨cc, kc, i1, i2, -, i4, -⟩ := Cond.instantiable_spec (mvT (args := #[]) hZ wi)
  have hni : kc.isInterface = false := (Bool.or_eq_false_iff.mp i4).1
  have hsel : (Cond.selects y.cls y y).before args s = true := selects_self_of_private i1 i2 hni hpriv (mvT hZ ws) hy
  obtain ⟨v, vm₁, ⟨T', L', k', n'⟩, -, X', ⟨L, hQ, l1, l2, l3⟩, st⟩ := X.privateBack hx hown (mvT hZ wl) (mvT hZ ws) hsel hpriv (mvT hZ wc) hy (own_backOf (W := W) (hM []) hZH wc wz hf hl) hg hsize (Steps.refl _) (by rw [eT]; exact q1) q2 hlen hstack hW hd (fun _ _ => ⟨hA, eT, hc, hs⟩)
  dsimp only [Pt.U, Pt.locs, Pt.cells, Pt.slots] at X' l1 l2 l3 st hQ
  subst l1 l2 l3
  exact ⟨v, T', L, X', hQ, fun _ k => st.trans k⟩
end OwnLayer
theorem own_lct {x y : Int64} (q : x < y) : ifCond.holds .lt (lcmpW x y) = true ∧ ifCond.holds .ge (lcmpW x y) = false := by
  have r := (lw_lt x y).mpr q
  exact ⟨(if0 _ _).trans (tlt r).1, (if0 _ _).trans (tlt r).2.1⟩
theorem own_lcf {x y : Int64} (q : ¬ x < y) : ifCond.holds .lt (lcmpW x y) = false ∧ ifCond.holds .ge (lcmpW x y) = true := by
  have r : ¬ lcmpW x y < 0 := fun z => q ((lw_lt x y).mp z)
  exact ⟨(if0 _ _).trans (flt r).1, (if0 _ _).trans (flt r).2.1⟩
theorem own_lgt {x y : Int64} (q : y < x) : ifCond.holds .gt (lcmpW x y) = true ∧ ifCond.holds .le (lcmpW x y) = false := by
  have r := (lw_gt x y).mpr q
  exact ⟨(if0 _ _).trans (tlt r).2.2.1, (if0 _ _).trans (tlt r).2.2.2⟩
theorem own_lgf {x y : Int64} (q : ¬ y < x) : ifCond.holds .gt (lcmpW x y) = false ∧ ifCond.holds .le (lcmpW x y) = true := by
  have r : ¬ 0 < lcmpW x y := fun z => q ((lw_gt x y).mp z)
  exact ⟨(if0 _ _).trans (flt r).2.2.1, (if0 _ _).trans (flt r).2.2.2⟩
theorem own_let {x y : Int64} (q : x = y) : ifCond.holds .eq (lcmpW x y) = true ∧ ifCond.holds .ne (lcmpW x y) = false := by
  have r := (lw_eq x y).mpr q
  exact ⟨(if0 _ _).trans (teq r).1, (if0 _ _).trans (teq r).2⟩
theorem own_lef {x y : Int64} (q : ¬ x = y) : ifCond.holds .eq (lcmpW x y) = false ∧ ifCond.holds .ne (lcmpW x y) = true := by
  have r : ¬ lcmpW x y = 0 := fun z => q ((lw_eq x y).mp z)
  exact ⟨(if0 _ _).trans (feq r).1, (if0 _ _).trans (feq r).2⟩
section OwnArrays
variable {p : Program} {l : Launch} {e : Env} {R : Room} {s : State} {m : MethodId} {args : Array Value} {below : List Frame} {meth : Method} {c : Code} {T : State} {locs : List Loc} {cells slots : Nat} {Z : State} {a0 : Array Value} {h h' : Heap} {a b : Addr} {k : ClassId} {ty : FieldType} {n i sl : Nat} {f : Nat → Value} {v : Value} {ws : List Addr}
/-- an array by its length and what each place holds -/
def own_Ar (Z : State) (h : Heap) (a : Addr) (k : ClassId) (ty : FieldType) (n : Nat) (f : Nat → Value) : Prop := ∃ c : Cell, Arr Z h a c ty ∧ c.cls = k ∧ c.slots.size = n ∧ n < 2 ^ 31 ∧ ∀ i, i < n → c.slots[i]? = some (f i)
theorem own_Ar.lt (F : own_Ar Z h a k ty n f) : a < h.size := by obtain ⟨c, A, -⟩ := F; exact A.lt
theorem own_Ar.ext (F : own_Ar Z h a k ty n f) (E : Ext h h') : own_Ar Z h' a k ty n f := by obtain ⟨c, A, r⟩ := F; exact ⟨c, A.ext E, r⟩
theorem own_Ar.other (F : own_Ar Z h a k ty n f) (W : Wr h h' b sl v) (q : a ≠ b) : own_Ar Z h' a k ty n f := by obtain ⟨c, A, r⟩ := F; exact ⟨c, A.other W q, r⟩
theorem own_Ar.keep (F : own_Ar Z h a k ty n f) (K : Keep h h' ws) (q : a ∉ ws) : own_Ar Z h' a k ty n f := by obtain ⟨c, A, r⟩ := F; exact ⟨c, ⟨K.2.1 a c A.1 q, A.2⟩, r⟩
theorem own_Ar.cong (F : own_Ar Z h a k ty n f) {g : Nat → Value} (q : ∀ i, i < n → f i = g i) : own_Ar Z h a k ty n g := by
  obtain ⟨c, A, r1, r2, r3, r4⟩ := F
  exact ⟨c, A, r1, r2, r3, fun i hi => by rw [r4 i hi, q i hi]⟩
theorem own_Ar.set (F : own_Ar Z h a k ty n f) (W : Wr h h' a i v) : own_Ar Z h' a k ty n (fun j => if j = i then v else f j) := by
  obtain ⟨c, A, r1, r2, r3, r4⟩ := F
  refine ⟨c.setSlot i v, A.same W, r1, by rw [sz_set]; exact r2, r3, fun j hj => ?_⟩
  show _ = some (if j = i then v else f j)
  by_cases q : j = i
  · subst q
    rw [if_pos rfl]
    show (c.slots.setIfInBounds j v)[j]? = some v
    simp [r2, hj]
  · rw [if_neg q]
    show (c.slots.setIfInBounds i v)[j]? = some (f j)
    rw [Array.getElem?_setIfInBounds_ne (fun z => q z.symm)]
    exact r4 j hj
theorem own_in {c : Cell} {j : Int32} (hj : ¬ j < 0) (hi : j.toNatClampNeg = i) (r : c.slots.size = n) (hn : i < n) : ¬ (j < 0 ∨ c.slots.size ≤ j.toNatClampNeg) := by
  rintro (q | q)
  · exact hj q
  · rw [hi, r] at q; exact absurd hn (Nat.not_lt.mpr q)
theorem own_len (X : Stand p l e R s m args below meth c T locs cells slots) (hx : p.tables.exec = Jvm.exec) (hZ : Z.Warmed39 s.vm) (eT : T.heap = h) (F : own_Ar Z h a k ty n f) {z : Int32} (hz : Int32.ofNat n = z) {g : JFrame} (hg : g.method = m) {rest : List Value} (hs : g.stack = .ref a :: rest) (hd : decode c.code g.pc = .ok (.arraylength, 1)) (target : State)
    (kt : Steps p.tables e below (T.setTop { g with pc := g.pc + 1, stack := .int z :: rest }) target) : Steps p.tables e below (T.setTop g) target := by
  obtain ⟨cl, A, -, r2, r3, -⟩ := F
  refine X.arraylength hx (by rw [eT]; exact A.1) (State.isArrayOf_alike hZ.alike A.2.1) hg hs hd _ ?_
  have q : cl.slots.size.toInt32 = z := by rw [r2]; exact hz
  rw [q]; exact kt
theorem own_ldI (X : Stand p l e R s m args below meth c T locs cells slots) (hx : p.tables.exec = Jvm.exec) (hZ : Z.Warmed39 s.vm) (eT : T.heap = h) (F : own_Ar Z h a k .int n f) {j : Int32} (hj : ¬ j < 0) (hi : j.toNatClampNeg = i) (hn : i < n) (hv : f i = v) {g : JFrame} (hg : g.method = m) {rest : List Value} (hs : g.stack = .int j :: .ref a :: rest) (hd : decode c.code g.pc = .ok (.iaload, 1)) (target : State)
    (kt : Steps p.tables e below (T.setTop { g with pc := g.pc + 1, stack := v :: rest }) target) : Steps p.tables e below (T.setTop g) target := by
  obtain ⟨cl, A, -, r2, r3, r4⟩ := F
  exact X.iaload hx (by rw [eT]; exact A.1) (State.isArrayOf_alike hZ.alike A.2.1) A.2.2 (own_in hj hi r2 hn) (by rw [hi, r4 i hn, hv]) hg hs hd _ kt
theorem own_ldJ (X : Stand p l e R s m args below meth c T locs cells slots) (hx : p.tables.exec = Jvm.exec) (hZ : Z.Warmed39 s.vm) (eT : T.heap = h) (F : own_Ar Z h a k .long n f) {j : Int32} (hj : ¬ j < 0) (hi : j.toNatClampNeg = i) (hn : i < n) (hv : f i = v) {g : JFrame} (hg : g.method = m) {rest : List Value} (hs : g.stack = .int j :: .ref a :: rest) (hd : decode c.code g.pc = .ok (.laload, 1)) (target : State)
    (kt : Steps p.tables e below (T.setTop { g with pc := g.pc + 1, stack := v :: rest }) target) : Steps p.tables e below (T.setTop g) target := by
  obtain ⟨cl, A, -, r2, r3, r4⟩ := F
  exact X.laload hx (by rw [eT]; exact A.1) (State.isArrayOf_alike hZ.alike A.2.1) A.2.2 (own_in hj hi r2 hn) (by rw [hi, r4 i hn, hv]) hg hs hd _ kt
theorem own_ldC (X : Stand p l e R s m args below meth c T locs cells slots) (hx : p.tables.exec = Jvm.exec) (hZ : Z.Warmed39 s.vm) (eT : T.heap = h) (F : own_Ar Z h a k .char n f) {j : Int32} (hj : ¬ j < 0) (hi : j.toNatClampNeg = i) (hn : i < n) (hv : f i = v) {g : JFrame} (hg : g.method = m) {rest : List Value} (hs : g.stack = .int j :: .ref a :: rest) (hd : decode c.code g.pc = .ok (.caload, 1)) (target : State)
    (kt : Steps p.tables e below (T.setTop { g with pc := g.pc + 1, stack := v :: rest }) target) : Steps p.tables e below (T.setTop g) target := by
  obtain ⟨cl, A, -, r2, r3, r4⟩ := F
  exact X.caload hx (by rw [eT]; exact A.1) (State.isArrayOf_alike hZ.alike A.2.1) A.2.2 (own_in hj hi r2 hn) (by rw [hi, r4 i hn, hv]) hg hs hd _ kt
theorem own_ldB (X : Stand p l e R s m args below meth c T locs cells slots) (hx : p.tables.exec = Jvm.exec) (hZ : Z.Warmed39 s.vm) (eT : T.heap = h) (F : own_Ar Z h a k .byte n f) {j : Int32} (hj : ¬ j < 0) (hi : j.toNatClampNeg = i) (hn : i < n) (hv : f i = v) {g : JFrame} (hg : g.method = m) {rest : List Value} (hs : g.stack = .int j :: .ref a :: rest) (hd : decode c.code g.pc = .ok (.baload, 1)) (target : State)
    (kt : Steps p.tables e below (T.setTop { g with pc := g.pc + 1, stack := v :: rest }) target) : Steps p.tables e below (T.setTop g) target := by
  obtain ⟨cl, A, -, r2, r3, r4⟩ := F
  exact X.baloadBytes hx (by rw [eT]; exact A.1) (State.isArrayOf_alike hZ.alike A.2.1) A.2.2 (own_in hj hi r2 hn) (by rw [hi, r4 i hn, hv]) hg hs hd _ kt
theorem own_ldZ (X : Stand p l e R s m args below meth c T locs cells slots) (hx : p.tables.exec = Jvm.exec) (hZ : Z.Warmed39 s.vm) (eT : T.heap = h) (F : own_Ar Z h a k .boolean n f) {j : Int32} (hj : ¬ j < 0) (hi : j.toNatClampNeg = i) (hn : i < n) (hv : f i = v) {g : JFrame} (hg : g.method = m) {rest : List Value} (hs : g.stack = .int j :: .ref a :: rest) (hd : decode c.code g.pc = .ok (.baload, 1)) (target : State)
    (kt : Steps p.tables e below (T.setTop { g with pc := g.pc + 1, stack := v :: rest }) target) : Steps p.tables e below (T.setTop g) target := by
  obtain ⟨cl, A, -, r2, r3, r4⟩ := F
  exact X.baloadBooleans hx (by rw [eT]; exact A.1) (State.isArrayOf_alike hZ.alike A.2.1) A.2.2 (own_in hj hi r2 hn) (by rw [hi, r4 i hn, hv]) hg hs hd _ kt
theorem own_ldR (X : Stand p l e R s m args below meth c T locs cells slots) (hx : p.tables.exec = Jvm.exec) (hZ : Z.Warmed39 s.vm) (eT : T.heap = h) (F : own_Ar Z h a k ty n f) (ht : ty.isReference = true) {j : Int32} (hj : ¬ j < 0) (hi : j.toNatClampNeg = i) (hn : i < n) (hv : f i = v) {g : JFrame} (hg : g.method = m) {rest : List Value} (hs : g.stack = .int j :: .ref a :: rest) (hd : decode c.code g.pc = .ok (.aaload, 1)) (target : State)
    (kt : Steps p.tables e below (T.setTop { g with pc := g.pc + 1, stack := v :: rest }) target) : Steps p.tables e below (T.setTop g) target := by
  obtain ⟨cl, A, -, r2, r3, r4⟩ := F
  exact X.aaload hx (by rw [eT]; exact A.1) (State.isArrayOf_alike hZ.alike A.2.1) ht A.2.2 (own_in hj hi r2 hn) (by rw [hi, r4 i hn, hv]) hg hs hd _ kt
theorem own_newP (X : Stand p l e R s m args below meth c T locs cells slots) (hx : p.tables.exec = Jvm.exec) (hZ : Z.Warmed39 s.vm) {aty : ArrayType} (w : (Cond.arrayClass (newarray.typeOf aty)).before a0 Z = true) (eT : T.heap = h) {g : JFrame} (hg : g.method = m) (hd : decode c.code g.pc = .ok (.newarray aty, 2)) {z : Int32} {rest : List Value} (hs : g.stack = .int z :: rest)
    (hz : ¬ z < 0) (hzn : z.toNatClampNeg = n) {cap : Nat} (hcap : n ≤ cap) (hb : cap * 8 ≤ 536870912) (hc : cells + 1 ≤ R.cells) (hl : slots + cap ≤ R.slots) :
    ∃ T' h' k, Stand p l e R s m args below meth c T' locs (cells + 1) (slots + cap) ∧ T'.heap = h' ∧ Ext h h' ∧ own_Ar Z h' h.size k (newarray.typeOf aty) n (fun _ => defaultValue (newarray.typeOf aty)) ∧
      ∀ target, Steps p.tables e below (T'.setTop { g with pc := g.pc + 2, stack := .ref h.size :: rest }) target → Steps p.tables e below (T.setTop g) target := by
  obtain ⟨T', h', cA, X', e', E, A, st⟩ := newP X hx hZ w eT hg hd hs hz (cap := cap) (by rw [hzn]; exact hcap) hb hc hl
  refine ⟨T', h', cA, X', e', E, ⟨_, A, rfl, (sz_new _ _ _).trans hzn, by omega, fun i hi => ?_⟩, st⟩
  have hs : i < z.toNatClampNeg := by rw [hzn]; exact hi
  simp [newA, hs, defaultValue]
theorem own_stI (X : Stand p l e R s m args below meth c T locs cells slots) (hx : p.tables.exec = Jvm.exec) (hZ : Z.Warmed39 s.vm) (eT : T.heap = h) (F : own_Ar Z h a k .int n f) {j x : Int32} (hj : ¬ j < 0) (hi : j.toNatClampNeg = i) (hn : i < n) {g : JFrame} (hg : g.method = m) {rest : List Value} (hs : g.stack = .int x :: .int j :: .ref a :: rest) (hd : decode c.code g.pc = .ok (.iastore, 1)) :
    ∃ T' h', Stand p l e R s m args below meth c T' (locs ++ [⟨a, i⟩]) cells slots ∧ T'.heap = h' ∧ Wr h h' a i (.int x) ∧ own_Ar Z h' a k .int n (fun j => if j = i then .int x else f j) ∧ ∀ target, Steps p.tables e below (T'.setTop { g with pc := g.pc + 1, stack := rest }) target → Steps p.tables e below (T.setTop g) target := by
  obtain ⟨cl, A, r1, r2, r3, r4⟩ := F
  obtain ⟨T', h', X', e', W, st⟩ := stI X hx hZ eT A (own_in hj hi r2 hn) hg hs hd
  rw [hi] at X' W
  exact ⟨T', h', X', e', W, own_Ar.set ⟨cl, A, r1, r2, r3, r4⟩ W, st⟩
theorem own_stJ (X : Stand p l e R s m args below meth c T locs cells slots) (hx : p.tables.exec = Jvm.exec) (hZ : Z.Warmed39 s.vm) (eT : T.heap = h) (F : own_Ar Z h a k .long n f) {j : Int32} {x : Int64} (hj : ¬ j < 0) (hi : j.toNatClampNeg = i) (hn : i < n) {g : JFrame} (hg : g.method = m) {rest : List Value} (hs : g.stack = .long x :: .int j :: .ref a :: rest) (hd : decode c.code g.pc = .ok (.lastore, 1)) :
    ∃ T' h', Stand p l e R s m args below meth c T' (locs ++ [⟨a, i⟩]) cells slots ∧ T'.heap = h' ∧ Wr h h' a i (.long x) ∧ own_Ar Z h' a k .long n (fun j => if j = i then .long x else f j) ∧ ∀ target, Steps p.tables e below (T'.setTop { g with pc := g.pc + 1, stack := rest }) target → Steps p.tables e below (T.setTop g) target := by
  obtain ⟨cl, A, r1, r2, r3, r4⟩ := F
  obtain ⟨T', h', X', e', W, st⟩ := stJ X hx hZ eT A (own_in hj hi r2 hn) hg hs hd
  rw [hi] at X' W
  exact ⟨T', h', X', e', W, own_Ar.set ⟨cl, A, r1, r2, r3, r4⟩ W, st⟩
theorem own_stB (X : Stand p l e R s m args below meth c T locs cells slots) (hx : p.tables.exec = Jvm.exec) (hZ : Z.Warmed39 s.vm) (eT : T.heap = h) (F : own_Ar Z h a k .byte n f) {j x : Int32} (hj : ¬ j < 0) (hi : j.toNatClampNeg = i) (hn : i < n) {g : JFrame} (hg : g.method = m) {rest : List Value} (hs : g.stack = .int x :: .int j :: .ref a :: rest) (hd : decode c.code g.pc = .ok (.bastore, 1)) :
    ∃ T' h', Stand p l e R s m args below meth c T' (locs ++ [⟨a, i⟩]) cells slots ∧ T'.heap = h' ∧ Wr h h' a i (.int (nar .byte x)) ∧ own_Ar Z h' a k .byte n (fun j => if j = i then .int (nar .byte x) else f j) ∧ ∀ target, Steps p.tables e below (T'.setTop { g with pc := g.pc + 1, stack := rest }) target → Steps p.tables e below (T.setTop g) target := by
  obtain ⟨cl, A, r1, r2, r3, r4⟩ := F
  obtain ⟨T', h', X', e', W, st⟩ := stB X hx hZ eT A (own_in hj hi r2 hn) hg hs hd
  rw [hi] at X' W
  exact ⟨T', h', X', e', W, own_Ar.set ⟨cl, A, r1, r2, r3, r4⟩ W, st⟩
theorem own_stZ (X : Stand p l e R s m args below meth c T locs cells slots) (hx : p.tables.exec = Jvm.exec) (hZ : Z.Warmed39 s.vm) (eT : T.heap = h) (F : own_Ar Z h a k .boolean n f) {j x : Int32} (hj : ¬ j < 0) (hi : j.toNatClampNeg = i) (hn : i < n) {g : JFrame} (hg : g.method = m) {rest : List Value} (hs : g.stack = .int x :: .int j :: .ref a :: rest) (hd : decode c.code g.pc = .ok (.bastore, 1)) :
    ∃ T' h', Stand p l e R s m args below meth c T' (locs ++ [⟨a, i⟩]) cells slots ∧ T'.heap = h' ∧ Wr h h' a i (.int (nar .boolean x)) ∧ own_Ar Z h' a k .boolean n (fun j => if j = i then .int (nar .boolean x) else f j) ∧ ∀ target, Steps p.tables e below (T'.setTop { g with pc := g.pc + 1, stack := rest }) target → Steps p.tables e below (T.setTop g) target := by
  obtain ⟨cl, A, r1, r2, r3, r4⟩ := F
  obtain ⟨T', h', X', e', W, st⟩ := stZ X hx hZ eT A (own_in hj hi r2 hn) hg hs hd
  rw [hi] at X' W
  exact ⟨T', h', X', e', W, own_Ar.set ⟨cl, A, r1, r2, r3, r4⟩ W, st⟩
theorem own_stC (X : Stand p l e R s m args below meth c T locs cells slots) (hx : p.tables.exec = Jvm.exec) (hZ : Z.Warmed39 s.vm) (eT : T.heap = h) (F : own_Ar Z h a k .char n f) {j x : Int32} (hj : ¬ j < 0) (hi : j.toNatClampNeg = i) (hn : i < n) {g : JFrame} (hg : g.method = m) {rest : List Value} (hs : g.stack = .int x :: .int j :: .ref a :: rest) (hd : decode c.code g.pc = .ok (.castore, 1)) :
    ∃ T' h', Stand p l e R s m args below meth c T' (locs ++ [⟨a, i⟩]) cells slots ∧ T'.heap = h' ∧ Wr h h' a i (.int (nar .char x)) ∧ own_Ar Z h' a k .char n (fun j => if j = i then .int (nar .char x) else f j) ∧ ∀ target, Steps p.tables e below (T'.setTop { g with pc := g.pc + 1, stack := rest }) target → Steps p.tables e below (T.setTop g) target := by
  obtain ⟨cl, A, r1, r2, r3, r4⟩ := F
  obtain ⟨T', h', X', e', W, st⟩ := stC X hx hZ eT A (own_in hj hi r2 hn) hg hs hd
  rw [hi] at X' W
  exact ⟨T', h', X', e', W, own_Ar.set ⟨cl, A, r1, r2, r3, r4⟩ W, st⟩
theorem own_stR (X : Stand p l e R s m args below meth c T locs cells slots) (hx : p.tables.exec = Jvm.exec) (hZ : Z.Warmed39 s.vm) (eT : T.heap = h) (F : own_Ar Z h a k ty n f) (ht : ty.isReference = true) {j : Int32} (S : Sto Z h a v) (hj : ¬ j < 0) (hi : j.toNatClampNeg = i) (hn : i < n) {g : JFrame} (hg : g.method = m) {rest : List Value} (hs : g.stack = v :: .int j :: .ref a :: rest) (hd : decode c.code g.pc = .ok (.aastore, 1)) :
    ∃ T' h', Stand p l e R s m args below meth c T' (locs ++ [⟨a, i⟩]) cells slots ∧ T'.heap = h' ∧ Wr h h' a i v ∧ own_Ar Z h' a k ty n (fun j => if j = i then v else f j) ∧ ∀ target, Steps p.tables e below (T'.setTop { g with pc := g.pc + 1, stack := rest }) target → Steps p.tables e below (T.setTop g) target := by
  obtain ⟨cl, A, r1, r2, r3, r4⟩ := F
  obtain ⟨T', h', X', e', W, st⟩ := stR X hx hZ eT A (own_in hj hi r2 hn) ht S hg hs hd
  rw [hi] at X' W
  exact ⟨T', h', X', e', W, own_Ar.set ⟨cl, A, r1, r2, r3, r4⟩ W, st⟩
theorem own_newR (X : Stand p l e R s m args below meth c T locs cells slots) (hx : p.tables.exec = Jvm.exec) (hZ : Z.Warmed39 s.vm) {own C : String} {index : Nat} (hown : s.vm.findClass own = some m.cls) (w1 : (Cond.classLink own index C).before a0 Z = true) (w2 : (Cond.arrayOver (.object C)).before a0 Z = true)
    (eT : T.heap = h) {g : JFrame} (hg : g.method = m) (hd : decode c.code g.pc = .ok (.anewarray index, 3)) {z : Int32} {rest : List Value} (hs : g.stack = .int z :: rest) (hz : ¬ z < 0) (hzn : z.toNatClampNeg = n) {cap : Nat} (hcap : n ≤ cap) (hb : cap * 8 ≤ 536870912) (hc : cells + 1 ≤ R.cells) (hl : slots + cap ≤ R.slots) :
    ∃ T' h' k, Stand p l e R s m args below meth c T' locs (cells + 1) (slots + cap) ∧ T'.heap = h' ∧ Ext h h' ∧ own_Ar Z h' h.size k (.object C) n (fun _ => .null) ∧ Ovr Z k C ∧
      ∀ target, Steps p.tables e below (T'.setTop { g with pc := g.pc + 3, stack := .ref h.size :: rest }) target → Steps p.tables e below (T.setTop g) target := by
  obtain ⟨T', h', cA, X', e', E, A, O, st⟩ := newR X hx hZ hown w1 w2 eT hg hd hs hz (cap := cap) (by rw [hzn]; exact hcap) hb hc hl
  refine ⟨T', h', cA, X', e', E, ⟨_, A, rfl, (sz_new _ _ _).trans hzn, by omega, fun i hi => ?_⟩, O, st⟩
  have hs : i < z.toNatClampNeg := by rw [hzn]; exact hi
  simp [newA, hs, defaultValue]
theorem own_Ar.sto {C : String} {y : Addr} (F : own_Ar Z h a k ty n f) (O : Ovr Z k C) (I : Ins Z h y C true) : Sto Z h a (.ref y) := by
  obtain ⟨cl, A, r1, -⟩ := F
  exact Sto.of A (r1 ▸ O) I
end OwnArrays
theorem pnn_1 : plainName "com/example/prefixleap/prefixleap/core/PrefixTableOfPinLaw" = true := by first | (simp [plainName, overriddenIn]; done) | decide +kernel
theorem pn_1 : plainFor (⟨"com/example/prefixleap/prefixleap/core/PrefixTableOfPinLaw", "letter", "(IIIII)B"⟩ : MethodName) = true := plainFor_of_name pnn_1
theorem d1_0 : decode method_2_code 0 = .ok (.iload_n 0, 1) := by decide +kernel
theorem d1_1 : decode method_2_code 1 = .ok (.iconst 3, 1) := by decide +kernel
theorem d1_2 : decode method_2_code 2 = .ok (.iand, 1) := by decide +kernel
theorem d1_3 : decode method_2_code 3 = .ok (.istore 5, 2) := by decide +kernel
theorem d1_5 : decode method_2_code 5 = .ok (.iload 5, 2) := by decide +kernel
theorem d1_7 : decode method_2_code 7 = .ok (.ifCond .ne 6, 3) := by decide +kernel
theorem d1_10 : decode method_2_code 10 = .ok (.iload_n 1, 1) := by decide +kernel
theorem d1_11 : decode method_2_code 11 = .ok (.i2b, 1) := by decide +kernel
theorem d1_12 : decode method_2_code 12 = .ok (.ireturn, 1) := by decide +kernel
theorem d1_13 : decode method_2_code 13 = .ok (.iload 5, 2) := by decide +kernel
theorem d1_15 : decode method_2_code 15 = .ok (.iconst 1, 1) := by decide +kernel
theorem d1_16 : decode method_2_code 16 = .ok (.if_icmp .ne 6, 3) := by decide +kernel
theorem d1_19 : decode method_2_code 19 = .ok (.iload_n 2, 1) := by decide +kernel
theorem d1_20 : decode method_2_code 20 = .ok (.i2b, 1) := by decide +kernel
theorem d1_21 : decode method_2_code 21 = .ok (.ireturn, 1) := by decide +kernel
theorem d1_22 : decode method_2_code 22 = .ok (.iload 5, 2) := by decide +kernel
theorem d1_24 : decode method_2_code 24 = .ok (.iconst 2, 1) := by decide +kernel
theorem d1_25 : decode method_2_code 25 = .ok (.if_icmp .ne 6, 3) := by decide +kernel
theorem d1_28 : decode method_2_code 28 = .ok (.iload_n 3, 1) := by decide +kernel
theorem d1_29 : decode method_2_code 29 = .ok (.i2b, 1) := by decide +kernel
theorem d1_30 : decode method_2_code 30 = .ok (.ireturn, 1) := by decide +kernel
theorem d1_31 : decode method_2_code 31 = .ok (.iload 4, 2) := by decide +kernel
theorem d1_33 : decode method_2_code 33 = .ok (.i2b, 1) := by decide +kernel
theorem d1_34 : decode method_2_code 34 = .ok (.ireturn, 1) := by decide +kernel
theorem pnn_5 : plainName "com/example/prefixleap/prefixleap/core/PrefixTable" = true := by first | (simp [plainName, overriddenIn]; done) | decide +kernel
theorem pn_5 : plainFor (⟨"com/example/prefixleap/prefixleap/core/PrefixTable", "lambda$of$0", "([BII)Z"⟩ : MethodName) = true := plainFor_of_name pnn_5
theorem d5_0 : decode prog_12_method_7_code 0 = .ok (.aload_n 0, 1) := by decide +kernel
theorem d5_1 : decode prog_12_method_7_code 1 = .ok (.iload_n 1, 1) := by decide +kernel
theorem d5_2 : decode prog_12_method_7_code 2 = .ok (.baload, 1) := by decide +kernel
theorem d5_3 : decode prog_12_method_7_code 3 = .ok (.aload_n 0, 1) := by decide +kernel
theorem d5_4 : decode prog_12_method_7_code 4 = .ok (.iload_n 2, 1) := by decide +kernel
theorem d5_5 : decode prog_12_method_7_code 5 = .ok (.baload, 1) := by decide +kernel
theorem d5_6 : decode prog_12_method_7_code 6 = .ok (.if_icmp .ne 7, 3) := by decide +kernel
theorem d5_9 : decode prog_12_method_7_code 9 = .ok (.iconst 1, 1) := by decide +kernel
theorem d5_10 : decode prog_12_method_7_code 10 = .ok (.goto 4, 3) := by decide +kernel
theorem d5_14 : decode prog_12_method_7_code 14 = .ok (.ireturn, 1) := by decide +kernel
theorem d5_13 : decode prog_12_method_7_code 13 = .ok (.iconst 0, 1) := by decide +kernel
theorem pnn_7 : plainName "com/example/prefixleap/prefixleap/core/PrefixTableOfPinLaw" = true := by first | (simp [plainName, overriddenIn]; done) | decide +kernel
theorem pn_7 : plainFor (⟨"com/example/prefixleap/prefixleap/core/PrefixTableOfPinLaw", "match", "([BII)Z"⟩ : MethodName) = true := plainFor_of_name pnn_7
theorem d7_0 : decode method_3_code 0 = .ok (.iload_n 2, 1) := by decide +kernel
theorem d7_1 : decode method_3_code 1 = .ok (.iconst 1, 1) := by decide +kernel
theorem d7_2 : decode method_3_code 2 = .ok (.if_icmp .lt 12, 3) := by decide +kernel
theorem d7_5 : decode method_3_code 5 = .ok (.aload_n 0, 1) := by decide +kernel
theorem d7_6 : decode method_3_code 6 = .ok (.iconst 0, 1) := by decide +kernel
theorem d7_7 : decode method_3_code 7 = .ok (.baload, 1) := by decide +kernel
theorem d7_8 : decode method_3_code 8 = .ok (.aload_n 0, 1) := by decide +kernel
theorem d7_9 : decode method_3_code 9 = .ok (.iload_n 1, 1) := by decide +kernel
theorem d7_10 : decode method_3_code 10 = .ok (.baload, 1) := by decide +kernel
theorem d7_11 : decode method_3_code 11 = .ok (.if_icmp .ne 88, 3) := by decide +kernel
theorem d7_99 : decode method_3_code 99 = .ok (.iconst 0, 1) := by decide +kernel
theorem d7_100 : decode method_3_code 100 = .ok (.ireturn, 1) := by decide +kernel
theorem d7_14 : decode method_3_code 14 = .ok (.iload_n 2, 1) := by decide +kernel
theorem d7_15 : decode method_3_code 15 = .ok (.iconst 2, 1) := by decide +kernel
theorem d7_16 : decode method_3_code 16 = .ok (.if_icmp .lt 14, 3) := by decide +kernel
theorem d7_30 : decode method_3_code 30 = .ok (.iload_n 2, 1) := by decide +kernel
theorem d7_31 : decode method_3_code 31 = .ok (.iconst 3, 1) := by decide +kernel
theorem d7_32 : decode method_3_code 32 = .ok (.if_icmp .lt 14, 3) := by decide +kernel
theorem d7_46 : decode method_3_code 46 = .ok (.iload_n 2, 1) := by decide +kernel
theorem d7_47 : decode method_3_code 47 = .ok (.iconst 4, 1) := by decide +kernel
theorem d7_48 : decode method_3_code 48 = .ok (.if_icmp .lt 14, 3) := by decide +kernel
theorem d7_62 : decode method_3_code 62 = .ok (.iload_n 2, 1) := by decide +kernel
theorem d7_63 : decode method_3_code 63 = .ok (.iconst 5, 1) := by decide +kernel
theorem d7_64 : decode method_3_code 64 = .ok (.if_icmp .lt 14, 3) := by decide +kernel
theorem d7_78 : decode method_3_code 78 = .ok (.iload_n 2, 1) := by decide +kernel
theorem d7_79 : decode method_3_code 79 = .ok (.bipush 6, 2) := by decide +kernel
theorem d7_81 : decode method_3_code 81 = .ok (.if_icmp .lt 14, 3) := by decide +kernel
theorem d7_95 : decode method_3_code 95 = .ok (.iconst 1, 1) := by decide +kernel
theorem d7_96 : decode method_3_code 96 = .ok (.goto 4, 3) := by decide +kernel
theorem d7_19 : decode method_3_code 19 = .ok (.aload_n 0, 1) := by decide +kernel
theorem d7_20 : decode method_3_code 20 = .ok (.iconst 1, 1) := by decide +kernel
theorem d7_21 : decode method_3_code 21 = .ok (.baload, 1) := by decide +kernel
theorem d7_22 : decode method_3_code 22 = .ok (.aload_n 0, 1) := by decide +kernel
theorem d7_23 : decode method_3_code 23 = .ok (.iload_n 1, 1) := by decide +kernel
theorem d7_24 : decode method_3_code 24 = .ok (.iconst 1, 1) := by decide +kernel
theorem d7_25 : decode method_3_code 25 = .ok (.iadd, 1) := by decide +kernel
theorem d7_26 : decode method_3_code 26 = .ok (.baload, 1) := by decide +kernel
theorem d7_27 : decode method_3_code 27 = .ok (.if_icmp .ne 72, 3) := by decide +kernel
theorem d7_35 : decode method_3_code 35 = .ok (.aload_n 0, 1) := by decide +kernel
theorem d7_36 : decode method_3_code 36 = .ok (.iconst 2, 1) := by decide +kernel
theorem d7_37 : decode method_3_code 37 = .ok (.baload, 1) := by decide +kernel
theorem d7_38 : decode method_3_code 38 = .ok (.aload_n 0, 1) := by decide +kernel
theorem d7_39 : decode method_3_code 39 = .ok (.iload_n 1, 1) := by decide +kernel
theorem d7_40 : decode method_3_code 40 = .ok (.iconst 2, 1) := by decide +kernel
theorem d7_41 : decode method_3_code 41 = .ok (.iadd, 1) := by decide +kernel
theorem d7_42 : decode method_3_code 42 = .ok (.baload, 1) := by decide +kernel
theorem d7_43 : decode method_3_code 43 = .ok (.if_icmp .ne 56, 3) := by decide +kernel
theorem d7_51 : decode method_3_code 51 = .ok (.aload_n 0, 1) := by decide +kernel
theorem d7_52 : decode method_3_code 52 = .ok (.iconst 3, 1) := by decide +kernel
theorem d7_53 : decode method_3_code 53 = .ok (.baload, 1) := by decide +kernel
theorem d7_54 : decode method_3_code 54 = .ok (.aload_n 0, 1) := by decide +kernel
theorem d7_55 : decode method_3_code 55 = .ok (.iload_n 1, 1) := by decide +kernel
theorem d7_56 : decode method_3_code 56 = .ok (.iconst 3, 1) := by decide +kernel
theorem d7_57 : decode method_3_code 57 = .ok (.iadd, 1) := by decide +kernel
theorem d7_58 : decode method_3_code 58 = .ok (.baload, 1) := by decide +kernel
theorem d7_59 : decode method_3_code 59 = .ok (.if_icmp .ne 40, 3) := by decide +kernel
theorem d7_67 : decode method_3_code 67 = .ok (.aload_n 0, 1) := by decide +kernel
theorem d7_68 : decode method_3_code 68 = .ok (.iconst 4, 1) := by decide +kernel
theorem d7_69 : decode method_3_code 69 = .ok (.baload, 1) := by decide +kernel
theorem d7_70 : decode method_3_code 70 = .ok (.aload_n 0, 1) := by decide +kernel
theorem d7_71 : decode method_3_code 71 = .ok (.iload_n 1, 1) := by decide +kernel
theorem d7_72 : decode method_3_code 72 = .ok (.iconst 4, 1) := by decide +kernel
theorem d7_73 : decode method_3_code 73 = .ok (.iadd, 1) := by decide +kernel
theorem d7_74 : decode method_3_code 74 = .ok (.baload, 1) := by decide +kernel
theorem d7_75 : decode method_3_code 75 = .ok (.if_icmp .ne 24, 3) := by decide +kernel
theorem d7_84 : decode method_3_code 84 = .ok (.aload_n 0, 1) := by decide +kernel
theorem d7_85 : decode method_3_code 85 = .ok (.iconst 5, 1) := by decide +kernel
theorem d7_86 : decode method_3_code 86 = .ok (.baload, 1) := by decide +kernel
theorem d7_87 : decode method_3_code 87 = .ok (.aload_n 0, 1) := by decide +kernel
theorem d7_88 : decode method_3_code 88 = .ok (.iload_n 1, 1) := by decide +kernel
theorem d7_89 : decode method_3_code 89 = .ok (.iconst 5, 1) := by decide +kernel
theorem d7_90 : decode method_3_code 90 = .ok (.iadd, 1) := by decide +kernel
theorem d7_91 : decode method_3_code 91 = .ok (.baload, 1) := by decide +kernel
theorem d7_92 : decode method_3_code 92 = .ok (.if_icmp .ne 7, 3) := by decide +kernel
theorem pnn_6 : plainName "com/example/prefixleap/prefixleap/core/PrefixTableOfPinLaw" = true := by first | (simp [plainName, overriddenIn]; done) | decide +kernel
theorem pn_6 : plainFor (⟨"com/example/prefixleap/prefixleap/core/PrefixTableOfPinLaw", "border", "([BI)I"⟩ : MethodName) = true := plainFor_of_name pnn_6
theorem d6_0 : decode method_4_code 0 = .ok (.iload_n 1, 1) := by decide +kernel
theorem d6_1 : decode method_4_code 1 = .ok (.bipush 6, 2) := by decide +kernel
theorem d6_3 : decode method_4_code 3 = .ok (.if_icmp .lt 18, 3) := by decide +kernel
theorem d6_21 : decode method_4_code 21 = .ok (.iload_n 1, 1) := by decide +kernel
theorem d6_22 : decode method_4_code 22 = .ok (.iconst 5, 1) := by decide +kernel
theorem d6_23 : decode method_4_code 23 = .ok (.if_icmp .lt 16, 3) := by decide +kernel
theorem d6_39 : decode method_4_code 39 = .ok (.iload_n 1, 1) := by decide +kernel
theorem d6_40 : decode method_4_code 40 = .ok (.iconst 4, 1) := by decide +kernel
theorem d6_41 : decode method_4_code 41 = .ok (.if_icmp .lt 16, 3) := by decide +kernel
theorem d6_57 : decode method_4_code 57 = .ok (.iload_n 1, 1) := by decide +kernel
theorem d6_58 : decode method_4_code 58 = .ok (.iconst 3, 1) := by decide +kernel
theorem d6_59 : decode method_4_code 59 = .ok (.if_icmp .lt 16, 3) := by decide +kernel
theorem d6_75 : decode method_4_code 75 = .ok (.iload_n 1, 1) := by decide +kernel
theorem d6_76 : decode method_4_code 76 = .ok (.iconst 2, 1) := by decide +kernel
theorem d6_77 : decode method_4_code 77 = .ok (.if_icmp .lt 16, 3) := by decide +kernel
theorem d6_93 : decode method_4_code 93 = .ok (.iload_n 1, 1) := by decide +kernel
theorem d6_94 : decode method_4_code 94 = .ok (.iconst 1, 1) := by decide +kernel
theorem d6_95 : decode method_4_code 95 = .ok (.if_icmp .lt 14, 3) := by decide +kernel
theorem d6_109 : decode method_4_code 109 = .ok (.iconst 0, 1) := by decide +kernel
theorem d6_110 : decode method_4_code 110 = .ok (.ireturn, 1) := by decide +kernel
theorem d6_98 : decode method_4_code 98 = .ok (.aload_n 0, 1) := by decide +kernel
theorem d6_99 : decode method_4_code 99 = .ok (.iload_n 1, 1) := by decide +kernel
theorem d6_100 : decode method_4_code 100 = .ok (.iconst 1, 1) := by decide +kernel
theorem pd_0 : parseMethodDescriptor "([BII)Z" = some ⟨[(.array .byte), .int, .int], some .boolean⟩ := by decide +kernel
theorem d6_101 : decode method_4_code 101 = .ok (.invokestatic 7, 3) := by decide +kernel
theorem d6_104 : decode method_4_code 104 = .ok (.ifCond .eq 5, 3) := by decide +kernel
theorem d6_107 : decode method_4_code 107 = .ok (.iconst 1, 1) := by decide +kernel
theorem d6_108 : decode method_4_code 108 = .ok (.ireturn, 1) := by decide +kernel
theorem d6_80 : decode method_4_code 80 = .ok (.aload_n 0, 1) := by decide +kernel
theorem d6_81 : decode method_4_code 81 = .ok (.iload_n 1, 1) := by decide +kernel
theorem d6_82 : decode method_4_code 82 = .ok (.iconst 1, 1) := by decide +kernel
theorem d6_83 : decode method_4_code 83 = .ok (.isub, 1) := by decide +kernel
theorem d6_84 : decode method_4_code 84 = .ok (.iconst 2, 1) := by decide +kernel
theorem d6_85 : decode method_4_code 85 = .ok (.invokestatic 7, 3) := by decide +kernel
theorem d6_88 : decode method_4_code 88 = .ok (.ifCond .eq 5, 3) := by decide +kernel
theorem d6_91 : decode method_4_code 91 = .ok (.iconst 2, 1) := by decide +kernel
theorem d6_92 : decode method_4_code 92 = .ok (.ireturn, 1) := by decide +kernel
theorem d6_62 : decode method_4_code 62 = .ok (.aload_n 0, 1) := by decide +kernel
theorem d6_63 : decode method_4_code 63 = .ok (.iload_n 1, 1) := by decide +kernel
theorem d6_64 : decode method_4_code 64 = .ok (.iconst 2, 1) := by decide +kernel
theorem d6_65 : decode method_4_code 65 = .ok (.isub, 1) := by decide +kernel
theorem d6_66 : decode method_4_code 66 = .ok (.iconst 3, 1) := by decide +kernel
theorem d6_67 : decode method_4_code 67 = .ok (.invokestatic 7, 3) := by decide +kernel
theorem d6_70 : decode method_4_code 70 = .ok (.ifCond .eq 5, 3) := by decide +kernel
theorem d6_73 : decode method_4_code 73 = .ok (.iconst 3, 1) := by decide +kernel
theorem d6_74 : decode method_4_code 74 = .ok (.ireturn, 1) := by decide +kernel
theorem d6_44 : decode method_4_code 44 = .ok (.aload_n 0, 1) := by decide +kernel
theorem d6_45 : decode method_4_code 45 = .ok (.iload_n 1, 1) := by decide +kernel
theorem d6_46 : decode method_4_code 46 = .ok (.iconst 3, 1) := by decide +kernel
theorem d6_47 : decode method_4_code 47 = .ok (.isub, 1) := by decide +kernel
theorem d6_48 : decode method_4_code 48 = .ok (.iconst 4, 1) := by decide +kernel
theorem d6_49 : decode method_4_code 49 = .ok (.invokestatic 7, 3) := by decide +kernel
theorem d6_52 : decode method_4_code 52 = .ok (.ifCond .eq 5, 3) := by decide +kernel
theorem d6_55 : decode method_4_code 55 = .ok (.iconst 4, 1) := by decide +kernel
theorem d6_56 : decode method_4_code 56 = .ok (.ireturn, 1) := by decide +kernel
theorem d6_26 : decode method_4_code 26 = .ok (.aload_n 0, 1) := by decide +kernel
theorem d6_27 : decode method_4_code 27 = .ok (.iload_n 1, 1) := by decide +kernel
theorem d6_28 : decode method_4_code 28 = .ok (.iconst 4, 1) := by decide +kernel
theorem d6_29 : decode method_4_code 29 = .ok (.isub, 1) := by decide +kernel
theorem d6_30 : decode method_4_code 30 = .ok (.iconst 5, 1) := by decide +kernel
theorem d6_31 : decode method_4_code 31 = .ok (.invokestatic 7, 3) := by decide +kernel
theorem d6_34 : decode method_4_code 34 = .ok (.ifCond .eq 5, 3) := by decide +kernel
theorem d6_37 : decode method_4_code 37 = .ok (.iconst 5, 1) := by decide +kernel
theorem d6_38 : decode method_4_code 38 = .ok (.ireturn, 1) := by decide +kernel
theorem d6_6 : decode method_4_code 6 = .ok (.aload_n 0, 1) := by decide +kernel
theorem d6_7 : decode method_4_code 7 = .ok (.iload_n 1, 1) := by decide +kernel
theorem d6_8 : decode method_4_code 8 = .ok (.iconst 5, 1) := by decide +kernel
theorem d6_9 : decode method_4_code 9 = .ok (.isub, 1) := by decide +kernel
theorem d6_10 : decode method_4_code 10 = .ok (.bipush 6, 2) := by decide +kernel
theorem d6_12 : decode method_4_code 12 = .ok (.invokestatic 7, 3) := by decide +kernel
theorem d6_15 : decode method_4_code 15 = .ok (.ifCond .eq 6, 3) := by decide +kernel
theorem d6_18 : decode method_4_code 18 = .ok (.bipush 6, 2) := by decide +kernel
theorem d6_20 : decode method_4_code 20 = .ok (.ireturn, 1) := by decide +kernel
theorem pnn_3 : plainName "com/example/prefixleap/prefixleap/core/PrefixTable" = true := by first | (simp [plainName, overriddenIn]; done) | decide +kernel
theorem pn_3 : plainFor (⟨"com/example/prefixleap/prefixleap/core/PrefixTable", "build", "(ILcom/example/prefixleap/prefixleap/core/PrefixTable$SameUnit;)[I"⟩ : MethodName) = true := plainFor_of_name pnn_3
theorem d3_0 : decode prog_12_method_5_code 0 = .ok (.iload_n 0, 1) := by decide +kernel
theorem d3_1 : decode prog_12_method_5_code 1 = .ok (.newarray .int, 2) := by decide +kernel
theorem d3_3 : decode prog_12_method_5_code 3 = .ok (.astore_n 2, 1) := by decide +kernel
theorem d3_4 : decode prog_12_method_5_code 4 = .ok (.iconst 0, 1) := by decide +kernel
theorem d3_5 : decode prog_12_method_5_code 5 = .ok (.istore_n 3, 1) := by decide +kernel
theorem d3_6 : decode prog_12_method_5_code 6 = .ok (.iconst 1, 1) := by decide +kernel
theorem d3_7 : decode prog_12_method_5_code 7 = .ok (.istore 4, 2) := by decide +kernel
theorem d3_9 : decode prog_12_method_5_code 9 = .ok (.iload 4, 2) := by decide +kernel
theorem d3_11 : decode prog_12_method_5_code 11 = .ok (.iload_n 0, 1) := by decide +kernel
theorem d3_12 : decode prog_12_method_5_code 12 = .ok (.if_icmp .ge 54, 3) := by decide +kernel
theorem d3_66 : decode prog_12_method_5_code 66 = .ok (.aload_n 2, 1) := by decide +kernel
theorem d3_67 : decode prog_12_method_5_code 67 = .ok (.areturn, 1) := by decide +kernel
theorem d3_55 : decode prog_12_method_5_code 55 = .ok (.aload_n 2, 1) := by decide +kernel
theorem d3_56 : decode prog_12_method_5_code 56 = .ok (.iload 4, 2) := by decide +kernel
theorem d3_58 : decode prog_12_method_5_code 58 = .ok (.iload_n 3, 1) := by decide +kernel
theorem d3_59 : decode prog_12_method_5_code 59 = .ok (.iastore, 1) := by decide +kernel
theorem d3_60 : decode prog_12_method_5_code 60 = .ok (.iinc 4 1, 3) := by decide +kernel
theorem d3_63 : decode prog_12_method_5_code 63 = .ok (.goto (-54), 3) := by decide +kernel
theorem d3_40 : decode prog_12_method_5_code 40 = .ok (.aload_n 1, 1) := by decide +kernel
theorem d3_41 : decode prog_12_method_5_code 41 = .ok (.iload 4, 2) := by decide +kernel
theorem d3_43 : decode prog_12_method_5_code 43 = .ok (.iload_n 3, 1) := by decide +kernel
theorem d3_44 : decode prog_12_method_5_code 44 = .ok (.invokeinterface 32 3, 5) := by decide +kernel
theorem d3_49 : decode prog_12_method_5_code 49 = .ok (.ifCond .eq 6, 3) := by decide +kernel
theorem d3_52 : decode prog_12_method_5_code 52 = .ok (.iinc 3 1, 3) := by decide +kernel
theorem d3_15 : decode prog_12_method_5_code 15 = .ok (.iload_n 3, 1) := by decide +kernel
theorem d3_16 : decode prog_12_method_5_code 16 = .ok (.ifCond .le 24, 3) := by decide +kernel
theorem d3_19 : decode prog_12_method_5_code 19 = .ok (.aload_n 1, 1) := by decide +kernel
theorem d3_20 : decode prog_12_method_5_code 20 = .ok (.iload 4, 2) := by decide +kernel
theorem d3_22 : decode prog_12_method_5_code 22 = .ok (.iload_n 3, 1) := by decide +kernel
theorem d3_23 : decode prog_12_method_5_code 23 = .ok (.invokeinterface 32 3, 5) := by decide +kernel
theorem d3_28 : decode prog_12_method_5_code 28 = .ok (.ifCond .ne 12, 3) := by decide +kernel
theorem d3_31 : decode prog_12_method_5_code 31 = .ok (.aload_n 2, 1) := by decide +kernel
theorem d3_32 : decode prog_12_method_5_code 32 = .ok (.iload_n 3, 1) := by decide +kernel
theorem d3_33 : decode prog_12_method_5_code 33 = .ok (.iconst 1, 1) := by decide +kernel
theorem d3_34 : decode prog_12_method_5_code 34 = .ok (.isub, 1) := by decide +kernel
theorem d3_35 : decode prog_12_method_5_code 35 = .ok (.iaload, 1) := by decide +kernel
theorem d3_36 : decode prog_12_method_5_code 36 = .ok (.istore_n 3, 1) := by decide +kernel
theorem d3_37 : decode prog_12_method_5_code 37 = .ok (.goto (-22), 3) := by decide +kernel
theorem pnn_2 : plainName "com/example/prefixleap/prefixleap/core/PrefixTable" = true := by first | (simp [plainName, overriddenIn]; done) | decide +kernel
theorem pn_2 : plainFor (⟨"com/example/prefixleap/prefixleap/core/PrefixTable", "of", "([B)[I"⟩ : MethodName) = true := plainFor_of_name pnn_2
theorem d2_0 : decode prog_12_method_2_code 0 = .ok (.aload_n 0, 1) := by decide +kernel
theorem d2_1 : decode prog_12_method_2_code 1 = .ok (.arraylength, 1) := by decide +kernel
theorem d2_2 : decode prog_12_method_2_code 2 = .ok (.aload_n 0, 1) := by decide +kernel
theorem d2_3 : decode prog_12_method_2_code 3 = .ok (.invokedynamic 7, 5) := by decide +kernel
theorem pd_1 : parseMethodDescriptor "(ILcom/example/prefixleap/prefixleap/core/PrefixTable$SameUnit;)[I" = some ⟨[.int, (.object "com/example/prefixleap/prefixleap/core/PrefixTable$SameUnit")], some (.array .int)⟩ := by decide +kernel
theorem d2_8 : decode prog_12_method_2_code 8 = .ok (.invokestatic 11, 3) := by decide +kernel
theorem d2_11 : decode prog_12_method_2_code 11 = .ok (.areturn, 1) := by decide +kernel
theorem pnn_4 : plainName "com/example/prefixleap/prefixleap/core/PrefixTableOfPinLaw" = true := by first | (simp [plainName, overriddenIn]; done) | decide +kernel
theorem pn_4 : plainFor (⟨"com/example/prefixleap/prefixleap/core/PrefixTableOfPinLaw", "check", "([I[B[BII)Z"⟩ : MethodName) = true := plainFor_of_name pnn_4
theorem d4_0 : decode method_5_code 0 = .ok (.iload 4, 2) := by decide +kernel
theorem d4_2 : decode method_5_code 2 = .ok (.iload_n 3, 1) := by decide +kernel
theorem d4_3 : decode method_5_code 3 = .ok (.if_icmp .ge 27, 3) := by decide +kernel
theorem d4_30 : decode method_5_code 30 = .ok (.iconst 1, 1) := by decide +kernel
theorem d4_31 : decode method_5_code 31 = .ok (.goto 4, 3) := by decide +kernel
theorem d4_35 : decode method_5_code 35 = .ok (.ireturn, 1) := by decide +kernel
theorem d4_6 : decode method_5_code 6 = .ok (.aload_n 0, 1) := by decide +kernel
theorem d4_7 : decode method_5_code 7 = .ok (.iload 4, 2) := by decide +kernel
theorem d4_9 : decode method_5_code 9 = .ok (.iaload, 1) := by decide +kernel
theorem d4_10 : decode method_5_code 10 = .ok (.aload_n 2, 1) := by decide +kernel
theorem d4_11 : decode method_5_code 11 = .ok (.iload 4, 2) := by decide +kernel
theorem pd_2 : parseMethodDescriptor "([BI)I" = some ⟨[(.array .byte), .int], some .int⟩ := by decide +kernel
theorem d4_13 : decode method_5_code 13 = .ok (.invokestatic 13, 3) := by decide +kernel
theorem d4_16 : decode method_5_code 16 = .ok (.if_icmp .ne 18, 3) := by decide +kernel
theorem d4_19 : decode method_5_code 19 = .ok (.aload_n 1, 1) := by decide +kernel
theorem d4_20 : decode method_5_code 20 = .ok (.iload 4, 2) := by decide +kernel
theorem d4_22 : decode method_5_code 22 = .ok (.baload, 1) := by decide +kernel
theorem d4_23 : decode method_5_code 23 = .ok (.aload_n 2, 1) := by decide +kernel
theorem d4_24 : decode method_5_code 24 = .ok (.iload 4, 2) := by decide +kernel
theorem d4_26 : decode method_5_code 26 = .ok (.baload, 1) := by decide +kernel
theorem d4_27 : decode method_5_code 27 = .ok (.if_icmp .ne 7, 3) := by decide +kernel
theorem pnn_0 : plainName "com/example/prefixleap/prefixleap/core/PrefixTableOfPinLaw" = true := by first | (simp [plainName, overriddenIn]; done) | decide +kernel
theorem pn_0 : plainFor (⟨"com/example/prefixleap/prefixleap/core/PrefixTableOfPinLaw", "law", "(IIIII)Z"⟩ : MethodName) = true := plainFor_of_name pnn_0
theorem pd_3 : parseMethodDescriptor "(IIIII)B" = some ⟨[.int, .int, .int, .int, .int], some .byte⟩ := by decide +kernel
theorem pd_4 : parseMethodDescriptor "([B)[I" = some ⟨[(.array .byte)], some (.array .int)⟩ := by decide +kernel
theorem pd_5 : parseMethodDescriptor "([I[B[BII)Z" = some ⟨[(.array .int), (.array .byte), (.array .byte), .int, .int], some .boolean⟩ := by decide +kernel
section OwnKmp
/-- the first L of b stand again at the end of b 0 .. b i (L ≤ i) -/
def own_P (b : Nat → Int32) (i L : Nat) : Prop := L ≤ i ∧ ∀ j, j < L → b j = b (i + 1 - L + j)
/-- k is the greatest such L -/
def own_Bd (b : Nat → Int32) (i k : Nat) : Prop := own_P b i k ∧ ∀ L, own_P b i L → L ≤ k
variable {b : Nat → Int32} {i m K L k t : Nat}
theorem own_P0 : own_P b i 0 := ⟨Nat.zero_le _, fun _ h => absurd h (Nat.not_lt_zero _)⟩
theorem own_Bd.uniq {k' : Nat} (h : own_Bd b i k) (h' : own_Bd b i k') : k = k' := Nat.le_antisymm (h'.2 _ h.1) (h.2 _ h'.1)
theorem own_Bd0 : own_Bd b 0 0 := ⟨own_P0, fun L h => h.1⟩
theorem own_Psucc (hi : 1 ≤ i) : own_P b i (L + 1) ↔ own_P b (i - 1) L ∧ b L = b i := by
  constructor
  · rintro ⟨h1, h2⟩
    refine ⟨⟨by omega, fun j hj => ?_⟩, ?_⟩
    · have := h2 j (by omega)
      rw [this]; congr 1; omega
    · have := h2 L (by omega)
      rw [this]; congr 1; omega
  · rintro ⟨⟨h1, h2⟩, h3⟩
    refine ⟨by omega, fun j hj => ?_⟩
    by_cases q : j = L
    · subst q; rw [h3]; congr 1; omega
    · have := h2 j (by omega)
      rw [this]; congr 1; omega
theorem own_Pdown (hK : own_P b m K) (h : own_P b m L) (hl : L < K) : own_P b (K - 1) L := by
  refine ⟨by omega, fun j hj => ?_⟩
  have h1 := h.2 j hj
  have h2 := hK.2 (K - L + j) (by omega)
  have := hK.1
  rw [h1, show K - 1 + 1 - L + j = K - L + j by omega, h2]; congr 1; omega
theorem own_Pup (hK : own_P b m K) (h : own_P b (K - 1) L) (h0 : 0 < K) : own_P b m L := by
  have := h.1
  have := hK.1
  refine ⟨by omega, fun j hj => ?_⟩
  have h1 := h.2 j hj
  have h2 := hK.2 (K - L + j) (by omega)
  rw [h1, show K - 1 + 1 - L + j = K - L + j by omega, h2]; congr 1; omega
/-- what holds of k in the inner loop -/
def own_In (b : Nat → Int32) (i k : Nat) : Prop := own_P b (i - 1) k ∧ ∀ L, own_P b (i - 1) L → b L = b i → L ≤ k
theorem own_In.start (h : own_Bd b (i - 1) k) : own_In b i k := ⟨h.1, fun L hL _ => h.2 L hL⟩
theorem own_In.next (h : own_In b i k) (h0 : 0 < k) (hne : ¬ b i = b k) (ht : own_Bd b (k - 1) t) : own_In b i t := by
  refine ⟨own_Pup h.1 ht.1 h0, fun L hL hb => ?_⟩
  have h1 := h.2 L hL hb
  have h2 : L ≠ k := fun e => hne (by rw [← hb, e])
  exact ht.2 L (own_Pdown h.1 hL (by omega))
theorem own_In.hit (h : own_In b i k) (hi : 1 ≤ i) (he : b i = b k) : own_Bd b i (k + 1) := by
  refine ⟨(own_Psucc hi).mpr ⟨h.1, he.symm⟩, fun L hL => ?_⟩
  cases L with
  | zero => omega
  | succ L =>
    obtain ⟨h1, h2⟩ := (own_Psucc hi).mp hL
    have := h.2 L h1 h2
    omega
theorem own_In.miss (h : own_In b i 0) (hi : 1 ≤ i) (he : ¬ b i = b 0) : own_Bd b i 0 := by
  refine ⟨own_P0, fun L hL => ?_⟩
  cases L with
  | zero => omega
  | succ L =>
    obtain ⟨h1, h2⟩ := (own_Psucc hi).mp hL
    have := h.2 L h1 h2
    have e : L = 0 := by omega
    subst e
    exact absurd h2.symm he
theorem own_In.le (h : own_In b i k) : k ≤ i - 1 := h.1.1
end OwnKmp

theorem own_nb (x : Int32) : narrow .byte (.int x.toInt8.toInt32) = .int x.toInt8.toInt32 := by
  show Value.int x.toInt8.toInt32.toInt8.toInt32 = _
  simp
def own_ltr (s a b c d : Int32) : Int32 := if s &&& 3 = 0 then a.toInt8.toInt32 else if s &&& 3 = 1 then b.toInt8.toInt32 else if s &&& 3 = 2 then c.toInt8.toInt32 else d.toInt8.toInt32
theorem own_ofNat {i : Nat} (h : i < 16) : (Int32.ofNat i).toInt = i := Int32.toInt_ofNat_small (by omega)
theorem own_ofNat_lt {i n : Nat} (hi : i < 16) (hn : n < 16) : Int32.ofNat i < Int32.ofNat n ↔ i < n := by
  rw [Int32.lt_iff_toInt_lt, own_ofNat hi, own_ofNat hn]; omega
theorem own_ofNat_nn {i : Nat} (hi : i < 16) : ¬ Int32.ofNat i < 0 := by
  intro q
  rw [Int32.lt_iff_toInt_lt, own_ofNat hi] at q
  have d : (0 : Int32).toInt = 0 := by decide
  omega
theorem own_ofNat_cl {i : Nat} (hi : i < 16) : (Int32.ofNat i).toNatClampNeg = i := by
  have := nat_of (own_ofNat_nn hi)
  rw [own_ofNat hi] at this
  omega
theorem own_ofNat_add {i j : Nat} (h : i + j < 16) : Int32.ofNat i + Int32.ofNat j = Int32.ofNat (i + j) := by
  apply Int32.toInt_inj.mp
  have a := c_iadd (Int32.ofNat i) (Int32.ofNat j)
  have r := rng32 (Int32.ofNat i + Int32.ofNat j)
  rw [own_ofNat (by omega), own_ofNat (by omega)] at a
  rw [own_ofNat h]
  omega
theorem own_ofNat_inj {i j : Nat} (hi : i < 16) (hj : j < 16) (h : Int32.ofNat i = Int32.ofNat j) : i = j := by
  have := congrArg Int32.toInt h
  rw [own_ofNat hi, own_ofNat hj] at this
  omega
set_option maxRecDepth 65536 in
set_option maxHeartbeats 40000000 in
theorem rm1 (l : Launch) (Z : State) (a0 : Array Value) (hw : ∀ d ∈ tables_1, d.before a0 Z = true) (p0 : Int32) (p1 : Int32) (p2 : Int32) (p3 : Int32) (p4 : Int32) (h0 : Heap) :
    own_C l (⟨"com/example/prefixleap/prefixleap/core/PrefixTableOfPinLaw", "letter", "(IIIII)B"⟩ : MethodName) method_2_code 6 (some .byte) ({ frames := 0, cells := 0, slots := 0, locals := 0 } : Room) Z #[(.int p0), (.int p1), (.int p2), (.int p3), (.int p4)] h0 (fun v h L => v = some (.int (own_ltr p0 p1 p2 p3 p4)) ∧ L = [] ∧ h = h0) := by
  refine own_enter pn_1 ?_
  intro p e s m below meth c s₁ X0 hx hby hml hown hnm hret hlk hZ e0 hZH hnamed
  replace hown : s.vm.findClass "com/example/prefixleap/prefixleap/core/PrefixTableOfPinLaw" = some m.cls := hown
  have ef : entryFrame m #[(.int p0), (.int p1), (.int p2), (.int p3), (.int p4)] 6 = mkF m 0 #[.val (.int p0), .val (.int p1), .val (.int p2), .val (.int p3), .val (.int p4), .unset] [] := by first | rfl | (simp [entryFrame, mkF, argsToLocals, Value.category, maxLocals]; done)
  refine own_cast ef ?_
  show own_Ends _ _ _ _ _ _ _ s₁ (mkF m 0 #[.val (.int p0), .val (.int p1), .val (.int p2), .val (.int p3), .val (.int p4), .unset] [])
  refine own_go (fun _ k => XS.iloadN X0.here hx rfl (hb hby d1_0) rfl k) ?_
  show own_Ends _ _ _ _ _ _ _ s₁ (mkF m 1 #[.val (.int p0), .val (.int p1), .val (.int p2), .val (.int p3), .val (.int p4), .unset] [(.int p0)])
  refine own_go (fun _ k => XS.iconst X0.here hx rfl (hb hby d1_1) k) ?_
  show own_Ends _ _ _ _ _ _ _ s₁ (mkF m 2 #[.val (.int p0), .val (.int p1), .val (.int p2), .val (.int p3), .val (.int p4), .unset] [(.int (3 : Int32)), (.int p0)])
  refine own_go (fun _ k => XS.iand X0.here hx rfl (hb hby d1_2) rfl k) ?_
  show own_Ends _ _ _ _ _ _ _ s₁ (mkF m 3 #[.val (.int p0), .val (.int p1), .val (.int p2), .val (.int p3), .val (.int p4), .unset] [(.int (p0 &&& (3 : Int32)))])
  refine own_go (fun _ k => XS.istore X0.here hx rfl (hb hby d1_3) rfl (l' := #[.val (.int p0), .val (.int p1), .val (.int p2), .val (.int p3), .val (.int p4), .val (.int (p0 &&& (3 : Int32)))]) rfl k) ?_
  show own_Ends _ _ _ _ _ _ _ s₁ (mkF m 5 #[.val (.int p0), .val (.int p1), .val (.int p2), .val (.int p3), .val (.int p4), .val (.int (p0 &&& (3 : Int32)))] [])
  refine own_go (fun _ k => XS.iload X0.here hx rfl (hb hby d1_5) rfl k) ?_
  show own_Ends _ _ _ _ _ _ _ s₁ (mkF m 7 #[.val (.int p0), .val (.int p1), .val (.int p2), .val (.int p3), .val (.int p4), .val (.int (p0 &&& (3 : Int32)))] [(.int (p0 &&& (3 : Int32)))])
  by_cases h1 : (p0 &&& (3 : Int32)) = (0 : Int32)
  · refine own_go (fun _ k => XS.ifNo X0.here hx rfl (hb hby d1_7) rfl ((if0 _ _).trans (teq h1).2) k) ?_
    show own_Ends _ _ _ _ _ _ _ s₁ (mkF m 10 #[.val (.int p0), .val (.int p1), .val (.int p2), .val (.int p3), .val (.int p4), .val (.int (p0 &&& (3 : Int32)))] [])
    refine own_go (fun _ k => XS.iloadN X0.here hx rfl (hb hby d1_10) rfl k) ?_
    show own_Ends _ _ _ _ _ _ _ s₁ (mkF m 11 #[.val (.int p0), .val (.int p1), .val (.int p2), .val (.int p3), .val (.int p4), .val (.int (p0 &&& (3 : Int32)))] [(.int p1)])
    refine own_go (fun _ k => XS.i2b X0.here hx rfl (hb hby d1_11) rfl k) ?_
    show own_Ends _ _ _ _ _ _ _ s₁ (mkF m 12 #[.val (.int p0), .val (.int p1), .val (.int p2), .val (.int p3), .val (.int p4), .val (.int (p0 &&& (3 : Int32)))] [(.int (p1.toInt8.toInt32))])
    exact own_ret X0 hx hlk hret (own_nb _) (Or.inl ⟨rfl, by simp, _, rfl⟩) (hb hby d1_12) (by decide) (by decide) ⟨by rw [own_ltr, if_pos h1], rfl, e0⟩
  · refine own_go (fun _ k => XS.ifYes X0.here hx rfl (pc0 := 7) (pc' := 13) rfl (hb hby d1_7) rfl ((if0 _ _).trans (feq h1).2) (by decide) (by decide) k) ?_
    show own_Ends _ _ _ _ _ _ _ s₁ (mkF m 13 #[.val (.int p0), .val (.int p1), .val (.int p2), .val (.int p3), .val (.int p4), .val (.int (p0 &&& (3 : Int32)))] [])
    refine own_go (fun _ k => XS.iload X0.here hx rfl (hb hby d1_13) rfl k) ?_
    show own_Ends _ _ _ _ _ _ _ s₁ (mkF m 15 #[.val (.int p0), .val (.int p1), .val (.int p2), .val (.int p3), .val (.int p4), .val (.int (p0 &&& (3 : Int32)))] [(.int (p0 &&& (3 : Int32)))])
    refine own_go (fun _ k => XS.iconst X0.here hx rfl (hb hby d1_15) k) ?_
    show own_Ends _ _ _ _ _ _ _ s₁ (mkF m 16 #[.val (.int p0), .val (.int p1), .val (.int p2), .val (.int p3), .val (.int p4), .val (.int (p0 &&& (3 : Int32)))] [(.int (1 : Int32)), (.int (p0 &&& (3 : Int32)))])
    by_cases h2 : (p0 &&& (3 : Int32)) = (1 : Int32)
    · refine own_go (fun _ k => XS.icmpNo X0.here hx rfl (hb hby d1_16) rfl (teq h2).2 k) ?_
      show own_Ends _ _ _ _ _ _ _ s₁ (mkF m 19 #[.val (.int p0), .val (.int p1), .val (.int p2), .val (.int p3), .val (.int p4), .val (.int (p0 &&& (3 : Int32)))] [])
      refine own_go (fun _ k => XS.iloadN X0.here hx rfl (hb hby d1_19) rfl k) ?_
      show own_Ends _ _ _ _ _ _ _ s₁ (mkF m 20 #[.val (.int p0), .val (.int p1), .val (.int p2), .val (.int p3), .val (.int p4), .val (.int (p0 &&& (3 : Int32)))] [(.int p2)])
      refine own_go (fun _ k => XS.i2b X0.here hx rfl (hb hby d1_20) rfl k) ?_
      show own_Ends _ _ _ _ _ _ _ s₁ (mkF m 21 #[.val (.int p0), .val (.int p1), .val (.int p2), .val (.int p3), .val (.int p4), .val (.int (p0 &&& (3 : Int32)))] [(.int (p2.toInt8.toInt32))])
      exact own_ret X0 hx hlk hret (own_nb _) (Or.inl ⟨rfl, by simp, _, rfl⟩) (hb hby d1_21) (by decide) (by decide) ⟨by rw [own_ltr, if_neg h1, if_pos h2], rfl, e0⟩
    · refine own_go (fun _ k => XS.icmpYes X0.here hx rfl (pc0 := 16) (pc' := 22) rfl (hb hby d1_16) rfl (feq h2).2 (by decide) (by decide) k) ?_
      show own_Ends _ _ _ _ _ _ _ s₁ (mkF m 22 #[.val (.int p0), .val (.int p1), .val (.int p2), .val (.int p3), .val (.int p4), .val (.int (p0 &&& (3 : Int32)))] [])
      refine own_go (fun _ k => XS.iload X0.here hx rfl (hb hby d1_22) rfl k) ?_
      show own_Ends _ _ _ _ _ _ _ s₁ (mkF m 24 #[.val (.int p0), .val (.int p1), .val (.int p2), .val (.int p3), .val (.int p4), .val (.int (p0 &&& (3 : Int32)))] [(.int (p0 &&& (3 : Int32)))])
      refine own_go (fun _ k => XS.iconst X0.here hx rfl (hb hby d1_24) k) ?_
      show own_Ends _ _ _ _ _ _ _ s₁ (mkF m 25 #[.val (.int p0), .val (.int p1), .val (.int p2), .val (.int p3), .val (.int p4), .val (.int (p0 &&& (3 : Int32)))] [(.int (2 : Int32)), (.int (p0 &&& (3 : Int32)))])
      by_cases h3 : (p0 &&& (3 : Int32)) = (2 : Int32)
      · refine own_go (fun _ k => XS.icmpNo X0.here hx rfl (hb hby d1_25) rfl (teq h3).2 k) ?_
        show own_Ends _ _ _ _ _ _ _ s₁ (mkF m 28 #[.val (.int p0), .val (.int p1), .val (.int p2), .val (.int p3), .val (.int p4), .val (.int (p0 &&& (3 : Int32)))] [])
        refine own_go (fun _ k => XS.iloadN X0.here hx rfl (hb hby d1_28) rfl k) ?_
        show own_Ends _ _ _ _ _ _ _ s₁ (mkF m 29 #[.val (.int p0), .val (.int p1), .val (.int p2), .val (.int p3), .val (.int p4), .val (.int (p0 &&& (3 : Int32)))] [(.int p3)])
        refine own_go (fun _ k => XS.i2b X0.here hx rfl (hb hby d1_29) rfl k) ?_
        show own_Ends _ _ _ _ _ _ _ s₁ (mkF m 30 #[.val (.int p0), .val (.int p1), .val (.int p2), .val (.int p3), .val (.int p4), .val (.int (p0 &&& (3 : Int32)))] [(.int (p3.toInt8.toInt32))])
        exact own_ret X0 hx hlk hret (own_nb _) (Or.inl ⟨rfl, by simp, _, rfl⟩) (hb hby d1_30) (by decide) (by decide) ⟨by rw [own_ltr, if_neg h1, if_neg h2, if_pos h3], rfl, e0⟩
      · refine own_go (fun _ k => XS.icmpYes X0.here hx rfl (pc0 := 25) (pc' := 31) rfl (hb hby d1_25) rfl (feq h3).2 (by decide) (by decide) k) ?_
        show own_Ends _ _ _ _ _ _ _ s₁ (mkF m 31 #[.val (.int p0), .val (.int p1), .val (.int p2), .val (.int p3), .val (.int p4), .val (.int (p0 &&& (3 : Int32)))] [])
        refine own_go (fun _ k => XS.iload X0.here hx rfl (hb hby d1_31) rfl k) ?_
        show own_Ends _ _ _ _ _ _ _ s₁ (mkF m 33 #[.val (.int p0), .val (.int p1), .val (.int p2), .val (.int p3), .val (.int p4), .val (.int (p0 &&& (3 : Int32)))] [(.int p4)])
        refine own_go (fun _ k => XS.i2b X0.here hx rfl (hb hby d1_33) rfl k) ?_
        show own_Ends _ _ _ _ _ _ _ s₁ (mkF m 34 #[.val (.int p0), .val (.int p1), .val (.int p2), .val (.int p3), .val (.int p4), .val (.int (p0 &&& (3 : Int32)))] [(.int (p4.toInt8.toInt32))])
        exact own_ret X0 hx hlk hret (own_nb _) (Or.inl ⟨rfl, by simp, _, rfl⟩) (hb hby d1_34) (by decide) (by decide) ⟨by rw [own_ltr, if_neg h1, if_neg h2, if_neg h3], rfl, e0⟩
set_option maxRecDepth 65536 in
set_option maxHeartbeats 40000000 in
theorem rm5 (l : Launch) (Z : State) (a0 : Array Value) (hw : ∀ d ∈ tables_1, d.before a0 Z = true) (r0 : Addr) (p1 : Int32) (p2 : Int32) (h0 : Heap) (kc : ClassId) (n : Nat) (b : Nat → Int32) (i : Nat) (kx : Nat) (A : own_Ar Z h0 r0 kc .byte n (fun j => .int (b j))) (hi : i < n) (hk : kx < n) (hn : n ≤ 7) (hp1 : p1 = Int32.ofNat i) (hp2 : p2 = Int32.ofNat kx) :
    own_C l (⟨"com/example/prefixleap/prefixleap/core/PrefixTable", "lambda$of$0", "([BII)Z"⟩ : MethodName) prog_12_method_7_code 3 (some .boolean) ({ frames := 0, cells := 0, slots := 0, locals := 0 } : Room) Z #[(.ref r0), (.int p1), (.int p2)] h0 (fun v h L => v = some (.int (if b i = b kx then 1 else 0)) ∧ L = [] ∧ h = h0) := by
  refine own_enter pn_5 ?_
  intro p e s m below meth c s₁ X0 hx hby hml hown hnm hret hlk hZ e0 hZH hnamed
  replace hown : s.vm.findClass "com/example/prefixleap/prefixleap/core/PrefixTable" = some m.cls := hown
  have ef : entryFrame m #[(.ref r0), (.int p1), (.int p2)] 3 = mkF m 0 #[.val (.ref r0), .val (.int p1), .val (.int p2)] [] := by first | rfl | (simp [entryFrame, mkF, argsToLocals, Value.category, maxLocals]; done)
  refine own_cast ef ?_
  show own_Ends _ _ _ _ _ _ _ s₁ (mkF m 0 #[.val (.ref r0), .val (.int p1), .val (.int p2)] [])
  subst hp1 hp2
  show own_Ends _ _ _ _ _ _ _ s₁ (mkF m 0 #[.val (.ref r0), .val (.int (Int32.ofNat i)), .val (.int (Int32.ofNat kx))] [])
  refine own_go (fun _ k => XS.aloadN X0.here hx rfl (hb hby d5_0) rfl rfl k) ?_
  show own_Ends _ _ _ _ _ _ _ s₁ (mkF m 1 #[.val (.ref r0), .val (.int (Int32.ofNat i)), .val (.int (Int32.ofNat kx))] [(.ref r0)])
  refine own_go (fun _ k => XS.iloadN X0.here hx rfl (hb hby d5_1) rfl k) ?_
  show own_Ends _ _ _ _ _ _ _ s₁ (mkF m 2 #[.val (.ref r0), .val (.int (Int32.ofNat i)), .val (.int (Int32.ofNat kx))] [(.int (Int32.ofNat i)), (.ref r0)])
  refine own_go (fun _ k => own_ldB X0 hx hZ e0 A (i := i) (v := (.int (b i))) (own_ofNat_nn (by omega)) (own_ofNat_cl (by omega)) hi rfl (g := (mkF m 2 #[.val (.ref r0), .val (.int (Int32.ofNat i)), .val (.int (Int32.ofNat kx))] [(.int (Int32.ofNat i)), (.ref r0)])) rfl rfl (hb hby d5_2) _ k) ?_
  show own_Ends _ _ _ _ _ _ _ s₁ (mkF m 3 #[.val (.ref r0), .val (.int (Int32.ofNat i)), .val (.int (Int32.ofNat kx))] [(.int (b i))])
  refine own_go (fun _ k => XS.aloadN X0.here hx rfl (hb hby d5_3) rfl rfl k) ?_
  show own_Ends _ _ _ _ _ _ _ s₁ (mkF m 4 #[.val (.ref r0), .val (.int (Int32.ofNat i)), .val (.int (Int32.ofNat kx))] [(.ref r0), (.int (b i))])
  refine own_go (fun _ k => XS.iloadN X0.here hx rfl (hb hby d5_4) rfl k) ?_
  show own_Ends _ _ _ _ _ _ _ s₁ (mkF m 5 #[.val (.ref r0), .val (.int (Int32.ofNat i)), .val (.int (Int32.ofNat kx))] [(.int (Int32.ofNat kx)), (.ref r0), (.int (b i))])
  refine own_go (fun _ k => own_ldB X0 hx hZ e0 A (i := kx) (v := (.int (b kx))) (own_ofNat_nn (by omega)) (own_ofNat_cl (by omega)) hk rfl (g := (mkF m 5 #[.val (.ref r0), .val (.int (Int32.ofNat i)), .val (.int (Int32.ofNat kx))] [(.int (Int32.ofNat kx)), (.ref r0), (.int (b i))])) rfl rfl (hb hby d5_5) _ k) ?_
  show own_Ends _ _ _ _ _ _ _ s₁ (mkF m 6 #[.val (.ref r0), .val (.int (Int32.ofNat i)), .val (.int (Int32.ofNat kx))] [(.int (b kx)), (.int (b i))])
  by_cases h1 : (b i) = (b kx)
  · refine own_go (fun _ k => XS.icmpNo X0.here hx rfl (hb hby d5_6) rfl (teq h1).2 k) ?_
    show own_Ends _ _ _ _ _ _ _ s₁ (mkF m 9 #[.val (.ref r0), .val (.int (Int32.ofNat i)), .val (.int (Int32.ofNat kx))] [])
    refine own_go (fun _ k => XS.iconst X0.here hx rfl (hb hby d5_9) k) ?_
    show own_Ends _ _ _ _ _ _ _ s₁ (mkF m 10 #[.val (.ref r0), .val (.int (Int32.ofNat i)), .val (.int (Int32.ofNat kx))] [(.int (1 : Int32))])
    refine own_go (fun _ k => XS.goto X0.here hx rfl (pc0 := 10) (pc' := 14) rfl (hb hby d5_10) (by decide) (by decide) k) ?_
    show own_Ends _ _ _ _ _ _ _ s₁ (mkF m 14 #[.val (.ref r0), .val (.int (Int32.ofNat i)), .val (.int (Int32.ofNat kx))] [(.int (1 : Int32))])
    exact own_retZ X0 hx hlk hret (by decide) (hb hby d5_14) (by decide) (by decide) ⟨by rw [if_pos h1], rfl, e0⟩
  · refine own_go (fun _ k => XS.icmpYes X0.here hx rfl (pc0 := 6) (pc' := 13) rfl (hb hby d5_6) rfl (feq h1).2 (by decide) (by decide) k) ?_
    show own_Ends _ _ _ _ _ _ _ s₁ (mkF m 13 #[.val (.ref r0), .val (.int (Int32.ofNat i)), .val (.int (Int32.ofNat kx))] [])
    refine own_go (fun _ k => XS.iconst X0.here hx rfl (hb hby d5_13) k) ?_
    show own_Ends _ _ _ _ _ _ _ s₁ (mkF m 14 #[.val (.ref r0), .val (.int (Int32.ofNat i)), .val (.int (Int32.ofNat kx))] [(.int (0 : Int32))])
    exact own_retZ X0 hx hlk hret (by decide) (hb hby d5_14) (by decide) (by decide) ⟨by rw [if_neg h1], rfl, e0⟩
set_option maxRecDepth 65536 in
set_option maxHeartbeats 40000000 in
theorem rm7_1 (l : Launch) (Z : State) (a0 : Array Value) (hw : ∀ d ∈ tables_1, d.before a0 Z = true) (r0 : Addr) (p1 : Int32) (p2 : Int32) (h0 : Heap) (kc : ClassId) (b : Nat → Int32) (s0 : Nat) (A : own_Ar Z h0 r0 kc .byte 7 (fun j => .int (b j))) (hs : s0 + 1 ≤ 7) (hp1 : p1 = Int32.ofNat s0) (hp2 : p2 = 1) :
    own_C l (⟨"com/example/prefixleap/prefixleap/core/PrefixTableOfPinLaw", "match", "([BII)Z"⟩ : MethodName) method_3_code 3 (some .boolean) ({ frames := 0, cells := 0, slots := 0, locals := 0 } : Room) Z #[(.ref r0), (.int p1), (.int p2)] h0 (fun v h L => ((v = some (.int 1) ∧ ∀ j, j < 1 → b j = b (s0 + j)) ∨ (v = some (.int 0) ∧ ¬ ∀ j, j < 1 → b j = b (s0 + j))) ∧ L = [] ∧ h = h0) := by
  refine own_enter pn_7 ?_
  intro p e s m below meth c s₁ X0 hx hby hml hown hnm hret hlk hZ e0 hZH hnamed
  replace hown : s.vm.findClass "com/example/prefixleap/prefixleap/core/PrefixTableOfPinLaw" = some m.cls := hown
  have ef : entryFrame m #[(.ref r0), (.int p1), (.int p2)] 3 = mkF m 0 #[.val (.ref r0), .val (.int p1), .val (.int p2)] [] := by first | rfl | (simp [entryFrame, mkF, argsToLocals, Value.category, maxLocals]; done)
  refine own_cast ef ?_
  show own_Ends _ _ _ _ _ _ _ s₁ (mkF m 0 #[.val (.ref r0), .val (.int p1), .val (.int p2)] [])
  subst hp1 hp2
  show own_Ends _ _ _ _ _ _ _ s₁ (mkF m 0 #[.val (.ref r0), .val (.int (Int32.ofNat s0)), .val (.int (1 : Int32))] [])
  refine own_go (fun _ k => XS.iloadN X0.here hx rfl (hb hby d7_0) rfl k) ?_
  show own_Ends _ _ _ _ _ _ _ s₁ (mkF m 1 #[.val (.ref r0), .val (.int (Int32.ofNat s0)), .val (.int (1 : Int32))] [(.int (1 : Int32))])
  refine own_go (fun _ k => XS.iconst X0.here hx rfl (hb hby d7_1) k) ?_
  show own_Ends _ _ _ _ _ _ _ s₁ (mkF m 2 #[.val (.ref r0), .val (.int (Int32.ofNat s0)), .val (.int (1 : Int32))] [(.int (1 : Int32)), (.int (1 : Int32))])
  refine own_go (fun _ k => XS.icmpNo X0.here hx rfl (hb hby d7_2) rfl (flt (by decide)).1 k) ?_
  show own_Ends _ _ _ _ _ _ _ s₁ (mkF m 5 #[.val (.ref r0), .val (.int (Int32.ofNat s0)), .val (.int (1 : Int32))] [])
  refine own_go (fun _ k => XS.aloadN X0.here hx rfl (hb hby d7_5) rfl rfl k) ?_
  show own_Ends _ _ _ _ _ _ _ s₁ (mkF m 6 #[.val (.ref r0), .val (.int (Int32.ofNat s0)), .val (.int (1 : Int32))] [(.ref r0)])
  refine own_go (fun _ k => XS.iconst X0.here hx rfl (hb hby d7_6) k) ?_
  show own_Ends _ _ _ _ _ _ _ s₁ (mkF m 7 #[.val (.ref r0), .val (.int (Int32.ofNat s0)), .val (.int (1 : Int32))] [(.int (0 : Int32)), (.ref r0)])
  refine own_go (fun _ k => own_ldB X0 hx hZ e0 A (i := 0) (v := (.int (b 0))) (by decide) (by decide) (by decide) rfl (g := (mkF m 7 #[.val (.ref r0), .val (.int (Int32.ofNat s0)), .val (.int (1 : Int32))] [(.int (0 : Int32)), (.ref r0)])) rfl rfl (hb hby d7_7) _ k) ?_
  show own_Ends _ _ _ _ _ _ _ s₁ (mkF m 8 #[.val (.ref r0), .val (.int (Int32.ofNat s0)), .val (.int (1 : Int32))] [(.int (b 0))])
  refine own_go (fun _ k => XS.aloadN X0.here hx rfl (hb hby d7_8) rfl rfl k) ?_
  show own_Ends _ _ _ _ _ _ _ s₁ (mkF m 9 #[.val (.ref r0), .val (.int (Int32.ofNat s0)), .val (.int (1 : Int32))] [(.ref r0), (.int (b 0))])
  refine own_go (fun _ k => XS.iloadN X0.here hx rfl (hb hby d7_9) rfl k) ?_
  show own_Ends _ _ _ _ _ _ _ s₁ (mkF m 10 #[.val (.ref r0), .val (.int (Int32.ofNat s0)), .val (.int (1 : Int32))] [(.int (Int32.ofNat s0)), (.ref r0), (.int (b 0))])
  refine own_go (fun _ k => own_ldB X0 hx hZ e0 A (i := s0) (v := (.int (b s0))) (own_ofNat_nn (by omega)) (own_ofNat_cl (by omega)) (by omega) rfl (g := (mkF m 10 #[.val (.ref r0), .val (.int (Int32.ofNat s0)), .val (.int (1 : Int32))] [(.int (Int32.ofNat s0)), (.ref r0), (.int (b 0))])) rfl rfl (hb hby d7_10) _ k) ?_
  show own_Ends _ _ _ _ _ _ _ s₁ (mkF m 11 #[.val (.ref r0), .val (.int (Int32.ofNat s0)), .val (.int (1 : Int32))] [(.int (b s0)), (.int (b 0))])
  by_cases h0 : (b 0) = (b s0)
  · refine own_go (fun _ k => XS.icmpNo X0.here hx rfl (hb hby d7_11) rfl (teq h0).2 k) ?_
    show own_Ends _ _ _ _ _ _ _ s₁ (mkF m 14 #[.val (.ref r0), .val (.int (Int32.ofNat s0)), .val (.int (1 : Int32))] [])
    refine own_go (fun _ k => XS.iloadN X0.here hx rfl (hb hby d7_14) rfl k) ?_
    show own_Ends _ _ _ _ _ _ _ s₁ (mkF m 15 #[.val (.ref r0), .val (.int (Int32.ofNat s0)), .val (.int (1 : Int32))] [(.int (1 : Int32))])
    refine own_go (fun _ k => XS.iconst X0.here hx rfl (hb hby d7_15) k) ?_
    show own_Ends _ _ _ _ _ _ _ s₁ (mkF m 16 #[.val (.ref r0), .val (.int (Int32.ofNat s0)), .val (.int (1 : Int32))] [(.int (2 : Int32)), (.int (1 : Int32))])
    refine own_go (fun _ k => XS.icmpYes X0.here hx rfl (pc0 := 16) (pc' := 30) rfl (hb hby d7_16) rfl (tlt (by decide)).1 (by decide) (by decide) k) ?_
    show own_Ends _ _ _ _ _ _ _ s₁ (mkF m 30 #[.val (.ref r0), .val (.int (Int32.ofNat s0)), .val (.int (1 : Int32))] [])
    refine own_go (fun _ k => XS.iloadN X0.here hx rfl (hb hby d7_30) rfl k) ?_
    show own_Ends _ _ _ _ _ _ _ s₁ (mkF m 31 #[.val (.ref r0), .val (.int (Int32.ofNat s0)), .val (.int (1 : Int32))] [(.int (1 : Int32))])
    refine own_go (fun _ k => XS.iconst X0.here hx rfl (hb hby d7_31) k) ?_
    show own_Ends _ _ _ _ _ _ _ s₁ (mkF m 32 #[.val (.ref r0), .val (.int (Int32.ofNat s0)), .val (.int (1 : Int32))] [(.int (3 : Int32)), (.int (1 : Int32))])
    refine own_go (fun _ k => XS.icmpYes X0.here hx rfl (pc0 := 32) (pc' := 46) rfl (hb hby d7_32) rfl (tlt (by decide)).1 (by decide) (by decide) k) ?_
    show own_Ends _ _ _ _ _ _ _ s₁ (mkF m 46 #[.val (.ref r0), .val (.int (Int32.ofNat s0)), .val (.int (1 : Int32))] [])
    refine own_go (fun _ k => XS.iloadN X0.here hx rfl (hb hby d7_46) rfl k) ?_
    show own_Ends _ _ _ _ _ _ _ s₁ (mkF m 47 #[.val (.ref r0), .val (.int (Int32.ofNat s0)), .val (.int (1 : Int32))] [(.int (1 : Int32))])
    refine own_go (fun _ k => XS.iconst X0.here hx rfl (hb hby d7_47) k) ?_
    show own_Ends _ _ _ _ _ _ _ s₁ (mkF m 48 #[.val (.ref r0), .val (.int (Int32.ofNat s0)), .val (.int (1 : Int32))] [(.int (4 : Int32)), (.int (1 : Int32))])
    refine own_go (fun _ k => XS.icmpYes X0.here hx rfl (pc0 := 48) (pc' := 62) rfl (hb hby d7_48) rfl (tlt (by decide)).1 (by decide) (by decide) k) ?_
    show own_Ends _ _ _ _ _ _ _ s₁ (mkF m 62 #[.val (.ref r0), .val (.int (Int32.ofNat s0)), .val (.int (1 : Int32))] [])
    refine own_go (fun _ k => XS.iloadN X0.here hx rfl (hb hby d7_62) rfl k) ?_
    show own_Ends _ _ _ _ _ _ _ s₁ (mkF m 63 #[.val (.ref r0), .val (.int (Int32.ofNat s0)), .val (.int (1 : Int32))] [(.int (1 : Int32))])
    refine own_go (fun _ k => XS.iconst X0.here hx rfl (hb hby d7_63) k) ?_
    show own_Ends _ _ _ _ _ _ _ s₁ (mkF m 64 #[.val (.ref r0), .val (.int (Int32.ofNat s0)), .val (.int (1 : Int32))] [(.int (5 : Int32)), (.int (1 : Int32))])
    refine own_go (fun _ k => XS.icmpYes X0.here hx rfl (pc0 := 64) (pc' := 78) rfl (hb hby d7_64) rfl (tlt (by decide)).1 (by decide) (by decide) k) ?_
    show own_Ends _ _ _ _ _ _ _ s₁ (mkF m 78 #[.val (.ref r0), .val (.int (Int32.ofNat s0)), .val (.int (1 : Int32))] [])
    refine own_go (fun _ k => XS.iloadN X0.here hx rfl (hb hby d7_78) rfl k) ?_
    show own_Ends _ _ _ _ _ _ _ s₁ (mkF m 79 #[.val (.ref r0), .val (.int (Int32.ofNat s0)), .val (.int (1 : Int32))] [(.int (1 : Int32))])
    refine own_go (fun _ k => XS.bipush X0.here hx rfl (hb hby d7_79) k) ?_
    show own_Ends _ _ _ _ _ _ _ s₁ (mkF m 81 #[.val (.ref r0), .val (.int (Int32.ofNat s0)), .val (.int (1 : Int32))] [(.int (6 : Int32)), (.int (1 : Int32))])
    refine own_go (fun _ k => XS.icmpYes X0.here hx rfl (pc0 := 81) (pc' := 95) rfl (hb hby d7_81) rfl (tlt (by decide)).1 (by decide) (by decide) k) ?_
    show own_Ends _ _ _ _ _ _ _ s₁ (mkF m 95 #[.val (.ref r0), .val (.int (Int32.ofNat s0)), .val (.int (1 : Int32))] [])
    refine own_go (fun _ k => XS.iconst X0.here hx rfl (hb hby d7_95) k) ?_
    show own_Ends _ _ _ _ _ _ _ s₁ (mkF m 96 #[.val (.ref r0), .val (.int (Int32.ofNat s0)), .val (.int (1 : Int32))] [(.int (1 : Int32))])
    refine own_go (fun _ k => XS.goto X0.here hx rfl (pc0 := 96) (pc' := 100) rfl (hb hby d7_96) (by decide) (by decide) k) ?_
    show own_Ends _ _ _ _ _ _ _ s₁ (mkF m 100 #[.val (.ref r0), .val (.int (Int32.ofNat s0)), .val (.int (1 : Int32))] [(.int (1 : Int32))])
    exact own_retZ X0 hx hlk hret (by decide) (hb hby d7_100) (by decide) (by decide) ⟨Or.inl ⟨rfl, fun j hj => by
      have seg : j = 0 := by omega
      rcases seg with rfl
      · exact h0⟩, rfl, e0⟩
  · refine own_go (fun _ k => XS.icmpYes X0.here hx rfl (pc0 := 11) (pc' := 99) rfl (hb hby d7_11) rfl (feq h0).2 (by decide) (by decide) k) ?_
    show own_Ends _ _ _ _ _ _ _ s₁ (mkF m 99 #[.val (.ref r0), .val (.int (Int32.ofNat s0)), .val (.int (1 : Int32))] [])
    refine own_go (fun _ k => XS.iconst X0.here hx rfl (hb hby d7_99) k) ?_
    show own_Ends _ _ _ _ _ _ _ s₁ (mkF m 100 #[.val (.ref r0), .val (.int (Int32.ofNat s0)), .val (.int (1 : Int32))] [(.int (0 : Int32))])
    exact own_retZ X0 hx hlk hret (by decide) (hb hby d7_100) (by decide) (by decide) ⟨Or.inr ⟨rfl, fun q => h0 (q 0 (by decide))⟩, rfl, e0⟩
set_option maxRecDepth 65536 in
set_option maxHeartbeats 40000000 in
theorem rm7_2 (l : Launch) (Z : State) (a0 : Array Value) (hw : ∀ d ∈ tables_1, d.before a0 Z = true) (r0 : Addr) (p1 : Int32) (p2 : Int32) (h0 : Heap) (kc : ClassId) (b : Nat → Int32) (s0 : Nat) (A : own_Ar Z h0 r0 kc .byte 7 (fun j => .int (b j))) (hs : s0 + 2 ≤ 7) (hp1 : p1 = Int32.ofNat s0) (hp2 : p2 = 2) :
    own_C l (⟨"com/example/prefixleap/prefixleap/core/PrefixTableOfPinLaw", "match", "([BII)Z"⟩ : MethodName) method_3_code 3 (some .boolean) ({ frames := 0, cells := 0, slots := 0, locals := 0 } : Room) Z #[(.ref r0), (.int p1), (.int p2)] h0 (fun v h L => ((v = some (.int 1) ∧ ∀ j, j < 2 → b j = b (s0 + j)) ∨ (v = some (.int 0) ∧ ¬ ∀ j, j < 2 → b j = b (s0 + j))) ∧ L = [] ∧ h = h0) := by
  refine own_enter pn_7 ?_
  intro p e s m below meth c s₁ X0 hx hby hml hown hnm hret hlk hZ e0 hZH hnamed
  replace hown : s.vm.findClass "com/example/prefixleap/prefixleap/core/PrefixTableOfPinLaw" = some m.cls := hown
  have ef : entryFrame m #[(.ref r0), (.int p1), (.int p2)] 3 = mkF m 0 #[.val (.ref r0), .val (.int p1), .val (.int p2)] [] := by first | rfl | (simp [entryFrame, mkF, argsToLocals, Value.category, maxLocals]; done)
  refine own_cast ef ?_
  show own_Ends _ _ _ _ _ _ _ s₁ (mkF m 0 #[.val (.ref r0), .val (.int p1), .val (.int p2)] [])
  subst hp1 hp2
  show own_Ends _ _ _ _ _ _ _ s₁ (mkF m 0 #[.val (.ref r0), .val (.int (Int32.ofNat s0)), .val (.int (2 : Int32))] [])
  refine own_go (fun _ k => XS.iloadN X0.here hx rfl (hb hby d7_0) rfl k) ?_
  show own_Ends _ _ _ _ _ _ _ s₁ (mkF m 1 #[.val (.ref r0), .val (.int (Int32.ofNat s0)), .val (.int (2 : Int32))] [(.int (2 : Int32))])
  refine own_go (fun _ k => XS.iconst X0.here hx rfl (hb hby d7_1) k) ?_
  show own_Ends _ _ _ _ _ _ _ s₁ (mkF m 2 #[.val (.ref r0), .val (.int (Int32.ofNat s0)), .val (.int (2 : Int32))] [(.int (1 : Int32)), (.int (2 : Int32))])
  refine own_go (fun _ k => XS.icmpNo X0.here hx rfl (hb hby d7_2) rfl (flt (by decide)).1 k) ?_
  show own_Ends _ _ _ _ _ _ _ s₁ (mkF m 5 #[.val (.ref r0), .val (.int (Int32.ofNat s0)), .val (.int (2 : Int32))] [])
  refine own_go (fun _ k => XS.aloadN X0.here hx rfl (hb hby d7_5) rfl rfl k) ?_
  show own_Ends _ _ _ _ _ _ _ s₁ (mkF m 6 #[.val (.ref r0), .val (.int (Int32.ofNat s0)), .val (.int (2 : Int32))] [(.ref r0)])
  refine own_go (fun _ k => XS.iconst X0.here hx rfl (hb hby d7_6) k) ?_
  show own_Ends _ _ _ _ _ _ _ s₁ (mkF m 7 #[.val (.ref r0), .val (.int (Int32.ofNat s0)), .val (.int (2 : Int32))] [(.int (0 : Int32)), (.ref r0)])
  refine own_go (fun _ k => own_ldB X0 hx hZ e0 A (i := 0) (v := (.int (b 0))) (by decide) (by decide) (by decide) rfl (g := (mkF m 7 #[.val (.ref r0), .val (.int (Int32.ofNat s0)), .val (.int (2 : Int32))] [(.int (0 : Int32)), (.ref r0)])) rfl rfl (hb hby d7_7) _ k) ?_
  show own_Ends _ _ _ _ _ _ _ s₁ (mkF m 8 #[.val (.ref r0), .val (.int (Int32.ofNat s0)), .val (.int (2 : Int32))] [(.int (b 0))])
  refine own_go (fun _ k => XS.aloadN X0.here hx rfl (hb hby d7_8) rfl rfl k) ?_
  show own_Ends _ _ _ _ _ _ _ s₁ (mkF m 9 #[.val (.ref r0), .val (.int (Int32.ofNat s0)), .val (.int (2 : Int32))] [(.ref r0), (.int (b 0))])
  refine own_go (fun _ k => XS.iloadN X0.here hx rfl (hb hby d7_9) rfl k) ?_
  show own_Ends _ _ _ _ _ _ _ s₁ (mkF m 10 #[.val (.ref r0), .val (.int (Int32.ofNat s0)), .val (.int (2 : Int32))] [(.int (Int32.ofNat s0)), (.ref r0), (.int (b 0))])
  refine own_go (fun _ k => own_ldB X0 hx hZ e0 A (i := s0) (v := (.int (b s0))) (own_ofNat_nn (by omega)) (own_ofNat_cl (by omega)) (by omega) rfl (g := (mkF m 10 #[.val (.ref r0), .val (.int (Int32.ofNat s0)), .val (.int (2 : Int32))] [(.int (Int32.ofNat s0)), (.ref r0), (.int (b 0))])) rfl rfl (hb hby d7_10) _ k) ?_
  show own_Ends _ _ _ _ _ _ _ s₁ (mkF m 11 #[.val (.ref r0), .val (.int (Int32.ofNat s0)), .val (.int (2 : Int32))] [(.int (b s0)), (.int (b 0))])
  by_cases h0 : (b 0) = (b s0)
  · refine own_go (fun _ k => XS.icmpNo X0.here hx rfl (hb hby d7_11) rfl (teq h0).2 k) ?_
    show own_Ends _ _ _ _ _ _ _ s₁ (mkF m 14 #[.val (.ref r0), .val (.int (Int32.ofNat s0)), .val (.int (2 : Int32))] [])
    refine own_go (fun _ k => XS.iloadN X0.here hx rfl (hb hby d7_14) rfl k) ?_
    show own_Ends _ _ _ _ _ _ _ s₁ (mkF m 15 #[.val (.ref r0), .val (.int (Int32.ofNat s0)), .val (.int (2 : Int32))] [(.int (2 : Int32))])
    refine own_go (fun _ k => XS.iconst X0.here hx rfl (hb hby d7_15) k) ?_
    show own_Ends _ _ _ _ _ _ _ s₁ (mkF m 16 #[.val (.ref r0), .val (.int (Int32.ofNat s0)), .val (.int (2 : Int32))] [(.int (2 : Int32)), (.int (2 : Int32))])
    refine own_go (fun _ k => XS.icmpNo X0.here hx rfl (hb hby d7_16) rfl (flt (by decide)).1 k) ?_
    show own_Ends _ _ _ _ _ _ _ s₁ (mkF m 19 #[.val (.ref r0), .val (.int (Int32.ofNat s0)), .val (.int (2 : Int32))] [])
    refine own_go (fun _ k => XS.aloadN X0.here hx rfl (hb hby d7_19) rfl rfl k) ?_
    show own_Ends _ _ _ _ _ _ _ s₁ (mkF m 20 #[.val (.ref r0), .val (.int (Int32.ofNat s0)), .val (.int (2 : Int32))] [(.ref r0)])
    refine own_go (fun _ k => XS.iconst X0.here hx rfl (hb hby d7_20) k) ?_
    show own_Ends _ _ _ _ _ _ _ s₁ (mkF m 21 #[.val (.ref r0), .val (.int (Int32.ofNat s0)), .val (.int (2 : Int32))] [(.int (1 : Int32)), (.ref r0)])
    refine own_go (fun _ k => own_ldB X0 hx hZ e0 A (i := 1) (v := (.int (b 1))) (by decide) (by decide) (by decide) rfl (g := (mkF m 21 #[.val (.ref r0), .val (.int (Int32.ofNat s0)), .val (.int (2 : Int32))] [(.int (1 : Int32)), (.ref r0)])) rfl rfl (hb hby d7_21) _ k) ?_
    show own_Ends _ _ _ _ _ _ _ s₁ (mkF m 22 #[.val (.ref r0), .val (.int (Int32.ofNat s0)), .val (.int (2 : Int32))] [(.int (b 1))])
    refine own_go (fun _ k => XS.aloadN X0.here hx rfl (hb hby d7_22) rfl rfl k) ?_
    show own_Ends _ _ _ _ _ _ _ s₁ (mkF m 23 #[.val (.ref r0), .val (.int (Int32.ofNat s0)), .val (.int (2 : Int32))] [(.ref r0), (.int (b 1))])
    refine own_go (fun _ k => XS.iloadN X0.here hx rfl (hb hby d7_23) rfl k) ?_
    show own_Ends _ _ _ _ _ _ _ s₁ (mkF m 24 #[.val (.ref r0), .val (.int (Int32.ofNat s0)), .val (.int (2 : Int32))] [(.int (Int32.ofNat s0)), (.ref r0), (.int (b 1))])
    refine own_go (fun _ k => XS.iconst X0.here hx rfl (hb hby d7_24) k) ?_
    show own_Ends _ _ _ _ _ _ _ s₁ (mkF m 25 #[.val (.ref r0), .val (.int (Int32.ofNat s0)), .val (.int (2 : Int32))] [(.int (1 : Int32)), (.int (Int32.ofNat s0)), (.ref r0), (.int (b 1))])
    refine own_go (fun _ k => XS.iadd X0.here hx rfl (hb hby d7_25) rfl k) ?_
    show own_Ends _ _ _ _ _ _ _ s₁ (mkF m 26 #[.val (.ref r0), .val (.int (Int32.ofNat s0)), .val (.int (2 : Int32))] [(.int ((Int32.ofNat s0) + (1 : Int32))), (.ref r0), (.int (b 1))])
    rw [show ((Int32.ofNat s0) + (1 : Int32)) = (Int32.ofNat (s0 + 1)) from own_ofNat_add (j := 1) (by omega)]
    show own_Ends _ _ _ _ _ _ _ s₁ (mkF m 26 #[.val (.ref r0), .val (.int (Int32.ofNat s0)), .val (.int (2 : Int32))] [(.int (Int32.ofNat (s0 + 1))), (.ref r0), (.int (b 1))])
    refine own_go (fun _ k => own_ldB X0 hx hZ e0 A (i := (s0 + 1)) (v := (.int (b (s0 + 1)))) (own_ofNat_nn (by omega)) (own_ofNat_cl (by omega)) (by omega) rfl (g := (mkF m 26 #[.val (.ref r0), .val (.int (Int32.ofNat s0)), .val (.int (2 : Int32))] [(.int (Int32.ofNat (s0 + 1))), (.ref r0), (.int (b 1))])) rfl rfl (hb hby d7_26) _ k) ?_
    show own_Ends _ _ _ _ _ _ _ s₁ (mkF m 27 #[.val (.ref r0), .val (.int (Int32.ofNat s0)), .val (.int (2 : Int32))] [(.int (b (s0 + 1))), (.int (b 1))])
    by_cases h1 : (b 1) = (b (s0 + 1))
    · refine own_go (fun _ k => XS.icmpNo X0.here hx rfl (hb hby d7_27) rfl (teq h1).2 k) ?_
      show own_Ends _ _ _ _ _ _ _ s₁ (mkF m 30 #[.val (.ref r0), .val (.int (Int32.ofNat s0)), .val (.int (2 : Int32))] [])
      refine own_go (fun _ k => XS.iloadN X0.here hx rfl (hb hby d7_30) rfl k) ?_
      show own_Ends _ _ _ _ _ _ _ s₁ (mkF m 31 #[.val (.ref r0), .val (.int (Int32.ofNat s0)), .val (.int (2 : Int32))] [(.int (2 : Int32))])
      refine own_go (fun _ k => XS.iconst X0.here hx rfl (hb hby d7_31) k) ?_
      show own_Ends _ _ _ _ _ _ _ s₁ (mkF m 32 #[.val (.ref r0), .val (.int (Int32.ofNat s0)), .val (.int (2 : Int32))] [(.int (3 : Int32)), (.int (2 : Int32))])
      refine own_go (fun _ k => XS.icmpYes X0.here hx rfl (pc0 := 32) (pc' := 46) rfl (hb hby d7_32) rfl (tlt (by decide)).1 (by decide) (by decide) k) ?_
      show own_Ends _ _ _ _ _ _ _ s₁ (mkF m 46 #[.val (.ref r0), .val (.int (Int32.ofNat s0)), .val (.int (2 : Int32))] [])
      refine own_go (fun _ k => XS.iloadN X0.here hx rfl (hb hby d7_46) rfl k) ?_
      show own_Ends _ _ _ _ _ _ _ s₁ (mkF m 47 #[.val (.ref r0), .val (.int (Int32.ofNat s0)), .val (.int (2 : Int32))] [(.int (2 : Int32))])
      refine own_go (fun _ k => XS.iconst X0.here hx rfl (hb hby d7_47) k) ?_
      show own_Ends _ _ _ _ _ _ _ s₁ (mkF m 48 #[.val (.ref r0), .val (.int (Int32.ofNat s0)), .val (.int (2 : Int32))] [(.int (4 : Int32)), (.int (2 : Int32))])
      refine own_go (fun _ k => XS.icmpYes X0.here hx rfl (pc0 := 48) (pc' := 62) rfl (hb hby d7_48) rfl (tlt (by decide)).1 (by decide) (by decide) k) ?_
      show own_Ends _ _ _ _ _ _ _ s₁ (mkF m 62 #[.val (.ref r0), .val (.int (Int32.ofNat s0)), .val (.int (2 : Int32))] [])
      refine own_go (fun _ k => XS.iloadN X0.here hx rfl (hb hby d7_62) rfl k) ?_
      show own_Ends _ _ _ _ _ _ _ s₁ (mkF m 63 #[.val (.ref r0), .val (.int (Int32.ofNat s0)), .val (.int (2 : Int32))] [(.int (2 : Int32))])
      refine own_go (fun _ k => XS.iconst X0.here hx rfl (hb hby d7_63) k) ?_
      show own_Ends _ _ _ _ _ _ _ s₁ (mkF m 64 #[.val (.ref r0), .val (.int (Int32.ofNat s0)), .val (.int (2 : Int32))] [(.int (5 : Int32)), (.int (2 : Int32))])
      refine own_go (fun _ k => XS.icmpYes X0.here hx rfl (pc0 := 64) (pc' := 78) rfl (hb hby d7_64) rfl (tlt (by decide)).1 (by decide) (by decide) k) ?_
      show own_Ends _ _ _ _ _ _ _ s₁ (mkF m 78 #[.val (.ref r0), .val (.int (Int32.ofNat s0)), .val (.int (2 : Int32))] [])
      refine own_go (fun _ k => XS.iloadN X0.here hx rfl (hb hby d7_78) rfl k) ?_
      show own_Ends _ _ _ _ _ _ _ s₁ (mkF m 79 #[.val (.ref r0), .val (.int (Int32.ofNat s0)), .val (.int (2 : Int32))] [(.int (2 : Int32))])
      refine own_go (fun _ k => XS.bipush X0.here hx rfl (hb hby d7_79) k) ?_
      show own_Ends _ _ _ _ _ _ _ s₁ (mkF m 81 #[.val (.ref r0), .val (.int (Int32.ofNat s0)), .val (.int (2 : Int32))] [(.int (6 : Int32)), (.int (2 : Int32))])
      refine own_go (fun _ k => XS.icmpYes X0.here hx rfl (pc0 := 81) (pc' := 95) rfl (hb hby d7_81) rfl (tlt (by decide)).1 (by decide) (by decide) k) ?_
      show own_Ends _ _ _ _ _ _ _ s₁ (mkF m 95 #[.val (.ref r0), .val (.int (Int32.ofNat s0)), .val (.int (2 : Int32))] [])
      refine own_go (fun _ k => XS.iconst X0.here hx rfl (hb hby d7_95) k) ?_
      show own_Ends _ _ _ _ _ _ _ s₁ (mkF m 96 #[.val (.ref r0), .val (.int (Int32.ofNat s0)), .val (.int (2 : Int32))] [(.int (1 : Int32))])
      refine own_go (fun _ k => XS.goto X0.here hx rfl (pc0 := 96) (pc' := 100) rfl (hb hby d7_96) (by decide) (by decide) k) ?_
      show own_Ends _ _ _ _ _ _ _ s₁ (mkF m 100 #[.val (.ref r0), .val (.int (Int32.ofNat s0)), .val (.int (2 : Int32))] [(.int (1 : Int32))])
      exact own_retZ X0 hx hlk hret (by decide) (hb hby d7_100) (by decide) (by decide) ⟨Or.inl ⟨rfl, fun j hj => by
        have seg : j = 0 ∨ j = 1 := by omega
        rcases seg with rfl | rfl
        · exact h0
        · exact h1⟩, rfl, e0⟩
    · refine own_go (fun _ k => XS.icmpYes X0.here hx rfl (pc0 := 27) (pc' := 99) rfl (hb hby d7_27) rfl (feq h1).2 (by decide) (by decide) k) ?_
      show own_Ends _ _ _ _ _ _ _ s₁ (mkF m 99 #[.val (.ref r0), .val (.int (Int32.ofNat s0)), .val (.int (2 : Int32))] [])
      refine own_go (fun _ k => XS.iconst X0.here hx rfl (hb hby d7_99) k) ?_
      show own_Ends _ _ _ _ _ _ _ s₁ (mkF m 100 #[.val (.ref r0), .val (.int (Int32.ofNat s0)), .val (.int (2 : Int32))] [(.int (0 : Int32))])
      exact own_retZ X0 hx hlk hret (by decide) (hb hby d7_100) (by decide) (by decide) ⟨Or.inr ⟨rfl, fun q => h1 (q 1 (by decide))⟩, rfl, e0⟩
  · refine own_go (fun _ k => XS.icmpYes X0.here hx rfl (pc0 := 11) (pc' := 99) rfl (hb hby d7_11) rfl (feq h0).2 (by decide) (by decide) k) ?_
    show own_Ends _ _ _ _ _ _ _ s₁ (mkF m 99 #[.val (.ref r0), .val (.int (Int32.ofNat s0)), .val (.int (2 : Int32))] [])
    refine own_go (fun _ k => XS.iconst X0.here hx rfl (hb hby d7_99) k) ?_
    show own_Ends _ _ _ _ _ _ _ s₁ (mkF m 100 #[.val (.ref r0), .val (.int (Int32.ofNat s0)), .val (.int (2 : Int32))] [(.int (0 : Int32))])
    exact own_retZ X0 hx hlk hret (by decide) (hb hby d7_100) (by decide) (by decide) ⟨Or.inr ⟨rfl, fun q => h0 (q 0 (by decide))⟩, rfl, e0⟩
set_option maxRecDepth 65536 in
set_option maxHeartbeats 40000000 in
theorem rm7_3 (l : Launch) (Z : State) (a0 : Array Value) (hw : ∀ d ∈ tables_1, d.before a0 Z = true) (r0 : Addr) (p1 : Int32) (p2 : Int32) (h0 : Heap) (kc : ClassId) (b : Nat → Int32) (s0 : Nat) (A : own_Ar Z h0 r0 kc .byte 7 (fun j => .int (b j))) (hs : s0 + 3 ≤ 7) (hp1 : p1 = Int32.ofNat s0) (hp2 : p2 = 3) :
    own_C l (⟨"com/example/prefixleap/prefixleap/core/PrefixTableOfPinLaw", "match", "([BII)Z"⟩ : MethodName) method_3_code 3 (some .boolean) ({ frames := 0, cells := 0, slots := 0, locals := 0 } : Room) Z #[(.ref r0), (.int p1), (.int p2)] h0 (fun v h L => ((v = some (.int 1) ∧ ∀ j, j < 3 → b j = b (s0 + j)) ∨ (v = some (.int 0) ∧ ¬ ∀ j, j < 3 → b j = b (s0 + j))) ∧ L = [] ∧ h = h0) := by
  refine own_enter pn_7 ?_
  intro p e s m below meth c s₁ X0 hx hby hml hown hnm hret hlk hZ e0 hZH hnamed
  replace hown : s.vm.findClass "com/example/prefixleap/prefixleap/core/PrefixTableOfPinLaw" = some m.cls := hown
  have ef : entryFrame m #[(.ref r0), (.int p1), (.int p2)] 3 = mkF m 0 #[.val (.ref r0), .val (.int p1), .val (.int p2)] [] := by first | rfl | (simp [entryFrame, mkF, argsToLocals, Value.category, maxLocals]; done)
  refine own_cast ef ?_
  show own_Ends _ _ _ _ _ _ _ s₁ (mkF m 0 #[.val (.ref r0), .val (.int p1), .val (.int p2)] [])
  subst hp1 hp2
  show own_Ends _ _ _ _ _ _ _ s₁ (mkF m 0 #[.val (.ref r0), .val (.int (Int32.ofNat s0)), .val (.int (3 : Int32))] [])
  refine own_go (fun _ k => XS.iloadN X0.here hx rfl (hb hby d7_0) rfl k) ?_
  show own_Ends _ _ _ _ _ _ _ s₁ (mkF m 1 #[.val (.ref r0), .val (.int (Int32.ofNat s0)), .val (.int (3 : Int32))] [(.int (3 : Int32))])
  refine own_go (fun _ k => XS.iconst X0.here hx rfl (hb hby d7_1) k) ?_
  show own_Ends _ _ _ _ _ _ _ s₁ (mkF m 2 #[.val (.ref r0), .val (.int (Int32.ofNat s0)), .val (.int (3 : Int32))] [(.int (1 : Int32)), (.int (3 : Int32))])
  refine own_go (fun _ k => XS.icmpNo X0.here hx rfl (hb hby d7_2) rfl (flt (by decide)).1 k) ?_
  show own_Ends _ _ _ _ _ _ _ s₁ (mkF m 5 #[.val (.ref r0), .val (.int (Int32.ofNat s0)), .val (.int (3 : Int32))] [])
  refine own_go (fun _ k => XS.aloadN X0.here hx rfl (hb hby d7_5) rfl rfl k) ?_
  show own_Ends _ _ _ _ _ _ _ s₁ (mkF m 6 #[.val (.ref r0), .val (.int (Int32.ofNat s0)), .val (.int (3 : Int32))] [(.ref r0)])
  refine own_go (fun _ k => XS.iconst X0.here hx rfl (hb hby d7_6) k) ?_
  show own_Ends _ _ _ _ _ _ _ s₁ (mkF m 7 #[.val (.ref r0), .val (.int (Int32.ofNat s0)), .val (.int (3 : Int32))] [(.int (0 : Int32)), (.ref r0)])
  refine own_go (fun _ k => own_ldB X0 hx hZ e0 A (i := 0) (v := (.int (b 0))) (by decide) (by decide) (by decide) rfl (g := (mkF m 7 #[.val (.ref r0), .val (.int (Int32.ofNat s0)), .val (.int (3 : Int32))] [(.int (0 : Int32)), (.ref r0)])) rfl rfl (hb hby d7_7) _ k) ?_
  show own_Ends _ _ _ _ _ _ _ s₁ (mkF m 8 #[.val (.ref r0), .val (.int (Int32.ofNat s0)), .val (.int (3 : Int32))] [(.int (b 0))])
  refine own_go (fun _ k => XS.aloadN X0.here hx rfl (hb hby d7_8) rfl rfl k) ?_
  show own_Ends _ _ _ _ _ _ _ s₁ (mkF m 9 #[.val (.ref r0), .val (.int (Int32.ofNat s0)), .val (.int (3 : Int32))] [(.ref r0), (.int (b 0))])
  refine own_go (fun _ k => XS.iloadN X0.here hx rfl (hb hby d7_9) rfl k) ?_
  show own_Ends _ _ _ _ _ _ _ s₁ (mkF m 10 #[.val (.ref r0), .val (.int (Int32.ofNat s0)), .val (.int (3 : Int32))] [(.int (Int32.ofNat s0)), (.ref r0), (.int (b 0))])
  refine own_go (fun _ k => own_ldB X0 hx hZ e0 A (i := s0) (v := (.int (b s0))) (own_ofNat_nn (by omega)) (own_ofNat_cl (by omega)) (by omega) rfl (g := (mkF m 10 #[.val (.ref r0), .val (.int (Int32.ofNat s0)), .val (.int (3 : Int32))] [(.int (Int32.ofNat s0)), (.ref r0), (.int (b 0))])) rfl rfl (hb hby d7_10) _ k) ?_
  show own_Ends _ _ _ _ _ _ _ s₁ (mkF m 11 #[.val (.ref r0), .val (.int (Int32.ofNat s0)), .val (.int (3 : Int32))] [(.int (b s0)), (.int (b 0))])
  by_cases h0 : (b 0) = (b s0)
  · refine own_go (fun _ k => XS.icmpNo X0.here hx rfl (hb hby d7_11) rfl (teq h0).2 k) ?_
    show own_Ends _ _ _ _ _ _ _ s₁ (mkF m 14 #[.val (.ref r0), .val (.int (Int32.ofNat s0)), .val (.int (3 : Int32))] [])
    refine own_go (fun _ k => XS.iloadN X0.here hx rfl (hb hby d7_14) rfl k) ?_
    show own_Ends _ _ _ _ _ _ _ s₁ (mkF m 15 #[.val (.ref r0), .val (.int (Int32.ofNat s0)), .val (.int (3 : Int32))] [(.int (3 : Int32))])
    refine own_go (fun _ k => XS.iconst X0.here hx rfl (hb hby d7_15) k) ?_
    show own_Ends _ _ _ _ _ _ _ s₁ (mkF m 16 #[.val (.ref r0), .val (.int (Int32.ofNat s0)), .val (.int (3 : Int32))] [(.int (2 : Int32)), (.int (3 : Int32))])
    refine own_go (fun _ k => XS.icmpNo X0.here hx rfl (hb hby d7_16) rfl (flt (by decide)).1 k) ?_
    show own_Ends _ _ _ _ _ _ _ s₁ (mkF m 19 #[.val (.ref r0), .val (.int (Int32.ofNat s0)), .val (.int (3 : Int32))] [])
    refine own_go (fun _ k => XS.aloadN X0.here hx rfl (hb hby d7_19) rfl rfl k) ?_
    show own_Ends _ _ _ _ _ _ _ s₁ (mkF m 20 #[.val (.ref r0), .val (.int (Int32.ofNat s0)), .val (.int (3 : Int32))] [(.ref r0)])
    refine own_go (fun _ k => XS.iconst X0.here hx rfl (hb hby d7_20) k) ?_
    show own_Ends _ _ _ _ _ _ _ s₁ (mkF m 21 #[.val (.ref r0), .val (.int (Int32.ofNat s0)), .val (.int (3 : Int32))] [(.int (1 : Int32)), (.ref r0)])
    refine own_go (fun _ k => own_ldB X0 hx hZ e0 A (i := 1) (v := (.int (b 1))) (by decide) (by decide) (by decide) rfl (g := (mkF m 21 #[.val (.ref r0), .val (.int (Int32.ofNat s0)), .val (.int (3 : Int32))] [(.int (1 : Int32)), (.ref r0)])) rfl rfl (hb hby d7_21) _ k) ?_
    show own_Ends _ _ _ _ _ _ _ s₁ (mkF m 22 #[.val (.ref r0), .val (.int (Int32.ofNat s0)), .val (.int (3 : Int32))] [(.int (b 1))])
    refine own_go (fun _ k => XS.aloadN X0.here hx rfl (hb hby d7_22) rfl rfl k) ?_
    show own_Ends _ _ _ _ _ _ _ s₁ (mkF m 23 #[.val (.ref r0), .val (.int (Int32.ofNat s0)), .val (.int (3 : Int32))] [(.ref r0), (.int (b 1))])
    refine own_go (fun _ k => XS.iloadN X0.here hx rfl (hb hby d7_23) rfl k) ?_
    show own_Ends _ _ _ _ _ _ _ s₁ (mkF m 24 #[.val (.ref r0), .val (.int (Int32.ofNat s0)), .val (.int (3 : Int32))] [(.int (Int32.ofNat s0)), (.ref r0), (.int (b 1))])
    refine own_go (fun _ k => XS.iconst X0.here hx rfl (hb hby d7_24) k) ?_
    show own_Ends _ _ _ _ _ _ _ s₁ (mkF m 25 #[.val (.ref r0), .val (.int (Int32.ofNat s0)), .val (.int (3 : Int32))] [(.int (1 : Int32)), (.int (Int32.ofNat s0)), (.ref r0), (.int (b 1))])
    refine own_go (fun _ k => XS.iadd X0.here hx rfl (hb hby d7_25) rfl k) ?_
    show own_Ends _ _ _ _ _ _ _ s₁ (mkF m 26 #[.val (.ref r0), .val (.int (Int32.ofNat s0)), .val (.int (3 : Int32))] [(.int ((Int32.ofNat s0) + (1 : Int32))), (.ref r0), (.int (b 1))])
    rw [show ((Int32.ofNat s0) + (1 : Int32)) = (Int32.ofNat (s0 + 1)) from own_ofNat_add (j := 1) (by omega)]
    show own_Ends _ _ _ _ _ _ _ s₁ (mkF m 26 #[.val (.ref r0), .val (.int (Int32.ofNat s0)), .val (.int (3 : Int32))] [(.int (Int32.ofNat (s0 + 1))), (.ref r0), (.int (b 1))])
    refine own_go (fun _ k => own_ldB X0 hx hZ e0 A (i := (s0 + 1)) (v := (.int (b (s0 + 1)))) (own_ofNat_nn (by omega)) (own_ofNat_cl (by omega)) (by omega) rfl (g := (mkF m 26 #[.val (.ref r0), .val (.int (Int32.ofNat s0)), .val (.int (3 : Int32))] [(.int (Int32.ofNat (s0 + 1))), (.ref r0), (.int (b 1))])) rfl rfl (hb hby d7_26) _ k) ?_
    show own_Ends _ _ _ _ _ _ _ s₁ (mkF m 27 #[.val (.ref r0), .val (.int (Int32.ofNat s0)), .val (.int (3 : Int32))] [(.int (b (s0 + 1))), (.int (b 1))])
    by_cases h1 : (b 1) = (b (s0 + 1))
    · refine own_go (fun _ k => XS.icmpNo X0.here hx rfl (hb hby d7_27) rfl (teq h1).2 k) ?_
      show own_Ends _ _ _ _ _ _ _ s₁ (mkF m 30 #[.val (.ref r0), .val (.int (Int32.ofNat s0)), .val (.int (3 : Int32))] [])
      refine own_go (fun _ k => XS.iloadN X0.here hx rfl (hb hby d7_30) rfl k) ?_
      show own_Ends _ _ _ _ _ _ _ s₁ (mkF m 31 #[.val (.ref r0), .val (.int (Int32.ofNat s0)), .val (.int (3 : Int32))] [(.int (3 : Int32))])
      refine own_go (fun _ k => XS.iconst X0.here hx rfl (hb hby d7_31) k) ?_
      show own_Ends _ _ _ _ _ _ _ s₁ (mkF m 32 #[.val (.ref r0), .val (.int (Int32.ofNat s0)), .val (.int (3 : Int32))] [(.int (3 : Int32)), (.int (3 : Int32))])
      refine own_go (fun _ k => XS.icmpNo X0.here hx rfl (hb hby d7_32) rfl (flt (by decide)).1 k) ?_
      show own_Ends _ _ _ _ _ _ _ s₁ (mkF m 35 #[.val (.ref r0), .val (.int (Int32.ofNat s0)), .val (.int (3 : Int32))] [])
      refine own_go (fun _ k => XS.aloadN X0.here hx rfl (hb hby d7_35) rfl rfl k) ?_
      show own_Ends _ _ _ _ _ _ _ s₁ (mkF m 36 #[.val (.ref r0), .val (.int (Int32.ofNat s0)), .val (.int (3 : Int32))] [(.ref r0)])
      refine own_go (fun _ k => XS.iconst X0.here hx rfl (hb hby d7_36) k) ?_
      show own_Ends _ _ _ _ _ _ _ s₁ (mkF m 37 #[.val (.ref r0), .val (.int (Int32.ofNat s0)), .val (.int (3 : Int32))] [(.int (2 : Int32)), (.ref r0)])
      refine own_go (fun _ k => own_ldB X0 hx hZ e0 A (i := 2) (v := (.int (b 2))) (by decide) (by decide) (by decide) rfl (g := (mkF m 37 #[.val (.ref r0), .val (.int (Int32.ofNat s0)), .val (.int (3 : Int32))] [(.int (2 : Int32)), (.ref r0)])) rfl rfl (hb hby d7_37) _ k) ?_
      show own_Ends _ _ _ _ _ _ _ s₁ (mkF m 38 #[.val (.ref r0), .val (.int (Int32.ofNat s0)), .val (.int (3 : Int32))] [(.int (b 2))])
      refine own_go (fun _ k => XS.aloadN X0.here hx rfl (hb hby d7_38) rfl rfl k) ?_
      show own_Ends _ _ _ _ _ _ _ s₁ (mkF m 39 #[.val (.ref r0), .val (.int (Int32.ofNat s0)), .val (.int (3 : Int32))] [(.ref r0), (.int (b 2))])
      refine own_go (fun _ k => XS.iloadN X0.here hx rfl (hb hby d7_39) rfl k) ?_
      show own_Ends _ _ _ _ _ _ _ s₁ (mkF m 40 #[.val (.ref r0), .val (.int (Int32.ofNat s0)), .val (.int (3 : Int32))] [(.int (Int32.ofNat s0)), (.ref r0), (.int (b 2))])
      refine own_go (fun _ k => XS.iconst X0.here hx rfl (hb hby d7_40) k) ?_
      show own_Ends _ _ _ _ _ _ _ s₁ (mkF m 41 #[.val (.ref r0), .val (.int (Int32.ofNat s0)), .val (.int (3 : Int32))] [(.int (2 : Int32)), (.int (Int32.ofNat s0)), (.ref r0), (.int (b 2))])
      refine own_go (fun _ k => XS.iadd X0.here hx rfl (hb hby d7_41) rfl k) ?_
      show own_Ends _ _ _ _ _ _ _ s₁ (mkF m 42 #[.val (.ref r0), .val (.int (Int32.ofNat s0)), .val (.int (3 : Int32))] [(.int ((Int32.ofNat s0) + (2 : Int32))), (.ref r0), (.int (b 2))])
      rw [show ((Int32.ofNat s0) + (2 : Int32)) = (Int32.ofNat (s0 + 2)) from own_ofNat_add (j := 2) (by omega)]
      show own_Ends _ _ _ _ _ _ _ s₁ (mkF m 42 #[.val (.ref r0), .val (.int (Int32.ofNat s0)), .val (.int (3 : Int32))] [(.int (Int32.ofNat (s0 + 2))), (.ref r0), (.int (b 2))])
      refine own_go (fun _ k => own_ldB X0 hx hZ e0 A (i := (s0 + 2)) (v := (.int (b (s0 + 2)))) (own_ofNat_nn (by omega)) (own_ofNat_cl (by omega)) (by omega) rfl (g := (mkF m 42 #[.val (.ref r0), .val (.int (Int32.ofNat s0)), .val (.int (3 : Int32))] [(.int (Int32.ofNat (s0 + 2))), (.ref r0), (.int (b 2))])) rfl rfl (hb hby d7_42) _ k) ?_
      show own_Ends _ _ _ _ _ _ _ s₁ (mkF m 43 #[.val (.ref r0), .val (.int (Int32.ofNat s0)), .val (.int (3 : Int32))] [(.int (b (s0 + 2))), (.int (b 2))])
      by_cases h2 : (b 2) = (b (s0 + 2))
      · refine own_go (fun _ k => XS.icmpNo X0.here hx rfl (hb hby d7_43) rfl (teq h2).2 k) ?_
        show own_Ends _ _ _ _ _ _ _ s₁ (mkF m 46 #[.val (.ref r0), .val (.int (Int32.ofNat s0)), .val (.int (3 : Int32))] [])
        refine own_go (fun _ k => XS.iloadN X0.here hx rfl (hb hby d7_46) rfl k) ?_
        show own_Ends _ _ _ _ _ _ _ s₁ (mkF m 47 #[.val (.ref r0), .val (.int (Int32.ofNat s0)), .val (.int (3 : Int32))] [(.int (3 : Int32))])
        refine own_go (fun _ k => XS.iconst X0.here hx rfl (hb hby d7_47) k) ?_
        show own_Ends _ _ _ _ _ _ _ s₁ (mkF m 48 #[.val (.ref r0), .val (.int (Int32.ofNat s0)), .val (.int (3 : Int32))] [(.int (4 : Int32)), (.int (3 : Int32))])
        refine own_go (fun _ k => XS.icmpYes X0.here hx rfl (pc0 := 48) (pc' := 62) rfl (hb hby d7_48) rfl (tlt (by decide)).1 (by decide) (by decide) k) ?_
        show own_Ends _ _ _ _ _ _ _ s₁ (mkF m 62 #[.val (.ref r0), .val (.int (Int32.ofNat s0)), .val (.int (3 : Int32))] [])
        refine own_go (fun _ k => XS.iloadN X0.here hx rfl (hb hby d7_62) rfl k) ?_
        show own_Ends _ _ _ _ _ _ _ s₁ (mkF m 63 #[.val (.ref r0), .val (.int (Int32.ofNat s0)), .val (.int (3 : Int32))] [(.int (3 : Int32))])
        refine own_go (fun _ k => XS.iconst X0.here hx rfl (hb hby d7_63) k) ?_
        show own_Ends _ _ _ _ _ _ _ s₁ (mkF m 64 #[.val (.ref r0), .val (.int (Int32.ofNat s0)), .val (.int (3 : Int32))] [(.int (5 : Int32)), (.int (3 : Int32))])
        refine own_go (fun _ k => XS.icmpYes X0.here hx rfl (pc0 := 64) (pc' := 78) rfl (hb hby d7_64) rfl (tlt (by decide)).1 (by decide) (by decide) k) ?_
        show own_Ends _ _ _ _ _ _ _ s₁ (mkF m 78 #[.val (.ref r0), .val (.int (Int32.ofNat s0)), .val (.int (3 : Int32))] [])
        refine own_go (fun _ k => XS.iloadN X0.here hx rfl (hb hby d7_78) rfl k) ?_
        show own_Ends _ _ _ _ _ _ _ s₁ (mkF m 79 #[.val (.ref r0), .val (.int (Int32.ofNat s0)), .val (.int (3 : Int32))] [(.int (3 : Int32))])
        refine own_go (fun _ k => XS.bipush X0.here hx rfl (hb hby d7_79) k) ?_
        show own_Ends _ _ _ _ _ _ _ s₁ (mkF m 81 #[.val (.ref r0), .val (.int (Int32.ofNat s0)), .val (.int (3 : Int32))] [(.int (6 : Int32)), (.int (3 : Int32))])
        refine own_go (fun _ k => XS.icmpYes X0.here hx rfl (pc0 := 81) (pc' := 95) rfl (hb hby d7_81) rfl (tlt (by decide)).1 (by decide) (by decide) k) ?_
        show own_Ends _ _ _ _ _ _ _ s₁ (mkF m 95 #[.val (.ref r0), .val (.int (Int32.ofNat s0)), .val (.int (3 : Int32))] [])
        refine own_go (fun _ k => XS.iconst X0.here hx rfl (hb hby d7_95) k) ?_
        show own_Ends _ _ _ _ _ _ _ s₁ (mkF m 96 #[.val (.ref r0), .val (.int (Int32.ofNat s0)), .val (.int (3 : Int32))] [(.int (1 : Int32))])
        refine own_go (fun _ k => XS.goto X0.here hx rfl (pc0 := 96) (pc' := 100) rfl (hb hby d7_96) (by decide) (by decide) k) ?_
        show own_Ends _ _ _ _ _ _ _ s₁ (mkF m 100 #[.val (.ref r0), .val (.int (Int32.ofNat s0)), .val (.int (3 : Int32))] [(.int (1 : Int32))])
        exact own_retZ X0 hx hlk hret (by decide) (hb hby d7_100) (by decide) (by decide) ⟨Or.inl ⟨rfl, fun j hj => by
          have seg : j = 0 ∨ j = 1 ∨ j = 2 := by omega
          rcases seg with rfl | rfl | rfl
          · exact h0
          · exact h1
          · exact h2⟩, rfl, e0⟩
      · refine own_go (fun _ k => XS.icmpYes X0.here hx rfl (pc0 := 43) (pc' := 99) rfl (hb hby d7_43) rfl (feq h2).2 (by decide) (by decide) k) ?_
        show own_Ends _ _ _ _ _ _ _ s₁ (mkF m 99 #[.val (.ref r0), .val (.int (Int32.ofNat s0)), .val (.int (3 : Int32))] [])
        refine own_go (fun _ k => XS.iconst X0.here hx rfl (hb hby d7_99) k) ?_
        show own_Ends _ _ _ _ _ _ _ s₁ (mkF m 100 #[.val (.ref r0), .val (.int (Int32.ofNat s0)), .val (.int (3 : Int32))] [(.int (0 : Int32))])
        exact own_retZ X0 hx hlk hret (by decide) (hb hby d7_100) (by decide) (by decide) ⟨Or.inr ⟨rfl, fun q => h2 (q 2 (by decide))⟩, rfl, e0⟩
    · refine own_go (fun _ k => XS.icmpYes X0.here hx rfl (pc0 := 27) (pc' := 99) rfl (hb hby d7_27) rfl (feq h1).2 (by decide) (by decide) k) ?_
      show own_Ends _ _ _ _ _ _ _ s₁ (mkF m 99 #[.val (.ref r0), .val (.int (Int32.ofNat s0)), .val (.int (3 : Int32))] [])
      refine own_go (fun _ k => XS.iconst X0.here hx rfl (hb hby d7_99) k) ?_
      show own_Ends _ _ _ _ _ _ _ s₁ (mkF m 100 #[.val (.ref r0), .val (.int (Int32.ofNat s0)), .val (.int (3 : Int32))] [(.int (0 : Int32))])
      exact own_retZ X0 hx hlk hret (by decide) (hb hby d7_100) (by decide) (by decide) ⟨Or.inr ⟨rfl, fun q => h1 (q 1 (by decide))⟩, rfl, e0⟩
  · refine own_go (fun _ k => XS.icmpYes X0.here hx rfl (pc0 := 11) (pc' := 99) rfl (hb hby d7_11) rfl (feq h0).2 (by decide) (by decide) k) ?_
    show own_Ends _ _ _ _ _ _ _ s₁ (mkF m 99 #[.val (.ref r0), .val (.int (Int32.ofNat s0)), .val (.int (3 : Int32))] [])
    refine own_go (fun _ k => XS.iconst X0.here hx rfl (hb hby d7_99) k) ?_
    show own_Ends _ _ _ _ _ _ _ s₁ (mkF m 100 #[.val (.ref r0), .val (.int (Int32.ofNat s0)), .val (.int (3 : Int32))] [(.int (0 : Int32))])
    exact own_retZ X0 hx hlk hret (by decide) (hb hby d7_100) (by decide) (by decide) ⟨Or.inr ⟨rfl, fun q => h0 (q 0 (by decide))⟩, rfl, e0⟩
set_option maxRecDepth 65536 in
set_option maxHeartbeats 40000000 in
theorem rm7_4 (l : Launch) (Z : State) (a0 : Array Value) (hw : ∀ d ∈ tables_1, d.before a0 Z = true) (r0 : Addr) (p1 : Int32) (p2 : Int32) (h0 : Heap) (kc : ClassId) (b : Nat → Int32) (s0 : Nat) (A : own_Ar Z h0 r0 kc .byte 7 (fun j => .int (b j))) (hs : s0 + 4 ≤ 7) (hp1 : p1 = Int32.ofNat s0) (hp2 : p2 = 4) :
    own_C l (⟨"com/example/prefixleap/prefixleap/core/PrefixTableOfPinLaw", "match", "([BII)Z"⟩ : MethodName) method_3_code 3 (some .boolean) ({ frames := 0, cells := 0, slots := 0, locals := 0 } : Room) Z #[(.ref r0), (.int p1), (.int p2)] h0 (fun v h L => ((v = some (.int 1) ∧ ∀ j, j < 4 → b j = b (s0 + j)) ∨ (v = some (.int 0) ∧ ¬ ∀ j, j < 4 → b j = b (s0 + j))) ∧ L = [] ∧ h = h0) := by
  refine own_enter pn_7 ?_
  intro p e s m below meth c s₁ X0 hx hby hml hown hnm hret hlk hZ e0 hZH hnamed
  replace hown : s.vm.findClass "com/example/prefixleap/prefixleap/core/PrefixTableOfPinLaw" = some m.cls := hown
  have ef : entryFrame m #[(.ref r0), (.int p1), (.int p2)] 3 = mkF m 0 #[.val (.ref r0), .val (.int p1), .val (.int p2)] [] := by first | rfl | (simp [entryFrame, mkF, argsToLocals, Value.category, maxLocals]; done)
  refine own_cast ef ?_
  show own_Ends _ _ _ _ _ _ _ s₁ (mkF m 0 #[.val (.ref r0), .val (.int p1), .val (.int p2)] [])
  subst hp1 hp2
  show own_Ends _ _ _ _ _ _ _ s₁ (mkF m 0 #[.val (.ref r0), .val (.int (Int32.ofNat s0)), .val (.int (4 : Int32))] [])
  refine own_go (fun _ k => XS.iloadN X0.here hx rfl (hb hby d7_0) rfl k) ?_
  show own_Ends _ _ _ _ _ _ _ s₁ (mkF m 1 #[.val (.ref r0), .val (.int (Int32.ofNat s0)), .val (.int (4 : Int32))] [(.int (4 : Int32))])
  refine own_go (fun _ k => XS.iconst X0.here hx rfl (hb hby d7_1) k) ?_
  show own_Ends _ _ _ _ _ _ _ s₁ (mkF m 2 #[.val (.ref r0), .val (.int (Int32.ofNat s0)), .val (.int (4 : Int32))] [(.int (1 : Int32)), (.int (4 : Int32))])
  refine own_go (fun _ k => XS.icmpNo X0.here hx rfl (hb hby d7_2) rfl (flt (by decide)).1 k) ?_
  show own_Ends _ _ _ _ _ _ _ s₁ (mkF m 5 #[.val (.ref r0), .val (.int (Int32.ofNat s0)), .val (.int (4 : Int32))] [])
  refine own_go (fun _ k => XS.aloadN X0.here hx rfl (hb hby d7_5) rfl rfl k) ?_
  show own_Ends _ _ _ _ _ _ _ s₁ (mkF m 6 #[.val (.ref r0), .val (.int (Int32.ofNat s0)), .val (.int (4 : Int32))] [(.ref r0)])
  refine own_go (fun _ k => XS.iconst X0.here hx rfl (hb hby d7_6) k) ?_
  show own_Ends _ _ _ _ _ _ _ s₁ (mkF m 7 #[.val (.ref r0), .val (.int (Int32.ofNat s0)), .val (.int (4 : Int32))] [(.int (0 : Int32)), (.ref r0)])
  refine own_go (fun _ k => own_ldB X0 hx hZ e0 A (i := 0) (v := (.int (b 0))) (by decide) (by decide) (by decide) rfl (g := (mkF m 7 #[.val (.ref r0), .val (.int (Int32.ofNat s0)), .val (.int (4 : Int32))] [(.int (0 : Int32)), (.ref r0)])) rfl rfl (hb hby d7_7) _ k) ?_
  show own_Ends _ _ _ _ _ _ _ s₁ (mkF m 8 #[.val (.ref r0), .val (.int (Int32.ofNat s0)), .val (.int (4 : Int32))] [(.int (b 0))])
  refine own_go (fun _ k => XS.aloadN X0.here hx rfl (hb hby d7_8) rfl rfl k) ?_
  show own_Ends _ _ _ _ _ _ _ s₁ (mkF m 9 #[.val (.ref r0), .val (.int (Int32.ofNat s0)), .val (.int (4 : Int32))] [(.ref r0), (.int (b 0))])
  refine own_go (fun _ k => XS.iloadN X0.here hx rfl (hb hby d7_9) rfl k) ?_
  show own_Ends _ _ _ _ _ _ _ s₁ (mkF m 10 #[.val (.ref r0), .val (.int (Int32.ofNat s0)), .val (.int (4 : Int32))] [(.int (Int32.ofNat s0)), (.ref r0), (.int (b 0))])
  refine own_go (fun _ k => own_ldB X0 hx hZ e0 A (i := s0) (v := (.int (b s0))) (own_ofNat_nn (by omega)) (own_ofNat_cl (by omega)) (by omega) rfl (g := (mkF m 10 #[.val (.ref r0), .val (.int (Int32.ofNat s0)), .val (.int (4 : Int32))] [(.int (Int32.ofNat s0)), (.ref r0), (.int (b 0))])) rfl rfl (hb hby d7_10) _ k) ?_
  show own_Ends _ _ _ _ _ _ _ s₁ (mkF m 11 #[.val (.ref r0), .val (.int (Int32.ofNat s0)), .val (.int (4 : Int32))] [(.int (b s0)), (.int (b 0))])
  by_cases h0 : (b 0) = (b s0)
  · refine own_go (fun _ k => XS.icmpNo X0.here hx rfl (hb hby d7_11) rfl (teq h0).2 k) ?_
    show own_Ends _ _ _ _ _ _ _ s₁ (mkF m 14 #[.val (.ref r0), .val (.int (Int32.ofNat s0)), .val (.int (4 : Int32))] [])
    refine own_go (fun _ k => XS.iloadN X0.here hx rfl (hb hby d7_14) rfl k) ?_
    show own_Ends _ _ _ _ _ _ _ s₁ (mkF m 15 #[.val (.ref r0), .val (.int (Int32.ofNat s0)), .val (.int (4 : Int32))] [(.int (4 : Int32))])
    refine own_go (fun _ k => XS.iconst X0.here hx rfl (hb hby d7_15) k) ?_
    show own_Ends _ _ _ _ _ _ _ s₁ (mkF m 16 #[.val (.ref r0), .val (.int (Int32.ofNat s0)), .val (.int (4 : Int32))] [(.int (2 : Int32)), (.int (4 : Int32))])
    refine own_go (fun _ k => XS.icmpNo X0.here hx rfl (hb hby d7_16) rfl (flt (by decide)).1 k) ?_
    show own_Ends _ _ _ _ _ _ _ s₁ (mkF m 19 #[.val (.ref r0), .val (.int (Int32.ofNat s0)), .val (.int (4 : Int32))] [])
    refine own_go (fun _ k => XS.aloadN X0.here hx rfl (hb hby d7_19) rfl rfl k) ?_
    show own_Ends _ _ _ _ _ _ _ s₁ (mkF m 20 #[.val (.ref r0), .val (.int (Int32.ofNat s0)), .val (.int (4 : Int32))] [(.ref r0)])
    refine own_go (fun _ k => XS.iconst X0.here hx rfl (hb hby d7_20) k) ?_
    show own_Ends _ _ _ _ _ _ _ s₁ (mkF m 21 #[.val (.ref r0), .val (.int (Int32.ofNat s0)), .val (.int (4 : Int32))] [(.int (1 : Int32)), (.ref r0)])
    refine own_go (fun _ k => own_ldB X0 hx hZ e0 A (i := 1) (v := (.int (b 1))) (by decide) (by decide) (by decide) rfl (g := (mkF m 21 #[.val (.ref r0), .val (.int (Int32.ofNat s0)), .val (.int (4 : Int32))] [(.int (1 : Int32)), (.ref r0)])) rfl rfl (hb hby d7_21) _ k) ?_
    show own_Ends _ _ _ _ _ _ _ s₁ (mkF m 22 #[.val (.ref r0), .val (.int (Int32.ofNat s0)), .val (.int (4 : Int32))] [(.int (b 1))])
    refine own_go (fun _ k => XS.aloadN X0.here hx rfl (hb hby d7_22) rfl rfl k) ?_
    show own_Ends _ _ _ _ _ _ _ s₁ (mkF m 23 #[.val (.ref r0), .val (.int (Int32.ofNat s0)), .val (.int (4 : Int32))] [(.ref r0), (.int (b 1))])
    refine own_go (fun _ k => XS.iloadN X0.here hx rfl (hb hby d7_23) rfl k) ?_
    show own_Ends _ _ _ _ _ _ _ s₁ (mkF m 24 #[.val (.ref r0), .val (.int (Int32.ofNat s0)), .val (.int (4 : Int32))] [(.int (Int32.ofNat s0)), (.ref r0), (.int (b 1))])
    refine own_go (fun _ k => XS.iconst X0.here hx rfl (hb hby d7_24) k) ?_
    show own_Ends _ _ _ _ _ _ _ s₁ (mkF m 25 #[.val (.ref r0), .val (.int (Int32.ofNat s0)), .val (.int (4 : Int32))] [(.int (1 : Int32)), (.int (Int32.ofNat s0)), (.ref r0), (.int (b 1))])
    refine own_go (fun _ k => XS.iadd X0.here hx rfl (hb hby d7_25) rfl k) ?_
    show own_Ends _ _ _ _ _ _ _ s₁ (mkF m 26 #[.val (.ref r0), .val (.int (Int32.ofNat s0)), .val (.int (4 : Int32))] [(.int ((Int32.ofNat s0) + (1 : Int32))), (.ref r0), (.int (b 1))])
    rw [show ((Int32.ofNat s0) + (1 : Int32)) = (Int32.ofNat (s0 + 1)) from own_ofNat_add (j := 1) (by omega)]
    show own_Ends _ _ _ _ _ _ _ s₁ (mkF m 26 #[.val (.ref r0), .val (.int (Int32.ofNat s0)), .val (.int (4 : Int32))] [(.int (Int32.ofNat (s0 + 1))), (.ref r0), (.int (b 1))])
    refine own_go (fun _ k => own_ldB X0 hx hZ e0 A (i := (s0 + 1)) (v := (.int (b (s0 + 1)))) (own_ofNat_nn (by omega)) (own_ofNat_cl (by omega)) (by omega) rfl (g := (mkF m 26 #[.val (.ref r0), .val (.int (Int32.ofNat s0)), .val (.int (4 : Int32))] [(.int (Int32.ofNat (s0 + 1))), (.ref r0), (.int (b 1))])) rfl rfl (hb hby d7_26) _ k) ?_
    show own_Ends _ _ _ _ _ _ _ s₁ (mkF m 27 #[.val (.ref r0), .val (.int (Int32.ofNat s0)), .val (.int (4 : Int32))] [(.int (b (s0 + 1))), (.int (b 1))])
    by_cases h1 : (b 1) = (b (s0 + 1))
    · refine own_go (fun _ k => XS.icmpNo X0.here hx rfl (hb hby d7_27) rfl (teq h1).2 k) ?_
      show own_Ends _ _ _ _ _ _ _ s₁ (mkF m 30 #[.val (.ref r0), .val (.int (Int32.ofNat s0)), .val (.int (4 : Int32))] [])
      refine own_go (fun _ k => XS.iloadN X0.here hx rfl (hb hby d7_30) rfl k) ?_
      show own_Ends _ _ _ _ _ _ _ s₁ (mkF m 31 #[.val (.ref r0), .val (.int (Int32.ofNat s0)), .val (.int (4 : Int32))] [(.int (4 : Int32))])
      refine own_go (fun _ k => XS.iconst X0.here hx rfl (hb hby d7_31) k) ?_
      show own_Ends _ _ _ _ _ _ _ s₁ (mkF m 32 #[.val (.ref r0), .val (.int (Int32.ofNat s0)), .val (.int (4 : Int32))] [(.int (3 : Int32)), (.int (4 : Int32))])
      refine own_go (fun _ k => XS.icmpNo X0.here hx rfl (hb hby d7_32) rfl (flt (by decide)).1 k) ?_
      show own_Ends _ _ _ _ _ _ _ s₁ (mkF m 35 #[.val (.ref r0), .val (.int (Int32.ofNat s0)), .val (.int (4 : Int32))] [])
      refine own_go (fun _ k => XS.aloadN X0.here hx rfl (hb hby d7_35) rfl rfl k) ?_
      show own_Ends _ _ _ _ _ _ _ s₁ (mkF m 36 #[.val (.ref r0), .val (.int (Int32.ofNat s0)), .val (.int (4 : Int32))] [(.ref r0)])
      refine own_go (fun _ k => XS.iconst X0.here hx rfl (hb hby d7_36) k) ?_
      show own_Ends _ _ _ _ _ _ _ s₁ (mkF m 37 #[.val (.ref r0), .val (.int (Int32.ofNat s0)), .val (.int (4 : Int32))] [(.int (2 : Int32)), (.ref r0)])
      refine own_go (fun _ k => own_ldB X0 hx hZ e0 A (i := 2) (v := (.int (b 2))) (by decide) (by decide) (by decide) rfl (g := (mkF m 37 #[.val (.ref r0), .val (.int (Int32.ofNat s0)), .val (.int (4 : Int32))] [(.int (2 : Int32)), (.ref r0)])) rfl rfl (hb hby d7_37) _ k) ?_
      show own_Ends _ _ _ _ _ _ _ s₁ (mkF m 38 #[.val (.ref r0), .val (.int (Int32.ofNat s0)), .val (.int (4 : Int32))] [(.int (b 2))])
      refine own_go (fun _ k => XS.aloadN X0.here hx rfl (hb hby d7_38) rfl rfl k) ?_
      show own_Ends _ _ _ _ _ _ _ s₁ (mkF m 39 #[.val (.ref r0), .val (.int (Int32.ofNat s0)), .val (.int (4 : Int32))] [(.ref r0), (.int (b 2))])
      refine own_go (fun _ k => XS.iloadN X0.here hx rfl (hb hby d7_39) rfl k) ?_
      show own_Ends _ _ _ _ _ _ _ s₁ (mkF m 40 #[.val (.ref r0), .val (.int (Int32.ofNat s0)), .val (.int (4 : Int32))] [(.int (Int32.ofNat s0)), (.ref r0), (.int (b 2))])
      refine own_go (fun _ k => XS.iconst X0.here hx rfl (hb hby d7_40) k) ?_
      show own_Ends _ _ _ _ _ _ _ s₁ (mkF m 41 #[.val (.ref r0), .val (.int (Int32.ofNat s0)), .val (.int (4 : Int32))] [(.int (2 : Int32)), (.int (Int32.ofNat s0)), (.ref r0), (.int (b 2))])
      refine own_go (fun _ k => XS.iadd X0.here hx rfl (hb hby d7_41) rfl k) ?_
      show own_Ends _ _ _ _ _ _ _ s₁ (mkF m 42 #[.val (.ref r0), .val (.int (Int32.ofNat s0)), .val (.int (4 : Int32))] [(.int ((Int32.ofNat s0) + (2 : Int32))), (.ref r0), (.int (b 2))])
      rw [show ((Int32.ofNat s0) + (2 : Int32)) = (Int32.ofNat (s0 + 2)) from own_ofNat_add (j := 2) (by omega)]
      show own_Ends _ _ _ _ _ _ _ s₁ (mkF m 42 #[.val (.ref r0), .val (.int (Int32.ofNat s0)), .val (.int (4 : Int32))] [(.int (Int32.ofNat (s0 + 2))), (.ref r0), (.int (b 2))])
      refine own_go (fun _ k => own_ldB X0 hx hZ e0 A (i := (s0 + 2)) (v := (.int (b (s0 + 2)))) (own_ofNat_nn (by omega)) (own_ofNat_cl (by omega)) (by omega) rfl (g := (mkF m 42 #[.val (.ref r0), .val (.int (Int32.ofNat s0)), .val (.int (4 : Int32))] [(.int (Int32.ofNat (s0 + 2))), (.ref r0), (.int (b 2))])) rfl rfl (hb hby d7_42) _ k) ?_
      show own_Ends _ _ _ _ _ _ _ s₁ (mkF m 43 #[.val (.ref r0), .val (.int (Int32.ofNat s0)), .val (.int (4 : Int32))] [(.int (b (s0 + 2))), (.int (b 2))])
      by_cases h2 : (b 2) = (b (s0 + 2))
      · refine own_go (fun _ k => XS.icmpNo X0.here hx rfl (hb hby d7_43) rfl (teq h2).2 k) ?_
        show own_Ends _ _ _ _ _ _ _ s₁ (mkF m 46 #[.val (.ref r0), .val (.int (Int32.ofNat s0)), .val (.int (4 : Int32))] [])
        refine own_go (fun _ k => XS.iloadN X0.here hx rfl (hb hby d7_46) rfl k) ?_
        show own_Ends _ _ _ _ _ _ _ s₁ (mkF m 47 #[.val (.ref r0), .val (.int (Int32.ofNat s0)), .val (.int (4 : Int32))] [(.int (4 : Int32))])
        refine own_go (fun _ k => XS.iconst X0.here hx rfl (hb hby d7_47) k) ?_
        show own_Ends _ _ _ _ _ _ _ s₁ (mkF m 48 #[.val (.ref r0), .val (.int (Int32.ofNat s0)), .val (.int (4 : Int32))] [(.int (4 : Int32)), (.int (4 : Int32))])
        refine own_go (fun _ k => XS.icmpNo X0.here hx rfl (hb hby d7_48) rfl (flt (by decide)).1 k) ?_
        show own_Ends _ _ _ _ _ _ _ s₁ (mkF m 51 #[.val (.ref r0), .val (.int (Int32.ofNat s0)), .val (.int (4 : Int32))] [])
        refine own_go (fun _ k => XS.aloadN X0.here hx rfl (hb hby d7_51) rfl rfl k) ?_
        show own_Ends _ _ _ _ _ _ _ s₁ (mkF m 52 #[.val (.ref r0), .val (.int (Int32.ofNat s0)), .val (.int (4 : Int32))] [(.ref r0)])
        refine own_go (fun _ k => XS.iconst X0.here hx rfl (hb hby d7_52) k) ?_
        show own_Ends _ _ _ _ _ _ _ s₁ (mkF m 53 #[.val (.ref r0), .val (.int (Int32.ofNat s0)), .val (.int (4 : Int32))] [(.int (3 : Int32)), (.ref r0)])
        refine own_go (fun _ k => own_ldB X0 hx hZ e0 A (i := 3) (v := (.int (b 3))) (by decide) (by decide) (by decide) rfl (g := (mkF m 53 #[.val (.ref r0), .val (.int (Int32.ofNat s0)), .val (.int (4 : Int32))] [(.int (3 : Int32)), (.ref r0)])) rfl rfl (hb hby d7_53) _ k) ?_
        show own_Ends _ _ _ _ _ _ _ s₁ (mkF m 54 #[.val (.ref r0), .val (.int (Int32.ofNat s0)), .val (.int (4 : Int32))] [(.int (b 3))])
        refine own_go (fun _ k => XS.aloadN X0.here hx rfl (hb hby d7_54) rfl rfl k) ?_
        show own_Ends _ _ _ _ _ _ _ s₁ (mkF m 55 #[.val (.ref r0), .val (.int (Int32.ofNat s0)), .val (.int (4 : Int32))] [(.ref r0), (.int (b 3))])
        refine own_go (fun _ k => XS.iloadN X0.here hx rfl (hb hby d7_55) rfl k) ?_
        show own_Ends _ _ _ _ _ _ _ s₁ (mkF m 56 #[.val (.ref r0), .val (.int (Int32.ofNat s0)), .val (.int (4 : Int32))] [(.int (Int32.ofNat s0)), (.ref r0), (.int (b 3))])
        refine own_go (fun _ k => XS.iconst X0.here hx rfl (hb hby d7_56) k) ?_
        show own_Ends _ _ _ _ _ _ _ s₁ (mkF m 57 #[.val (.ref r0), .val (.int (Int32.ofNat s0)), .val (.int (4 : Int32))] [(.int (3 : Int32)), (.int (Int32.ofNat s0)), (.ref r0), (.int (b 3))])
        refine own_go (fun _ k => XS.iadd X0.here hx rfl (hb hby d7_57) rfl k) ?_
        show own_Ends _ _ _ _ _ _ _ s₁ (mkF m 58 #[.val (.ref r0), .val (.int (Int32.ofNat s0)), .val (.int (4 : Int32))] [(.int ((Int32.ofNat s0) + (3 : Int32))), (.ref r0), (.int (b 3))])
        rw [show ((Int32.ofNat s0) + (3 : Int32)) = (Int32.ofNat (s0 + 3)) from own_ofNat_add (j := 3) (by omega)]
        show own_Ends _ _ _ _ _ _ _ s₁ (mkF m 58 #[.val (.ref r0), .val (.int (Int32.ofNat s0)), .val (.int (4 : Int32))] [(.int (Int32.ofNat (s0 + 3))), (.ref r0), (.int (b 3))])
        refine own_go (fun _ k => own_ldB X0 hx hZ e0 A (i := (s0 + 3)) (v := (.int (b (s0 + 3)))) (own_ofNat_nn (by omega)) (own_ofNat_cl (by omega)) (by omega) rfl (g := (mkF m 58 #[.val (.ref r0), .val (.int (Int32.ofNat s0)), .val (.int (4 : Int32))] [(.int (Int32.ofNat (s0 + 3))), (.ref r0), (.int (b 3))])) rfl rfl (hb hby d7_58) _ k) ?_
        show own_Ends _ _ _ _ _ _ _ s₁ (mkF m 59 #[.val (.ref r0), .val (.int (Int32.ofNat s0)), .val (.int (4 : Int32))] [(.int (b (s0 + 3))), (.int (b 3))])
        by_cases h3 : (b 3) = (b (s0 + 3))
        · refine own_go (fun _ k => XS.icmpNo X0.here hx rfl (hb hby d7_59) rfl (teq h3).2 k) ?_
          show own_Ends _ _ _ _ _ _ _ s₁ (mkF m 62 #[.val (.ref r0), .val (.int (Int32.ofNat s0)), .val (.int (4 : Int32))] [])
          refine own_go (fun _ k => XS.iloadN X0.here hx rfl (hb hby d7_62) rfl k) ?_
          show own_Ends _ _ _ _ _ _ _ s₁ (mkF m 63 #[.val (.ref r0), .val (.int (Int32.ofNat s0)), .val (.int (4 : Int32))] [(.int (4 : Int32))])
          refine own_go (fun _ k => XS.iconst X0.here hx rfl (hb hby d7_63) k) ?_
          show own_Ends _ _ _ _ _ _ _ s₁ (mkF m 64 #[.val (.ref r0), .val (.int (Int32.ofNat s0)), .val (.int (4 : Int32))] [(.int (5 : Int32)), (.int (4 : Int32))])
          refine own_go (fun _ k => XS.icmpYes X0.here hx rfl (pc0 := 64) (pc' := 78) rfl (hb hby d7_64) rfl (tlt (by decide)).1 (by decide) (by decide) k) ?_
          show own_Ends _ _ _ _ _ _ _ s₁ (mkF m 78 #[.val (.ref r0), .val (.int (Int32.ofNat s0)), .val (.int (4 : Int32))] [])
          refine own_go (fun _ k => XS.iloadN X0.here hx rfl (hb hby d7_78) rfl k) ?_
          show own_Ends _ _ _ _ _ _ _ s₁ (mkF m 79 #[.val (.ref r0), .val (.int (Int32.ofNat s0)), .val (.int (4 : Int32))] [(.int (4 : Int32))])
          refine own_go (fun _ k => XS.bipush X0.here hx rfl (hb hby d7_79) k) ?_
          show own_Ends _ _ _ _ _ _ _ s₁ (mkF m 81 #[.val (.ref r0), .val (.int (Int32.ofNat s0)), .val (.int (4 : Int32))] [(.int (6 : Int32)), (.int (4 : Int32))])
          refine own_go (fun _ k => XS.icmpYes X0.here hx rfl (pc0 := 81) (pc' := 95) rfl (hb hby d7_81) rfl (tlt (by decide)).1 (by decide) (by decide) k) ?_
          show own_Ends _ _ _ _ _ _ _ s₁ (mkF m 95 #[.val (.ref r0), .val (.int (Int32.ofNat s0)), .val (.int (4 : Int32))] [])
          refine own_go (fun _ k => XS.iconst X0.here hx rfl (hb hby d7_95) k) ?_
          show own_Ends _ _ _ _ _ _ _ s₁ (mkF m 96 #[.val (.ref r0), .val (.int (Int32.ofNat s0)), .val (.int (4 : Int32))] [(.int (1 : Int32))])
          refine own_go (fun _ k => XS.goto X0.here hx rfl (pc0 := 96) (pc' := 100) rfl (hb hby d7_96) (by decide) (by decide) k) ?_
          show own_Ends _ _ _ _ _ _ _ s₁ (mkF m 100 #[.val (.ref r0), .val (.int (Int32.ofNat s0)), .val (.int (4 : Int32))] [(.int (1 : Int32))])
          exact own_retZ X0 hx hlk hret (by decide) (hb hby d7_100) (by decide) (by decide) ⟨Or.inl ⟨rfl, fun j hj => by
            have seg : j = 0 ∨ j = 1 ∨ j = 2 ∨ j = 3 := by omega
            rcases seg with rfl | rfl | rfl | rfl
            · exact h0
            · exact h1
            · exact h2
            · exact h3⟩, rfl, e0⟩
        · refine own_go (fun _ k => XS.icmpYes X0.here hx rfl (pc0 := 59) (pc' := 99) rfl (hb hby d7_59) rfl (feq h3).2 (by decide) (by decide) k) ?_
          show own_Ends _ _ _ _ _ _ _ s₁ (mkF m 99 #[.val (.ref r0), .val (.int (Int32.ofNat s0)), .val (.int (4 : Int32))] [])
          refine own_go (fun _ k => XS.iconst X0.here hx rfl (hb hby d7_99) k) ?_
          show own_Ends _ _ _ _ _ _ _ s₁ (mkF m 100 #[.val (.ref r0), .val (.int (Int32.ofNat s0)), .val (.int (4 : Int32))] [(.int (0 : Int32))])
          exact own_retZ X0 hx hlk hret (by decide) (hb hby d7_100) (by decide) (by decide) ⟨Or.inr ⟨rfl, fun q => h3 (q 3 (by decide))⟩, rfl, e0⟩
      · refine own_go (fun _ k => XS.icmpYes X0.here hx rfl (pc0 := 43) (pc' := 99) rfl (hb hby d7_43) rfl (feq h2).2 (by decide) (by decide) k) ?_
        show own_Ends _ _ _ _ _ _ _ s₁ (mkF m 99 #[.val (.ref r0), .val (.int (Int32.ofNat s0)), .val (.int (4 : Int32))] [])
        refine own_go (fun _ k => XS.iconst X0.here hx rfl (hb hby d7_99) k) ?_
        show own_Ends _ _ _ _ _ _ _ s₁ (mkF m 100 #[.val (.ref r0), .val (.int (Int32.ofNat s0)), .val (.int (4 : Int32))] [(.int (0 : Int32))])
        exact own_retZ X0 hx hlk hret (by decide) (hb hby d7_100) (by decide) (by decide) ⟨Or.inr ⟨rfl, fun q => h2 (q 2 (by decide))⟩, rfl, e0⟩
    · refine own_go (fun _ k => XS.icmpYes X0.here hx rfl (pc0 := 27) (pc' := 99) rfl (hb hby d7_27) rfl (feq h1).2 (by decide) (by decide) k) ?_
      show own_Ends _ _ _ _ _ _ _ s₁ (mkF m 99 #[.val (.ref r0), .val (.int (Int32.ofNat s0)), .val (.int (4 : Int32))] [])
      refine own_go (fun _ k => XS.iconst X0.here hx rfl (hb hby d7_99) k) ?_
      show own_Ends _ _ _ _ _ _ _ s₁ (mkF m 100 #[.val (.ref r0), .val (.int (Int32.ofNat s0)), .val (.int (4 : Int32))] [(.int (0 : Int32))])
      exact own_retZ X0 hx hlk hret (by decide) (hb hby d7_100) (by decide) (by decide) ⟨Or.inr ⟨rfl, fun q => h1 (q 1 (by decide))⟩, rfl, e0⟩
  · refine own_go (fun _ k => XS.icmpYes X0.here hx rfl (pc0 := 11) (pc' := 99) rfl (hb hby d7_11) rfl (feq h0).2 (by decide) (by decide) k) ?_
    show own_Ends _ _ _ _ _ _ _ s₁ (mkF m 99 #[.val (.ref r0), .val (.int (Int32.ofNat s0)), .val (.int (4 : Int32))] [])
    refine own_go (fun _ k => XS.iconst X0.here hx rfl (hb hby d7_99) k) ?_
    show own_Ends _ _ _ _ _ _ _ s₁ (mkF m 100 #[.val (.ref r0), .val (.int (Int32.ofNat s0)), .val (.int (4 : Int32))] [(.int (0 : Int32))])
    exact own_retZ X0 hx hlk hret (by decide) (hb hby d7_100) (by decide) (by decide) ⟨Or.inr ⟨rfl, fun q => h0 (q 0 (by decide))⟩, rfl, e0⟩
set_option maxRecDepth 65536 in
set_option maxHeartbeats 40000000 in
theorem rm7_5 (l : Launch) (Z : State) (a0 : Array Value) (hw : ∀ d ∈ tables_1, d.before a0 Z = true) (r0 : Addr) (p1 : Int32) (p2 : Int32) (h0 : Heap) (kc : ClassId) (b : Nat → Int32) (s0 : Nat) (A : own_Ar Z h0 r0 kc .byte 7 (fun j => .int (b j))) (hs : s0 + 5 ≤ 7) (hp1 : p1 = Int32.ofNat s0) (hp2 : p2 = 5) :
    own_C l (⟨"com/example/prefixleap/prefixleap/core/PrefixTableOfPinLaw", "match", "([BII)Z"⟩ : MethodName) method_3_code 3 (some .boolean) ({ frames := 0, cells := 0, slots := 0, locals := 0 } : Room) Z #[(.ref r0), (.int p1), (.int p2)] h0 (fun v h L => ((v = some (.int 1) ∧ ∀ j, j < 5 → b j = b (s0 + j)) ∨ (v = some (.int 0) ∧ ¬ ∀ j, j < 5 → b j = b (s0 + j))) ∧ L = [] ∧ h = h0) := by
  refine own_enter pn_7 ?_
  intro p e s m below meth c s₁ X0 hx hby hml hown hnm hret hlk hZ e0 hZH hnamed
  replace hown : s.vm.findClass "com/example/prefixleap/prefixleap/core/PrefixTableOfPinLaw" = some m.cls := hown
  have ef : entryFrame m #[(.ref r0), (.int p1), (.int p2)] 3 = mkF m 0 #[.val (.ref r0), .val (.int p1), .val (.int p2)] [] := by first | rfl | (simp [entryFrame, mkF, argsToLocals, Value.category, maxLocals]; done)
  refine own_cast ef ?_
  show own_Ends _ _ _ _ _ _ _ s₁ (mkF m 0 #[.val (.ref r0), .val (.int p1), .val (.int p2)] [])
  subst hp1 hp2
  show own_Ends _ _ _ _ _ _ _ s₁ (mkF m 0 #[.val (.ref r0), .val (.int (Int32.ofNat s0)), .val (.int (5 : Int32))] [])
  refine own_go (fun _ k => XS.iloadN X0.here hx rfl (hb hby d7_0) rfl k) ?_
  show own_Ends _ _ _ _ _ _ _ s₁ (mkF m 1 #[.val (.ref r0), .val (.int (Int32.ofNat s0)), .val (.int (5 : Int32))] [(.int (5 : Int32))])
  refine own_go (fun _ k => XS.iconst X0.here hx rfl (hb hby d7_1) k) ?_
  show own_Ends _ _ _ _ _ _ _ s₁ (mkF m 2 #[.val (.ref r0), .val (.int (Int32.ofNat s0)), .val (.int (5 : Int32))] [(.int (1 : Int32)), (.int (5 : Int32))])
  refine own_go (fun _ k => XS.icmpNo X0.here hx rfl (hb hby d7_2) rfl (flt (by decide)).1 k) ?_
  show own_Ends _ _ _ _ _ _ _ s₁ (mkF m 5 #[.val (.ref r0), .val (.int (Int32.ofNat s0)), .val (.int (5 : Int32))] [])
  refine own_go (fun _ k => XS.aloadN X0.here hx rfl (hb hby d7_5) rfl rfl k) ?_
  show own_Ends _ _ _ _ _ _ _ s₁ (mkF m 6 #[.val (.ref r0), .val (.int (Int32.ofNat s0)), .val (.int (5 : Int32))] [(.ref r0)])
  refine own_go (fun _ k => XS.iconst X0.here hx rfl (hb hby d7_6) k) ?_
  show own_Ends _ _ _ _ _ _ _ s₁ (mkF m 7 #[.val (.ref r0), .val (.int (Int32.ofNat s0)), .val (.int (5 : Int32))] [(.int (0 : Int32)), (.ref r0)])
  refine own_go (fun _ k => own_ldB X0 hx hZ e0 A (i := 0) (v := (.int (b 0))) (by decide) (by decide) (by decide) rfl (g := (mkF m 7 #[.val (.ref r0), .val (.int (Int32.ofNat s0)), .val (.int (5 : Int32))] [(.int (0 : Int32)), (.ref r0)])) rfl rfl (hb hby d7_7) _ k) ?_
  show own_Ends _ _ _ _ _ _ _ s₁ (mkF m 8 #[.val (.ref r0), .val (.int (Int32.ofNat s0)), .val (.int (5 : Int32))] [(.int (b 0))])
  refine own_go (fun _ k => XS.aloadN X0.here hx rfl (hb hby d7_8) rfl rfl k) ?_
  show own_Ends _ _ _ _ _ _ _ s₁ (mkF m 9 #[.val (.ref r0), .val (.int (Int32.ofNat s0)), .val (.int (5 : Int32))] [(.ref r0), (.int (b 0))])
  refine own_go (fun _ k => XS.iloadN X0.here hx rfl (hb hby d7_9) rfl k) ?_
  show own_Ends _ _ _ _ _ _ _ s₁ (mkF m 10 #[.val (.ref r0), .val (.int (Int32.ofNat s0)), .val (.int (5 : Int32))] [(.int (Int32.ofNat s0)), (.ref r0), (.int (b 0))])
  refine own_go (fun _ k => own_ldB X0 hx hZ e0 A (i := s0) (v := (.int (b s0))) (own_ofNat_nn (by omega)) (own_ofNat_cl (by omega)) (by omega) rfl (g := (mkF m 10 #[.val (.ref r0), .val (.int (Int32.ofNat s0)), .val (.int (5 : Int32))] [(.int (Int32.ofNat s0)), (.ref r0), (.int (b 0))])) rfl rfl (hb hby d7_10) _ k) ?_
  show own_Ends _ _ _ _ _ _ _ s₁ (mkF m 11 #[.val (.ref r0), .val (.int (Int32.ofNat s0)), .val (.int (5 : Int32))] [(.int (b s0)), (.int (b 0))])
  by_cases h0 : (b 0) = (b s0)
  · refine own_go (fun _ k => XS.icmpNo X0.here hx rfl (hb hby d7_11) rfl (teq h0).2 k) ?_
    show own_Ends _ _ _ _ _ _ _ s₁ (mkF m 14 #[.val (.ref r0), .val (.int (Int32.ofNat s0)), .val (.int (5 : Int32))] [])
    refine own_go (fun _ k => XS.iloadN X0.here hx rfl (hb hby d7_14) rfl k) ?_
    show own_Ends _ _ _ _ _ _ _ s₁ (mkF m 15 #[.val (.ref r0), .val (.int (Int32.ofNat s0)), .val (.int (5 : Int32))] [(.int (5 : Int32))])
    refine own_go (fun _ k => XS.iconst X0.here hx rfl (hb hby d7_15) k) ?_
    show own_Ends _ _ _ _ _ _ _ s₁ (mkF m 16 #[.val (.ref r0), .val (.int (Int32.ofNat s0)), .val (.int (5 : Int32))] [(.int (2 : Int32)), (.int (5 : Int32))])
    refine own_go (fun _ k => XS.icmpNo X0.here hx rfl (hb hby d7_16) rfl (flt (by decide)).1 k) ?_
    show own_Ends _ _ _ _ _ _ _ s₁ (mkF m 19 #[.val (.ref r0), .val (.int (Int32.ofNat s0)), .val (.int (5 : Int32))] [])
    refine own_go (fun _ k => XS.aloadN X0.here hx rfl (hb hby d7_19) rfl rfl k) ?_
    show own_Ends _ _ _ _ _ _ _ s₁ (mkF m 20 #[.val (.ref r0), .val (.int (Int32.ofNat s0)), .val (.int (5 : Int32))] [(.ref r0)])
    refine own_go (fun _ k => XS.iconst X0.here hx rfl (hb hby d7_20) k) ?_
    show own_Ends _ _ _ _ _ _ _ s₁ (mkF m 21 #[.val (.ref r0), .val (.int (Int32.ofNat s0)), .val (.int (5 : Int32))] [(.int (1 : Int32)), (.ref r0)])
    refine own_go (fun _ k => own_ldB X0 hx hZ e0 A (i := 1) (v := (.int (b 1))) (by decide) (by decide) (by decide) rfl (g := (mkF m 21 #[.val (.ref r0), .val (.int (Int32.ofNat s0)), .val (.int (5 : Int32))] [(.int (1 : Int32)), (.ref r0)])) rfl rfl (hb hby d7_21) _ k) ?_
    show own_Ends _ _ _ _ _ _ _ s₁ (mkF m 22 #[.val (.ref r0), .val (.int (Int32.ofNat s0)), .val (.int (5 : Int32))] [(.int (b 1))])
    refine own_go (fun _ k => XS.aloadN X0.here hx rfl (hb hby d7_22) rfl rfl k) ?_
    show own_Ends _ _ _ _ _ _ _ s₁ (mkF m 23 #[.val (.ref r0), .val (.int (Int32.ofNat s0)), .val (.int (5 : Int32))] [(.ref r0), (.int (b 1))])
    refine own_go (fun _ k => XS.iloadN X0.here hx rfl (hb hby d7_23) rfl k) ?_
    show own_Ends _ _ _ _ _ _ _ s₁ (mkF m 24 #[.val (.ref r0), .val (.int (Int32.ofNat s0)), .val (.int (5 : Int32))] [(.int (Int32.ofNat s0)), (.ref r0), (.int (b 1))])
    refine own_go (fun _ k => XS.iconst X0.here hx rfl (hb hby d7_24) k) ?_
    show own_Ends _ _ _ _ _ _ _ s₁ (mkF m 25 #[.val (.ref r0), .val (.int (Int32.ofNat s0)), .val (.int (5 : Int32))] [(.int (1 : Int32)), (.int (Int32.ofNat s0)), (.ref r0), (.int (b 1))])
    refine own_go (fun _ k => XS.iadd X0.here hx rfl (hb hby d7_25) rfl k) ?_
    show own_Ends _ _ _ _ _ _ _ s₁ (mkF m 26 #[.val (.ref r0), .val (.int (Int32.ofNat s0)), .val (.int (5 : Int32))] [(.int ((Int32.ofNat s0) + (1 : Int32))), (.ref r0), (.int (b 1))])
    rw [show ((Int32.ofNat s0) + (1 : Int32)) = (Int32.ofNat (s0 + 1)) from own_ofNat_add (j := 1) (by omega)]
    show own_Ends _ _ _ _ _ _ _ s₁ (mkF m 26 #[.val (.ref r0), .val (.int (Int32.ofNat s0)), .val (.int (5 : Int32))] [(.int (Int32.ofNat (s0 + 1))), (.ref r0), (.int (b 1))])
    refine own_go (fun _ k => own_ldB X0 hx hZ e0 A (i := (s0 + 1)) (v := (.int (b (s0 + 1)))) (own_ofNat_nn (by omega)) (own_ofNat_cl (by omega)) (by omega) rfl (g := (mkF m 26 #[.val (.ref r0), .val (.int (Int32.ofNat s0)), .val (.int (5 : Int32))] [(.int (Int32.ofNat (s0 + 1))), (.ref r0), (.int (b 1))])) rfl rfl (hb hby d7_26) _ k) ?_
    show own_Ends _ _ _ _ _ _ _ s₁ (mkF m 27 #[.val (.ref r0), .val (.int (Int32.ofNat s0)), .val (.int (5 : Int32))] [(.int (b (s0 + 1))), (.int (b 1))])
    by_cases h1 : (b 1) = (b (s0 + 1))
    · refine own_go (fun _ k => XS.icmpNo X0.here hx rfl (hb hby d7_27) rfl (teq h1).2 k) ?_
      show own_Ends _ _ _ _ _ _ _ s₁ (mkF m 30 #[.val (.ref r0), .val (.int (Int32.ofNat s0)), .val (.int (5 : Int32))] [])
      refine own_go (fun _ k => XS.iloadN X0.here hx rfl (hb hby d7_30) rfl k) ?_
      show own_Ends _ _ _ _ _ _ _ s₁ (mkF m 31 #[.val (.ref r0), .val (.int (Int32.ofNat s0)), .val (.int (5 : Int32))] [(.int (5 : Int32))])
      refine own_go (fun _ k => XS.iconst X0.here hx rfl (hb hby d7_31) k) ?_
      show own_Ends _ _ _ _ _ _ _ s₁ (mkF m 32 #[.val (.ref r0), .val (.int (Int32.ofNat s0)), .val (.int (5 : Int32))] [(.int (3 : Int32)), (.int (5 : Int32))])
      refine own_go (fun _ k => XS.icmpNo X0.here hx rfl (hb hby d7_32) rfl (flt (by decide)).1 k) ?_
      show own_Ends _ _ _ _ _ _ _ s₁ (mkF m 35 #[.val (.ref r0), .val (.int (Int32.ofNat s0)), .val (.int (5 : Int32))] [])
      refine own_go (fun _ k => XS.aloadN X0.here hx rfl (hb hby d7_35) rfl rfl k) ?_
      show own_Ends _ _ _ _ _ _ _ s₁ (mkF m 36 #[.val (.ref r0), .val (.int (Int32.ofNat s0)), .val (.int (5 : Int32))] [(.ref r0)])
      refine own_go (fun _ k => XS.iconst X0.here hx rfl (hb hby d7_36) k) ?_
      show own_Ends _ _ _ _ _ _ _ s₁ (mkF m 37 #[.val (.ref r0), .val (.int (Int32.ofNat s0)), .val (.int (5 : Int32))] [(.int (2 : Int32)), (.ref r0)])
      refine own_go (fun _ k => own_ldB X0 hx hZ e0 A (i := 2) (v := (.int (b 2))) (by decide) (by decide) (by decide) rfl (g := (mkF m 37 #[.val (.ref r0), .val (.int (Int32.ofNat s0)), .val (.int (5 : Int32))] [(.int (2 : Int32)), (.ref r0)])) rfl rfl (hb hby d7_37) _ k) ?_
      show own_Ends _ _ _ _ _ _ _ s₁ (mkF m 38 #[.val (.ref r0), .val (.int (Int32.ofNat s0)), .val (.int (5 : Int32))] [(.int (b 2))])
      refine own_go (fun _ k => XS.aloadN X0.here hx rfl (hb hby d7_38) rfl rfl k) ?_
      show own_Ends _ _ _ _ _ _ _ s₁ (mkF m 39 #[.val (.ref r0), .val (.int (Int32.ofNat s0)), .val (.int (5 : Int32))] [(.ref r0), (.int (b 2))])
      refine own_go (fun _ k => XS.iloadN X0.here hx rfl (hb hby d7_39) rfl k) ?_
      show own_Ends _ _ _ _ _ _ _ s₁ (mkF m 40 #[.val (.ref r0), .val (.int (Int32.ofNat s0)), .val (.int (5 : Int32))] [(.int (Int32.ofNat s0)), (.ref r0), (.int (b 2))])
      refine own_go (fun _ k => XS.iconst X0.here hx rfl (hb hby d7_40) k) ?_
      show own_Ends _ _ _ _ _ _ _ s₁ (mkF m 41 #[.val (.ref r0), .val (.int (Int32.ofNat s0)), .val (.int (5 : Int32))] [(.int (2 : Int32)), (.int (Int32.ofNat s0)), (.ref r0), (.int (b 2))])
      refine own_go (fun _ k => XS.iadd X0.here hx rfl (hb hby d7_41) rfl k) ?_
      show own_Ends _ _ _ _ _ _ _ s₁ (mkF m 42 #[.val (.ref r0), .val (.int (Int32.ofNat s0)), .val (.int (5 : Int32))] [(.int ((Int32.ofNat s0) + (2 : Int32))), (.ref r0), (.int (b 2))])
      rw [show ((Int32.ofNat s0) + (2 : Int32)) = (Int32.ofNat (s0 + 2)) from own_ofNat_add (j := 2) (by omega)]
      show own_Ends _ _ _ _ _ _ _ s₁ (mkF m 42 #[.val (.ref r0), .val (.int (Int32.ofNat s0)), .val (.int (5 : Int32))] [(.int (Int32.ofNat (s0 + 2))), (.ref r0), (.int (b 2))])
      refine own_go (fun _ k => own_ldB X0 hx hZ e0 A (i := (s0 + 2)) (v := (.int (b (s0 + 2)))) (own_ofNat_nn (by omega)) (own_ofNat_cl (by omega)) (by omega) rfl (g := (mkF m 42 #[.val (.ref r0), .val (.int (Int32.ofNat s0)), .val (.int (5 : Int32))] [(.int (Int32.ofNat (s0 + 2))), (.ref r0), (.int (b 2))])) rfl rfl (hb hby d7_42) _ k) ?_
      show own_Ends _ _ _ _ _ _ _ s₁ (mkF m 43 #[.val (.ref r0), .val (.int (Int32.ofNat s0)), .val (.int (5 : Int32))] [(.int (b (s0 + 2))), (.int (b 2))])
      by_cases h2 : (b 2) = (b (s0 + 2))
      · refine own_go (fun _ k => XS.icmpNo X0.here hx rfl (hb hby d7_43) rfl (teq h2).2 k) ?_
        show own_Ends _ _ _ _ _ _ _ s₁ (mkF m 46 #[.val (.ref r0), .val (.int (Int32.ofNat s0)), .val (.int (5 : Int32))] [])
        refine own_go (fun _ k => XS.iloadN X0.here hx rfl (hb hby d7_46) rfl k) ?_
        show own_Ends _ _ _ _ _ _ _ s₁ (mkF m 47 #[.val (.ref r0), .val (.int (Int32.ofNat s0)), .val (.int (5 : Int32))] [(.int (5 : Int32))])
        refine own_go (fun _ k => XS.iconst X0.here hx rfl (hb hby d7_47) k) ?_
        show own_Ends _ _ _ _ _ _ _ s₁ (mkF m 48 #[.val (.ref r0), .val (.int (Int32.ofNat s0)), .val (.int (5 : Int32))] [(.int (4 : Int32)), (.int (5 : Int32))])
        refine own_go (fun _ k => XS.icmpNo X0.here hx rfl (hb hby d7_48) rfl (flt (by decide)).1 k) ?_
        show own_Ends _ _ _ _ _ _ _ s₁ (mkF m 51 #[.val (.ref r0), .val (.int (Int32.ofNat s0)), .val (.int (5 : Int32))] [])
        refine own_go (fun _ k => XS.aloadN X0.here hx rfl (hb hby d7_51) rfl rfl k) ?_
        show own_Ends _ _ _ _ _ _ _ s₁ (mkF m 52 #[.val (.ref r0), .val (.int (Int32.ofNat s0)), .val (.int (5 : Int32))] [(.ref r0)])
        refine own_go (fun _ k => XS.iconst X0.here hx rfl (hb hby d7_52) k) ?_
        show own_Ends _ _ _ _ _ _ _ s₁ (mkF m 53 #[.val (.ref r0), .val (.int (Int32.ofNat s0)), .val (.int (5 : Int32))] [(.int (3 : Int32)), (.ref r0)])
        refine own_go (fun _ k => own_ldB X0 hx hZ e0 A (i := 3) (v := (.int (b 3))) (by decide) (by decide) (by decide) rfl (g := (mkF m 53 #[.val (.ref r0), .val (.int (Int32.ofNat s0)), .val (.int (5 : Int32))] [(.int (3 : Int32)), (.ref r0)])) rfl rfl (hb hby d7_53) _ k) ?_
        show own_Ends _ _ _ _ _ _ _ s₁ (mkF m 54 #[.val (.ref r0), .val (.int (Int32.ofNat s0)), .val (.int (5 : Int32))] [(.int (b 3))])
        refine own_go (fun _ k => XS.aloadN X0.here hx rfl (hb hby d7_54) rfl rfl k) ?_
        show own_Ends _ _ _ _ _ _ _ s₁ (mkF m 55 #[.val (.ref r0), .val (.int (Int32.ofNat s0)), .val (.int (5 : Int32))] [(.ref r0), (.int (b 3))])
        refine own_go (fun _ k => XS.iloadN X0.here hx rfl (hb hby d7_55) rfl k) ?_
        show own_Ends _ _ _ _ _ _ _ s₁ (mkF m 56 #[.val (.ref r0), .val (.int (Int32.ofNat s0)), .val (.int (5 : Int32))] [(.int (Int32.ofNat s0)), (.ref r0), (.int (b 3))])
        refine own_go (fun _ k => XS.iconst X0.here hx rfl (hb hby d7_56) k) ?_
        show own_Ends _ _ _ _ _ _ _ s₁ (mkF m 57 #[.val (.ref r0), .val (.int (Int32.ofNat s0)), .val (.int (5 : Int32))] [(.int (3 : Int32)), (.int (Int32.ofNat s0)), (.ref r0), (.int (b 3))])
        refine own_go (fun _ k => XS.iadd X0.here hx rfl (hb hby d7_57) rfl k) ?_
        show own_Ends _ _ _ _ _ _ _ s₁ (mkF m 58 #[.val (.ref r0), .val (.int (Int32.ofNat s0)), .val (.int (5 : Int32))] [(.int ((Int32.ofNat s0) + (3 : Int32))), (.ref r0), (.int (b 3))])
        rw [show ((Int32.ofNat s0) + (3 : Int32)) = (Int32.ofNat (s0 + 3)) from own_ofNat_add (j := 3) (by omega)]
        show own_Ends _ _ _ _ _ _ _ s₁ (mkF m 58 #[.val (.ref r0), .val (.int (Int32.ofNat s0)), .val (.int (5 : Int32))] [(.int (Int32.ofNat (s0 + 3))), (.ref r0), (.int (b 3))])
        refine own_go (fun _ k => own_ldB X0 hx hZ e0 A (i := (s0 + 3)) (v := (.int (b (s0 + 3)))) (own_ofNat_nn (by omega)) (own_ofNat_cl (by omega)) (by omega) rfl (g := (mkF m 58 #[.val (.ref r0), .val (.int (Int32.ofNat s0)), .val (.int (5 : Int32))] [(.int (Int32.ofNat (s0 + 3))), (.ref r0), (.int (b 3))])) rfl rfl (hb hby d7_58) _ k) ?_
        show own_Ends _ _ _ _ _ _ _ s₁ (mkF m 59 #[.val (.ref r0), .val (.int (Int32.ofNat s0)), .val (.int (5 : Int32))] [(.int (b (s0 + 3))), (.int (b 3))])
        by_cases h3 : (b 3) = (b (s0 + 3))
        · refine own_go (fun _ k => XS.icmpNo X0.here hx rfl (hb hby d7_59) rfl (teq h3).2 k) ?_
          show own_Ends _ _ _ _ _ _ _ s₁ (mkF m 62 #[.val (.ref r0), .val (.int (Int32.ofNat s0)), .val (.int (5 : Int32))] [])
          refine own_go (fun _ k => XS.iloadN X0.here hx rfl (hb hby d7_62) rfl k) ?_
          show own_Ends _ _ _ _ _ _ _ s₁ (mkF m 63 #[.val (.ref r0), .val (.int (Int32.ofNat s0)), .val (.int (5 : Int32))] [(.int (5 : Int32))])
          refine own_go (fun _ k => XS.iconst X0.here hx rfl (hb hby d7_63) k) ?_
          show own_Ends _ _ _ _ _ _ _ s₁ (mkF m 64 #[.val (.ref r0), .val (.int (Int32.ofNat s0)), .val (.int (5 : Int32))] [(.int (5 : Int32)), (.int (5 : Int32))])
          refine own_go (fun _ k => XS.icmpNo X0.here hx rfl (hb hby d7_64) rfl (flt (by decide)).1 k) ?_
          show own_Ends _ _ _ _ _ _ _ s₁ (mkF m 67 #[.val (.ref r0), .val (.int (Int32.ofNat s0)), .val (.int (5 : Int32))] [])
          refine own_go (fun _ k => XS.aloadN X0.here hx rfl (hb hby d7_67) rfl rfl k) ?_
          show own_Ends _ _ _ _ _ _ _ s₁ (mkF m 68 #[.val (.ref r0), .val (.int (Int32.ofNat s0)), .val (.int (5 : Int32))] [(.ref r0)])
          refine own_go (fun _ k => XS.iconst X0.here hx rfl (hb hby d7_68) k) ?_
          show own_Ends _ _ _ _ _ _ _ s₁ (mkF m 69 #[.val (.ref r0), .val (.int (Int32.ofNat s0)), .val (.int (5 : Int32))] [(.int (4 : Int32)), (.ref r0)])
          refine own_go (fun _ k => own_ldB X0 hx hZ e0 A (i := 4) (v := (.int (b 4))) (by decide) (by decide) (by decide) rfl (g := (mkF m 69 #[.val (.ref r0), .val (.int (Int32.ofNat s0)), .val (.int (5 : Int32))] [(.int (4 : Int32)), (.ref r0)])) rfl rfl (hb hby d7_69) _ k) ?_
          show own_Ends _ _ _ _ _ _ _ s₁ (mkF m 70 #[.val (.ref r0), .val (.int (Int32.ofNat s0)), .val (.int (5 : Int32))] [(.int (b 4))])
          refine own_go (fun _ k => XS.aloadN X0.here hx rfl (hb hby d7_70) rfl rfl k) ?_
          show own_Ends _ _ _ _ _ _ _ s₁ (mkF m 71 #[.val (.ref r0), .val (.int (Int32.ofNat s0)), .val (.int (5 : Int32))] [(.ref r0), (.int (b 4))])
          refine own_go (fun _ k => XS.iloadN X0.here hx rfl (hb hby d7_71) rfl k) ?_
          show own_Ends _ _ _ _ _ _ _ s₁ (mkF m 72 #[.val (.ref r0), .val (.int (Int32.ofNat s0)), .val (.int (5 : Int32))] [(.int (Int32.ofNat s0)), (.ref r0), (.int (b 4))])
          refine own_go (fun _ k => XS.iconst X0.here hx rfl (hb hby d7_72) k) ?_
          show own_Ends _ _ _ _ _ _ _ s₁ (mkF m 73 #[.val (.ref r0), .val (.int (Int32.ofNat s0)), .val (.int (5 : Int32))] [(.int (4 : Int32)), (.int (Int32.ofNat s0)), (.ref r0), (.int (b 4))])
          refine own_go (fun _ k => XS.iadd X0.here hx rfl (hb hby d7_73) rfl k) ?_
          show own_Ends _ _ _ _ _ _ _ s₁ (mkF m 74 #[.val (.ref r0), .val (.int (Int32.ofNat s0)), .val (.int (5 : Int32))] [(.int ((Int32.ofNat s0) + (4 : Int32))), (.ref r0), (.int (b 4))])
          rw [show ((Int32.ofNat s0) + (4 : Int32)) = (Int32.ofNat (s0 + 4)) from own_ofNat_add (j := 4) (by omega)]
          show own_Ends _ _ _ _ _ _ _ s₁ (mkF m 74 #[.val (.ref r0), .val (.int (Int32.ofNat s0)), .val (.int (5 : Int32))] [(.int (Int32.ofNat (s0 + 4))), (.ref r0), (.int (b 4))])
          refine own_go (fun _ k => own_ldB X0 hx hZ e0 A (i := (s0 + 4)) (v := (.int (b (s0 + 4)))) (own_ofNat_nn (by omega)) (own_ofNat_cl (by omega)) (by omega) rfl (g := (mkF m 74 #[.val (.ref r0), .val (.int (Int32.ofNat s0)), .val (.int (5 : Int32))] [(.int (Int32.ofNat (s0 + 4))), (.ref r0), (.int (b 4))])) rfl rfl (hb hby d7_74) _ k) ?_
          show own_Ends _ _ _ _ _ _ _ s₁ (mkF m 75 #[.val (.ref r0), .val (.int (Int32.ofNat s0)), .val (.int (5 : Int32))] [(.int (b (s0 + 4))), (.int (b 4))])
          by_cases h4 : (b 4) = (b (s0 + 4))
          · refine own_go (fun _ k => XS.icmpNo X0.here hx rfl (hb hby d7_75) rfl (teq h4).2 k) ?_
            show own_Ends _ _ _ _ _ _ _ s₁ (mkF m 78 #[.val (.ref r0), .val (.int (Int32.ofNat s0)), .val (.int (5 : Int32))] [])
            refine own_go (fun _ k => XS.iloadN X0.here hx rfl (hb hby d7_78) rfl k) ?_
            show own_Ends _ _ _ _ _ _ _ s₁ (mkF m 79 #[.val (.ref r0), .val (.int (Int32.ofNat s0)), .val (.int (5 : Int32))] [(.int (5 : Int32))])
            refine own_go (fun _ k => XS.bipush X0.here hx rfl (hb hby d7_79) k) ?_
            show own_Ends _ _ _ _ _ _ _ s₁ (mkF m 81 #[.val (.ref r0), .val (.int (Int32.ofNat s0)), .val (.int (5 : Int32))] [(.int (6 : Int32)), (.int (5 : Int32))])
            refine own_go (fun _ k => XS.icmpYes X0.here hx rfl (pc0 := 81) (pc' := 95) rfl (hb hby d7_81) rfl (tlt (by decide)).1 (by decide) (by decide) k) ?_
            show own_Ends _ _ _ _ _ _ _ s₁ (mkF m 95 #[.val (.ref r0), .val (.int (Int32.ofNat s0)), .val (.int (5 : Int32))] [])
            refine own_go (fun _ k => XS.iconst X0.here hx rfl (hb hby d7_95) k) ?_
            show own_Ends _ _ _ _ _ _ _ s₁ (mkF m 96 #[.val (.ref r0), .val (.int (Int32.ofNat s0)), .val (.int (5 : Int32))] [(.int (1 : Int32))])
            refine own_go (fun _ k => XS.goto X0.here hx rfl (pc0 := 96) (pc' := 100) rfl (hb hby d7_96) (by decide) (by decide) k) ?_
            show own_Ends _ _ _ _ _ _ _ s₁ (mkF m 100 #[.val (.ref r0), .val (.int (Int32.ofNat s0)), .val (.int (5 : Int32))] [(.int (1 : Int32))])
            exact own_retZ X0 hx hlk hret (by decide) (hb hby d7_100) (by decide) (by decide) ⟨Or.inl ⟨rfl, fun j hj => by
              have seg : j = 0 ∨ j = 1 ∨ j = 2 ∨ j = 3 ∨ j = 4 := by omega
              rcases seg with rfl | rfl | rfl | rfl | rfl
              · exact h0
              · exact h1
              · exact h2
              · exact h3
              · exact h4⟩, rfl, e0⟩
          · refine own_go (fun _ k => XS.icmpYes X0.here hx rfl (pc0 := 75) (pc' := 99) rfl (hb hby d7_75) rfl (feq h4).2 (by decide) (by decide) k) ?_
            show own_Ends _ _ _ _ _ _ _ s₁ (mkF m 99 #[.val (.ref r0), .val (.int (Int32.ofNat s0)), .val (.int (5 : Int32))] [])
            refine own_go (fun _ k => XS.iconst X0.here hx rfl (hb hby d7_99) k) ?_
            show own_Ends _ _ _ _ _ _ _ s₁ (mkF m 100 #[.val (.ref r0), .val (.int (Int32.ofNat s0)), .val (.int (5 : Int32))] [(.int (0 : Int32))])
            exact own_retZ X0 hx hlk hret (by decide) (hb hby d7_100) (by decide) (by decide) ⟨Or.inr ⟨rfl, fun q => h4 (q 4 (by decide))⟩, rfl, e0⟩
        · refine own_go (fun _ k => XS.icmpYes X0.here hx rfl (pc0 := 59) (pc' := 99) rfl (hb hby d7_59) rfl (feq h3).2 (by decide) (by decide) k) ?_
          show own_Ends _ _ _ _ _ _ _ s₁ (mkF m 99 #[.val (.ref r0), .val (.int (Int32.ofNat s0)), .val (.int (5 : Int32))] [])
          refine own_go (fun _ k => XS.iconst X0.here hx rfl (hb hby d7_99) k) ?_
          show own_Ends _ _ _ _ _ _ _ s₁ (mkF m 100 #[.val (.ref r0), .val (.int (Int32.ofNat s0)), .val (.int (5 : Int32))] [(.int (0 : Int32))])
          exact own_retZ X0 hx hlk hret (by decide) (hb hby d7_100) (by decide) (by decide) ⟨Or.inr ⟨rfl, fun q => h3 (q 3 (by decide))⟩, rfl, e0⟩
      · refine own_go (fun _ k => XS.icmpYes X0.here hx rfl (pc0 := 43) (pc' := 99) rfl (hb hby d7_43) rfl (feq h2).2 (by decide) (by decide) k) ?_
        show own_Ends _ _ _ _ _ _ _ s₁ (mkF m 99 #[.val (.ref r0), .val (.int (Int32.ofNat s0)), .val (.int (5 : Int32))] [])
        refine own_go (fun _ k => XS.iconst X0.here hx rfl (hb hby d7_99) k) ?_
        show own_Ends _ _ _ _ _ _ _ s₁ (mkF m 100 #[.val (.ref r0), .val (.int (Int32.ofNat s0)), .val (.int (5 : Int32))] [(.int (0 : Int32))])
        exact own_retZ X0 hx hlk hret (by decide) (hb hby d7_100) (by decide) (by decide) ⟨Or.inr ⟨rfl, fun q => h2 (q 2 (by decide))⟩, rfl, e0⟩
    · refine own_go (fun _ k => XS.icmpYes X0.here hx rfl (pc0 := 27) (pc' := 99) rfl (hb hby d7_27) rfl (feq h1).2 (by decide) (by decide) k) ?_
      show own_Ends _ _ _ _ _ _ _ s₁ (mkF m 99 #[.val (.ref r0), .val (.int (Int32.ofNat s0)), .val (.int (5 : Int32))] [])
      refine own_go (fun _ k => XS.iconst X0.here hx rfl (hb hby d7_99) k) ?_
      show own_Ends _ _ _ _ _ _ _ s₁ (mkF m 100 #[.val (.ref r0), .val (.int (Int32.ofNat s0)), .val (.int (5 : Int32))] [(.int (0 : Int32))])
      exact own_retZ X0 hx hlk hret (by decide) (hb hby d7_100) (by decide) (by decide) ⟨Or.inr ⟨rfl, fun q => h1 (q 1 (by decide))⟩, rfl, e0⟩
  · refine own_go (fun _ k => XS.icmpYes X0.here hx rfl (pc0 := 11) (pc' := 99) rfl (hb hby d7_11) rfl (feq h0).2 (by decide) (by decide) k) ?_
    show own_Ends _ _ _ _ _ _ _ s₁ (mkF m 99 #[.val (.ref r0), .val (.int (Int32.ofNat s0)), .val (.int (5 : Int32))] [])
    refine own_go (fun _ k => XS.iconst X0.here hx rfl (hb hby d7_99) k) ?_
    show own_Ends _ _ _ _ _ _ _ s₁ (mkF m 100 #[.val (.ref r0), .val (.int (Int32.ofNat s0)), .val (.int (5 : Int32))] [(.int (0 : Int32))])
    exact own_retZ X0 hx hlk hret (by decide) (hb hby d7_100) (by decide) (by decide) ⟨Or.inr ⟨rfl, fun q => h0 (q 0 (by decide))⟩, rfl, e0⟩
set_option maxRecDepth 65536 in
set_option maxHeartbeats 40000000 in
theorem rm7_6 (l : Launch) (Z : State) (a0 : Array Value) (hw : ∀ d ∈ tables_1, d.before a0 Z = true) (r0 : Addr) (p1 : Int32) (p2 : Int32) (h0 : Heap) (kc : ClassId) (b : Nat → Int32) (s0 : Nat) (A : own_Ar Z h0 r0 kc .byte 7 (fun j => .int (b j))) (hs : s0 + 6 ≤ 7) (hp1 : p1 = Int32.ofNat s0) (hp2 : p2 = 6) :
    own_C l (⟨"com/example/prefixleap/prefixleap/core/PrefixTableOfPinLaw", "match", "([BII)Z"⟩ : MethodName) method_3_code 3 (some .boolean) ({ frames := 0, cells := 0, slots := 0, locals := 0 } : Room) Z #[(.ref r0), (.int p1), (.int p2)] h0 (fun v h L => ((v = some (.int 1) ∧ ∀ j, j < 6 → b j = b (s0 + j)) ∨ (v = some (.int 0) ∧ ¬ ∀ j, j < 6 → b j = b (s0 + j))) ∧ L = [] ∧ h = h0) := by
  refine own_enter pn_7 ?_
  intro p e s m below meth c s₁ X0 hx hby hml hown hnm hret hlk hZ e0 hZH hnamed
  replace hown : s.vm.findClass "com/example/prefixleap/prefixleap/core/PrefixTableOfPinLaw" = some m.cls := hown
  have ef : entryFrame m #[(.ref r0), (.int p1), (.int p2)] 3 = mkF m 0 #[.val (.ref r0), .val (.int p1), .val (.int p2)] [] := by first | rfl | (simp [entryFrame, mkF, argsToLocals, Value.category, maxLocals]; done)
  refine own_cast ef ?_
  show own_Ends _ _ _ _ _ _ _ s₁ (mkF m 0 #[.val (.ref r0), .val (.int p1), .val (.int p2)] [])
  subst hp1 hp2
  show own_Ends _ _ _ _ _ _ _ s₁ (mkF m 0 #[.val (.ref r0), .val (.int (Int32.ofNat s0)), .val (.int (6 : Int32))] [])
  refine own_go (fun _ k => XS.iloadN X0.here hx rfl (hb hby d7_0) rfl k) ?_
  show own_Ends _ _ _ _ _ _ _ s₁ (mkF m 1 #[.val (.ref r0), .val (.int (Int32.ofNat s0)), .val (.int (6 : Int32))] [(.int (6 : Int32))])
  refine own_go (fun _ k => XS.iconst X0.here hx rfl (hb hby d7_1) k) ?_
  show own_Ends _ _ _ _ _ _ _ s₁ (mkF m 2 #[.val (.ref r0), .val (.int (Int32.ofNat s0)), .val (.int (6 : Int32))] [(.int (1 : Int32)), (.int (6 : Int32))])
  refine own_go (fun _ k => XS.icmpNo X0.here hx rfl (hb hby d7_2) rfl (flt (by decide)).1 k) ?_
  show own_Ends _ _ _ _ _ _ _ s₁ (mkF m 5 #[.val (.ref r0), .val (.int (Int32.ofNat s0)), .val (.int (6 : Int32))] [])
  refine own_go (fun _ k => XS.aloadN X0.here hx rfl (hb hby d7_5) rfl rfl k) ?_
  show own_Ends _ _ _ _ _ _ _ s₁ (mkF m 6 #[.val (.ref r0), .val (.int (Int32.ofNat s0)), .val (.int (6 : Int32))] [(.ref r0)])
  refine own_go (fun _ k => XS.iconst X0.here hx rfl (hb hby d7_6) k) ?_
  show own_Ends _ _ _ _ _ _ _ s₁ (mkF m 7 #[.val (.ref r0), .val (.int (Int32.ofNat s0)), .val (.int (6 : Int32))] [(.int (0 : Int32)), (.ref r0)])
  refine own_go (fun _ k => own_ldB X0 hx hZ e0 A (i := 0) (v := (.int (b 0))) (by decide) (by decide) (by decide) rfl (g := (mkF m 7 #[.val (.ref r0), .val (.int (Int32.ofNat s0)), .val (.int (6 : Int32))] [(.int (0 : Int32)), (.ref r0)])) rfl rfl (hb hby d7_7) _ k) ?_
  show own_Ends _ _ _ _ _ _ _ s₁ (mkF m 8 #[.val (.ref r0), .val (.int (Int32.ofNat s0)), .val (.int (6 : Int32))] [(.int (b 0))])
  refine own_go (fun _ k => XS.aloadN X0.here hx rfl (hb hby d7_8) rfl rfl k) ?_
  show own_Ends _ _ _ _ _ _ _ s₁ (mkF m 9 #[.val (.ref r0), .val (.int (Int32.ofNat s0)), .val (.int (6 : Int32))] [(.ref r0), (.int (b 0))])
  refine own_go (fun _ k => XS.iloadN X0.here hx rfl (hb hby d7_9) rfl k) ?_
  show own_Ends _ _ _ _ _ _ _ s₁ (mkF m 10 #[.val (.ref r0), .val (.int (Int32.ofNat s0)), .val (.int (6 : Int32))] [(.int (Int32.ofNat s0)), (.ref r0), (.int (b 0))])
  refine own_go (fun _ k => own_ldB X0 hx hZ e0 A (i := s0) (v := (.int (b s0))) (own_ofNat_nn (by omega)) (own_ofNat_cl (by omega)) (by omega) rfl (g := (mkF m 10 #[.val (.ref r0), .val (.int (Int32.ofNat s0)), .val (.int (6 : Int32))] [(.int (Int32.ofNat s0)), (.ref r0), (.int (b 0))])) rfl rfl (hb hby d7_10) _ k) ?_
  show own_Ends _ _ _ _ _ _ _ s₁ (mkF m 11 #[.val (.ref r0), .val (.int (Int32.ofNat s0)), .val (.int (6 : Int32))] [(.int (b s0)), (.int (b 0))])
  by_cases h0 : (b 0) = (b s0)
  · refine own_go (fun _ k => XS.icmpNo X0.here hx rfl (hb hby d7_11) rfl (teq h0).2 k) ?_
    show own_Ends _ _ _ _ _ _ _ s₁ (mkF m 14 #[.val (.ref r0), .val (.int (Int32.ofNat s0)), .val (.int (6 : Int32))] [])
    refine own_go (fun _ k => XS.iloadN X0.here hx rfl (hb hby d7_14) rfl k) ?_
    show own_Ends _ _ _ _ _ _ _ s₁ (mkF m 15 #[.val (.ref r0), .val (.int (Int32.ofNat s0)), .val (.int (6 : Int32))] [(.int (6 : Int32))])
    refine own_go (fun _ k => XS.iconst X0.here hx rfl (hb hby d7_15) k) ?_
    show own_Ends _ _ _ _ _ _ _ s₁ (mkF m 16 #[.val (.ref r0), .val (.int (Int32.ofNat s0)), .val (.int (6 : Int32))] [(.int (2 : Int32)), (.int (6 : Int32))])
    refine own_go (fun _ k => XS.icmpNo X0.here hx rfl (hb hby d7_16) rfl (flt (by decide)).1 k) ?_
    show own_Ends _ _ _ _ _ _ _ s₁ (mkF m 19 #[.val (.ref r0), .val (.int (Int32.ofNat s0)), .val (.int (6 : Int32))] [])
    refine own_go (fun _ k => XS.aloadN X0.here hx rfl (hb hby d7_19) rfl rfl k) ?_
    show own_Ends _ _ _ _ _ _ _ s₁ (mkF m 20 #[.val (.ref r0), .val (.int (Int32.ofNat s0)), .val (.int (6 : Int32))] [(.ref r0)])
    refine own_go (fun _ k => XS.iconst X0.here hx rfl (hb hby d7_20) k) ?_
    show own_Ends _ _ _ _ _ _ _ s₁ (mkF m 21 #[.val (.ref r0), .val (.int (Int32.ofNat s0)), .val (.int (6 : Int32))] [(.int (1 : Int32)), (.ref r0)])
    refine own_go (fun _ k => own_ldB X0 hx hZ e0 A (i := 1) (v := (.int (b 1))) (by decide) (by decide) (by decide) rfl (g := (mkF m 21 #[.val (.ref r0), .val (.int (Int32.ofNat s0)), .val (.int (6 : Int32))] [(.int (1 : Int32)), (.ref r0)])) rfl rfl (hb hby d7_21) _ k) ?_
    show own_Ends _ _ _ _ _ _ _ s₁ (mkF m 22 #[.val (.ref r0), .val (.int (Int32.ofNat s0)), .val (.int (6 : Int32))] [(.int (b 1))])
    refine own_go (fun _ k => XS.aloadN X0.here hx rfl (hb hby d7_22) rfl rfl k) ?_
    show own_Ends _ _ _ _ _ _ _ s₁ (mkF m 23 #[.val (.ref r0), .val (.int (Int32.ofNat s0)), .val (.int (6 : Int32))] [(.ref r0), (.int (b 1))])
    refine own_go (fun _ k => XS.iloadN X0.here hx rfl (hb hby d7_23) rfl k) ?_
    show own_Ends _ _ _ _ _ _ _ s₁ (mkF m 24 #[.val (.ref r0), .val (.int (Int32.ofNat s0)), .val (.int (6 : Int32))] [(.int (Int32.ofNat s0)), (.ref r0), (.int (b 1))])
    refine own_go (fun _ k => XS.iconst X0.here hx rfl (hb hby d7_24) k) ?_
    show own_Ends _ _ _ _ _ _ _ s₁ (mkF m 25 #[.val (.ref r0), .val (.int (Int32.ofNat s0)), .val (.int (6 : Int32))] [(.int (1 : Int32)), (.int (Int32.ofNat s0)), (.ref r0), (.int (b 1))])
    refine own_go (fun _ k => XS.iadd X0.here hx rfl (hb hby d7_25) rfl k) ?_
    show own_Ends _ _ _ _ _ _ _ s₁ (mkF m 26 #[.val (.ref r0), .val (.int (Int32.ofNat s0)), .val (.int (6 : Int32))] [(.int ((Int32.ofNat s0) + (1 : Int32))), (.ref r0), (.int (b 1))])
    rw [show ((Int32.ofNat s0) + (1 : Int32)) = (Int32.ofNat (s0 + 1)) from own_ofNat_add (j := 1) (by omega)]
    show own_Ends _ _ _ _ _ _ _ s₁ (mkF m 26 #[.val (.ref r0), .val (.int (Int32.ofNat s0)), .val (.int (6 : Int32))] [(.int (Int32.ofNat (s0 + 1))), (.ref r0), (.int (b 1))])
    refine own_go (fun _ k => own_ldB X0 hx hZ e0 A (i := (s0 + 1)) (v := (.int (b (s0 + 1)))) (own_ofNat_nn (by omega)) (own_ofNat_cl (by omega)) (by omega) rfl (g := (mkF m 26 #[.val (.ref r0), .val (.int (Int32.ofNat s0)), .val (.int (6 : Int32))] [(.int (Int32.ofNat (s0 + 1))), (.ref r0), (.int (b 1))])) rfl rfl (hb hby d7_26) _ k) ?_
    show own_Ends _ _ _ _ _ _ _ s₁ (mkF m 27 #[.val (.ref r0), .val (.int (Int32.ofNat s0)), .val (.int (6 : Int32))] [(.int (b (s0 + 1))), (.int (b 1))])
    by_cases h1 : (b 1) = (b (s0 + 1))
    · refine own_go (fun _ k => XS.icmpNo X0.here hx rfl (hb hby d7_27) rfl (teq h1).2 k) ?_
      show own_Ends _ _ _ _ _ _ _ s₁ (mkF m 30 #[.val (.ref r0), .val (.int (Int32.ofNat s0)), .val (.int (6 : Int32))] [])
      refine own_go (fun _ k => XS.iloadN X0.here hx rfl (hb hby d7_30) rfl k) ?_
      show own_Ends _ _ _ _ _ _ _ s₁ (mkF m 31 #[.val (.ref r0), .val (.int (Int32.ofNat s0)), .val (.int (6 : Int32))] [(.int (6 : Int32))])
      refine own_go (fun _ k => XS.iconst X0.here hx rfl (hb hby d7_31) k) ?_
      show own_Ends _ _ _ _ _ _ _ s₁ (mkF m 32 #[.val (.ref r0), .val (.int (Int32.ofNat s0)), .val (.int (6 : Int32))] [(.int (3 : Int32)), (.int (6 : Int32))])
      refine own_go (fun _ k => XS.icmpNo X0.here hx rfl (hb hby d7_32) rfl (flt (by decide)).1 k) ?_
      show own_Ends _ _ _ _ _ _ _ s₁ (mkF m 35 #[.val (.ref r0), .val (.int (Int32.ofNat s0)), .val (.int (6 : Int32))] [])
      refine own_go (fun _ k => XS.aloadN X0.here hx rfl (hb hby d7_35) rfl rfl k) ?_
      show own_Ends _ _ _ _ _ _ _ s₁ (mkF m 36 #[.val (.ref r0), .val (.int (Int32.ofNat s0)), .val (.int (6 : Int32))] [(.ref r0)])
      refine own_go (fun _ k => XS.iconst X0.here hx rfl (hb hby d7_36) k) ?_
      show own_Ends _ _ _ _ _ _ _ s₁ (mkF m 37 #[.val (.ref r0), .val (.int (Int32.ofNat s0)), .val (.int (6 : Int32))] [(.int (2 : Int32)), (.ref r0)])
      refine own_go (fun _ k => own_ldB X0 hx hZ e0 A (i := 2) (v := (.int (b 2))) (by decide) (by decide) (by decide) rfl (g := (mkF m 37 #[.val (.ref r0), .val (.int (Int32.ofNat s0)), .val (.int (6 : Int32))] [(.int (2 : Int32)), (.ref r0)])) rfl rfl (hb hby d7_37) _ k) ?_
      show own_Ends _ _ _ _ _ _ _ s₁ (mkF m 38 #[.val (.ref r0), .val (.int (Int32.ofNat s0)), .val (.int (6 : Int32))] [(.int (b 2))])
      refine own_go (fun _ k => XS.aloadN X0.here hx rfl (hb hby d7_38) rfl rfl k) ?_
      show own_Ends _ _ _ _ _ _ _ s₁ (mkF m 39 #[.val (.ref r0), .val (.int (Int32.ofNat s0)), .val (.int (6 : Int32))] [(.ref r0), (.int (b 2))])
      refine own_go (fun _ k => XS.iloadN X0.here hx rfl (hb hby d7_39) rfl k) ?_
      show own_Ends _ _ _ _ _ _ _ s₁ (mkF m 40 #[.val (.ref r0), .val (.int (Int32.ofNat s0)), .val (.int (6 : Int32))] [(.int (Int32.ofNat s0)), (.ref r0), (.int (b 2))])
      refine own_go (fun _ k => XS.iconst X0.here hx rfl (hb hby d7_40) k) ?_
      show own_Ends _ _ _ _ _ _ _ s₁ (mkF m 41 #[.val (.ref r0), .val (.int (Int32.ofNat s0)), .val (.int (6 : Int32))] [(.int (2 : Int32)), (.int (Int32.ofNat s0)), (.ref r0), (.int (b 2))])
      refine own_go (fun _ k => XS.iadd X0.here hx rfl (hb hby d7_41) rfl k) ?_
      show own_Ends _ _ _ _ _ _ _ s₁ (mkF m 42 #[.val (.ref r0), .val (.int (Int32.ofNat s0)), .val (.int (6 : Int32))] [(.int ((Int32.ofNat s0) + (2 : Int32))), (.ref r0), (.int (b 2))])
      rw [show ((Int32.ofNat s0) + (2 : Int32)) = (Int32.ofNat (s0 + 2)) from own_ofNat_add (j := 2) (by omega)]
      show own_Ends _ _ _ _ _ _ _ s₁ (mkF m 42 #[.val (.ref r0), .val (.int (Int32.ofNat s0)), .val (.int (6 : Int32))] [(.int (Int32.ofNat (s0 + 2))), (.ref r0), (.int (b 2))])
      refine own_go (fun _ k => own_ldB X0 hx hZ e0 A (i := (s0 + 2)) (v := (.int (b (s0 + 2)))) (own_ofNat_nn (by omega)) (own_ofNat_cl (by omega)) (by omega) rfl (g := (mkF m 42 #[.val (.ref r0), .val (.int (Int32.ofNat s0)), .val (.int (6 : Int32))] [(.int (Int32.ofNat (s0 + 2))), (.ref r0), (.int (b 2))])) rfl rfl (hb hby d7_42) _ k) ?_
      show own_Ends _ _ _ _ _ _ _ s₁ (mkF m 43 #[.val (.ref r0), .val (.int (Int32.ofNat s0)), .val (.int (6 : Int32))] [(.int (b (s0 + 2))), (.int (b 2))])
      by_cases h2 : (b 2) = (b (s0 + 2))
      · refine own_go (fun _ k => XS.icmpNo X0.here hx rfl (hb hby d7_43) rfl (teq h2).2 k) ?_
        show own_Ends _ _ _ _ _ _ _ s₁ (mkF m 46 #[.val (.ref r0), .val (.int (Int32.ofNat s0)), .val (.int (6 : Int32))] [])
        refine own_go (fun _ k => XS.iloadN X0.here hx rfl (hb hby d7_46) rfl k) ?_
        show own_Ends _ _ _ _ _ _ _ s₁ (mkF m 47 #[.val (.ref r0), .val (.int (Int32.ofNat s0)), .val (.int (6 : Int32))] [(.int (6 : Int32))])
        refine own_go (fun _ k => XS.iconst X0.here hx rfl (hb hby d7_47) k) ?_
        show own_Ends _ _ _ _ _ _ _ s₁ (mkF m 48 #[.val (.ref r0), .val (.int (Int32.ofNat s0)), .val (.int (6 : Int32))] [(.int (4 : Int32)), (.int (6 : Int32))])
        refine own_go (fun _ k => XS.icmpNo X0.here hx rfl (hb hby d7_48) rfl (flt (by decide)).1 k) ?_
        show own_Ends _ _ _ _ _ _ _ s₁ (mkF m 51 #[.val (.ref r0), .val (.int (Int32.ofNat s0)), .val (.int (6 : Int32))] [])
        refine own_go (fun _ k => XS.aloadN X0.here hx rfl (hb hby d7_51) rfl rfl k) ?_
        show own_Ends _ _ _ _ _ _ _ s₁ (mkF m 52 #[.val (.ref r0), .val (.int (Int32.ofNat s0)), .val (.int (6 : Int32))] [(.ref r0)])
        refine own_go (fun _ k => XS.iconst X0.here hx rfl (hb hby d7_52) k) ?_
        show own_Ends _ _ _ _ _ _ _ s₁ (mkF m 53 #[.val (.ref r0), .val (.int (Int32.ofNat s0)), .val (.int (6 : Int32))] [(.int (3 : Int32)), (.ref r0)])
        refine own_go (fun _ k => own_ldB X0 hx hZ e0 A (i := 3) (v := (.int (b 3))) (by decide) (by decide) (by decide) rfl (g := (mkF m 53 #[.val (.ref r0), .val (.int (Int32.ofNat s0)), .val (.int (6 : Int32))] [(.int (3 : Int32)), (.ref r0)])) rfl rfl (hb hby d7_53) _ k) ?_
        show own_Ends _ _ _ _ _ _ _ s₁ (mkF m 54 #[.val (.ref r0), .val (.int (Int32.ofNat s0)), .val (.int (6 : Int32))] [(.int (b 3))])
        refine own_go (fun _ k => XS.aloadN X0.here hx rfl (hb hby d7_54) rfl rfl k) ?_
        show own_Ends _ _ _ _ _ _ _ s₁ (mkF m 55 #[.val (.ref r0), .val (.int (Int32.ofNat s0)), .val (.int (6 : Int32))] [(.ref r0), (.int (b 3))])
        refine own_go (fun _ k => XS.iloadN X0.here hx rfl (hb hby d7_55) rfl k) ?_
        show own_Ends _ _ _ _ _ _ _ s₁ (mkF m 56 #[.val (.ref r0), .val (.int (Int32.ofNat s0)), .val (.int (6 : Int32))] [(.int (Int32.ofNat s0)), (.ref r0), (.int (b 3))])
        refine own_go (fun _ k => XS.iconst X0.here hx rfl (hb hby d7_56) k) ?_
        show own_Ends _ _ _ _ _ _ _ s₁ (mkF m 57 #[.val (.ref r0), .val (.int (Int32.ofNat s0)), .val (.int (6 : Int32))] [(.int (3 : Int32)), (.int (Int32.ofNat s0)), (.ref r0), (.int (b 3))])
        refine own_go (fun _ k => XS.iadd X0.here hx rfl (hb hby d7_57) rfl k) ?_
        show own_Ends _ _ _ _ _ _ _ s₁ (mkF m 58 #[.val (.ref r0), .val (.int (Int32.ofNat s0)), .val (.int (6 : Int32))] [(.int ((Int32.ofNat s0) + (3 : Int32))), (.ref r0), (.int (b 3))])
        rw [show ((Int32.ofNat s0) + (3 : Int32)) = (Int32.ofNat (s0 + 3)) from own_ofNat_add (j := 3) (by omega)]
        show own_Ends _ _ _ _ _ _ _ s₁ (mkF m 58 #[.val (.ref r0), .val (.int (Int32.ofNat s0)), .val (.int (6 : Int32))] [(.int (Int32.ofNat (s0 + 3))), (.ref r0), (.int (b 3))])
        refine own_go (fun _ k => own_ldB X0 hx hZ e0 A (i := (s0 + 3)) (v := (.int (b (s0 + 3)))) (own_ofNat_nn (by omega)) (own_ofNat_cl (by omega)) (by omega) rfl (g := (mkF m 58 #[.val (.ref r0), .val (.int (Int32.ofNat s0)), .val (.int (6 : Int32))] [(.int (Int32.ofNat (s0 + 3))), (.ref r0), (.int (b 3))])) rfl rfl (hb hby d7_58) _ k) ?_
        show own_Ends _ _ _ _ _ _ _ s₁ (mkF m 59 #[.val (.ref r0), .val (.int (Int32.ofNat s0)), .val (.int (6 : Int32))] [(.int (b (s0 + 3))), (.int (b 3))])
        by_cases h3 : (b 3) = (b (s0 + 3))
        · refine own_go (fun _ k => XS.icmpNo X0.here hx rfl (hb hby d7_59) rfl (teq h3).2 k) ?_
          show own_Ends _ _ _ _ _ _ _ s₁ (mkF m 62 #[.val (.ref r0), .val (.int (Int32.ofNat s0)), .val (.int (6 : Int32))] [])
          refine own_go (fun _ k => XS.iloadN X0.here hx rfl (hb hby d7_62) rfl k) ?_
          show own_Ends _ _ _ _ _ _ _ s₁ (mkF m 63 #[.val (.ref r0), .val (.int (Int32.ofNat s0)), .val (.int (6 : Int32))] [(.int (6 : Int32))])
          refine own_go (fun _ k => XS.iconst X0.here hx rfl (hb hby d7_63) k) ?_
          show own_Ends _ _ _ _ _ _ _ s₁ (mkF m 64 #[.val (.ref r0), .val (.int (Int32.ofNat s0)), .val (.int (6 : Int32))] [(.int (5 : Int32)), (.int (6 : Int32))])
          refine own_go (fun _ k => XS.icmpNo X0.here hx rfl (hb hby d7_64) rfl (flt (by decide)).1 k) ?_
          show own_Ends _ _ _ _ _ _ _ s₁ (mkF m 67 #[.val (.ref r0), .val (.int (Int32.ofNat s0)), .val (.int (6 : Int32))] [])
          refine own_go (fun _ k => XS.aloadN X0.here hx rfl (hb hby d7_67) rfl rfl k) ?_
          show own_Ends _ _ _ _ _ _ _ s₁ (mkF m 68 #[.val (.ref r0), .val (.int (Int32.ofNat s0)), .val (.int (6 : Int32))] [(.ref r0)])
          refine own_go (fun _ k => XS.iconst X0.here hx rfl (hb hby d7_68) k) ?_
          show own_Ends _ _ _ _ _ _ _ s₁ (mkF m 69 #[.val (.ref r0), .val (.int (Int32.ofNat s0)), .val (.int (6 : Int32))] [(.int (4 : Int32)), (.ref r0)])
          refine own_go (fun _ k => own_ldB X0 hx hZ e0 A (i := 4) (v := (.int (b 4))) (by decide) (by decide) (by decide) rfl (g := (mkF m 69 #[.val (.ref r0), .val (.int (Int32.ofNat s0)), .val (.int (6 : Int32))] [(.int (4 : Int32)), (.ref r0)])) rfl rfl (hb hby d7_69) _ k) ?_
          show own_Ends _ _ _ _ _ _ _ s₁ (mkF m 70 #[.val (.ref r0), .val (.int (Int32.ofNat s0)), .val (.int (6 : Int32))] [(.int (b 4))])
          refine own_go (fun _ k => XS.aloadN X0.here hx rfl (hb hby d7_70) rfl rfl k) ?_
          show own_Ends _ _ _ _ _ _ _ s₁ (mkF m 71 #[.val (.ref r0), .val (.int (Int32.ofNat s0)), .val (.int (6 : Int32))] [(.ref r0), (.int (b 4))])
          refine own_go (fun _ k => XS.iloadN X0.here hx rfl (hb hby d7_71) rfl k) ?_
          show own_Ends _ _ _ _ _ _ _ s₁ (mkF m 72 #[.val (.ref r0), .val (.int (Int32.ofNat s0)), .val (.int (6 : Int32))] [(.int (Int32.ofNat s0)), (.ref r0), (.int (b 4))])
          refine own_go (fun _ k => XS.iconst X0.here hx rfl (hb hby d7_72) k) ?_
          show own_Ends _ _ _ _ _ _ _ s₁ (mkF m 73 #[.val (.ref r0), .val (.int (Int32.ofNat s0)), .val (.int (6 : Int32))] [(.int (4 : Int32)), (.int (Int32.ofNat s0)), (.ref r0), (.int (b 4))])
          refine own_go (fun _ k => XS.iadd X0.here hx rfl (hb hby d7_73) rfl k) ?_
          show own_Ends _ _ _ _ _ _ _ s₁ (mkF m 74 #[.val (.ref r0), .val (.int (Int32.ofNat s0)), .val (.int (6 : Int32))] [(.int ((Int32.ofNat s0) + (4 : Int32))), (.ref r0), (.int (b 4))])
          rw [show ((Int32.ofNat s0) + (4 : Int32)) = (Int32.ofNat (s0 + 4)) from own_ofNat_add (j := 4) (by omega)]
          show own_Ends _ _ _ _ _ _ _ s₁ (mkF m 74 #[.val (.ref r0), .val (.int (Int32.ofNat s0)), .val (.int (6 : Int32))] [(.int (Int32.ofNat (s0 + 4))), (.ref r0), (.int (b 4))])
          refine own_go (fun _ k => own_ldB X0 hx hZ e0 A (i := (s0 + 4)) (v := (.int (b (s0 + 4)))) (own_ofNat_nn (by omega)) (own_ofNat_cl (by omega)) (by omega) rfl (g := (mkF m 74 #[.val (.ref r0), .val (.int (Int32.ofNat s0)), .val (.int (6 : Int32))] [(.int (Int32.ofNat (s0 + 4))), (.ref r0), (.int (b 4))])) rfl rfl (hb hby d7_74) _ k) ?_
          show own_Ends _ _ _ _ _ _ _ s₁ (mkF m 75 #[.val (.ref r0), .val (.int (Int32.ofNat s0)), .val (.int (6 : Int32))] [(.int (b (s0 + 4))), (.int (b 4))])
          by_cases h4 : (b 4) = (b (s0 + 4))
          · refine own_go (fun _ k => XS.icmpNo X0.here hx rfl (hb hby d7_75) rfl (teq h4).2 k) ?_
            show own_Ends _ _ _ _ _ _ _ s₁ (mkF m 78 #[.val (.ref r0), .val (.int (Int32.ofNat s0)), .val (.int (6 : Int32))] [])
            refine own_go (fun _ k => XS.iloadN X0.here hx rfl (hb hby d7_78) rfl k) ?_
            show own_Ends _ _ _ _ _ _ _ s₁ (mkF m 79 #[.val (.ref r0), .val (.int (Int32.ofNat s0)), .val (.int (6 : Int32))] [(.int (6 : Int32))])
            refine own_go (fun _ k => XS.bipush X0.here hx rfl (hb hby d7_79) k) ?_
            show own_Ends _ _ _ _ _ _ _ s₁ (mkF m 81 #[.val (.ref r0), .val (.int (Int32.ofNat s0)), .val (.int (6 : Int32))] [(.int (6 : Int32)), (.int (6 : Int32))])
            refine own_go (fun _ k => XS.icmpNo X0.here hx rfl (hb hby d7_81) rfl (flt (by decide)).1 k) ?_
            show own_Ends _ _ _ _ _ _ _ s₁ (mkF m 84 #[.val (.ref r0), .val (.int (Int32.ofNat s0)), .val (.int (6 : Int32))] [])
            refine own_go (fun _ k => XS.aloadN X0.here hx rfl (hb hby d7_84) rfl rfl k) ?_
            show own_Ends _ _ _ _ _ _ _ s₁ (mkF m 85 #[.val (.ref r0), .val (.int (Int32.ofNat s0)), .val (.int (6 : Int32))] [(.ref r0)])
            refine own_go (fun _ k => XS.iconst X0.here hx rfl (hb hby d7_85) k) ?_
            show own_Ends _ _ _ _ _ _ _ s₁ (mkF m 86 #[.val (.ref r0), .val (.int (Int32.ofNat s0)), .val (.int (6 : Int32))] [(.int (5 : Int32)), (.ref r0)])
            refine own_go (fun _ k => own_ldB X0 hx hZ e0 A (i := 5) (v := (.int (b 5))) (by decide) (by decide) (by decide) rfl (g := (mkF m 86 #[.val (.ref r0), .val (.int (Int32.ofNat s0)), .val (.int (6 : Int32))] [(.int (5 : Int32)), (.ref r0)])) rfl rfl (hb hby d7_86) _ k) ?_
            show own_Ends _ _ _ _ _ _ _ s₁ (mkF m 87 #[.val (.ref r0), .val (.int (Int32.ofNat s0)), .val (.int (6 : Int32))] [(.int (b 5))])
            refine own_go (fun _ k => XS.aloadN X0.here hx rfl (hb hby d7_87) rfl rfl k) ?_
            show own_Ends _ _ _ _ _ _ _ s₁ (mkF m 88 #[.val (.ref r0), .val (.int (Int32.ofNat s0)), .val (.int (6 : Int32))] [(.ref r0), (.int (b 5))])
            refine own_go (fun _ k => XS.iloadN X0.here hx rfl (hb hby d7_88) rfl k) ?_
            show own_Ends _ _ _ _ _ _ _ s₁ (mkF m 89 #[.val (.ref r0), .val (.int (Int32.ofNat s0)), .val (.int (6 : Int32))] [(.int (Int32.ofNat s0)), (.ref r0), (.int (b 5))])
            refine own_go (fun _ k => XS.iconst X0.here hx rfl (hb hby d7_89) k) ?_
            show own_Ends _ _ _ _ _ _ _ s₁ (mkF m 90 #[.val (.ref r0), .val (.int (Int32.ofNat s0)), .val (.int (6 : Int32))] [(.int (5 : Int32)), (.int (Int32.ofNat s0)), (.ref r0), (.int (b 5))])
            refine own_go (fun _ k => XS.iadd X0.here hx rfl (hb hby d7_90) rfl k) ?_
            show own_Ends _ _ _ _ _ _ _ s₁ (mkF m 91 #[.val (.ref r0), .val (.int (Int32.ofNat s0)), .val (.int (6 : Int32))] [(.int ((Int32.ofNat s0) + (5 : Int32))), (.ref r0), (.int (b 5))])
            rw [show ((Int32.ofNat s0) + (5 : Int32)) = (Int32.ofNat (s0 + 5)) from own_ofNat_add (j := 5) (by omega)]
            show own_Ends _ _ _ _ _ _ _ s₁ (mkF m 91 #[.val (.ref r0), .val (.int (Int32.ofNat s0)), .val (.int (6 : Int32))] [(.int (Int32.ofNat (s0 + 5))), (.ref r0), (.int (b 5))])
            refine own_go (fun _ k => own_ldB X0 hx hZ e0 A (i := (s0 + 5)) (v := (.int (b (s0 + 5)))) (own_ofNat_nn (by omega)) (own_ofNat_cl (by omega)) (by omega) rfl (g := (mkF m 91 #[.val (.ref r0), .val (.int (Int32.ofNat s0)), .val (.int (6 : Int32))] [(.int (Int32.ofNat (s0 + 5))), (.ref r0), (.int (b 5))])) rfl rfl (hb hby d7_91) _ k) ?_
            show own_Ends _ _ _ _ _ _ _ s₁ (mkF m 92 #[.val (.ref r0), .val (.int (Int32.ofNat s0)), .val (.int (6 : Int32))] [(.int (b (s0 + 5))), (.int (b 5))])
            by_cases h5 : (b 5) = (b (s0 + 5))
            · refine own_go (fun _ k => XS.icmpNo X0.here hx rfl (hb hby d7_92) rfl (teq h5).2 k) ?_
              show own_Ends _ _ _ _ _ _ _ s₁ (mkF m 95 #[.val (.ref r0), .val (.int (Int32.ofNat s0)), .val (.int (6 : Int32))] [])
              refine own_go (fun _ k => XS.iconst X0.here hx rfl (hb hby d7_95) k) ?_
              show own_Ends _ _ _ _ _ _ _ s₁ (mkF m 96 #[.val (.ref r0), .val (.int (Int32.ofNat s0)), .val (.int (6 : Int32))] [(.int (1 : Int32))])
              refine own_go (fun _ k => XS.goto X0.here hx rfl (pc0 := 96) (pc' := 100) rfl (hb hby d7_96) (by decide) (by decide) k) ?_
              show own_Ends _ _ _ _ _ _ _ s₁ (mkF m 100 #[.val (.ref r0), .val (.int (Int32.ofNat s0)), .val (.int (6 : Int32))] [(.int (1 : Int32))])
              exact own_retZ X0 hx hlk hret (by decide) (hb hby d7_100) (by decide) (by decide) ⟨Or.inl ⟨rfl, fun j hj => by
                have seg : j = 0 ∨ j = 1 ∨ j = 2 ∨ j = 3 ∨ j = 4 ∨ j = 5 := by omega
                rcases seg with rfl | rfl | rfl | rfl | rfl | rfl
                · exact h0
                · exact h1
                · exact h2
                · exact h3
                · exact h4
                · exact h5⟩, rfl, e0⟩
            · refine own_go (fun _ k => XS.icmpYes X0.here hx rfl (pc0 := 92) (pc' := 99) rfl (hb hby d7_92) rfl (feq h5).2 (by decide) (by decide) k) ?_
              show own_Ends _ _ _ _ _ _ _ s₁ (mkF m 99 #[.val (.ref r0), .val (.int (Int32.ofNat s0)), .val (.int (6 : Int32))] [])
              refine own_go (fun _ k => XS.iconst X0.here hx rfl (hb hby d7_99) k) ?_
              show own_Ends _ _ _ _ _ _ _ s₁ (mkF m 100 #[.val (.ref r0), .val (.int (Int32.ofNat s0)), .val (.int (6 : Int32))] [(.int (0 : Int32))])
              exact own_retZ X0 hx hlk hret (by decide) (hb hby d7_100) (by decide) (by decide) ⟨Or.inr ⟨rfl, fun q => h5 (q 5 (by decide))⟩, rfl, e0⟩
          · refine own_go (fun _ k => XS.icmpYes X0.here hx rfl (pc0 := 75) (pc' := 99) rfl (hb hby d7_75) rfl (feq h4).2 (by decide) (by decide) k) ?_
            show own_Ends _ _ _ _ _ _ _ s₁ (mkF m 99 #[.val (.ref r0), .val (.int (Int32.ofNat s0)), .val (.int (6 : Int32))] [])
            refine own_go (fun _ k => XS.iconst X0.here hx rfl (hb hby d7_99) k) ?_
            show own_Ends _ _ _ _ _ _ _ s₁ (mkF m 100 #[.val (.ref r0), .val (.int (Int32.ofNat s0)), .val (.int (6 : Int32))] [(.int (0 : Int32))])
            exact own_retZ X0 hx hlk hret (by decide) (hb hby d7_100) (by decide) (by decide) ⟨Or.inr ⟨rfl, fun q => h4 (q 4 (by decide))⟩, rfl, e0⟩
        · refine own_go (fun _ k => XS.icmpYes X0.here hx rfl (pc0 := 59) (pc' := 99) rfl (hb hby d7_59) rfl (feq h3).2 (by decide) (by decide) k) ?_
          show own_Ends _ _ _ _ _ _ _ s₁ (mkF m 99 #[.val (.ref r0), .val (.int (Int32.ofNat s0)), .val (.int (6 : Int32))] [])
          refine own_go (fun _ k => XS.iconst X0.here hx rfl (hb hby d7_99) k) ?_
          show own_Ends _ _ _ _ _ _ _ s₁ (mkF m 100 #[.val (.ref r0), .val (.int (Int32.ofNat s0)), .val (.int (6 : Int32))] [(.int (0 : Int32))])
          exact own_retZ X0 hx hlk hret (by decide) (hb hby d7_100) (by decide) (by decide) ⟨Or.inr ⟨rfl, fun q => h3 (q 3 (by decide))⟩, rfl, e0⟩
      · refine own_go (fun _ k => XS.icmpYes X0.here hx rfl (pc0 := 43) (pc' := 99) rfl (hb hby d7_43) rfl (feq h2).2 (by decide) (by decide) k) ?_
        show own_Ends _ _ _ _ _ _ _ s₁ (mkF m 99 #[.val (.ref r0), .val (.int (Int32.ofNat s0)), .val (.int (6 : Int32))] [])
        refine own_go (fun _ k => XS.iconst X0.here hx rfl (hb hby d7_99) k) ?_
        show own_Ends _ _ _ _ _ _ _ s₁ (mkF m 100 #[.val (.ref r0), .val (.int (Int32.ofNat s0)), .val (.int (6 : Int32))] [(.int (0 : Int32))])
        exact own_retZ X0 hx hlk hret (by decide) (hb hby d7_100) (by decide) (by decide) ⟨Or.inr ⟨rfl, fun q => h2 (q 2 (by decide))⟩, rfl, e0⟩
    · refine own_go (fun _ k => XS.icmpYes X0.here hx rfl (pc0 := 27) (pc' := 99) rfl (hb hby d7_27) rfl (feq h1).2 (by decide) (by decide) k) ?_
      show own_Ends _ _ _ _ _ _ _ s₁ (mkF m 99 #[.val (.ref r0), .val (.int (Int32.ofNat s0)), .val (.int (6 : Int32))] [])
      refine own_go (fun _ k => XS.iconst X0.here hx rfl (hb hby d7_99) k) ?_
      show own_Ends _ _ _ _ _ _ _ s₁ (mkF m 100 #[.val (.ref r0), .val (.int (Int32.ofNat s0)), .val (.int (6 : Int32))] [(.int (0 : Int32))])
      exact own_retZ X0 hx hlk hret (by decide) (hb hby d7_100) (by decide) (by decide) ⟨Or.inr ⟨rfl, fun q => h1 (q 1 (by decide))⟩, rfl, e0⟩
  · refine own_go (fun _ k => XS.icmpYes X0.here hx rfl (pc0 := 11) (pc' := 99) rfl (hb hby d7_11) rfl (feq h0).2 (by decide) (by decide) k) ?_
    show own_Ends _ _ _ _ _ _ _ s₁ (mkF m 99 #[.val (.ref r0), .val (.int (Int32.ofNat s0)), .val (.int (6 : Int32))] [])
    refine own_go (fun _ k => XS.iconst X0.here hx rfl (hb hby d7_99) k) ?_
    show own_Ends _ _ _ _ _ _ _ s₁ (mkF m 100 #[.val (.ref r0), .val (.int (Int32.ofNat s0)), .val (.int (6 : Int32))] [(.int (0 : Int32))])
    exact own_retZ X0 hx hlk hret (by decide) (hb hby d7_100) (by decide) (by decide) ⟨Or.inr ⟨rfl, fun q => h0 (q 0 (by decide))⟩, rfl, e0⟩
theorem own_Pm {b : Nat → Int32} {i L : Nat} (h : own_P b i L) : ∀ j, j < L → b j = b (i + 1 - L + j) := h.2
theorem own_Bd_of {b : Nat → Int32} (i L : Nat) (h1 : L ≤ i) (h : ∀ j, j < L → b j = b (i + 1 - L + j)) (hu : ∀ M, L < M → own_P b i M → False) : own_Bd b i L := ⟨⟨h1, h⟩, fun M hM => Nat.le_of_not_lt fun q => hu M q hM⟩
set_option maxRecDepth 65536 in
set_option maxHeartbeats 40000000 in
theorem rm6_0 (l : Launch) (Z : State) (a0 : Array Value) (hw : ∀ d ∈ tables_1, d.before a0 Z = true) (r0 : Addr) (p1 : Int32) (h0 : Heap) (kc : ClassId) (b : Nat → Int32) (A : own_Ar Z h0 r0 kc .byte 7 (fun j => .int (b j))) (hp : p1 = 0) :
    own_C l (⟨"com/example/prefixleap/prefixleap/core/PrefixTableOfPinLaw", "border", "([BI)I"⟩ : MethodName) method_4_code 2 (some .int) ({ frames := 1, cells := 0, slots := 0, locals := 20 } : Room) Z #[(.ref r0), (.int p1)] h0 (fun v h L => ∃ k : Nat, v = some (.int (Int32.ofNat k)) ∧ own_Bd b 0 k ∧ L = [] ∧ h = h0) := by
  refine own_enter pn_6 ?_
  intro p e s m below meth c s₁ X0 hx hby hml hown hnm hret hlk hZ e0 hZH hnamed
  replace hown : s.vm.findClass "com/example/prefixleap/prefixleap/core/PrefixTableOfPinLaw" = some m.cls := hown
  have ef : entryFrame m #[(.ref r0), (.int p1)] 2 = mkF m 0 #[.val (.ref r0), .val (.int p1)] [] := by first | rfl | (simp [entryFrame, mkF, argsToLocals, Value.category, maxLocals]; done)
  refine own_cast ef ?_
  show own_Ends _ _ _ _ _ _ _ s₁ (mkF m 0 #[.val (.ref r0), .val (.int p1)] [])
  subst hp
  show own_Ends _ _ _ _ _ _ _ s₁ (mkF m 0 #[.val (.ref r0), .val (.int (0 : Int32))] [])
  refine own_go (fun _ k => XS.iloadN X0.here hx rfl (hb hby d6_0) rfl k) ?_
  show own_Ends _ _ _ _ _ _ _ s₁ (mkF m 1 #[.val (.ref r0), .val (.int (0 : Int32))] [(.int (0 : Int32))])
  refine own_go (fun _ k => XS.bipush X0.here hx rfl (hb hby d6_1) k) ?_
  show own_Ends _ _ _ _ _ _ _ s₁ (mkF m 3 #[.val (.ref r0), .val (.int (0 : Int32))] [(.int (6 : Int32)), (.int (0 : Int32))])
  refine own_go (fun _ k => XS.icmpYes X0.here hx rfl (pc0 := 3) (pc' := 21) rfl (hb hby d6_3) rfl (tlt (by decide)).1 (by decide) (by decide) k) ?_
  show own_Ends _ _ _ _ _ _ _ s₁ (mkF m 21 #[.val (.ref r0), .val (.int (0 : Int32))] [])
  refine own_go (fun _ k => XS.iloadN X0.here hx rfl (hb hby d6_21) rfl k) ?_
  show own_Ends _ _ _ _ _ _ _ s₁ (mkF m 22 #[.val (.ref r0), .val (.int (0 : Int32))] [(.int (0 : Int32))])
  refine own_go (fun _ k => XS.iconst X0.here hx rfl (hb hby d6_22) k) ?_
  show own_Ends _ _ _ _ _ _ _ s₁ (mkF m 23 #[.val (.ref r0), .val (.int (0 : Int32))] [(.int (5 : Int32)), (.int (0 : Int32))])
  refine own_go (fun _ k => XS.icmpYes X0.here hx rfl (pc0 := 23) (pc' := 39) rfl (hb hby d6_23) rfl (tlt (by decide)).1 (by decide) (by decide) k) ?_
  show own_Ends _ _ _ _ _ _ _ s₁ (mkF m 39 #[.val (.ref r0), .val (.int (0 : Int32))] [])
  refine own_go (fun _ k => XS.iloadN X0.here hx rfl (hb hby d6_39) rfl k) ?_
  show own_Ends _ _ _ _ _ _ _ s₁ (mkF m 40 #[.val (.ref r0), .val (.int (0 : Int32))] [(.int (0 : Int32))])
  refine own_go (fun _ k => XS.iconst X0.here hx rfl (hb hby d6_40) k) ?_
  show own_Ends _ _ _ _ _ _ _ s₁ (mkF m 41 #[.val (.ref r0), .val (.int (0 : Int32))] [(.int (4 : Int32)), (.int (0 : Int32))])
  refine own_go (fun _ k => XS.icmpYes X0.here hx rfl (pc0 := 41) (pc' := 57) rfl (hb hby d6_41) rfl (tlt (by decide)).1 (by decide) (by decide) k) ?_
  show own_Ends _ _ _ _ _ _ _ s₁ (mkF m 57 #[.val (.ref r0), .val (.int (0 : Int32))] [])
  refine own_go (fun _ k => XS.iloadN X0.here hx rfl (hb hby d6_57) rfl k) ?_
  show own_Ends _ _ _ _ _ _ _ s₁ (mkF m 58 #[.val (.ref r0), .val (.int (0 : Int32))] [(.int (0 : Int32))])
  refine own_go (fun _ k => XS.iconst X0.here hx rfl (hb hby d6_58) k) ?_
  show own_Ends _ _ _ _ _ _ _ s₁ (mkF m 59 #[.val (.ref r0), .val (.int (0 : Int32))] [(.int (3 : Int32)), (.int (0 : Int32))])
  refine own_go (fun _ k => XS.icmpYes X0.here hx rfl (pc0 := 59) (pc' := 75) rfl (hb hby d6_59) rfl (tlt (by decide)).1 (by decide) (by decide) k) ?_
  show own_Ends _ _ _ _ _ _ _ s₁ (mkF m 75 #[.val (.ref r0), .val (.int (0 : Int32))] [])
  refine own_go (fun _ k => XS.iloadN X0.here hx rfl (hb hby d6_75) rfl k) ?_
  show own_Ends _ _ _ _ _ _ _ s₁ (mkF m 76 #[.val (.ref r0), .val (.int (0 : Int32))] [(.int (0 : Int32))])
  refine own_go (fun _ k => XS.iconst X0.here hx rfl (hb hby d6_76) k) ?_
  show own_Ends _ _ _ _ _ _ _ s₁ (mkF m 77 #[.val (.ref r0), .val (.int (0 : Int32))] [(.int (2 : Int32)), (.int (0 : Int32))])
  refine own_go (fun _ k => XS.icmpYes X0.here hx rfl (pc0 := 77) (pc' := 93) rfl (hb hby d6_77) rfl (tlt (by decide)).1 (by decide) (by decide) k) ?_
  show own_Ends _ _ _ _ _ _ _ s₁ (mkF m 93 #[.val (.ref r0), .val (.int (0 : Int32))] [])
  refine own_go (fun _ k => XS.iloadN X0.here hx rfl (hb hby d6_93) rfl k) ?_
  show own_Ends _ _ _ _ _ _ _ s₁ (mkF m 94 #[.val (.ref r0), .val (.int (0 : Int32))] [(.int (0 : Int32))])
  refine own_go (fun _ k => XS.iconst X0.here hx rfl (hb hby d6_94) k) ?_
  show own_Ends _ _ _ _ _ _ _ s₁ (mkF m 95 #[.val (.ref r0), .val (.int (0 : Int32))] [(.int (1 : Int32)), (.int (0 : Int32))])
  refine own_go (fun _ k => XS.icmpYes X0.here hx rfl (pc0 := 95) (pc' := 109) rfl (hb hby d6_95) rfl (tlt (by decide)).1 (by decide) (by decide) k) ?_
  show own_Ends _ _ _ _ _ _ _ s₁ (mkF m 109 #[.val (.ref r0), .val (.int (0 : Int32))] [])
  refine own_go (fun _ k => XS.iconst X0.here hx rfl (hb hby d6_109) k) ?_
  show own_Ends _ _ _ _ _ _ _ s₁ (mkF m 110 #[.val (.ref r0), .val (.int (0 : Int32))] [(.int (0 : Int32))])
  exact own_retI X0 hx hlk hret (hb hby d6_110) (by decide) (by decide) ⟨0, rfl, ⟨own_P0, fun L hL => by
    have := hL.1
    apply Nat.le_of_not_lt
    intro q
    omega⟩, rfl, e0⟩
set_option maxRecDepth 65536 in
set_option maxHeartbeats 40000000 in
theorem rm6_1 (l : Launch) (Z : State) (a0 : Array Value) (hw : ∀ d ∈ tables_1, d.before a0 Z = true) (r0 : Addr) (p1 : Int32) (h0 : Heap) (kc : ClassId) (b : Nat → Int32) (A : own_Ar Z h0 r0 kc .byte 7 (fun j => .int (b j))) (hp : p1 = 1) :
    own_C l (⟨"com/example/prefixleap/prefixleap/core/PrefixTableOfPinLaw", "border", "([BI)I"⟩ : MethodName) method_4_code 2 (some .int) ({ frames := 1, cells := 0, slots := 0, locals := 20 } : Room) Z #[(.ref r0), (.int p1)] h0 (fun v h L => ∃ k : Nat, v = some (.int (Int32.ofNat k)) ∧ own_Bd b 1 k ∧ L = [] ∧ h = h0) := by
  refine own_enter pn_6 ?_
  intro p e s m below meth c s₁ X0 hx hby hml hown hnm hret hlk hZ e0 hZH hnamed
  replace hown : s.vm.findClass "com/example/prefixleap/prefixleap/core/PrefixTableOfPinLaw" = some m.cls := hown
  have ef : entryFrame m #[(.ref r0), (.int p1)] 2 = mkF m 0 #[.val (.ref r0), .val (.int p1)] [] := by first | rfl | (simp [entryFrame, mkF, argsToLocals, Value.category, maxLocals]; done)
  refine own_cast ef ?_
  show own_Ends _ _ _ _ _ _ _ s₁ (mkF m 0 #[.val (.ref r0), .val (.int p1)] [])
  subst hp
  show own_Ends _ _ _ _ _ _ _ s₁ (mkF m 0 #[.val (.ref r0), .val (.int (1 : Int32))] [])
  refine own_go (fun _ k => XS.iloadN X0.here hx rfl (hb hby d6_0) rfl k) ?_
  show own_Ends _ _ _ _ _ _ _ s₁ (mkF m 1 #[.val (.ref r0), .val (.int (1 : Int32))] [(.int (1 : Int32))])
  refine own_go (fun _ k => XS.bipush X0.here hx rfl (hb hby d6_1) k) ?_
  show own_Ends _ _ _ _ _ _ _ s₁ (mkF m 3 #[.val (.ref r0), .val (.int (1 : Int32))] [(.int (6 : Int32)), (.int (1 : Int32))])
  refine own_go (fun _ k => XS.icmpYes X0.here hx rfl (pc0 := 3) (pc' := 21) rfl (hb hby d6_3) rfl (tlt (by decide)).1 (by decide) (by decide) k) ?_
  show own_Ends _ _ _ _ _ _ _ s₁ (mkF m 21 #[.val (.ref r0), .val (.int (1 : Int32))] [])
  refine own_go (fun _ k => XS.iloadN X0.here hx rfl (hb hby d6_21) rfl k) ?_
  show own_Ends _ _ _ _ _ _ _ s₁ (mkF m 22 #[.val (.ref r0), .val (.int (1 : Int32))] [(.int (1 : Int32))])
  refine own_go (fun _ k => XS.iconst X0.here hx rfl (hb hby d6_22) k) ?_
  show own_Ends _ _ _ _ _ _ _ s₁ (mkF m 23 #[.val (.ref r0), .val (.int (1 : Int32))] [(.int (5 : Int32)), (.int (1 : Int32))])
  refine own_go (fun _ k => XS.icmpYes X0.here hx rfl (pc0 := 23) (pc' := 39) rfl (hb hby d6_23) rfl (tlt (by decide)).1 (by decide) (by decide) k) ?_
  show own_Ends _ _ _ _ _ _ _ s₁ (mkF m 39 #[.val (.ref r0), .val (.int (1 : Int32))] [])
  refine own_go (fun _ k => XS.iloadN X0.here hx rfl (hb hby d6_39) rfl k) ?_
  show own_Ends _ _ _ _ _ _ _ s₁ (mkF m 40 #[.val (.ref r0), .val (.int (1 : Int32))] [(.int (1 : Int32))])
  refine own_go (fun _ k => XS.iconst X0.here hx rfl (hb hby d6_40) k) ?_
  show own_Ends _ _ _ _ _ _ _ s₁ (mkF m 41 #[.val (.ref r0), .val (.int (1 : Int32))] [(.int (4 : Int32)), (.int (1 : Int32))])
  refine own_go (fun _ k => XS.icmpYes X0.here hx rfl (pc0 := 41) (pc' := 57) rfl (hb hby d6_41) rfl (tlt (by decide)).1 (by decide) (by decide) k) ?_
  show own_Ends _ _ _ _ _ _ _ s₁ (mkF m 57 #[.val (.ref r0), .val (.int (1 : Int32))] [])
  refine own_go (fun _ k => XS.iloadN X0.here hx rfl (hb hby d6_57) rfl k) ?_
  show own_Ends _ _ _ _ _ _ _ s₁ (mkF m 58 #[.val (.ref r0), .val (.int (1 : Int32))] [(.int (1 : Int32))])
  refine own_go (fun _ k => XS.iconst X0.here hx rfl (hb hby d6_58) k) ?_
  show own_Ends _ _ _ _ _ _ _ s₁ (mkF m 59 #[.val (.ref r0), .val (.int (1 : Int32))] [(.int (3 : Int32)), (.int (1 : Int32))])
  refine own_go (fun _ k => XS.icmpYes X0.here hx rfl (pc0 := 59) (pc' := 75) rfl (hb hby d6_59) rfl (tlt (by decide)).1 (by decide) (by decide) k) ?_
  show own_Ends _ _ _ _ _ _ _ s₁ (mkF m 75 #[.val (.ref r0), .val (.int (1 : Int32))] [])
  refine own_go (fun _ k => XS.iloadN X0.here hx rfl (hb hby d6_75) rfl k) ?_
  show own_Ends _ _ _ _ _ _ _ s₁ (mkF m 76 #[.val (.ref r0), .val (.int (1 : Int32))] [(.int (1 : Int32))])
  refine own_go (fun _ k => XS.iconst X0.here hx rfl (hb hby d6_76) k) ?_
  show own_Ends _ _ _ _ _ _ _ s₁ (mkF m 77 #[.val (.ref r0), .val (.int (1 : Int32))] [(.int (2 : Int32)), (.int (1 : Int32))])
  refine own_go (fun _ k => XS.icmpYes X0.here hx rfl (pc0 := 77) (pc' := 93) rfl (hb hby d6_77) rfl (tlt (by decide)).1 (by decide) (by decide) k) ?_
  show own_Ends _ _ _ _ _ _ _ s₁ (mkF m 93 #[.val (.ref r0), .val (.int (1 : Int32))] [])
  refine own_go (fun _ k => XS.iloadN X0.here hx rfl (hb hby d6_93) rfl k) ?_
  show own_Ends _ _ _ _ _ _ _ s₁ (mkF m 94 #[.val (.ref r0), .val (.int (1 : Int32))] [(.int (1 : Int32))])
  refine own_go (fun _ k => XS.iconst X0.here hx rfl (hb hby d6_94) k) ?_
  show own_Ends _ _ _ _ _ _ _ s₁ (mkF m 95 #[.val (.ref r0), .val (.int (1 : Int32))] [(.int (1 : Int32)), (.int (1 : Int32))])
  refine own_go (fun _ k => XS.icmpNo X0.here hx rfl (hb hby d6_95) rfl (flt (by decide)).1 k) ?_
  show own_Ends _ _ _ _ _ _ _ s₁ (mkF m 98 #[.val (.ref r0), .val (.int (1 : Int32))] [])
  refine own_go (fun _ k => XS.aloadN X0.here hx rfl (hb hby d6_98) rfl rfl k) ?_
  show own_Ends _ _ _ _ _ _ _ s₁ (mkF m 99 #[.val (.ref r0), .val (.int (1 : Int32))] [(.ref r0)])
  refine own_go (fun _ k => XS.iloadN X0.here hx rfl (hb hby d6_99) rfl k) ?_
  show own_Ends _ _ _ _ _ _ _ s₁ (mkF m 100 #[.val (.ref r0), .val (.int (1 : Int32))] [(.int (1 : Int32)), (.ref r0)])
  refine own_go (fun _ k => XS.iconst X0.here hx rfl (hb hby d6_100) k) ?_
  show own_Ends _ _ _ _ _ _ _ s₁ (mkF m 101 #[.val (.ref r0), .val (.int (1 : Int32))] [(.int (1 : Int32)), (.int (1 : Int32)), (.ref r0)])
  obtain ⟨v1, T1, L1, X1, hQ1, st1⟩ := own_callS X0 hx hZ hown (hw _ (List.mem_of_getElem? (i := 28) rfl)) (hw _ (List.mem_of_getElem? (i := 29) rfl)) (hw _ (List.mem_of_getElem? (i := 3) rfl)) (hw _ (List.mem_of_getElem? (i := 30) rfl)) (rm7_1 l Z a0 hw r0 (1 : Int32) (1 : Int32) h0 kc b 1 A (by decide) (by decide) rfl) e0 (g := (mkF m 101 #[.val (.ref r0), .val (.int (1 : Int32))] [(.int (1 : Int32)), (.int (1 : Int32)), (.ref r0)])) rfl (by rw [hml]; rfl) (argsL := [(.ref r0), (.int (1 : Int32)), (.int (1 : Int32))]) (rest := []) (lenOf pd_0 rfl) rfl rfl (W := 0) (by show 2 * 0 + _ ≤ _; exact Nat.le_of_eq rfl) (hb hby d6_101) (by decide) (by decide) (by decide) (by decide) (by decide)
  obtain ⟨hm1, rfl, e1⟩ := hQ1
  rcases hm1 with ⟨rfl, y1⟩ | ⟨rfl, y1⟩
  · refine own_go st1 ?_
    show own_Ends _ _ _ _ _ _ _ T1 (mkF m 104 #[.val (.ref r0), .val (.int (1 : Int32))] [(.int (1 : Int32))])
    refine own_go (fun _ k => XS.ifNo X1.here hx rfl (hb hby d6_104) rfl ((if0 _ _).trans (feq (by decide)).1) k) ?_
    show own_Ends _ _ _ _ _ _ _ T1 (mkF m 107 #[.val (.ref r0), .val (.int (1 : Int32))] [])
    refine own_go (fun _ k => XS.iconst X1.here hx rfl (hb hby d6_107) k) ?_
    show own_Ends _ _ _ _ _ _ _ T1 (mkF m 108 #[.val (.ref r0), .val (.int (1 : Int32))] [(.int (1 : Int32))])
    exact own_retI X1 hx hlk hret (hb hby d6_108) (by decide) (by decide) ⟨1, rfl, own_Bd_of 1 1 (by decide) y1 (fun L hL hl => by
      have := hl.1
      omega), rfl, e1⟩
  · refine own_go st1 ?_
    show own_Ends _ _ _ _ _ _ _ T1 (mkF m 104 #[.val (.ref r0), .val (.int (1 : Int32))] [(.int (0 : Int32))])
    refine own_go (fun _ k => XS.ifYes X1.here hx rfl (pc0 := 104) (pc' := 109) rfl (hb hby d6_104) rfl ((if0 _ _).trans (teq (rfl)).1) (by decide) (by decide) k) ?_
    show own_Ends _ _ _ _ _ _ _ T1 (mkF m 109 #[.val (.ref r0), .val (.int (1 : Int32))] [])
    refine own_go (fun _ k => XS.iconst X1.here hx rfl (hb hby d6_109) k) ?_
    show own_Ends _ _ _ _ _ _ _ T1 (mkF m 110 #[.val (.ref r0), .val (.int (1 : Int32))] [(.int (0 : Int32))])
    exact own_retI X1 hx hlk hret (hb hby d6_110) (by decide) (by decide) ⟨0, rfl, ⟨own_P0, fun L hL => by
      have := hL.1
      apply Nat.le_of_not_lt
      intro q
      have seg : L = 1 := by omega
      rcases seg with rfl
      · exact y1 (own_Pm hL)⟩, rfl, e1⟩
set_option maxRecDepth 65536 in
set_option maxHeartbeats 40000000 in
theorem rm6_2 (l : Launch) (Z : State) (a0 : Array Value) (hw : ∀ d ∈ tables_1, d.before a0 Z = true) (r0 : Addr) (p1 : Int32) (h0 : Heap) (kc : ClassId) (b : Nat → Int32) (A : own_Ar Z h0 r0 kc .byte 7 (fun j => .int (b j))) (hp : p1 = 2) :
    own_C l (⟨"com/example/prefixleap/prefixleap/core/PrefixTableOfPinLaw", "border", "([BI)I"⟩ : MethodName) method_4_code 2 (some .int) ({ frames := 1, cells := 0, slots := 0, locals := 20 } : Room) Z #[(.ref r0), (.int p1)] h0 (fun v h L => ∃ k : Nat, v = some (.int (Int32.ofNat k)) ∧ own_Bd b 2 k ∧ L = [] ∧ h = h0) := by
  refine own_enter pn_6 ?_
  intro p e s m below meth c s₁ X0 hx hby hml hown hnm hret hlk hZ e0 hZH hnamed
  replace hown : s.vm.findClass "com/example/prefixleap/prefixleap/core/PrefixTableOfPinLaw" = some m.cls := hown
  have ef : entryFrame m #[(.ref r0), (.int p1)] 2 = mkF m 0 #[.val (.ref r0), .val (.int p1)] [] := by first | rfl | (simp [entryFrame, mkF, argsToLocals, Value.category, maxLocals]; done)
  refine own_cast ef ?_
  show own_Ends _ _ _ _ _ _ _ s₁ (mkF m 0 #[.val (.ref r0), .val (.int p1)] [])
  subst hp
  show own_Ends _ _ _ _ _ _ _ s₁ (mkF m 0 #[.val (.ref r0), .val (.int (2 : Int32))] [])
  refine own_go (fun _ k => XS.iloadN X0.here hx rfl (hb hby d6_0) rfl k) ?_
  show own_Ends _ _ _ _ _ _ _ s₁ (mkF m 1 #[.val (.ref r0), .val (.int (2 : Int32))] [(.int (2 : Int32))])
  refine own_go (fun _ k => XS.bipush X0.here hx rfl (hb hby d6_1) k) ?_
  show own_Ends _ _ _ _ _ _ _ s₁ (mkF m 3 #[.val (.ref r0), .val (.int (2 : Int32))] [(.int (6 : Int32)), (.int (2 : Int32))])
  refine own_go (fun _ k => XS.icmpYes X0.here hx rfl (pc0 := 3) (pc' := 21) rfl (hb hby d6_3) rfl (tlt (by decide)).1 (by decide) (by decide) k) ?_
  show own_Ends _ _ _ _ _ _ _ s₁ (mkF m 21 #[.val (.ref r0), .val (.int (2 : Int32))] [])
  refine own_go (fun _ k => XS.iloadN X0.here hx rfl (hb hby d6_21) rfl k) ?_
  show own_Ends _ _ _ _ _ _ _ s₁ (mkF m 22 #[.val (.ref r0), .val (.int (2 : Int32))] [(.int (2 : Int32))])
  refine own_go (fun _ k => XS.iconst X0.here hx rfl (hb hby d6_22) k) ?_
  show own_Ends _ _ _ _ _ _ _ s₁ (mkF m 23 #[.val (.ref r0), .val (.int (2 : Int32))] [(.int (5 : Int32)), (.int (2 : Int32))])
  refine own_go (fun _ k => XS.icmpYes X0.here hx rfl (pc0 := 23) (pc' := 39) rfl (hb hby d6_23) rfl (tlt (by decide)).1 (by decide) (by decide) k) ?_
  show own_Ends _ _ _ _ _ _ _ s₁ (mkF m 39 #[.val (.ref r0), .val (.int (2 : Int32))] [])
  refine own_go (fun _ k => XS.iloadN X0.here hx rfl (hb hby d6_39) rfl k) ?_
  show own_Ends _ _ _ _ _ _ _ s₁ (mkF m 40 #[.val (.ref r0), .val (.int (2 : Int32))] [(.int (2 : Int32))])
  refine own_go (fun _ k => XS.iconst X0.here hx rfl (hb hby d6_40) k) ?_
  show own_Ends _ _ _ _ _ _ _ s₁ (mkF m 41 #[.val (.ref r0), .val (.int (2 : Int32))] [(.int (4 : Int32)), (.int (2 : Int32))])
  refine own_go (fun _ k => XS.icmpYes X0.here hx rfl (pc0 := 41) (pc' := 57) rfl (hb hby d6_41) rfl (tlt (by decide)).1 (by decide) (by decide) k) ?_
  show own_Ends _ _ _ _ _ _ _ s₁ (mkF m 57 #[.val (.ref r0), .val (.int (2 : Int32))] [])
  refine own_go (fun _ k => XS.iloadN X0.here hx rfl (hb hby d6_57) rfl k) ?_
  show own_Ends _ _ _ _ _ _ _ s₁ (mkF m 58 #[.val (.ref r0), .val (.int (2 : Int32))] [(.int (2 : Int32))])
  refine own_go (fun _ k => XS.iconst X0.here hx rfl (hb hby d6_58) k) ?_
  show own_Ends _ _ _ _ _ _ _ s₁ (mkF m 59 #[.val (.ref r0), .val (.int (2 : Int32))] [(.int (3 : Int32)), (.int (2 : Int32))])
  refine own_go (fun _ k => XS.icmpYes X0.here hx rfl (pc0 := 59) (pc' := 75) rfl (hb hby d6_59) rfl (tlt (by decide)).1 (by decide) (by decide) k) ?_
  show own_Ends _ _ _ _ _ _ _ s₁ (mkF m 75 #[.val (.ref r0), .val (.int (2 : Int32))] [])
  refine own_go (fun _ k => XS.iloadN X0.here hx rfl (hb hby d6_75) rfl k) ?_
  show own_Ends _ _ _ _ _ _ _ s₁ (mkF m 76 #[.val (.ref r0), .val (.int (2 : Int32))] [(.int (2 : Int32))])
  refine own_go (fun _ k => XS.iconst X0.here hx rfl (hb hby d6_76) k) ?_
  show own_Ends _ _ _ _ _ _ _ s₁ (mkF m 77 #[.val (.ref r0), .val (.int (2 : Int32))] [(.int (2 : Int32)), (.int (2 : Int32))])
  refine own_go (fun _ k => XS.icmpNo X0.here hx rfl (hb hby d6_77) rfl (flt (by decide)).1 k) ?_
  show own_Ends _ _ _ _ _ _ _ s₁ (mkF m 80 #[.val (.ref r0), .val (.int (2 : Int32))] [])
  refine own_go (fun _ k => XS.aloadN X0.here hx rfl (hb hby d6_80) rfl rfl k) ?_
  show own_Ends _ _ _ _ _ _ _ s₁ (mkF m 81 #[.val (.ref r0), .val (.int (2 : Int32))] [(.ref r0)])
  refine own_go (fun _ k => XS.iloadN X0.here hx rfl (hb hby d6_81) rfl k) ?_
  show own_Ends _ _ _ _ _ _ _ s₁ (mkF m 82 #[.val (.ref r0), .val (.int (2 : Int32))] [(.int (2 : Int32)), (.ref r0)])
  refine own_go (fun _ k => XS.iconst X0.here hx rfl (hb hby d6_82) k) ?_
  show own_Ends _ _ _ _ _ _ _ s₁ (mkF m 83 #[.val (.ref r0), .val (.int (2 : Int32))] [(.int (1 : Int32)), (.int (2 : Int32)), (.ref r0)])
  refine own_go (fun _ k => XS.isub X0.here hx rfl (hb hby d6_83) rfl k) ?_
  show own_Ends _ _ _ _ _ _ _ s₁ (mkF m 84 #[.val (.ref r0), .val (.int (2 : Int32))] [(.int ((2 : Int32) - (1 : Int32))), (.ref r0)])
  refine own_go (fun _ k => XS.iconst X0.here hx rfl (hb hby d6_84) k) ?_
  show own_Ends _ _ _ _ _ _ _ s₁ (mkF m 85 #[.val (.ref r0), .val (.int (2 : Int32))] [(.int (2 : Int32)), (.int ((2 : Int32) - (1 : Int32))), (.ref r0)])
  rw [show ((2 : Int32) - (1 : Int32)) = (1 : Int32) from (by decide)]
  show own_Ends _ _ _ _ _ _ _ s₁ (mkF m 85 #[.val (.ref r0), .val (.int (2 : Int32))] [(.int (2 : Int32)), (.int (1 : Int32)), (.ref r0)])
  obtain ⟨v2, T2, L2, X2, hQ2, st2⟩ := own_callS X0 hx hZ hown (hw _ (List.mem_of_getElem? (i := 28) rfl)) (hw _ (List.mem_of_getElem? (i := 29) rfl)) (hw _ (List.mem_of_getElem? (i := 3) rfl)) (hw _ (List.mem_of_getElem? (i := 30) rfl)) (rm7_2 l Z a0 hw r0 (1 : Int32) (2 : Int32) h0 kc b 1 A (by decide) (by decide) rfl) e0 (g := (mkF m 85 #[.val (.ref r0), .val (.int (2 : Int32))] [(.int (2 : Int32)), (.int (1 : Int32)), (.ref r0)])) rfl (by rw [hml]; rfl) (argsL := [(.ref r0), (.int (1 : Int32)), (.int (2 : Int32))]) (rest := []) (lenOf pd_0 rfl) rfl rfl (W := 0) (by show 2 * 0 + _ ≤ _; exact Nat.le_of_eq rfl) (hb hby d6_85) (by decide) (by decide) (by decide) (by decide) (by decide)
  obtain ⟨hm2, rfl, e2⟩ := hQ2
  rcases hm2 with ⟨rfl, y2⟩ | ⟨rfl, y2⟩
  · refine own_go st2 ?_
    show own_Ends _ _ _ _ _ _ _ T2 (mkF m 88 #[.val (.ref r0), .val (.int (2 : Int32))] [(.int (1 : Int32))])
    refine own_go (fun _ k => XS.ifNo X2.here hx rfl (hb hby d6_88) rfl ((if0 _ _).trans (feq (by decide)).1) k) ?_
    show own_Ends _ _ _ _ _ _ _ T2 (mkF m 91 #[.val (.ref r0), .val (.int (2 : Int32))] [])
    refine own_go (fun _ k => XS.iconst X2.here hx rfl (hb hby d6_91) k) ?_
    show own_Ends _ _ _ _ _ _ _ T2 (mkF m 92 #[.val (.ref r0), .val (.int (2 : Int32))] [(.int (2 : Int32))])
    exact own_retI X2 hx hlk hret (hb hby d6_92) (by decide) (by decide) ⟨2, rfl, own_Bd_of 2 2 (by decide) y2 (fun L hL hl => by
      have := hl.1
      omega), rfl, e2⟩
  · refine own_go st2 ?_
    show own_Ends _ _ _ _ _ _ _ T2 (mkF m 88 #[.val (.ref r0), .val (.int (2 : Int32))] [(.int (0 : Int32))])
    refine own_go (fun _ k => XS.ifYes X2.here hx rfl (pc0 := 88) (pc' := 93) rfl (hb hby d6_88) rfl ((if0 _ _).trans (teq (rfl)).1) (by decide) (by decide) k) ?_
    show own_Ends _ _ _ _ _ _ _ T2 (mkF m 93 #[.val (.ref r0), .val (.int (2 : Int32))] [])
    refine own_go (fun _ k => XS.iloadN X2.here hx rfl (hb hby d6_93) rfl k) ?_
    show own_Ends _ _ _ _ _ _ _ T2 (mkF m 94 #[.val (.ref r0), .val (.int (2 : Int32))] [(.int (2 : Int32))])
    refine own_go (fun _ k => XS.iconst X2.here hx rfl (hb hby d6_94) k) ?_
    show own_Ends _ _ _ _ _ _ _ T2 (mkF m 95 #[.val (.ref r0), .val (.int (2 : Int32))] [(.int (1 : Int32)), (.int (2 : Int32))])
    refine own_go (fun _ k => XS.icmpNo X2.here hx rfl (hb hby d6_95) rfl (flt (by decide)).1 k) ?_
    show own_Ends _ _ _ _ _ _ _ T2 (mkF m 98 #[.val (.ref r0), .val (.int (2 : Int32))] [])
    refine own_go (fun _ k => XS.aloadN X2.here hx rfl (hb hby d6_98) rfl rfl k) ?_
    show own_Ends _ _ _ _ _ _ _ T2 (mkF m 99 #[.val (.ref r0), .val (.int (2 : Int32))] [(.ref r0)])
    refine own_go (fun _ k => XS.iloadN X2.here hx rfl (hb hby d6_99) rfl k) ?_
    show own_Ends _ _ _ _ _ _ _ T2 (mkF m 100 #[.val (.ref r0), .val (.int (2 : Int32))] [(.int (2 : Int32)), (.ref r0)])
    refine own_go (fun _ k => XS.iconst X2.here hx rfl (hb hby d6_100) k) ?_
    show own_Ends _ _ _ _ _ _ _ T2 (mkF m 101 #[.val (.ref r0), .val (.int (2 : Int32))] [(.int (1 : Int32)), (.int (2 : Int32)), (.ref r0)])
    obtain ⟨v3, T3, L3, X3, hQ3, st3⟩ := own_callS X2 hx hZ hown (hw _ (List.mem_of_getElem? (i := 28) rfl)) (hw _ (List.mem_of_getElem? (i := 29) rfl)) (hw _ (List.mem_of_getElem? (i := 3) rfl)) (hw _ (List.mem_of_getElem? (i := 30) rfl)) (rm7_1 l Z a0 hw r0 (2 : Int32) (1 : Int32) h0 kc b 2 A (by decide) (by decide) rfl) e2 (g := (mkF m 101 #[.val (.ref r0), .val (.int (2 : Int32))] [(.int (1 : Int32)), (.int (2 : Int32)), (.ref r0)])) rfl (by rw [hml]; rfl) (argsL := [(.ref r0), (.int (2 : Int32)), (.int (1 : Int32))]) (rest := []) (lenOf pd_0 rfl) rfl rfl (W := 0) (by show 2 * 0 + _ ≤ _; exact Nat.le_of_eq rfl) (hb hby d6_101) (by decide) (by decide) (by decide) (by decide) (by decide)
    obtain ⟨hm3, rfl, e3⟩ := hQ3
    rcases hm3 with ⟨rfl, y1⟩ | ⟨rfl, y1⟩
    · refine own_go st3 ?_
      show own_Ends _ _ _ _ _ _ _ T3 (mkF m 104 #[.val (.ref r0), .val (.int (2 : Int32))] [(.int (1 : Int32))])
      refine own_go (fun _ k => XS.ifNo X3.here hx rfl (hb hby d6_104) rfl ((if0 _ _).trans (feq (by decide)).1) k) ?_
      show own_Ends _ _ _ _ _ _ _ T3 (mkF m 107 #[.val (.ref r0), .val (.int (2 : Int32))] [])
      refine own_go (fun _ k => XS.iconst X3.here hx rfl (hb hby d6_107) k) ?_
      show own_Ends _ _ _ _ _ _ _ T3 (mkF m 108 #[.val (.ref r0), .val (.int (2 : Int32))] [(.int (1 : Int32))])
      exact own_retI X3 hx hlk hret (hb hby d6_108) (by decide) (by decide) ⟨1, rfl, own_Bd_of 2 1 (by decide) y1 (fun L hL hl => by
        have := hl.1
        have seg : L = 2 := by omega
        rcases seg with rfl
        · exact y2 (own_Pm hl)), rfl, e3⟩
    · refine own_go st3 ?_
      show own_Ends _ _ _ _ _ _ _ T3 (mkF m 104 #[.val (.ref r0), .val (.int (2 : Int32))] [(.int (0 : Int32))])
      refine own_go (fun _ k => XS.ifYes X3.here hx rfl (pc0 := 104) (pc' := 109) rfl (hb hby d6_104) rfl ((if0 _ _).trans (teq (rfl)).1) (by decide) (by decide) k) ?_
      show own_Ends _ _ _ _ _ _ _ T3 (mkF m 109 #[.val (.ref r0), .val (.int (2 : Int32))] [])
      refine own_go (fun _ k => XS.iconst X3.here hx rfl (hb hby d6_109) k) ?_
      show own_Ends _ _ _ _ _ _ _ T3 (mkF m 110 #[.val (.ref r0), .val (.int (2 : Int32))] [(.int (0 : Int32))])
      exact own_retI X3 hx hlk hret (hb hby d6_110) (by decide) (by decide) ⟨0, rfl, ⟨own_P0, fun L hL => by
        have := hL.1
        apply Nat.le_of_not_lt
        intro q
        have seg : L = 2 ∨ L = 1 := by omega
        rcases seg with rfl | rfl
        · exact y2 (own_Pm hL)
        · exact y1 (own_Pm hL)⟩, rfl, e3⟩
set_option maxRecDepth 65536 in
set_option maxHeartbeats 40000000 in
theorem rm6_3 (l : Launch) (Z : State) (a0 : Array Value) (hw : ∀ d ∈ tables_1, d.before a0 Z = true) (r0 : Addr) (p1 : Int32) (h0 : Heap) (kc : ClassId) (b : Nat → Int32) (A : own_Ar Z h0 r0 kc .byte 7 (fun j => .int (b j))) (hp : p1 = 3) :
    own_C l (⟨"com/example/prefixleap/prefixleap/core/PrefixTableOfPinLaw", "border", "([BI)I"⟩ : MethodName) method_4_code 2 (some .int) ({ frames := 1, cells := 0, slots := 0, locals := 20 } : Room) Z #[(.ref r0), (.int p1)] h0 (fun v h L => ∃ k : Nat, v = some (.int (Int32.ofNat k)) ∧ own_Bd b 3 k ∧ L = [] ∧ h = h0) := by
  refine own_enter pn_6 ?_
  intro p e s m below meth c s₁ X0 hx hby hml hown hnm hret hlk hZ e0 hZH hnamed
  replace hown : s.vm.findClass "com/example/prefixleap/prefixleap/core/PrefixTableOfPinLaw" = some m.cls := hown
  have ef : entryFrame m #[(.ref r0), (.int p1)] 2 = mkF m 0 #[.val (.ref r0), .val (.int p1)] [] := by first | rfl | (simp [entryFrame, mkF, argsToLocals, Value.category, maxLocals]; done)
  refine own_cast ef ?_
  show own_Ends _ _ _ _ _ _ _ s₁ (mkF m 0 #[.val (.ref r0), .val (.int p1)] [])
  subst hp
  show own_Ends _ _ _ _ _ _ _ s₁ (mkF m 0 #[.val (.ref r0), .val (.int (3 : Int32))] [])
  refine own_go (fun _ k => XS.iloadN X0.here hx rfl (hb hby d6_0) rfl k) ?_
  show own_Ends _ _ _ _ _ _ _ s₁ (mkF m 1 #[.val (.ref r0), .val (.int (3 : Int32))] [(.int (3 : Int32))])
  refine own_go (fun _ k => XS.bipush X0.here hx rfl (hb hby d6_1) k) ?_
  show own_Ends _ _ _ _ _ _ _ s₁ (mkF m 3 #[.val (.ref r0), .val (.int (3 : Int32))] [(.int (6 : Int32)), (.int (3 : Int32))])
  refine own_go (fun _ k => XS.icmpYes X0.here hx rfl (pc0 := 3) (pc' := 21) rfl (hb hby d6_3) rfl (tlt (by decide)).1 (by decide) (by decide) k) ?_
  show own_Ends _ _ _ _ _ _ _ s₁ (mkF m 21 #[.val (.ref r0), .val (.int (3 : Int32))] [])
  refine own_go (fun _ k => XS.iloadN X0.here hx rfl (hb hby d6_21) rfl k) ?_
  show own_Ends _ _ _ _ _ _ _ s₁ (mkF m 22 #[.val (.ref r0), .val (.int (3 : Int32))] [(.int (3 : Int32))])
  refine own_go (fun _ k => XS.iconst X0.here hx rfl (hb hby d6_22) k) ?_
  show own_Ends _ _ _ _ _ _ _ s₁ (mkF m 23 #[.val (.ref r0), .val (.int (3 : Int32))] [(.int (5 : Int32)), (.int (3 : Int32))])
  refine own_go (fun _ k => XS.icmpYes X0.here hx rfl (pc0 := 23) (pc' := 39) rfl (hb hby d6_23) rfl (tlt (by decide)).1 (by decide) (by decide) k) ?_
  show own_Ends _ _ _ _ _ _ _ s₁ (mkF m 39 #[.val (.ref r0), .val (.int (3 : Int32))] [])
  refine own_go (fun _ k => XS.iloadN X0.here hx rfl (hb hby d6_39) rfl k) ?_
  show own_Ends _ _ _ _ _ _ _ s₁ (mkF m 40 #[.val (.ref r0), .val (.int (3 : Int32))] [(.int (3 : Int32))])
  refine own_go (fun _ k => XS.iconst X0.here hx rfl (hb hby d6_40) k) ?_
  show own_Ends _ _ _ _ _ _ _ s₁ (mkF m 41 #[.val (.ref r0), .val (.int (3 : Int32))] [(.int (4 : Int32)), (.int (3 : Int32))])
  refine own_go (fun _ k => XS.icmpYes X0.here hx rfl (pc0 := 41) (pc' := 57) rfl (hb hby d6_41) rfl (tlt (by decide)).1 (by decide) (by decide) k) ?_
  show own_Ends _ _ _ _ _ _ _ s₁ (mkF m 57 #[.val (.ref r0), .val (.int (3 : Int32))] [])
  refine own_go (fun _ k => XS.iloadN X0.here hx rfl (hb hby d6_57) rfl k) ?_
  show own_Ends _ _ _ _ _ _ _ s₁ (mkF m 58 #[.val (.ref r0), .val (.int (3 : Int32))] [(.int (3 : Int32))])
  refine own_go (fun _ k => XS.iconst X0.here hx rfl (hb hby d6_58) k) ?_
  show own_Ends _ _ _ _ _ _ _ s₁ (mkF m 59 #[.val (.ref r0), .val (.int (3 : Int32))] [(.int (3 : Int32)), (.int (3 : Int32))])
  refine own_go (fun _ k => XS.icmpNo X0.here hx rfl (hb hby d6_59) rfl (flt (by decide)).1 k) ?_
  show own_Ends _ _ _ _ _ _ _ s₁ (mkF m 62 #[.val (.ref r0), .val (.int (3 : Int32))] [])
  refine own_go (fun _ k => XS.aloadN X0.here hx rfl (hb hby d6_62) rfl rfl k) ?_
  show own_Ends _ _ _ _ _ _ _ s₁ (mkF m 63 #[.val (.ref r0), .val (.int (3 : Int32))] [(.ref r0)])
  refine own_go (fun _ k => XS.iloadN X0.here hx rfl (hb hby d6_63) rfl k) ?_
  show own_Ends _ _ _ _ _ _ _ s₁ (mkF m 64 #[.val (.ref r0), .val (.int (3 : Int32))] [(.int (3 : Int32)), (.ref r0)])
  refine own_go (fun _ k => XS.iconst X0.here hx rfl (hb hby d6_64) k) ?_
  show own_Ends _ _ _ _ _ _ _ s₁ (mkF m 65 #[.val (.ref r0), .val (.int (3 : Int32))] [(.int (2 : Int32)), (.int (3 : Int32)), (.ref r0)])
  refine own_go (fun _ k => XS.isub X0.here hx rfl (hb hby d6_65) rfl k) ?_
  show own_Ends _ _ _ _ _ _ _ s₁ (mkF m 66 #[.val (.ref r0), .val (.int (3 : Int32))] [(.int ((3 : Int32) - (2 : Int32))), (.ref r0)])
  refine own_go (fun _ k => XS.iconst X0.here hx rfl (hb hby d6_66) k) ?_
  show own_Ends _ _ _ _ _ _ _ s₁ (mkF m 67 #[.val (.ref r0), .val (.int (3 : Int32))] [(.int (3 : Int32)), (.int ((3 : Int32) - (2 : Int32))), (.ref r0)])
  rw [show ((3 : Int32) - (2 : Int32)) = (1 : Int32) from (by decide)]
  show own_Ends _ _ _ _ _ _ _ s₁ (mkF m 67 #[.val (.ref r0), .val (.int (3 : Int32))] [(.int (3 : Int32)), (.int (1 : Int32)), (.ref r0)])
  obtain ⟨v4, T4, L4, X4, hQ4, st4⟩ := own_callS X0 hx hZ hown (hw _ (List.mem_of_getElem? (i := 28) rfl)) (hw _ (List.mem_of_getElem? (i := 29) rfl)) (hw _ (List.mem_of_getElem? (i := 3) rfl)) (hw _ (List.mem_of_getElem? (i := 30) rfl)) (rm7_3 l Z a0 hw r0 (1 : Int32) (3 : Int32) h0 kc b 1 A (by decide) (by decide) rfl) e0 (g := (mkF m 67 #[.val (.ref r0), .val (.int (3 : Int32))] [(.int (3 : Int32)), (.int (1 : Int32)), (.ref r0)])) rfl (by rw [hml]; rfl) (argsL := [(.ref r0), (.int (1 : Int32)), (.int (3 : Int32))]) (rest := []) (lenOf pd_0 rfl) rfl rfl (W := 0) (by show 2 * 0 + _ ≤ _; exact Nat.le_of_eq rfl) (hb hby d6_67) (by decide) (by decide) (by decide) (by decide) (by decide)
  obtain ⟨hm4, rfl, e4⟩ := hQ4
  rcases hm4 with ⟨rfl, y3⟩ | ⟨rfl, y3⟩
  · refine own_go st4 ?_
    show own_Ends _ _ _ _ _ _ _ T4 (mkF m 70 #[.val (.ref r0), .val (.int (3 : Int32))] [(.int (1 : Int32))])
    refine own_go (fun _ k => XS.ifNo X4.here hx rfl (hb hby d6_70) rfl ((if0 _ _).trans (feq (by decide)).1) k) ?_
    show own_Ends _ _ _ _ _ _ _ T4 (mkF m 73 #[.val (.ref r0), .val (.int (3 : Int32))] [])
    refine own_go (fun _ k => XS.iconst X4.here hx rfl (hb hby d6_73) k) ?_
    show own_Ends _ _ _ _ _ _ _ T4 (mkF m 74 #[.val (.ref r0), .val (.int (3 : Int32))] [(.int (3 : Int32))])
    exact own_retI X4 hx hlk hret (hb hby d6_74) (by decide) (by decide) ⟨3, rfl, own_Bd_of 3 3 (by decide) y3 (fun L hL hl => by
      have := hl.1
      omega), rfl, e4⟩
  · refine own_go st4 ?_
    show own_Ends _ _ _ _ _ _ _ T4 (mkF m 70 #[.val (.ref r0), .val (.int (3 : Int32))] [(.int (0 : Int32))])
    refine own_go (fun _ k => XS.ifYes X4.here hx rfl (pc0 := 70) (pc' := 75) rfl (hb hby d6_70) rfl ((if0 _ _).trans (teq (rfl)).1) (by decide) (by decide) k) ?_
    show own_Ends _ _ _ _ _ _ _ T4 (mkF m 75 #[.val (.ref r0), .val (.int (3 : Int32))] [])
    refine own_go (fun _ k => XS.iloadN X4.here hx rfl (hb hby d6_75) rfl k) ?_
    show own_Ends _ _ _ _ _ _ _ T4 (mkF m 76 #[.val (.ref r0), .val (.int (3 : Int32))] [(.int (3 : Int32))])
    refine own_go (fun _ k => XS.iconst X4.here hx rfl (hb hby d6_76) k) ?_
    show own_Ends _ _ _ _ _ _ _ T4 (mkF m 77 #[.val (.ref r0), .val (.int (3 : Int32))] [(.int (2 : Int32)), (.int (3 : Int32))])
    refine own_go (fun _ k => XS.icmpNo X4.here hx rfl (hb hby d6_77) rfl (flt (by decide)).1 k) ?_
    show own_Ends _ _ _ _ _ _ _ T4 (mkF m 80 #[.val (.ref r0), .val (.int (3 : Int32))] [])
    refine own_go (fun _ k => XS.aloadN X4.here hx rfl (hb hby d6_80) rfl rfl k) ?_
    show own_Ends _ _ _ _ _ _ _ T4 (mkF m 81 #[.val (.ref r0), .val (.int (3 : Int32))] [(.ref r0)])
    refine own_go (fun _ k => XS.iloadN X4.here hx rfl (hb hby d6_81) rfl k) ?_
    show own_Ends _ _ _ _ _ _ _ T4 (mkF m 82 #[.val (.ref r0), .val (.int (3 : Int32))] [(.int (3 : Int32)), (.ref r0)])
    refine own_go (fun _ k => XS.iconst X4.here hx rfl (hb hby d6_82) k) ?_
    show own_Ends _ _ _ _ _ _ _ T4 (mkF m 83 #[.val (.ref r0), .val (.int (3 : Int32))] [(.int (1 : Int32)), (.int (3 : Int32)), (.ref r0)])
    refine own_go (fun _ k => XS.isub X4.here hx rfl (hb hby d6_83) rfl k) ?_
    show own_Ends _ _ _ _ _ _ _ T4 (mkF m 84 #[.val (.ref r0), .val (.int (3 : Int32))] [(.int ((3 : Int32) - (1 : Int32))), (.ref r0)])
    refine own_go (fun _ k => XS.iconst X4.here hx rfl (hb hby d6_84) k) ?_
    show own_Ends _ _ _ _ _ _ _ T4 (mkF m 85 #[.val (.ref r0), .val (.int (3 : Int32))] [(.int (2 : Int32)), (.int ((3 : Int32) - (1 : Int32))), (.ref r0)])
    rw [show ((3 : Int32) - (1 : Int32)) = (2 : Int32) from (by decide)]
    show own_Ends _ _ _ _ _ _ _ T4 (mkF m 85 #[.val (.ref r0), .val (.int (3 : Int32))] [(.int (2 : Int32)), (.int (2 : Int32)), (.ref r0)])
    obtain ⟨v5, T5, L5, X5, hQ5, st5⟩ := own_callS X4 hx hZ hown (hw _ (List.mem_of_getElem? (i := 28) rfl)) (hw _ (List.mem_of_getElem? (i := 29) rfl)) (hw _ (List.mem_of_getElem? (i := 3) rfl)) (hw _ (List.mem_of_getElem? (i := 30) rfl)) (rm7_2 l Z a0 hw r0 (2 : Int32) (2 : Int32) h0 kc b 2 A (by decide) (by decide) rfl) e4 (g := (mkF m 85 #[.val (.ref r0), .val (.int (3 : Int32))] [(.int (2 : Int32)), (.int (2 : Int32)), (.ref r0)])) rfl (by rw [hml]; rfl) (argsL := [(.ref r0), (.int (2 : Int32)), (.int (2 : Int32))]) (rest := []) (lenOf pd_0 rfl) rfl rfl (W := 0) (by show 2 * 0 + _ ≤ _; exact Nat.le_of_eq rfl) (hb hby d6_85) (by decide) (by decide) (by decide) (by decide) (by decide)
    obtain ⟨hm5, rfl, e5⟩ := hQ5
    rcases hm5 with ⟨rfl, y2⟩ | ⟨rfl, y2⟩
    · refine own_go st5 ?_
      show own_Ends _ _ _ _ _ _ _ T5 (mkF m 88 #[.val (.ref r0), .val (.int (3 : Int32))] [(.int (1 : Int32))])
      refine own_go (fun _ k => XS.ifNo X5.here hx rfl (hb hby d6_88) rfl ((if0 _ _).trans (feq (by decide)).1) k) ?_
      show own_Ends _ _ _ _ _ _ _ T5 (mkF m 91 #[.val (.ref r0), .val (.int (3 : Int32))] [])
      refine own_go (fun _ k => XS.iconst X5.here hx rfl (hb hby d6_91) k) ?_
      show own_Ends _ _ _ _ _ _ _ T5 (mkF m 92 #[.val (.ref r0), .val (.int (3 : Int32))] [(.int (2 : Int32))])
      exact own_retI X5 hx hlk hret (hb hby d6_92) (by decide) (by decide) ⟨2, rfl, own_Bd_of 3 2 (by decide) y2 (fun L hL hl => by
        have := hl.1
        have seg : L = 3 := by omega
        rcases seg with rfl
        · exact y3 (own_Pm hl)), rfl, e5⟩
    · refine own_go st5 ?_
      show own_Ends _ _ _ _ _ _ _ T5 (mkF m 88 #[.val (.ref r0), .val (.int (3 : Int32))] [(.int (0 : Int32))])
      refine own_go (fun _ k => XS.ifYes X5.here hx rfl (pc0 := 88) (pc' := 93) rfl (hb hby d6_88) rfl ((if0 _ _).trans (teq (rfl)).1) (by decide) (by decide) k) ?_
      show own_Ends _ _ _ _ _ _ _ T5 (mkF m 93 #[.val (.ref r0), .val (.int (3 : Int32))] [])
      refine own_go (fun _ k => XS.iloadN X5.here hx rfl (hb hby d6_93) rfl k) ?_
      show own_Ends _ _ _ _ _ _ _ T5 (mkF m 94 #[.val (.ref r0), .val (.int (3 : Int32))] [(.int (3 : Int32))])
      refine own_go (fun _ k => XS.iconst X5.here hx rfl (hb hby d6_94) k) ?_
      show own_Ends _ _ _ _ _ _ _ T5 (mkF m 95 #[.val (.ref r0), .val (.int (3 : Int32))] [(.int (1 : Int32)), (.int (3 : Int32))])
      refine own_go (fun _ k => XS.icmpNo X5.here hx rfl (hb hby d6_95) rfl (flt (by decide)).1 k) ?_
      show own_Ends _ _ _ _ _ _ _ T5 (mkF m 98 #[.val (.ref r0), .val (.int (3 : Int32))] [])
      refine own_go (fun _ k => XS.aloadN X5.here hx rfl (hb hby d6_98) rfl rfl k) ?_
      show own_Ends _ _ _ _ _ _ _ T5 (mkF m 99 #[.val (.ref r0), .val (.int (3 : Int32))] [(.ref r0)])
      refine own_go (fun _ k => XS.iloadN X5.here hx rfl (hb hby d6_99) rfl k) ?_
      show own_Ends _ _ _ _ _ _ _ T5 (mkF m 100 #[.val (.ref r0), .val (.int (3 : Int32))] [(.int (3 : Int32)), (.ref r0)])
      refine own_go (fun _ k => XS.iconst X5.here hx rfl (hb hby d6_100) k) ?_
      show own_Ends _ _ _ _ _ _ _ T5 (mkF m 101 #[.val (.ref r0), .val (.int (3 : Int32))] [(.int (1 : Int32)), (.int (3 : Int32)), (.ref r0)])
      obtain ⟨v6, T6, L6, X6, hQ6, st6⟩ := own_callS X5 hx hZ hown (hw _ (List.mem_of_getElem? (i := 28) rfl)) (hw _ (List.mem_of_getElem? (i := 29) rfl)) (hw _ (List.mem_of_getElem? (i := 3) rfl)) (hw _ (List.mem_of_getElem? (i := 30) rfl)) (rm7_1 l Z a0 hw r0 (3 : Int32) (1 : Int32) h0 kc b 3 A (by decide) (by decide) rfl) e5 (g := (mkF m 101 #[.val (.ref r0), .val (.int (3 : Int32))] [(.int (1 : Int32)), (.int (3 : Int32)), (.ref r0)])) rfl (by rw [hml]; rfl) (argsL := [(.ref r0), (.int (3 : Int32)), (.int (1 : Int32))]) (rest := []) (lenOf pd_0 rfl) rfl rfl (W := 0) (by show 2 * 0 + _ ≤ _; exact Nat.le_of_eq rfl) (hb hby d6_101) (by decide) (by decide) (by decide) (by decide) (by decide)
      obtain ⟨hm6, rfl, e6⟩ := hQ6
      rcases hm6 with ⟨rfl, y1⟩ | ⟨rfl, y1⟩
      · refine own_go st6 ?_
        show own_Ends _ _ _ _ _ _ _ T6 (mkF m 104 #[.val (.ref r0), .val (.int (3 : Int32))] [(.int (1 : Int32))])
        refine own_go (fun _ k => XS.ifNo X6.here hx rfl (hb hby d6_104) rfl ((if0 _ _).trans (feq (by decide)).1) k) ?_
        show own_Ends _ _ _ _ _ _ _ T6 (mkF m 107 #[.val (.ref r0), .val (.int (3 : Int32))] [])
        refine own_go (fun _ k => XS.iconst X6.here hx rfl (hb hby d6_107) k) ?_
        show own_Ends _ _ _ _ _ _ _ T6 (mkF m 108 #[.val (.ref r0), .val (.int (3 : Int32))] [(.int (1 : Int32))])
        exact own_retI X6 hx hlk hret (hb hby d6_108) (by decide) (by decide) ⟨1, rfl, own_Bd_of 3 1 (by decide) y1 (fun L hL hl => by
          have := hl.1
          have seg : L = 3 ∨ L = 2 := by omega
          rcases seg with rfl | rfl
          · exact y3 (own_Pm hl)
          · exact y2 (own_Pm hl)), rfl, e6⟩
      · refine own_go st6 ?_
        show own_Ends _ _ _ _ _ _ _ T6 (mkF m 104 #[.val (.ref r0), .val (.int (3 : Int32))] [(.int (0 : Int32))])
        refine own_go (fun _ k => XS.ifYes X6.here hx rfl (pc0 := 104) (pc' := 109) rfl (hb hby d6_104) rfl ((if0 _ _).trans (teq (rfl)).1) (by decide) (by decide) k) ?_
        show own_Ends _ _ _ _ _ _ _ T6 (mkF m 109 #[.val (.ref r0), .val (.int (3 : Int32))] [])
        refine own_go (fun _ k => XS.iconst X6.here hx rfl (hb hby d6_109) k) ?_
        show own_Ends _ _ _ _ _ _ _ T6 (mkF m 110 #[.val (.ref r0), .val (.int (3 : Int32))] [(.int (0 : Int32))])
        exact own_retI X6 hx hlk hret (hb hby d6_110) (by decide) (by decide) ⟨0, rfl, ⟨own_P0, fun L hL => by
          have := hL.1
          apply Nat.le_of_not_lt
          intro q
          have seg : L = 3 ∨ L = 2 ∨ L = 1 := by omega
          rcases seg with rfl | rfl | rfl
          · exact y3 (own_Pm hL)
          · exact y2 (own_Pm hL)
          · exact y1 (own_Pm hL)⟩, rfl, e6⟩
set_option maxRecDepth 65536 in
set_option maxHeartbeats 40000000 in
theorem rm6_4 (l : Launch) (Z : State) (a0 : Array Value) (hw : ∀ d ∈ tables_1, d.before a0 Z = true) (r0 : Addr) (p1 : Int32) (h0 : Heap) (kc : ClassId) (b : Nat → Int32) (A : own_Ar Z h0 r0 kc .byte 7 (fun j => .int (b j))) (hp : p1 = 4) :
    own_C l (⟨"com/example/prefixleap/prefixleap/core/PrefixTableOfPinLaw", "border", "([BI)I"⟩ : MethodName) method_4_code 2 (some .int) ({ frames := 1, cells := 0, slots := 0, locals := 20 } : Room) Z #[(.ref r0), (.int p1)] h0 (fun v h L => ∃ k : Nat, v = some (.int (Int32.ofNat k)) ∧ own_Bd b 4 k ∧ L = [] ∧ h = h0) := by
  refine own_enter pn_6 ?_
  intro p e s m below meth c s₁ X0 hx hby hml hown hnm hret hlk hZ e0 hZH hnamed
  replace hown : s.vm.findClass "com/example/prefixleap/prefixleap/core/PrefixTableOfPinLaw" = some m.cls := hown
  have ef : entryFrame m #[(.ref r0), (.int p1)] 2 = mkF m 0 #[.val (.ref r0), .val (.int p1)] [] := by first | rfl | (simp [entryFrame, mkF, argsToLocals, Value.category, maxLocals]; done)
  refine own_cast ef ?_
  show own_Ends _ _ _ _ _ _ _ s₁ (mkF m 0 #[.val (.ref r0), .val (.int p1)] [])
  subst hp
  show own_Ends _ _ _ _ _ _ _ s₁ (mkF m 0 #[.val (.ref r0), .val (.int (4 : Int32))] [])
  refine own_go (fun _ k => XS.iloadN X0.here hx rfl (hb hby d6_0) rfl k) ?_
  show own_Ends _ _ _ _ _ _ _ s₁ (mkF m 1 #[.val (.ref r0), .val (.int (4 : Int32))] [(.int (4 : Int32))])
  refine own_go (fun _ k => XS.bipush X0.here hx rfl (hb hby d6_1) k) ?_
  show own_Ends _ _ _ _ _ _ _ s₁ (mkF m 3 #[.val (.ref r0), .val (.int (4 : Int32))] [(.int (6 : Int32)), (.int (4 : Int32))])
  refine own_go (fun _ k => XS.icmpYes X0.here hx rfl (pc0 := 3) (pc' := 21) rfl (hb hby d6_3) rfl (tlt (by decide)).1 (by decide) (by decide) k) ?_
  show own_Ends _ _ _ _ _ _ _ s₁ (mkF m 21 #[.val (.ref r0), .val (.int (4 : Int32))] [])
  refine own_go (fun _ k => XS.iloadN X0.here hx rfl (hb hby d6_21) rfl k) ?_
  show own_Ends _ _ _ _ _ _ _ s₁ (mkF m 22 #[.val (.ref r0), .val (.int (4 : Int32))] [(.int (4 : Int32))])
  refine own_go (fun _ k => XS.iconst X0.here hx rfl (hb hby d6_22) k) ?_
  show own_Ends _ _ _ _ _ _ _ s₁ (mkF m 23 #[.val (.ref r0), .val (.int (4 : Int32))] [(.int (5 : Int32)), (.int (4 : Int32))])
  refine own_go (fun _ k => XS.icmpYes X0.here hx rfl (pc0 := 23) (pc' := 39) rfl (hb hby d6_23) rfl (tlt (by decide)).1 (by decide) (by decide) k) ?_
  show own_Ends _ _ _ _ _ _ _ s₁ (mkF m 39 #[.val (.ref r0), .val (.int (4 : Int32))] [])
  refine own_go (fun _ k => XS.iloadN X0.here hx rfl (hb hby d6_39) rfl k) ?_
  show own_Ends _ _ _ _ _ _ _ s₁ (mkF m 40 #[.val (.ref r0), .val (.int (4 : Int32))] [(.int (4 : Int32))])
  refine own_go (fun _ k => XS.iconst X0.here hx rfl (hb hby d6_40) k) ?_
  show own_Ends _ _ _ _ _ _ _ s₁ (mkF m 41 #[.val (.ref r0), .val (.int (4 : Int32))] [(.int (4 : Int32)), (.int (4 : Int32))])
  refine own_go (fun _ k => XS.icmpNo X0.here hx rfl (hb hby d6_41) rfl (flt (by decide)).1 k) ?_
  show own_Ends _ _ _ _ _ _ _ s₁ (mkF m 44 #[.val (.ref r0), .val (.int (4 : Int32))] [])
  refine own_go (fun _ k => XS.aloadN X0.here hx rfl (hb hby d6_44) rfl rfl k) ?_
  show own_Ends _ _ _ _ _ _ _ s₁ (mkF m 45 #[.val (.ref r0), .val (.int (4 : Int32))] [(.ref r0)])
  refine own_go (fun _ k => XS.iloadN X0.here hx rfl (hb hby d6_45) rfl k) ?_
  show own_Ends _ _ _ _ _ _ _ s₁ (mkF m 46 #[.val (.ref r0), .val (.int (4 : Int32))] [(.int (4 : Int32)), (.ref r0)])
  refine own_go (fun _ k => XS.iconst X0.here hx rfl (hb hby d6_46) k) ?_
  show own_Ends _ _ _ _ _ _ _ s₁ (mkF m 47 #[.val (.ref r0), .val (.int (4 : Int32))] [(.int (3 : Int32)), (.int (4 : Int32)), (.ref r0)])
  refine own_go (fun _ k => XS.isub X0.here hx rfl (hb hby d6_47) rfl k) ?_
  show own_Ends _ _ _ _ _ _ _ s₁ (mkF m 48 #[.val (.ref r0), .val (.int (4 : Int32))] [(.int ((4 : Int32) - (3 : Int32))), (.ref r0)])
  refine own_go (fun _ k => XS.iconst X0.here hx rfl (hb hby d6_48) k) ?_
  show own_Ends _ _ _ _ _ _ _ s₁ (mkF m 49 #[.val (.ref r0), .val (.int (4 : Int32))] [(.int (4 : Int32)), (.int ((4 : Int32) - (3 : Int32))), (.ref r0)])
  rw [show ((4 : Int32) - (3 : Int32)) = (1 : Int32) from (by decide)]
  show own_Ends _ _ _ _ _ _ _ s₁ (mkF m 49 #[.val (.ref r0), .val (.int (4 : Int32))] [(.int (4 : Int32)), (.int (1 : Int32)), (.ref r0)])
  obtain ⟨v7, T7, L7, X7, hQ7, st7⟩ := own_callS X0 hx hZ hown (hw _ (List.mem_of_getElem? (i := 28) rfl)) (hw _ (List.mem_of_getElem? (i := 29) rfl)) (hw _ (List.mem_of_getElem? (i := 3) rfl)) (hw _ (List.mem_of_getElem? (i := 30) rfl)) (rm7_4 l Z a0 hw r0 (1 : Int32) (4 : Int32) h0 kc b 1 A (by decide) (by decide) rfl) e0 (g := (mkF m 49 #[.val (.ref r0), .val (.int (4 : Int32))] [(.int (4 : Int32)), (.int (1 : Int32)), (.ref r0)])) rfl (by rw [hml]; rfl) (argsL := [(.ref r0), (.int (1 : Int32)), (.int (4 : Int32))]) (rest := []) (lenOf pd_0 rfl) rfl rfl (W := 0) (by show 2 * 0 + _ ≤ _; exact Nat.le_of_eq rfl) (hb hby d6_49) (by decide) (by decide) (by decide) (by decide) (by decide)
  obtain ⟨hm7, rfl, e7⟩ := hQ7
  rcases hm7 with ⟨rfl, y4⟩ | ⟨rfl, y4⟩
  · refine own_go st7 ?_
    show own_Ends _ _ _ _ _ _ _ T7 (mkF m 52 #[.val (.ref r0), .val (.int (4 : Int32))] [(.int (1 : Int32))])
    refine own_go (fun _ k => XS.ifNo X7.here hx rfl (hb hby d6_52) rfl ((if0 _ _).trans (feq (by decide)).1) k) ?_
    show own_Ends _ _ _ _ _ _ _ T7 (mkF m 55 #[.val (.ref r0), .val (.int (4 : Int32))] [])
    refine own_go (fun _ k => XS.iconst X7.here hx rfl (hb hby d6_55) k) ?_
    show own_Ends _ _ _ _ _ _ _ T7 (mkF m 56 #[.val (.ref r0), .val (.int (4 : Int32))] [(.int (4 : Int32))])
    exact own_retI X7 hx hlk hret (hb hby d6_56) (by decide) (by decide) ⟨4, rfl, own_Bd_of 4 4 (by decide) y4 (fun L hL hl => by
      have := hl.1
      omega), rfl, e7⟩
  · refine own_go st7 ?_
    show own_Ends _ _ _ _ _ _ _ T7 (mkF m 52 #[.val (.ref r0), .val (.int (4 : Int32))] [(.int (0 : Int32))])
    refine own_go (fun _ k => XS.ifYes X7.here hx rfl (pc0 := 52) (pc' := 57) rfl (hb hby d6_52) rfl ((if0 _ _).trans (teq (rfl)).1) (by decide) (by decide) k) ?_
    show own_Ends _ _ _ _ _ _ _ T7 (mkF m 57 #[.val (.ref r0), .val (.int (4 : Int32))] [])
    refine own_go (fun _ k => XS.iloadN X7.here hx rfl (hb hby d6_57) rfl k) ?_
    show own_Ends _ _ _ _ _ _ _ T7 (mkF m 58 #[.val (.ref r0), .val (.int (4 : Int32))] [(.int (4 : Int32))])
    refine own_go (fun _ k => XS.iconst X7.here hx rfl (hb hby d6_58) k) ?_
    show own_Ends _ _ _ _ _ _ _ T7 (mkF m 59 #[.val (.ref r0), .val (.int (4 : Int32))] [(.int (3 : Int32)), (.int (4 : Int32))])
    refine own_go (fun _ k => XS.icmpNo X7.here hx rfl (hb hby d6_59) rfl (flt (by decide)).1 k) ?_
    show own_Ends _ _ _ _ _ _ _ T7 (mkF m 62 #[.val (.ref r0), .val (.int (4 : Int32))] [])
    refine own_go (fun _ k => XS.aloadN X7.here hx rfl (hb hby d6_62) rfl rfl k) ?_
    show own_Ends _ _ _ _ _ _ _ T7 (mkF m 63 #[.val (.ref r0), .val (.int (4 : Int32))] [(.ref r0)])
    refine own_go (fun _ k => XS.iloadN X7.here hx rfl (hb hby d6_63) rfl k) ?_
    show own_Ends _ _ _ _ _ _ _ T7 (mkF m 64 #[.val (.ref r0), .val (.int (4 : Int32))] [(.int (4 : Int32)), (.ref r0)])
    refine own_go (fun _ k => XS.iconst X7.here hx rfl (hb hby d6_64) k) ?_
    show own_Ends _ _ _ _ _ _ _ T7 (mkF m 65 #[.val (.ref r0), .val (.int (4 : Int32))] [(.int (2 : Int32)), (.int (4 : Int32)), (.ref r0)])
    refine own_go (fun _ k => XS.isub X7.here hx rfl (hb hby d6_65) rfl k) ?_
    show own_Ends _ _ _ _ _ _ _ T7 (mkF m 66 #[.val (.ref r0), .val (.int (4 : Int32))] [(.int ((4 : Int32) - (2 : Int32))), (.ref r0)])
    refine own_go (fun _ k => XS.iconst X7.here hx rfl (hb hby d6_66) k) ?_
    show own_Ends _ _ _ _ _ _ _ T7 (mkF m 67 #[.val (.ref r0), .val (.int (4 : Int32))] [(.int (3 : Int32)), (.int ((4 : Int32) - (2 : Int32))), (.ref r0)])
    rw [show ((4 : Int32) - (2 : Int32)) = (2 : Int32) from (by decide)]
    show own_Ends _ _ _ _ _ _ _ T7 (mkF m 67 #[.val (.ref r0), .val (.int (4 : Int32))] [(.int (3 : Int32)), (.int (2 : Int32)), (.ref r0)])
    obtain ⟨v8, T8, L8, X8, hQ8, st8⟩ := own_callS X7 hx hZ hown (hw _ (List.mem_of_getElem? (i := 28) rfl)) (hw _ (List.mem_of_getElem? (i := 29) rfl)) (hw _ (List.mem_of_getElem? (i := 3) rfl)) (hw _ (List.mem_of_getElem? (i := 30) rfl)) (rm7_3 l Z a0 hw r0 (2 : Int32) (3 : Int32) h0 kc b 2 A (by decide) (by decide) rfl) e7 (g := (mkF m 67 #[.val (.ref r0), .val (.int (4 : Int32))] [(.int (3 : Int32)), (.int (2 : Int32)), (.ref r0)])) rfl (by rw [hml]; rfl) (argsL := [(.ref r0), (.int (2 : Int32)), (.int (3 : Int32))]) (rest := []) (lenOf pd_0 rfl) rfl rfl (W := 0) (by show 2 * 0 + _ ≤ _; exact Nat.le_of_eq rfl) (hb hby d6_67) (by decide) (by decide) (by decide) (by decide) (by decide)
    obtain ⟨hm8, rfl, e8⟩ := hQ8
    rcases hm8 with ⟨rfl, y3⟩ | ⟨rfl, y3⟩
    · refine own_go st8 ?_
      show own_Ends _ _ _ _ _ _ _ T8 (mkF m 70 #[.val (.ref r0), .val (.int (4 : Int32))] [(.int (1 : Int32))])
      refine own_go (fun _ k => XS.ifNo X8.here hx rfl (hb hby d6_70) rfl ((if0 _ _).trans (feq (by decide)).1) k) ?_
      show own_Ends _ _ _ _ _ _ _ T8 (mkF m 73 #[.val (.ref r0), .val (.int (4 : Int32))] [])
      refine own_go (fun _ k => XS.iconst X8.here hx rfl (hb hby d6_73) k) ?_
      show own_Ends _ _ _ _ _ _ _ T8 (mkF m 74 #[.val (.ref r0), .val (.int (4 : Int32))] [(.int (3 : Int32))])
      exact own_retI X8 hx hlk hret (hb hby d6_74) (by decide) (by decide) ⟨3, rfl, own_Bd_of 4 3 (by decide) y3 (fun L hL hl => by
        have := hl.1
        have seg : L = 4 := by omega
        rcases seg with rfl
        · exact y4 (own_Pm hl)), rfl, e8⟩
    · refine own_go st8 ?_
      show own_Ends _ _ _ _ _ _ _ T8 (mkF m 70 #[.val (.ref r0), .val (.int (4 : Int32))] [(.int (0 : Int32))])
      refine own_go (fun _ k => XS.ifYes X8.here hx rfl (pc0 := 70) (pc' := 75) rfl (hb hby d6_70) rfl ((if0 _ _).trans (teq (rfl)).1) (by decide) (by decide) k) ?_
      show own_Ends _ _ _ _ _ _ _ T8 (mkF m 75 #[.val (.ref r0), .val (.int (4 : Int32))] [])
      refine own_go (fun _ k => XS.iloadN X8.here hx rfl (hb hby d6_75) rfl k) ?_
      show own_Ends _ _ _ _ _ _ _ T8 (mkF m 76 #[.val (.ref r0), .val (.int (4 : Int32))] [(.int (4 : Int32))])
      refine own_go (fun _ k => XS.iconst X8.here hx rfl (hb hby d6_76) k) ?_
      show own_Ends _ _ _ _ _ _ _ T8 (mkF m 77 #[.val (.ref r0), .val (.int (4 : Int32))] [(.int (2 : Int32)), (.int (4 : Int32))])
      refine own_go (fun _ k => XS.icmpNo X8.here hx rfl (hb hby d6_77) rfl (flt (by decide)).1 k) ?_
      show own_Ends _ _ _ _ _ _ _ T8 (mkF m 80 #[.val (.ref r0), .val (.int (4 : Int32))] [])
      refine own_go (fun _ k => XS.aloadN X8.here hx rfl (hb hby d6_80) rfl rfl k) ?_
      show own_Ends _ _ _ _ _ _ _ T8 (mkF m 81 #[.val (.ref r0), .val (.int (4 : Int32))] [(.ref r0)])
      refine own_go (fun _ k => XS.iloadN X8.here hx rfl (hb hby d6_81) rfl k) ?_
      show own_Ends _ _ _ _ _ _ _ T8 (mkF m 82 #[.val (.ref r0), .val (.int (4 : Int32))] [(.int (4 : Int32)), (.ref r0)])
      refine own_go (fun _ k => XS.iconst X8.here hx rfl (hb hby d6_82) k) ?_
      show own_Ends _ _ _ _ _ _ _ T8 (mkF m 83 #[.val (.ref r0), .val (.int (4 : Int32))] [(.int (1 : Int32)), (.int (4 : Int32)), (.ref r0)])
      refine own_go (fun _ k => XS.isub X8.here hx rfl (hb hby d6_83) rfl k) ?_
      show own_Ends _ _ _ _ _ _ _ T8 (mkF m 84 #[.val (.ref r0), .val (.int (4 : Int32))] [(.int ((4 : Int32) - (1 : Int32))), (.ref r0)])
      refine own_go (fun _ k => XS.iconst X8.here hx rfl (hb hby d6_84) k) ?_
      show own_Ends _ _ _ _ _ _ _ T8 (mkF m 85 #[.val (.ref r0), .val (.int (4 : Int32))] [(.int (2 : Int32)), (.int ((4 : Int32) - (1 : Int32))), (.ref r0)])
      rw [show ((4 : Int32) - (1 : Int32)) = (3 : Int32) from (by decide)]
      show own_Ends _ _ _ _ _ _ _ T8 (mkF m 85 #[.val (.ref r0), .val (.int (4 : Int32))] [(.int (2 : Int32)), (.int (3 : Int32)), (.ref r0)])
      obtain ⟨v9, T9, L9, X9, hQ9, st9⟩ := own_callS X8 hx hZ hown (hw _ (List.mem_of_getElem? (i := 28) rfl)) (hw _ (List.mem_of_getElem? (i := 29) rfl)) (hw _ (List.mem_of_getElem? (i := 3) rfl)) (hw _ (List.mem_of_getElem? (i := 30) rfl)) (rm7_2 l Z a0 hw r0 (3 : Int32) (2 : Int32) h0 kc b 3 A (by decide) (by decide) rfl) e8 (g := (mkF m 85 #[.val (.ref r0), .val (.int (4 : Int32))] [(.int (2 : Int32)), (.int (3 : Int32)), (.ref r0)])) rfl (by rw [hml]; rfl) (argsL := [(.ref r0), (.int (3 : Int32)), (.int (2 : Int32))]) (rest := []) (lenOf pd_0 rfl) rfl rfl (W := 0) (by show 2 * 0 + _ ≤ _; exact Nat.le_of_eq rfl) (hb hby d6_85) (by decide) (by decide) (by decide) (by decide) (by decide)
      obtain ⟨hm9, rfl, e9⟩ := hQ9
      rcases hm9 with ⟨rfl, y2⟩ | ⟨rfl, y2⟩
      · refine own_go st9 ?_
        show own_Ends _ _ _ _ _ _ _ T9 (mkF m 88 #[.val (.ref r0), .val (.int (4 : Int32))] [(.int (1 : Int32))])
        refine own_go (fun _ k => XS.ifNo X9.here hx rfl (hb hby d6_88) rfl ((if0 _ _).trans (feq (by decide)).1) k) ?_
        show own_Ends _ _ _ _ _ _ _ T9 (mkF m 91 #[.val (.ref r0), .val (.int (4 : Int32))] [])
        refine own_go (fun _ k => XS.iconst X9.here hx rfl (hb hby d6_91) k) ?_
        show own_Ends _ _ _ _ _ _ _ T9 (mkF m 92 #[.val (.ref r0), .val (.int (4 : Int32))] [(.int (2 : Int32))])
        exact own_retI X9 hx hlk hret (hb hby d6_92) (by decide) (by decide) ⟨2, rfl, own_Bd_of 4 2 (by decide) y2 (fun L hL hl => by
          have := hl.1
          have seg : L = 4 ∨ L = 3 := by omega
          rcases seg with rfl | rfl
          · exact y4 (own_Pm hl)
          · exact y3 (own_Pm hl)), rfl, e9⟩
      · refine own_go st9 ?_
        show own_Ends _ _ _ _ _ _ _ T9 (mkF m 88 #[.val (.ref r0), .val (.int (4 : Int32))] [(.int (0 : Int32))])
        refine own_go (fun _ k => XS.ifYes X9.here hx rfl (pc0 := 88) (pc' := 93) rfl (hb hby d6_88) rfl ((if0 _ _).trans (teq (rfl)).1) (by decide) (by decide) k) ?_
        show own_Ends _ _ _ _ _ _ _ T9 (mkF m 93 #[.val (.ref r0), .val (.int (4 : Int32))] [])
        refine own_go (fun _ k => XS.iloadN X9.here hx rfl (hb hby d6_93) rfl k) ?_
        show own_Ends _ _ _ _ _ _ _ T9 (mkF m 94 #[.val (.ref r0), .val (.int (4 : Int32))] [(.int (4 : Int32))])
        refine own_go (fun _ k => XS.iconst X9.here hx rfl (hb hby d6_94) k) ?_
        show own_Ends _ _ _ _ _ _ _ T9 (mkF m 95 #[.val (.ref r0), .val (.int (4 : Int32))] [(.int (1 : Int32)), (.int (4 : Int32))])
        refine own_go (fun _ k => XS.icmpNo X9.here hx rfl (hb hby d6_95) rfl (flt (by decide)).1 k) ?_
        show own_Ends _ _ _ _ _ _ _ T9 (mkF m 98 #[.val (.ref r0), .val (.int (4 : Int32))] [])
        refine own_go (fun _ k => XS.aloadN X9.here hx rfl (hb hby d6_98) rfl rfl k) ?_
        show own_Ends _ _ _ _ _ _ _ T9 (mkF m 99 #[.val (.ref r0), .val (.int (4 : Int32))] [(.ref r0)])
        refine own_go (fun _ k => XS.iloadN X9.here hx rfl (hb hby d6_99) rfl k) ?_
        show own_Ends _ _ _ _ _ _ _ T9 (mkF m 100 #[.val (.ref r0), .val (.int (4 : Int32))] [(.int (4 : Int32)), (.ref r0)])
        refine own_go (fun _ k => XS.iconst X9.here hx rfl (hb hby d6_100) k) ?_
        show own_Ends _ _ _ _ _ _ _ T9 (mkF m 101 #[.val (.ref r0), .val (.int (4 : Int32))] [(.int (1 : Int32)), (.int (4 : Int32)), (.ref r0)])
        obtain ⟨v10, T10, L10, X10, hQ10, st10⟩ := own_callS X9 hx hZ hown (hw _ (List.mem_of_getElem? (i := 28) rfl)) (hw _ (List.mem_of_getElem? (i := 29) rfl)) (hw _ (List.mem_of_getElem? (i := 3) rfl)) (hw _ (List.mem_of_getElem? (i := 30) rfl)) (rm7_1 l Z a0 hw r0 (4 : Int32) (1 : Int32) h0 kc b 4 A (by decide) (by decide) rfl) e9 (g := (mkF m 101 #[.val (.ref r0), .val (.int (4 : Int32))] [(.int (1 : Int32)), (.int (4 : Int32)), (.ref r0)])) rfl (by rw [hml]; rfl) (argsL := [(.ref r0), (.int (4 : Int32)), (.int (1 : Int32))]) (rest := []) (lenOf pd_0 rfl) rfl rfl (W := 0) (by show 2 * 0 + _ ≤ _; exact Nat.le_of_eq rfl) (hb hby d6_101) (by decide) (by decide) (by decide) (by decide) (by decide)
        obtain ⟨hm10, rfl, e10⟩ := hQ10
        rcases hm10 with ⟨rfl, y1⟩ | ⟨rfl, y1⟩
        · refine own_go st10 ?_
          show own_Ends _ _ _ _ _ _ _ T10 (mkF m 104 #[.val (.ref r0), .val (.int (4 : Int32))] [(.int (1 : Int32))])
          refine own_go (fun _ k => XS.ifNo X10.here hx rfl (hb hby d6_104) rfl ((if0 _ _).trans (feq (by decide)).1) k) ?_
          show own_Ends _ _ _ _ _ _ _ T10 (mkF m 107 #[.val (.ref r0), .val (.int (4 : Int32))] [])
          refine own_go (fun _ k => XS.iconst X10.here hx rfl (hb hby d6_107) k) ?_
          show own_Ends _ _ _ _ _ _ _ T10 (mkF m 108 #[.val (.ref r0), .val (.int (4 : Int32))] [(.int (1 : Int32))])
          exact own_retI X10 hx hlk hret (hb hby d6_108) (by decide) (by decide) ⟨1, rfl, own_Bd_of 4 1 (by decide) y1 (fun L hL hl => by
            have := hl.1
            have seg : L = 4 ∨ L = 3 ∨ L = 2 := by omega
            rcases seg with rfl | rfl | rfl
            · exact y4 (own_Pm hl)
            · exact y3 (own_Pm hl)
            · exact y2 (own_Pm hl)), rfl, e10⟩
        · refine own_go st10 ?_
          show own_Ends _ _ _ _ _ _ _ T10 (mkF m 104 #[.val (.ref r0), .val (.int (4 : Int32))] [(.int (0 : Int32))])
          refine own_go (fun _ k => XS.ifYes X10.here hx rfl (pc0 := 104) (pc' := 109) rfl (hb hby d6_104) rfl ((if0 _ _).trans (teq (rfl)).1) (by decide) (by decide) k) ?_
          show own_Ends _ _ _ _ _ _ _ T10 (mkF m 109 #[.val (.ref r0), .val (.int (4 : Int32))] [])
          refine own_go (fun _ k => XS.iconst X10.here hx rfl (hb hby d6_109) k) ?_
          show own_Ends _ _ _ _ _ _ _ T10 (mkF m 110 #[.val (.ref r0), .val (.int (4 : Int32))] [(.int (0 : Int32))])
          exact own_retI X10 hx hlk hret (hb hby d6_110) (by decide) (by decide) ⟨0, rfl, ⟨own_P0, fun L hL => by
            have := hL.1
            apply Nat.le_of_not_lt
            intro q
            have seg : L = 4 ∨ L = 3 ∨ L = 2 ∨ L = 1 := by omega
            rcases seg with rfl | rfl | rfl | rfl
            · exact y4 (own_Pm hL)
            · exact y3 (own_Pm hL)
            · exact y2 (own_Pm hL)
            · exact y1 (own_Pm hL)⟩, rfl, e10⟩
set_option maxRecDepth 65536 in
set_option maxHeartbeats 40000000 in
theorem rm6_5 (l : Launch) (Z : State) (a0 : Array Value) (hw : ∀ d ∈ tables_1, d.before a0 Z = true) (r0 : Addr) (p1 : Int32) (h0 : Heap) (kc : ClassId) (b : Nat → Int32) (A : own_Ar Z h0 r0 kc .byte 7 (fun j => .int (b j))) (hp : p1 = 5) :
    own_C l (⟨"com/example/prefixleap/prefixleap/core/PrefixTableOfPinLaw", "border", "([BI)I"⟩ : MethodName) method_4_code 2 (some .int) ({ frames := 1, cells := 0, slots := 0, locals := 20 } : Room) Z #[(.ref r0), (.int p1)] h0 (fun v h L => ∃ k : Nat, v = some (.int (Int32.ofNat k)) ∧ own_Bd b 5 k ∧ L = [] ∧ h = h0) := by
  refine own_enter pn_6 ?_
  intro p e s m below meth c s₁ X0 hx hby hml hown hnm hret hlk hZ e0 hZH hnamed
  replace hown : s.vm.findClass "com/example/prefixleap/prefixleap/core/PrefixTableOfPinLaw" = some m.cls := hown
  have ef : entryFrame m #[(.ref r0), (.int p1)] 2 = mkF m 0 #[.val (.ref r0), .val (.int p1)] [] := by first | rfl | (simp [entryFrame, mkF, argsToLocals, Value.category, maxLocals]; done)
  refine own_cast ef ?_
  show own_Ends _ _ _ _ _ _ _ s₁ (mkF m 0 #[.val (.ref r0), .val (.int p1)] [])
  subst hp
  show own_Ends _ _ _ _ _ _ _ s₁ (mkF m 0 #[.val (.ref r0), .val (.int (5 : Int32))] [])
  refine own_go (fun _ k => XS.iloadN X0.here hx rfl (hb hby d6_0) rfl k) ?_
  show own_Ends _ _ _ _ _ _ _ s₁ (mkF m 1 #[.val (.ref r0), .val (.int (5 : Int32))] [(.int (5 : Int32))])
  refine own_go (fun _ k => XS.bipush X0.here hx rfl (hb hby d6_1) k) ?_
  show own_Ends _ _ _ _ _ _ _ s₁ (mkF m 3 #[.val (.ref r0), .val (.int (5 : Int32))] [(.int (6 : Int32)), (.int (5 : Int32))])
  refine own_go (fun _ k => XS.icmpYes X0.here hx rfl (pc0 := 3) (pc' := 21) rfl (hb hby d6_3) rfl (tlt (by decide)).1 (by decide) (by decide) k) ?_
  show own_Ends _ _ _ _ _ _ _ s₁ (mkF m 21 #[.val (.ref r0), .val (.int (5 : Int32))] [])
  refine own_go (fun _ k => XS.iloadN X0.here hx rfl (hb hby d6_21) rfl k) ?_
  show own_Ends _ _ _ _ _ _ _ s₁ (mkF m 22 #[.val (.ref r0), .val (.int (5 : Int32))] [(.int (5 : Int32))])
  refine own_go (fun _ k => XS.iconst X0.here hx rfl (hb hby d6_22) k) ?_
  show own_Ends _ _ _ _ _ _ _ s₁ (mkF m 23 #[.val (.ref r0), .val (.int (5 : Int32))] [(.int (5 : Int32)), (.int (5 : Int32))])
  refine own_go (fun _ k => XS.icmpNo X0.here hx rfl (hb hby d6_23) rfl (flt (by decide)).1 k) ?_
  show own_Ends _ _ _ _ _ _ _ s₁ (mkF m 26 #[.val (.ref r0), .val (.int (5 : Int32))] [])
  refine own_go (fun _ k => XS.aloadN X0.here hx rfl (hb hby d6_26) rfl rfl k) ?_
  show own_Ends _ _ _ _ _ _ _ s₁ (mkF m 27 #[.val (.ref r0), .val (.int (5 : Int32))] [(.ref r0)])
  refine own_go (fun _ k => XS.iloadN X0.here hx rfl (hb hby d6_27) rfl k) ?_
  show own_Ends _ _ _ _ _ _ _ s₁ (mkF m 28 #[.val (.ref r0), .val (.int (5 : Int32))] [(.int (5 : Int32)), (.ref r0)])
  refine own_go (fun _ k => XS.iconst X0.here hx rfl (hb hby d6_28) k) ?_
  show own_Ends _ _ _ _ _ _ _ s₁ (mkF m 29 #[.val (.ref r0), .val (.int (5 : Int32))] [(.int (4 : Int32)), (.int (5 : Int32)), (.ref r0)])
  refine own_go (fun _ k => XS.isub X0.here hx rfl (hb hby d6_29) rfl k) ?_
  show own_Ends _ _ _ _ _ _ _ s₁ (mkF m 30 #[.val (.ref r0), .val (.int (5 : Int32))] [(.int ((5 : Int32) - (4 : Int32))), (.ref r0)])
  refine own_go (fun _ k => XS.iconst X0.here hx rfl (hb hby d6_30) k) ?_
  show own_Ends _ _ _ _ _ _ _ s₁ (mkF m 31 #[.val (.ref r0), .val (.int (5 : Int32))] [(.int (5 : Int32)), (.int ((5 : Int32) - (4 : Int32))), (.ref r0)])
  rw [show ((5 : Int32) - (4 : Int32)) = (1 : Int32) from (by decide)]
  show own_Ends _ _ _ _ _ _ _ s₁ (mkF m 31 #[.val (.ref r0), .val (.int (5 : Int32))] [(.int (5 : Int32)), (.int (1 : Int32)), (.ref r0)])
  obtain ⟨v11, T11, L11, X11, hQ11, st11⟩ := own_callS X0 hx hZ hown (hw _ (List.mem_of_getElem? (i := 28) rfl)) (hw _ (List.mem_of_getElem? (i := 29) rfl)) (hw _ (List.mem_of_getElem? (i := 3) rfl)) (hw _ (List.mem_of_getElem? (i := 30) rfl)) (rm7_5 l Z a0 hw r0 (1 : Int32) (5 : Int32) h0 kc b 1 A (by decide) (by decide) rfl) e0 (g := (mkF m 31 #[.val (.ref r0), .val (.int (5 : Int32))] [(.int (5 : Int32)), (.int (1 : Int32)), (.ref r0)])) rfl (by rw [hml]; rfl) (argsL := [(.ref r0), (.int (1 : Int32)), (.int (5 : Int32))]) (rest := []) (lenOf pd_0 rfl) rfl rfl (W := 0) (by show 2 * 0 + _ ≤ _; exact Nat.le_of_eq rfl) (hb hby d6_31) (by decide) (by decide) (by decide) (by decide) (by decide)
  obtain ⟨hm11, rfl, e11⟩ := hQ11
  rcases hm11 with ⟨rfl, y5⟩ | ⟨rfl, y5⟩
  · refine own_go st11 ?_
    show own_Ends _ _ _ _ _ _ _ T11 (mkF m 34 #[.val (.ref r0), .val (.int (5 : Int32))] [(.int (1 : Int32))])
    refine own_go (fun _ k => XS.ifNo X11.here hx rfl (hb hby d6_34) rfl ((if0 _ _).trans (feq (by decide)).1) k) ?_
    show own_Ends _ _ _ _ _ _ _ T11 (mkF m 37 #[.val (.ref r0), .val (.int (5 : Int32))] [])
    refine own_go (fun _ k => XS.iconst X11.here hx rfl (hb hby d6_37) k) ?_
    show own_Ends _ _ _ _ _ _ _ T11 (mkF m 38 #[.val (.ref r0), .val (.int (5 : Int32))] [(.int (5 : Int32))])
    exact own_retI X11 hx hlk hret (hb hby d6_38) (by decide) (by decide) ⟨5, rfl, own_Bd_of 5 5 (by decide) y5 (fun L hL hl => by
      have := hl.1
      omega), rfl, e11⟩
  · refine own_go st11 ?_
    show own_Ends _ _ _ _ _ _ _ T11 (mkF m 34 #[.val (.ref r0), .val (.int (5 : Int32))] [(.int (0 : Int32))])
    refine own_go (fun _ k => XS.ifYes X11.here hx rfl (pc0 := 34) (pc' := 39) rfl (hb hby d6_34) rfl ((if0 _ _).trans (teq (rfl)).1) (by decide) (by decide) k) ?_
    show own_Ends _ _ _ _ _ _ _ T11 (mkF m 39 #[.val (.ref r0), .val (.int (5 : Int32))] [])
    refine own_go (fun _ k => XS.iloadN X11.here hx rfl (hb hby d6_39) rfl k) ?_
    show own_Ends _ _ _ _ _ _ _ T11 (mkF m 40 #[.val (.ref r0), .val (.int (5 : Int32))] [(.int (5 : Int32))])
    refine own_go (fun _ k => XS.iconst X11.here hx rfl (hb hby d6_40) k) ?_
    show own_Ends _ _ _ _ _ _ _ T11 (mkF m 41 #[.val (.ref r0), .val (.int (5 : Int32))] [(.int (4 : Int32)), (.int (5 : Int32))])
    refine own_go (fun _ k => XS.icmpNo X11.here hx rfl (hb hby d6_41) rfl (flt (by decide)).1 k) ?_
    show own_Ends _ _ _ _ _ _ _ T11 (mkF m 44 #[.val (.ref r0), .val (.int (5 : Int32))] [])
    refine own_go (fun _ k => XS.aloadN X11.here hx rfl (hb hby d6_44) rfl rfl k) ?_
    show own_Ends _ _ _ _ _ _ _ T11 (mkF m 45 #[.val (.ref r0), .val (.int (5 : Int32))] [(.ref r0)])
    refine own_go (fun _ k => XS.iloadN X11.here hx rfl (hb hby d6_45) rfl k) ?_
    show own_Ends _ _ _ _ _ _ _ T11 (mkF m 46 #[.val (.ref r0), .val (.int (5 : Int32))] [(.int (5 : Int32)), (.ref r0)])
    refine own_go (fun _ k => XS.iconst X11.here hx rfl (hb hby d6_46) k) ?_
    show own_Ends _ _ _ _ _ _ _ T11 (mkF m 47 #[.val (.ref r0), .val (.int (5 : Int32))] [(.int (3 : Int32)), (.int (5 : Int32)), (.ref r0)])
    refine own_go (fun _ k => XS.isub X11.here hx rfl (hb hby d6_47) rfl k) ?_
    show own_Ends _ _ _ _ _ _ _ T11 (mkF m 48 #[.val (.ref r0), .val (.int (5 : Int32))] [(.int ((5 : Int32) - (3 : Int32))), (.ref r0)])
    refine own_go (fun _ k => XS.iconst X11.here hx rfl (hb hby d6_48) k) ?_
    show own_Ends _ _ _ _ _ _ _ T11 (mkF m 49 #[.val (.ref r0), .val (.int (5 : Int32))] [(.int (4 : Int32)), (.int ((5 : Int32) - (3 : Int32))), (.ref r0)])
    rw [show ((5 : Int32) - (3 : Int32)) = (2 : Int32) from (by decide)]
    show own_Ends _ _ _ _ _ _ _ T11 (mkF m 49 #[.val (.ref r0), .val (.int (5 : Int32))] [(.int (4 : Int32)), (.int (2 : Int32)), (.ref r0)])
    obtain ⟨v12, T12, L12, X12, hQ12, st12⟩ := own_callS X11 hx hZ hown (hw _ (List.mem_of_getElem? (i := 28) rfl)) (hw _ (List.mem_of_getElem? (i := 29) rfl)) (hw _ (List.mem_of_getElem? (i := 3) rfl)) (hw _ (List.mem_of_getElem? (i := 30) rfl)) (rm7_4 l Z a0 hw r0 (2 : Int32) (4 : Int32) h0 kc b 2 A (by decide) (by decide) rfl) e11 (g := (mkF m 49 #[.val (.ref r0), .val (.int (5 : Int32))] [(.int (4 : Int32)), (.int (2 : Int32)), (.ref r0)])) rfl (by rw [hml]; rfl) (argsL := [(.ref r0), (.int (2 : Int32)), (.int (4 : Int32))]) (rest := []) (lenOf pd_0 rfl) rfl rfl (W := 0) (by show 2 * 0 + _ ≤ _; exact Nat.le_of_eq rfl) (hb hby d6_49) (by decide) (by decide) (by decide) (by decide) (by decide)
    obtain ⟨hm12, rfl, e12⟩ := hQ12
    rcases hm12 with ⟨rfl, y4⟩ | ⟨rfl, y4⟩
    · refine own_go st12 ?_
      show own_Ends _ _ _ _ _ _ _ T12 (mkF m 52 #[.val (.ref r0), .val (.int (5 : Int32))] [(.int (1 : Int32))])
      refine own_go (fun _ k => XS.ifNo X12.here hx rfl (hb hby d6_52) rfl ((if0 _ _).trans (feq (by decide)).1) k) ?_
      show own_Ends _ _ _ _ _ _ _ T12 (mkF m 55 #[.val (.ref r0), .val (.int (5 : Int32))] [])
      refine own_go (fun _ k => XS.iconst X12.here hx rfl (hb hby d6_55) k) ?_
      show own_Ends _ _ _ _ _ _ _ T12 (mkF m 56 #[.val (.ref r0), .val (.int (5 : Int32))] [(.int (4 : Int32))])
      exact own_retI X12 hx hlk hret (hb hby d6_56) (by decide) (by decide) ⟨4, rfl, own_Bd_of 5 4 (by decide) y4 (fun L hL hl => by
        have := hl.1
        have seg : L = 5 := by omega
        rcases seg with rfl
        · exact y5 (own_Pm hl)), rfl, e12⟩
    · refine own_go st12 ?_
      show own_Ends _ _ _ _ _ _ _ T12 (mkF m 52 #[.val (.ref r0), .val (.int (5 : Int32))] [(.int (0 : Int32))])
      refine own_go (fun _ k => XS.ifYes X12.here hx rfl (pc0 := 52) (pc' := 57) rfl (hb hby d6_52) rfl ((if0 _ _).trans (teq (rfl)).1) (by decide) (by decide) k) ?_
      show own_Ends _ _ _ _ _ _ _ T12 (mkF m 57 #[.val (.ref r0), .val (.int (5 : Int32))] [])
      refine own_go (fun _ k => XS.iloadN X12.here hx rfl (hb hby d6_57) rfl k) ?_
      show own_Ends _ _ _ _ _ _ _ T12 (mkF m 58 #[.val (.ref r0), .val (.int (5 : Int32))] [(.int (5 : Int32))])
      refine own_go (fun _ k => XS.iconst X12.here hx rfl (hb hby d6_58) k) ?_
      show own_Ends _ _ _ _ _ _ _ T12 (mkF m 59 #[.val (.ref r0), .val (.int (5 : Int32))] [(.int (3 : Int32)), (.int (5 : Int32))])
      refine own_go (fun _ k => XS.icmpNo X12.here hx rfl (hb hby d6_59) rfl (flt (by decide)).1 k) ?_
      show own_Ends _ _ _ _ _ _ _ T12 (mkF m 62 #[.val (.ref r0), .val (.int (5 : Int32))] [])
      refine own_go (fun _ k => XS.aloadN X12.here hx rfl (hb hby d6_62) rfl rfl k) ?_
      show own_Ends _ _ _ _ _ _ _ T12 (mkF m 63 #[.val (.ref r0), .val (.int (5 : Int32))] [(.ref r0)])
      refine own_go (fun _ k => XS.iloadN X12.here hx rfl (hb hby d6_63) rfl k) ?_
      show own_Ends _ _ _ _ _ _ _ T12 (mkF m 64 #[.val (.ref r0), .val (.int (5 : Int32))] [(.int (5 : Int32)), (.ref r0)])
      refine own_go (fun _ k => XS.iconst X12.here hx rfl (hb hby d6_64) k) ?_
      show own_Ends _ _ _ _ _ _ _ T12 (mkF m 65 #[.val (.ref r0), .val (.int (5 : Int32))] [(.int (2 : Int32)), (.int (5 : Int32)), (.ref r0)])
      refine own_go (fun _ k => XS.isub X12.here hx rfl (hb hby d6_65) rfl k) ?_
      show own_Ends _ _ _ _ _ _ _ T12 (mkF m 66 #[.val (.ref r0), .val (.int (5 : Int32))] [(.int ((5 : Int32) - (2 : Int32))), (.ref r0)])
      refine own_go (fun _ k => XS.iconst X12.here hx rfl (hb hby d6_66) k) ?_
      show own_Ends _ _ _ _ _ _ _ T12 (mkF m 67 #[.val (.ref r0), .val (.int (5 : Int32))] [(.int (3 : Int32)), (.int ((5 : Int32) - (2 : Int32))), (.ref r0)])
      rw [show ((5 : Int32) - (2 : Int32)) = (3 : Int32) from (by decide)]
      show own_Ends _ _ _ _ _ _ _ T12 (mkF m 67 #[.val (.ref r0), .val (.int (5 : Int32))] [(.int (3 : Int32)), (.int (3 : Int32)), (.ref r0)])
      obtain ⟨v13, T13, L13, X13, hQ13, st13⟩ := own_callS X12 hx hZ hown (hw _ (List.mem_of_getElem? (i := 28) rfl)) (hw _ (List.mem_of_getElem? (i := 29) rfl)) (hw _ (List.mem_of_getElem? (i := 3) rfl)) (hw _ (List.mem_of_getElem? (i := 30) rfl)) (rm7_3 l Z a0 hw r0 (3 : Int32) (3 : Int32) h0 kc b 3 A (by decide) (by decide) rfl) e12 (g := (mkF m 67 #[.val (.ref r0), .val (.int (5 : Int32))] [(.int (3 : Int32)), (.int (3 : Int32)), (.ref r0)])) rfl (by rw [hml]; rfl) (argsL := [(.ref r0), (.int (3 : Int32)), (.int (3 : Int32))]) (rest := []) (lenOf pd_0 rfl) rfl rfl (W := 0) (by show 2 * 0 + _ ≤ _; exact Nat.le_of_eq rfl) (hb hby d6_67) (by decide) (by decide) (by decide) (by decide) (by decide)
      obtain ⟨hm13, rfl, e13⟩ := hQ13
      rcases hm13 with ⟨rfl, y3⟩ | ⟨rfl, y3⟩
      · refine own_go st13 ?_
        show own_Ends _ _ _ _ _ _ _ T13 (mkF m 70 #[.val (.ref r0), .val (.int (5 : Int32))] [(.int (1 : Int32))])
        refine own_go (fun _ k => XS.ifNo X13.here hx rfl (hb hby d6_70) rfl ((if0 _ _).trans (feq (by decide)).1) k) ?_
        show own_Ends _ _ _ _ _ _ _ T13 (mkF m 73 #[.val (.ref r0), .val (.int (5 : Int32))] [])
        refine own_go (fun _ k => XS.iconst X13.here hx rfl (hb hby d6_73) k) ?_
        show own_Ends _ _ _ _ _ _ _ T13 (mkF m 74 #[.val (.ref r0), .val (.int (5 : Int32))] [(.int (3 : Int32))])
        exact own_retI X13 hx hlk hret (hb hby d6_74) (by decide) (by decide) ⟨3, rfl, own_Bd_of 5 3 (by decide) y3 (fun L hL hl => by
          have := hl.1
          have seg : L = 5 ∨ L = 4 := by omega
          rcases seg with rfl | rfl
          · exact y5 (own_Pm hl)
          · exact y4 (own_Pm hl)), rfl, e13⟩
      · refine own_go st13 ?_
        show own_Ends _ _ _ _ _ _ _ T13 (mkF m 70 #[.val (.ref r0), .val (.int (5 : Int32))] [(.int (0 : Int32))])
        refine own_go (fun _ k => XS.ifYes X13.here hx rfl (pc0 := 70) (pc' := 75) rfl (hb hby d6_70) rfl ((if0 _ _).trans (teq (rfl)).1) (by decide) (by decide) k) ?_
        show own_Ends _ _ _ _ _ _ _ T13 (mkF m 75 #[.val (.ref r0), .val (.int (5 : Int32))] [])
        refine own_go (fun _ k => XS.iloadN X13.here hx rfl (hb hby d6_75) rfl k) ?_
        show own_Ends _ _ _ _ _ _ _ T13 (mkF m 76 #[.val (.ref r0), .val (.int (5 : Int32))] [(.int (5 : Int32))])
        refine own_go (fun _ k => XS.iconst X13.here hx rfl (hb hby d6_76) k) ?_
        show own_Ends _ _ _ _ _ _ _ T13 (mkF m 77 #[.val (.ref r0), .val (.int (5 : Int32))] [(.int (2 : Int32)), (.int (5 : Int32))])
        refine own_go (fun _ k => XS.icmpNo X13.here hx rfl (hb hby d6_77) rfl (flt (by decide)).1 k) ?_
        show own_Ends _ _ _ _ _ _ _ T13 (mkF m 80 #[.val (.ref r0), .val (.int (5 : Int32))] [])
        refine own_go (fun _ k => XS.aloadN X13.here hx rfl (hb hby d6_80) rfl rfl k) ?_
        show own_Ends _ _ _ _ _ _ _ T13 (mkF m 81 #[.val (.ref r0), .val (.int (5 : Int32))] [(.ref r0)])
        refine own_go (fun _ k => XS.iloadN X13.here hx rfl (hb hby d6_81) rfl k) ?_
        show own_Ends _ _ _ _ _ _ _ T13 (mkF m 82 #[.val (.ref r0), .val (.int (5 : Int32))] [(.int (5 : Int32)), (.ref r0)])
        refine own_go (fun _ k => XS.iconst X13.here hx rfl (hb hby d6_82) k) ?_
        show own_Ends _ _ _ _ _ _ _ T13 (mkF m 83 #[.val (.ref r0), .val (.int (5 : Int32))] [(.int (1 : Int32)), (.int (5 : Int32)), (.ref r0)])
        refine own_go (fun _ k => XS.isub X13.here hx rfl (hb hby d6_83) rfl k) ?_
        show own_Ends _ _ _ _ _ _ _ T13 (mkF m 84 #[.val (.ref r0), .val (.int (5 : Int32))] [(.int ((5 : Int32) - (1 : Int32))), (.ref r0)])
        refine own_go (fun _ k => XS.iconst X13.here hx rfl (hb hby d6_84) k) ?_
        show own_Ends _ _ _ _ _ _ _ T13 (mkF m 85 #[.val (.ref r0), .val (.int (5 : Int32))] [(.int (2 : Int32)), (.int ((5 : Int32) - (1 : Int32))), (.ref r0)])
        rw [show ((5 : Int32) - (1 : Int32)) = (4 : Int32) from (by decide)]
        show own_Ends _ _ _ _ _ _ _ T13 (mkF m 85 #[.val (.ref r0), .val (.int (5 : Int32))] [(.int (2 : Int32)), (.int (4 : Int32)), (.ref r0)])
        obtain ⟨v14, T14, L14, X14, hQ14, st14⟩ := own_callS X13 hx hZ hown (hw _ (List.mem_of_getElem? (i := 28) rfl)) (hw _ (List.mem_of_getElem? (i := 29) rfl)) (hw _ (List.mem_of_getElem? (i := 3) rfl)) (hw _ (List.mem_of_getElem? (i := 30) rfl)) (rm7_2 l Z a0 hw r0 (4 : Int32) (2 : Int32) h0 kc b 4 A (by decide) (by decide) rfl) e13 (g := (mkF m 85 #[.val (.ref r0), .val (.int (5 : Int32))] [(.int (2 : Int32)), (.int (4 : Int32)), (.ref r0)])) rfl (by rw [hml]; rfl) (argsL := [(.ref r0), (.int (4 : Int32)), (.int (2 : Int32))]) (rest := []) (lenOf pd_0 rfl) rfl rfl (W := 0) (by show 2 * 0 + _ ≤ _; exact Nat.le_of_eq rfl) (hb hby d6_85) (by decide) (by decide) (by decide) (by decide) (by decide)
        obtain ⟨hm14, rfl, e14⟩ := hQ14
        rcases hm14 with ⟨rfl, y2⟩ | ⟨rfl, y2⟩
        · refine own_go st14 ?_
          show own_Ends _ _ _ _ _ _ _ T14 (mkF m 88 #[.val (.ref r0), .val (.int (5 : Int32))] [(.int (1 : Int32))])
          refine own_go (fun _ k => XS.ifNo X14.here hx rfl (hb hby d6_88) rfl ((if0 _ _).trans (feq (by decide)).1) k) ?_
          show own_Ends _ _ _ _ _ _ _ T14 (mkF m 91 #[.val (.ref r0), .val (.int (5 : Int32))] [])
          refine own_go (fun _ k => XS.iconst X14.here hx rfl (hb hby d6_91) k) ?_
          show own_Ends _ _ _ _ _ _ _ T14 (mkF m 92 #[.val (.ref r0), .val (.int (5 : Int32))] [(.int (2 : Int32))])
          exact own_retI X14 hx hlk hret (hb hby d6_92) (by decide) (by decide) ⟨2, rfl, own_Bd_of 5 2 (by decide) y2 (fun L hL hl => by
            have := hl.1
            have seg : L = 5 ∨ L = 4 ∨ L = 3 := by omega
            rcases seg with rfl | rfl | rfl
            · exact y5 (own_Pm hl)
            · exact y4 (own_Pm hl)
            · exact y3 (own_Pm hl)), rfl, e14⟩
        · refine own_go st14 ?_
          show own_Ends _ _ _ _ _ _ _ T14 (mkF m 88 #[.val (.ref r0), .val (.int (5 : Int32))] [(.int (0 : Int32))])
          refine own_go (fun _ k => XS.ifYes X14.here hx rfl (pc0 := 88) (pc' := 93) rfl (hb hby d6_88) rfl ((if0 _ _).trans (teq (rfl)).1) (by decide) (by decide) k) ?_
          show own_Ends _ _ _ _ _ _ _ T14 (mkF m 93 #[.val (.ref r0), .val (.int (5 : Int32))] [])
          refine own_go (fun _ k => XS.iloadN X14.here hx rfl (hb hby d6_93) rfl k) ?_
          show own_Ends _ _ _ _ _ _ _ T14 (mkF m 94 #[.val (.ref r0), .val (.int (5 : Int32))] [(.int (5 : Int32))])
          refine own_go (fun _ k => XS.iconst X14.here hx rfl (hb hby d6_94) k) ?_
          show own_Ends _ _ _ _ _ _ _ T14 (mkF m 95 #[.val (.ref r0), .val (.int (5 : Int32))] [(.int (1 : Int32)), (.int (5 : Int32))])
          refine own_go (fun _ k => XS.icmpNo X14.here hx rfl (hb hby d6_95) rfl (flt (by decide)).1 k) ?_
          show own_Ends _ _ _ _ _ _ _ T14 (mkF m 98 #[.val (.ref r0), .val (.int (5 : Int32))] [])
          refine own_go (fun _ k => XS.aloadN X14.here hx rfl (hb hby d6_98) rfl rfl k) ?_
          show own_Ends _ _ _ _ _ _ _ T14 (mkF m 99 #[.val (.ref r0), .val (.int (5 : Int32))] [(.ref r0)])
          refine own_go (fun _ k => XS.iloadN X14.here hx rfl (hb hby d6_99) rfl k) ?_
          show own_Ends _ _ _ _ _ _ _ T14 (mkF m 100 #[.val (.ref r0), .val (.int (5 : Int32))] [(.int (5 : Int32)), (.ref r0)])
          refine own_go (fun _ k => XS.iconst X14.here hx rfl (hb hby d6_100) k) ?_
          show own_Ends _ _ _ _ _ _ _ T14 (mkF m 101 #[.val (.ref r0), .val (.int (5 : Int32))] [(.int (1 : Int32)), (.int (5 : Int32)), (.ref r0)])
          obtain ⟨v15, T15, L15, X15, hQ15, st15⟩ := own_callS X14 hx hZ hown (hw _ (List.mem_of_getElem? (i := 28) rfl)) (hw _ (List.mem_of_getElem? (i := 29) rfl)) (hw _ (List.mem_of_getElem? (i := 3) rfl)) (hw _ (List.mem_of_getElem? (i := 30) rfl)) (rm7_1 l Z a0 hw r0 (5 : Int32) (1 : Int32) h0 kc b 5 A (by decide) (by decide) rfl) e14 (g := (mkF m 101 #[.val (.ref r0), .val (.int (5 : Int32))] [(.int (1 : Int32)), (.int (5 : Int32)), (.ref r0)])) rfl (by rw [hml]; rfl) (argsL := [(.ref r0), (.int (5 : Int32)), (.int (1 : Int32))]) (rest := []) (lenOf pd_0 rfl) rfl rfl (W := 0) (by show 2 * 0 + _ ≤ _; exact Nat.le_of_eq rfl) (hb hby d6_101) (by decide) (by decide) (by decide) (by decide) (by decide)
          obtain ⟨hm15, rfl, e15⟩ := hQ15
          rcases hm15 with ⟨rfl, y1⟩ | ⟨rfl, y1⟩
          · refine own_go st15 ?_
            show own_Ends _ _ _ _ _ _ _ T15 (mkF m 104 #[.val (.ref r0), .val (.int (5 : Int32))] [(.int (1 : Int32))])
            refine own_go (fun _ k => XS.ifNo X15.here hx rfl (hb hby d6_104) rfl ((if0 _ _).trans (feq (by decide)).1) k) ?_
            show own_Ends _ _ _ _ _ _ _ T15 (mkF m 107 #[.val (.ref r0), .val (.int (5 : Int32))] [])
            refine own_go (fun _ k => XS.iconst X15.here hx rfl (hb hby d6_107) k) ?_
            show own_Ends _ _ _ _ _ _ _ T15 (mkF m 108 #[.val (.ref r0), .val (.int (5 : Int32))] [(.int (1 : Int32))])
            exact own_retI X15 hx hlk hret (hb hby d6_108) (by decide) (by decide) ⟨1, rfl, own_Bd_of 5 1 (by decide) y1 (fun L hL hl => by
              have := hl.1
              have seg : L = 5 ∨ L = 4 ∨ L = 3 ∨ L = 2 := by omega
              rcases seg with rfl | rfl | rfl | rfl
              · exact y5 (own_Pm hl)
              · exact y4 (own_Pm hl)
              · exact y3 (own_Pm hl)
              · exact y2 (own_Pm hl)), rfl, e15⟩
          · refine own_go st15 ?_
            show own_Ends _ _ _ _ _ _ _ T15 (mkF m 104 #[.val (.ref r0), .val (.int (5 : Int32))] [(.int (0 : Int32))])
            refine own_go (fun _ k => XS.ifYes X15.here hx rfl (pc0 := 104) (pc' := 109) rfl (hb hby d6_104) rfl ((if0 _ _).trans (teq (rfl)).1) (by decide) (by decide) k) ?_
            show own_Ends _ _ _ _ _ _ _ T15 (mkF m 109 #[.val (.ref r0), .val (.int (5 : Int32))] [])
            refine own_go (fun _ k => XS.iconst X15.here hx rfl (hb hby d6_109) k) ?_
            show own_Ends _ _ _ _ _ _ _ T15 (mkF m 110 #[.val (.ref r0), .val (.int (5 : Int32))] [(.int (0 : Int32))])
            exact own_retI X15 hx hlk hret (hb hby d6_110) (by decide) (by decide) ⟨0, rfl, ⟨own_P0, fun L hL => by
              have := hL.1
              apply Nat.le_of_not_lt
              intro q
              have seg : L = 5 ∨ L = 4 ∨ L = 3 ∨ L = 2 ∨ L = 1 := by omega
              rcases seg with rfl | rfl | rfl | rfl | rfl
              · exact y5 (own_Pm hL)
              · exact y4 (own_Pm hL)
              · exact y3 (own_Pm hL)
              · exact y2 (own_Pm hL)
              · exact y1 (own_Pm hL)⟩, rfl, e15⟩
set_option maxRecDepth 65536 in
set_option maxHeartbeats 40000000 in
theorem rm6_6 (l : Launch) (Z : State) (a0 : Array Value) (hw : ∀ d ∈ tables_1, d.before a0 Z = true) (r0 : Addr) (p1 : Int32) (h0 : Heap) (kc : ClassId) (b : Nat → Int32) (A : own_Ar Z h0 r0 kc .byte 7 (fun j => .int (b j))) (hp : p1 = 6) :
    own_C l (⟨"com/example/prefixleap/prefixleap/core/PrefixTableOfPinLaw", "border", "([BI)I"⟩ : MethodName) method_4_code 2 (some .int) ({ frames := 1, cells := 0, slots := 0, locals := 20 } : Room) Z #[(.ref r0), (.int p1)] h0 (fun v h L => ∃ k : Nat, v = some (.int (Int32.ofNat k)) ∧ own_Bd b 6 k ∧ L = [] ∧ h = h0) := by
  refine own_enter pn_6 ?_
  intro p e s m below meth c s₁ X0 hx hby hml hown hnm hret hlk hZ e0 hZH hnamed
  replace hown : s.vm.findClass "com/example/prefixleap/prefixleap/core/PrefixTableOfPinLaw" = some m.cls := hown
  have ef : entryFrame m #[(.ref r0), (.int p1)] 2 = mkF m 0 #[.val (.ref r0), .val (.int p1)] [] := by first | rfl | (simp [entryFrame, mkF, argsToLocals, Value.category, maxLocals]; done)
  refine own_cast ef ?_
  show own_Ends _ _ _ _ _ _ _ s₁ (mkF m 0 #[.val (.ref r0), .val (.int p1)] [])
  subst hp
  show own_Ends _ _ _ _ _ _ _ s₁ (mkF m 0 #[.val (.ref r0), .val (.int (6 : Int32))] [])
  refine own_go (fun _ k => XS.iloadN X0.here hx rfl (hb hby d6_0) rfl k) ?_
  show own_Ends _ _ _ _ _ _ _ s₁ (mkF m 1 #[.val (.ref r0), .val (.int (6 : Int32))] [(.int (6 : Int32))])
  refine own_go (fun _ k => XS.bipush X0.here hx rfl (hb hby d6_1) k) ?_
  show own_Ends _ _ _ _ _ _ _ s₁ (mkF m 3 #[.val (.ref r0), .val (.int (6 : Int32))] [(.int (6 : Int32)), (.int (6 : Int32))])
  refine own_go (fun _ k => XS.icmpNo X0.here hx rfl (hb hby d6_3) rfl (flt (by decide)).1 k) ?_
  show own_Ends _ _ _ _ _ _ _ s₁ (mkF m 6 #[.val (.ref r0), .val (.int (6 : Int32))] [])
  refine own_go (fun _ k => XS.aloadN X0.here hx rfl (hb hby d6_6) rfl rfl k) ?_
  show own_Ends _ _ _ _ _ _ _ s₁ (mkF m 7 #[.val (.ref r0), .val (.int (6 : Int32))] [(.ref r0)])
  refine own_go (fun _ k => XS.iloadN X0.here hx rfl (hb hby d6_7) rfl k) ?_
  show own_Ends _ _ _ _ _ _ _ s₁ (mkF m 8 #[.val (.ref r0), .val (.int (6 : Int32))] [(.int (6 : Int32)), (.ref r0)])
  refine own_go (fun _ k => XS.iconst X0.here hx rfl (hb hby d6_8) k) ?_
  show own_Ends _ _ _ _ _ _ _ s₁ (mkF m 9 #[.val (.ref r0), .val (.int (6 : Int32))] [(.int (5 : Int32)), (.int (6 : Int32)), (.ref r0)])
  refine own_go (fun _ k => XS.isub X0.here hx rfl (hb hby d6_9) rfl k) ?_
  show own_Ends _ _ _ _ _ _ _ s₁ (mkF m 10 #[.val (.ref r0), .val (.int (6 : Int32))] [(.int ((6 : Int32) - (5 : Int32))), (.ref r0)])
  refine own_go (fun _ k => XS.bipush X0.here hx rfl (hb hby d6_10) k) ?_
  show own_Ends _ _ _ _ _ _ _ s₁ (mkF m 12 #[.val (.ref r0), .val (.int (6 : Int32))] [(.int (6 : Int32)), (.int ((6 : Int32) - (5 : Int32))), (.ref r0)])
  rw [show ((6 : Int32) - (5 : Int32)) = (1 : Int32) from (by decide)]
  show own_Ends _ _ _ _ _ _ _ s₁ (mkF m 12 #[.val (.ref r0), .val (.int (6 : Int32))] [(.int (6 : Int32)), (.int (1 : Int32)), (.ref r0)])
  obtain ⟨v16, T16, L16, X16, hQ16, st16⟩ := own_callS X0 hx hZ hown (hw _ (List.mem_of_getElem? (i := 28) rfl)) (hw _ (List.mem_of_getElem? (i := 29) rfl)) (hw _ (List.mem_of_getElem? (i := 3) rfl)) (hw _ (List.mem_of_getElem? (i := 30) rfl)) (rm7_6 l Z a0 hw r0 (1 : Int32) (6 : Int32) h0 kc b 1 A (by decide) (by decide) rfl) e0 (g := (mkF m 12 #[.val (.ref r0), .val (.int (6 : Int32))] [(.int (6 : Int32)), (.int (1 : Int32)), (.ref r0)])) rfl (by rw [hml]; rfl) (argsL := [(.ref r0), (.int (1 : Int32)), (.int (6 : Int32))]) (rest := []) (lenOf pd_0 rfl) rfl rfl (W := 0) (by show 2 * 0 + _ ≤ _; exact Nat.le_of_eq rfl) (hb hby d6_12) (by decide) (by decide) (by decide) (by decide) (by decide)
  obtain ⟨hm16, rfl, e16⟩ := hQ16
  rcases hm16 with ⟨rfl, y6⟩ | ⟨rfl, y6⟩
  · refine own_go st16 ?_
    show own_Ends _ _ _ _ _ _ _ T16 (mkF m 15 #[.val (.ref r0), .val (.int (6 : Int32))] [(.int (1 : Int32))])
    refine own_go (fun _ k => XS.ifNo X16.here hx rfl (hb hby d6_15) rfl ((if0 _ _).trans (feq (by decide)).1) k) ?_
    show own_Ends _ _ _ _ _ _ _ T16 (mkF m 18 #[.val (.ref r0), .val (.int (6 : Int32))] [])
    refine own_go (fun _ k => XS.bipush X16.here hx rfl (hb hby d6_18) k) ?_
    show own_Ends _ _ _ _ _ _ _ T16 (mkF m 20 #[.val (.ref r0), .val (.int (6 : Int32))] [(.int (6 : Int32))])
    exact own_retI X16 hx hlk hret (hb hby d6_20) (by decide) (by decide) ⟨6, rfl, own_Bd_of 6 6 (by decide) y6 (fun L hL hl => by
      have := hl.1
      omega), rfl, e16⟩
  · refine own_go st16 ?_
    show own_Ends _ _ _ _ _ _ _ T16 (mkF m 15 #[.val (.ref r0), .val (.int (6 : Int32))] [(.int (0 : Int32))])
    refine own_go (fun _ k => XS.ifYes X16.here hx rfl (pc0 := 15) (pc' := 21) rfl (hb hby d6_15) rfl ((if0 _ _).trans (teq (rfl)).1) (by decide) (by decide) k) ?_
    show own_Ends _ _ _ _ _ _ _ T16 (mkF m 21 #[.val (.ref r0), .val (.int (6 : Int32))] [])
    refine own_go (fun _ k => XS.iloadN X16.here hx rfl (hb hby d6_21) rfl k) ?_
    show own_Ends _ _ _ _ _ _ _ T16 (mkF m 22 #[.val (.ref r0), .val (.int (6 : Int32))] [(.int (6 : Int32))])
    refine own_go (fun _ k => XS.iconst X16.here hx rfl (hb hby d6_22) k) ?_
    show own_Ends _ _ _ _ _ _ _ T16 (mkF m 23 #[.val (.ref r0), .val (.int (6 : Int32))] [(.int (5 : Int32)), (.int (6 : Int32))])
    refine own_go (fun _ k => XS.icmpNo X16.here hx rfl (hb hby d6_23) rfl (flt (by decide)).1 k) ?_
    show own_Ends _ _ _ _ _ _ _ T16 (mkF m 26 #[.val (.ref r0), .val (.int (6 : Int32))] [])
    refine own_go (fun _ k => XS.aloadN X16.here hx rfl (hb hby d6_26) rfl rfl k) ?_
    show own_Ends _ _ _ _ _ _ _ T16 (mkF m 27 #[.val (.ref r0), .val (.int (6 : Int32))] [(.ref r0)])
    refine own_go (fun _ k => XS.iloadN X16.here hx rfl (hb hby d6_27) rfl k) ?_
    show own_Ends _ _ _ _ _ _ _ T16 (mkF m 28 #[.val (.ref r0), .val (.int (6 : Int32))] [(.int (6 : Int32)), (.ref r0)])
    refine own_go (fun _ k => XS.iconst X16.here hx rfl (hb hby d6_28) k) ?_
    show own_Ends _ _ _ _ _ _ _ T16 (mkF m 29 #[.val (.ref r0), .val (.int (6 : Int32))] [(.int (4 : Int32)), (.int (6 : Int32)), (.ref r0)])
    refine own_go (fun _ k => XS.isub X16.here hx rfl (hb hby d6_29) rfl k) ?_
    show own_Ends _ _ _ _ _ _ _ T16 (mkF m 30 #[.val (.ref r0), .val (.int (6 : Int32))] [(.int ((6 : Int32) - (4 : Int32))), (.ref r0)])
    refine own_go (fun _ k => XS.iconst X16.here hx rfl (hb hby d6_30) k) ?_
    show own_Ends _ _ _ _ _ _ _ T16 (mkF m 31 #[.val (.ref r0), .val (.int (6 : Int32))] [(.int (5 : Int32)), (.int ((6 : Int32) - (4 : Int32))), (.ref r0)])
    rw [show ((6 : Int32) - (4 : Int32)) = (2 : Int32) from (by decide)]
    show own_Ends _ _ _ _ _ _ _ T16 (mkF m 31 #[.val (.ref r0), .val (.int (6 : Int32))] [(.int (5 : Int32)), (.int (2 : Int32)), (.ref r0)])
    obtain ⟨v17, T17, L17, X17, hQ17, st17⟩ := own_callS X16 hx hZ hown (hw _ (List.mem_of_getElem? (i := 28) rfl)) (hw _ (List.mem_of_getElem? (i := 29) rfl)) (hw _ (List.mem_of_getElem? (i := 3) rfl)) (hw _ (List.mem_of_getElem? (i := 30) rfl)) (rm7_5 l Z a0 hw r0 (2 : Int32) (5 : Int32) h0 kc b 2 A (by decide) (by decide) rfl) e16 (g := (mkF m 31 #[.val (.ref r0), .val (.int (6 : Int32))] [(.int (5 : Int32)), (.int (2 : Int32)), (.ref r0)])) rfl (by rw [hml]; rfl) (argsL := [(.ref r0), (.int (2 : Int32)), (.int (5 : Int32))]) (rest := []) (lenOf pd_0 rfl) rfl rfl (W := 0) (by show 2 * 0 + _ ≤ _; exact Nat.le_of_eq rfl) (hb hby d6_31) (by decide) (by decide) (by decide) (by decide) (by decide)
    obtain ⟨hm17, rfl, e17⟩ := hQ17
    rcases hm17 with ⟨rfl, y5⟩ | ⟨rfl, y5⟩
    · refine own_go st17 ?_
      show own_Ends _ _ _ _ _ _ _ T17 (mkF m 34 #[.val (.ref r0), .val (.int (6 : Int32))] [(.int (1 : Int32))])
      refine own_go (fun _ k => XS.ifNo X17.here hx rfl (hb hby d6_34) rfl ((if0 _ _).trans (feq (by decide)).1) k) ?_
      show own_Ends _ _ _ _ _ _ _ T17 (mkF m 37 #[.val (.ref r0), .val (.int (6 : Int32))] [])
      refine own_go (fun _ k => XS.iconst X17.here hx rfl (hb hby d6_37) k) ?_
      show own_Ends _ _ _ _ _ _ _ T17 (mkF m 38 #[.val (.ref r0), .val (.int (6 : Int32))] [(.int (5 : Int32))])
      exact own_retI X17 hx hlk hret (hb hby d6_38) (by decide) (by decide) ⟨5, rfl, own_Bd_of 6 5 (by decide) y5 (fun L hL hl => by
        have := hl.1
        have seg : L = 6 := by omega
        rcases seg with rfl
        · exact y6 (own_Pm hl)), rfl, e17⟩
    · refine own_go st17 ?_
      show own_Ends _ _ _ _ _ _ _ T17 (mkF m 34 #[.val (.ref r0), .val (.int (6 : Int32))] [(.int (0 : Int32))])
      refine own_go (fun _ k => XS.ifYes X17.here hx rfl (pc0 := 34) (pc' := 39) rfl (hb hby d6_34) rfl ((if0 _ _).trans (teq (rfl)).1) (by decide) (by decide) k) ?_
      show own_Ends _ _ _ _ _ _ _ T17 (mkF m 39 #[.val (.ref r0), .val (.int (6 : Int32))] [])
      refine own_go (fun _ k => XS.iloadN X17.here hx rfl (hb hby d6_39) rfl k) ?_
      show own_Ends _ _ _ _ _ _ _ T17 (mkF m 40 #[.val (.ref r0), .val (.int (6 : Int32))] [(.int (6 : Int32))])
      refine own_go (fun _ k => XS.iconst X17.here hx rfl (hb hby d6_40) k) ?_
      show own_Ends _ _ _ _ _ _ _ T17 (mkF m 41 #[.val (.ref r0), .val (.int (6 : Int32))] [(.int (4 : Int32)), (.int (6 : Int32))])
      refine own_go (fun _ k => XS.icmpNo X17.here hx rfl (hb hby d6_41) rfl (flt (by decide)).1 k) ?_
      show own_Ends _ _ _ _ _ _ _ T17 (mkF m 44 #[.val (.ref r0), .val (.int (6 : Int32))] [])
      refine own_go (fun _ k => XS.aloadN X17.here hx rfl (hb hby d6_44) rfl rfl k) ?_
      show own_Ends _ _ _ _ _ _ _ T17 (mkF m 45 #[.val (.ref r0), .val (.int (6 : Int32))] [(.ref r0)])
      refine own_go (fun _ k => XS.iloadN X17.here hx rfl (hb hby d6_45) rfl k) ?_
      show own_Ends _ _ _ _ _ _ _ T17 (mkF m 46 #[.val (.ref r0), .val (.int (6 : Int32))] [(.int (6 : Int32)), (.ref r0)])
      refine own_go (fun _ k => XS.iconst X17.here hx rfl (hb hby d6_46) k) ?_
      show own_Ends _ _ _ _ _ _ _ T17 (mkF m 47 #[.val (.ref r0), .val (.int (6 : Int32))] [(.int (3 : Int32)), (.int (6 : Int32)), (.ref r0)])
      refine own_go (fun _ k => XS.isub X17.here hx rfl (hb hby d6_47) rfl k) ?_
      show own_Ends _ _ _ _ _ _ _ T17 (mkF m 48 #[.val (.ref r0), .val (.int (6 : Int32))] [(.int ((6 : Int32) - (3 : Int32))), (.ref r0)])
      refine own_go (fun _ k => XS.iconst X17.here hx rfl (hb hby d6_48) k) ?_
      show own_Ends _ _ _ _ _ _ _ T17 (mkF m 49 #[.val (.ref r0), .val (.int (6 : Int32))] [(.int (4 : Int32)), (.int ((6 : Int32) - (3 : Int32))), (.ref r0)])
      rw [show ((6 : Int32) - (3 : Int32)) = (3 : Int32) from (by decide)]
      show own_Ends _ _ _ _ _ _ _ T17 (mkF m 49 #[.val (.ref r0), .val (.int (6 : Int32))] [(.int (4 : Int32)), (.int (3 : Int32)), (.ref r0)])
      obtain ⟨v18, T18, L18, X18, hQ18, st18⟩ := own_callS X17 hx hZ hown (hw _ (List.mem_of_getElem? (i := 28) rfl)) (hw _ (List.mem_of_getElem? (i := 29) rfl)) (hw _ (List.mem_of_getElem? (i := 3) rfl)) (hw _ (List.mem_of_getElem? (i := 30) rfl)) (rm7_4 l Z a0 hw r0 (3 : Int32) (4 : Int32) h0 kc b 3 A (by decide) (by decide) rfl) e17 (g := (mkF m 49 #[.val (.ref r0), .val (.int (6 : Int32))] [(.int (4 : Int32)), (.int (3 : Int32)), (.ref r0)])) rfl (by rw [hml]; rfl) (argsL := [(.ref r0), (.int (3 : Int32)), (.int (4 : Int32))]) (rest := []) (lenOf pd_0 rfl) rfl rfl (W := 0) (by show 2 * 0 + _ ≤ _; exact Nat.le_of_eq rfl) (hb hby d6_49) (by decide) (by decide) (by decide) (by decide) (by decide)
      obtain ⟨hm18, rfl, e18⟩ := hQ18
      rcases hm18 with ⟨rfl, y4⟩ | ⟨rfl, y4⟩
      · refine own_go st18 ?_
        show own_Ends _ _ _ _ _ _ _ T18 (mkF m 52 #[.val (.ref r0), .val (.int (6 : Int32))] [(.int (1 : Int32))])
        refine own_go (fun _ k => XS.ifNo X18.here hx rfl (hb hby d6_52) rfl ((if0 _ _).trans (feq (by decide)).1) k) ?_
        show own_Ends _ _ _ _ _ _ _ T18 (mkF m 55 #[.val (.ref r0), .val (.int (6 : Int32))] [])
        refine own_go (fun _ k => XS.iconst X18.here hx rfl (hb hby d6_55) k) ?_
        show own_Ends _ _ _ _ _ _ _ T18 (mkF m 56 #[.val (.ref r0), .val (.int (6 : Int32))] [(.int (4 : Int32))])
        exact own_retI X18 hx hlk hret (hb hby d6_56) (by decide) (by decide) ⟨4, rfl, own_Bd_of 6 4 (by decide) y4 (fun L hL hl => by
          have := hl.1
          have seg : L = 6 ∨ L = 5 := by omega
          rcases seg with rfl | rfl
          · exact y6 (own_Pm hl)
          · exact y5 (own_Pm hl)), rfl, e18⟩
      · refine own_go st18 ?_
        show own_Ends _ _ _ _ _ _ _ T18 (mkF m 52 #[.val (.ref r0), .val (.int (6 : Int32))] [(.int (0 : Int32))])
        refine own_go (fun _ k => XS.ifYes X18.here hx rfl (pc0 := 52) (pc' := 57) rfl (hb hby d6_52) rfl ((if0 _ _).trans (teq (rfl)).1) (by decide) (by decide) k) ?_
        show own_Ends _ _ _ _ _ _ _ T18 (mkF m 57 #[.val (.ref r0), .val (.int (6 : Int32))] [])
        refine own_go (fun _ k => XS.iloadN X18.here hx rfl (hb hby d6_57) rfl k) ?_
        show own_Ends _ _ _ _ _ _ _ T18 (mkF m 58 #[.val (.ref r0), .val (.int (6 : Int32))] [(.int (6 : Int32))])
        refine own_go (fun _ k => XS.iconst X18.here hx rfl (hb hby d6_58) k) ?_
        show own_Ends _ _ _ _ _ _ _ T18 (mkF m 59 #[.val (.ref r0), .val (.int (6 : Int32))] [(.int (3 : Int32)), (.int (6 : Int32))])
        refine own_go (fun _ k => XS.icmpNo X18.here hx rfl (hb hby d6_59) rfl (flt (by decide)).1 k) ?_
        show own_Ends _ _ _ _ _ _ _ T18 (mkF m 62 #[.val (.ref r0), .val (.int (6 : Int32))] [])
        refine own_go (fun _ k => XS.aloadN X18.here hx rfl (hb hby d6_62) rfl rfl k) ?_
        show own_Ends _ _ _ _ _ _ _ T18 (mkF m 63 #[.val (.ref r0), .val (.int (6 : Int32))] [(.ref r0)])
        refine own_go (fun _ k => XS.iloadN X18.here hx rfl (hb hby d6_63) rfl k) ?_
        show own_Ends _ _ _ _ _ _ _ T18 (mkF m 64 #[.val (.ref r0), .val (.int (6 : Int32))] [(.int (6 : Int32)), (.ref r0)])
        refine own_go (fun _ k => XS.iconst X18.here hx rfl (hb hby d6_64) k) ?_
        show own_Ends _ _ _ _ _ _ _ T18 (mkF m 65 #[.val (.ref r0), .val (.int (6 : Int32))] [(.int (2 : Int32)), (.int (6 : Int32)), (.ref r0)])
        refine own_go (fun _ k => XS.isub X18.here hx rfl (hb hby d6_65) rfl k) ?_
        show own_Ends _ _ _ _ _ _ _ T18 (mkF m 66 #[.val (.ref r0), .val (.int (6 : Int32))] [(.int ((6 : Int32) - (2 : Int32))), (.ref r0)])
        refine own_go (fun _ k => XS.iconst X18.here hx rfl (hb hby d6_66) k) ?_
        show own_Ends _ _ _ _ _ _ _ T18 (mkF m 67 #[.val (.ref r0), .val (.int (6 : Int32))] [(.int (3 : Int32)), (.int ((6 : Int32) - (2 : Int32))), (.ref r0)])
        rw [show ((6 : Int32) - (2 : Int32)) = (4 : Int32) from (by decide)]
        show own_Ends _ _ _ _ _ _ _ T18 (mkF m 67 #[.val (.ref r0), .val (.int (6 : Int32))] [(.int (3 : Int32)), (.int (4 : Int32)), (.ref r0)])
        obtain ⟨v19, T19, L19, X19, hQ19, st19⟩ := own_callS X18 hx hZ hown (hw _ (List.mem_of_getElem? (i := 28) rfl)) (hw _ (List.mem_of_getElem? (i := 29) rfl)) (hw _ (List.mem_of_getElem? (i := 3) rfl)) (hw _ (List.mem_of_getElem? (i := 30) rfl)) (rm7_3 l Z a0 hw r0 (4 : Int32) (3 : Int32) h0 kc b 4 A (by decide) (by decide) rfl) e18 (g := (mkF m 67 #[.val (.ref r0), .val (.int (6 : Int32))] [(.int (3 : Int32)), (.int (4 : Int32)), (.ref r0)])) rfl (by rw [hml]; rfl) (argsL := [(.ref r0), (.int (4 : Int32)), (.int (3 : Int32))]) (rest := []) (lenOf pd_0 rfl) rfl rfl (W := 0) (by show 2 * 0 + _ ≤ _; exact Nat.le_of_eq rfl) (hb hby d6_67) (by decide) (by decide) (by decide) (by decide) (by decide)
        obtain ⟨hm19, rfl, e19⟩ := hQ19
        rcases hm19 with ⟨rfl, y3⟩ | ⟨rfl, y3⟩
        · refine own_go st19 ?_
          show own_Ends _ _ _ _ _ _ _ T19 (mkF m 70 #[.val (.ref r0), .val (.int (6 : Int32))] [(.int (1 : Int32))])
          refine own_go (fun _ k => XS.ifNo X19.here hx rfl (hb hby d6_70) rfl ((if0 _ _).trans (feq (by decide)).1) k) ?_
          show own_Ends _ _ _ _ _ _ _ T19 (mkF m 73 #[.val (.ref r0), .val (.int (6 : Int32))] [])
          refine own_go (fun _ k => XS.iconst X19.here hx rfl (hb hby d6_73) k) ?_
          show own_Ends _ _ _ _ _ _ _ T19 (mkF m 74 #[.val (.ref r0), .val (.int (6 : Int32))] [(.int (3 : Int32))])
          exact own_retI X19 hx hlk hret (hb hby d6_74) (by decide) (by decide) ⟨3, rfl, own_Bd_of 6 3 (by decide) y3 (fun L hL hl => by
            have := hl.1
            have seg : L = 6 ∨ L = 5 ∨ L = 4 := by omega
            rcases seg with rfl | rfl | rfl
            · exact y6 (own_Pm hl)
            · exact y5 (own_Pm hl)
            · exact y4 (own_Pm hl)), rfl, e19⟩
        · refine own_go st19 ?_
          show own_Ends _ _ _ _ _ _ _ T19 (mkF m 70 #[.val (.ref r0), .val (.int (6 : Int32))] [(.int (0 : Int32))])
          refine own_go (fun _ k => XS.ifYes X19.here hx rfl (pc0 := 70) (pc' := 75) rfl (hb hby d6_70) rfl ((if0 _ _).trans (teq (rfl)).1) (by decide) (by decide) k) ?_
          show own_Ends _ _ _ _ _ _ _ T19 (mkF m 75 #[.val (.ref r0), .val (.int (6 : Int32))] [])
          refine own_go (fun _ k => XS.iloadN X19.here hx rfl (hb hby d6_75) rfl k) ?_
          show own_Ends _ _ _ _ _ _ _ T19 (mkF m 76 #[.val (.ref r0), .val (.int (6 : Int32))] [(.int (6 : Int32))])
          refine own_go (fun _ k => XS.iconst X19.here hx rfl (hb hby d6_76) k) ?_
          show own_Ends _ _ _ _ _ _ _ T19 (mkF m 77 #[.val (.ref r0), .val (.int (6 : Int32))] [(.int (2 : Int32)), (.int (6 : Int32))])
          refine own_go (fun _ k => XS.icmpNo X19.here hx rfl (hb hby d6_77) rfl (flt (by decide)).1 k) ?_
          show own_Ends _ _ _ _ _ _ _ T19 (mkF m 80 #[.val (.ref r0), .val (.int (6 : Int32))] [])
          refine own_go (fun _ k => XS.aloadN X19.here hx rfl (hb hby d6_80) rfl rfl k) ?_
          show own_Ends _ _ _ _ _ _ _ T19 (mkF m 81 #[.val (.ref r0), .val (.int (6 : Int32))] [(.ref r0)])
          refine own_go (fun _ k => XS.iloadN X19.here hx rfl (hb hby d6_81) rfl k) ?_
          show own_Ends _ _ _ _ _ _ _ T19 (mkF m 82 #[.val (.ref r0), .val (.int (6 : Int32))] [(.int (6 : Int32)), (.ref r0)])
          refine own_go (fun _ k => XS.iconst X19.here hx rfl (hb hby d6_82) k) ?_
          show own_Ends _ _ _ _ _ _ _ T19 (mkF m 83 #[.val (.ref r0), .val (.int (6 : Int32))] [(.int (1 : Int32)), (.int (6 : Int32)), (.ref r0)])
          refine own_go (fun _ k => XS.isub X19.here hx rfl (hb hby d6_83) rfl k) ?_
          show own_Ends _ _ _ _ _ _ _ T19 (mkF m 84 #[.val (.ref r0), .val (.int (6 : Int32))] [(.int ((6 : Int32) - (1 : Int32))), (.ref r0)])
          refine own_go (fun _ k => XS.iconst X19.here hx rfl (hb hby d6_84) k) ?_
          show own_Ends _ _ _ _ _ _ _ T19 (mkF m 85 #[.val (.ref r0), .val (.int (6 : Int32))] [(.int (2 : Int32)), (.int ((6 : Int32) - (1 : Int32))), (.ref r0)])
          rw [show ((6 : Int32) - (1 : Int32)) = (5 : Int32) from (by decide)]
          show own_Ends _ _ _ _ _ _ _ T19 (mkF m 85 #[.val (.ref r0), .val (.int (6 : Int32))] [(.int (2 : Int32)), (.int (5 : Int32)), (.ref r0)])
          obtain ⟨v20, T20, L20, X20, hQ20, st20⟩ := own_callS X19 hx hZ hown (hw _ (List.mem_of_getElem? (i := 28) rfl)) (hw _ (List.mem_of_getElem? (i := 29) rfl)) (hw _ (List.mem_of_getElem? (i := 3) rfl)) (hw _ (List.mem_of_getElem? (i := 30) rfl)) (rm7_2 l Z a0 hw r0 (5 : Int32) (2 : Int32) h0 kc b 5 A (by decide) (by decide) rfl) e19 (g := (mkF m 85 #[.val (.ref r0), .val (.int (6 : Int32))] [(.int (2 : Int32)), (.int (5 : Int32)), (.ref r0)])) rfl (by rw [hml]; rfl) (argsL := [(.ref r0), (.int (5 : Int32)), (.int (2 : Int32))]) (rest := []) (lenOf pd_0 rfl) rfl rfl (W := 0) (by show 2 * 0 + _ ≤ _; exact Nat.le_of_eq rfl) (hb hby d6_85) (by decide) (by decide) (by decide) (by decide) (by decide)
          obtain ⟨hm20, rfl, e20⟩ := hQ20
          rcases hm20 with ⟨rfl, y2⟩ | ⟨rfl, y2⟩
          · refine own_go st20 ?_
            show own_Ends _ _ _ _ _ _ _ T20 (mkF m 88 #[.val (.ref r0), .val (.int (6 : Int32))] [(.int (1 : Int32))])
            refine own_go (fun _ k => XS.ifNo X20.here hx rfl (hb hby d6_88) rfl ((if0 _ _).trans (feq (by decide)).1) k) ?_
            show own_Ends _ _ _ _ _ _ _ T20 (mkF m 91 #[.val (.ref r0), .val (.int (6 : Int32))] [])
            refine own_go (fun _ k => XS.iconst X20.here hx rfl (hb hby d6_91) k) ?_
            show own_Ends _ _ _ _ _ _ _ T20 (mkF m 92 #[.val (.ref r0), .val (.int (6 : Int32))] [(.int (2 : Int32))])
            exact own_retI X20 hx hlk hret (hb hby d6_92) (by decide) (by decide) ⟨2, rfl, own_Bd_of 6 2 (by decide) y2 (fun L hL hl => by
              have := hl.1
              have seg : L = 6 ∨ L = 5 ∨ L = 4 ∨ L = 3 := by omega
              rcases seg with rfl | rfl | rfl | rfl
              · exact y6 (own_Pm hl)
              · exact y5 (own_Pm hl)
              · exact y4 (own_Pm hl)
              · exact y3 (own_Pm hl)), rfl, e20⟩
          · refine own_go st20 ?_
            show own_Ends _ _ _ _ _ _ _ T20 (mkF m 88 #[.val (.ref r0), .val (.int (6 : Int32))] [(.int (0 : Int32))])
            refine own_go (fun _ k => XS.ifYes X20.here hx rfl (pc0 := 88) (pc' := 93) rfl (hb hby d6_88) rfl ((if0 _ _).trans (teq (rfl)).1) (by decide) (by decide) k) ?_
            show own_Ends _ _ _ _ _ _ _ T20 (mkF m 93 #[.val (.ref r0), .val (.int (6 : Int32))] [])
            refine own_go (fun _ k => XS.iloadN X20.here hx rfl (hb hby d6_93) rfl k) ?_
            show own_Ends _ _ _ _ _ _ _ T20 (mkF m 94 #[.val (.ref r0), .val (.int (6 : Int32))] [(.int (6 : Int32))])
            refine own_go (fun _ k => XS.iconst X20.here hx rfl (hb hby d6_94) k) ?_
            show own_Ends _ _ _ _ _ _ _ T20 (mkF m 95 #[.val (.ref r0), .val (.int (6 : Int32))] [(.int (1 : Int32)), (.int (6 : Int32))])
            refine own_go (fun _ k => XS.icmpNo X20.here hx rfl (hb hby d6_95) rfl (flt (by decide)).1 k) ?_
            show own_Ends _ _ _ _ _ _ _ T20 (mkF m 98 #[.val (.ref r0), .val (.int (6 : Int32))] [])
            refine own_go (fun _ k => XS.aloadN X20.here hx rfl (hb hby d6_98) rfl rfl k) ?_
            show own_Ends _ _ _ _ _ _ _ T20 (mkF m 99 #[.val (.ref r0), .val (.int (6 : Int32))] [(.ref r0)])
            refine own_go (fun _ k => XS.iloadN X20.here hx rfl (hb hby d6_99) rfl k) ?_
            show own_Ends _ _ _ _ _ _ _ T20 (mkF m 100 #[.val (.ref r0), .val (.int (6 : Int32))] [(.int (6 : Int32)), (.ref r0)])
            refine own_go (fun _ k => XS.iconst X20.here hx rfl (hb hby d6_100) k) ?_
            show own_Ends _ _ _ _ _ _ _ T20 (mkF m 101 #[.val (.ref r0), .val (.int (6 : Int32))] [(.int (1 : Int32)), (.int (6 : Int32)), (.ref r0)])
            obtain ⟨v21, T21, L21, X21, hQ21, st21⟩ := own_callS X20 hx hZ hown (hw _ (List.mem_of_getElem? (i := 28) rfl)) (hw _ (List.mem_of_getElem? (i := 29) rfl)) (hw _ (List.mem_of_getElem? (i := 3) rfl)) (hw _ (List.mem_of_getElem? (i := 30) rfl)) (rm7_1 l Z a0 hw r0 (6 : Int32) (1 : Int32) h0 kc b 6 A (by decide) (by decide) rfl) e20 (g := (mkF m 101 #[.val (.ref r0), .val (.int (6 : Int32))] [(.int (1 : Int32)), (.int (6 : Int32)), (.ref r0)])) rfl (by rw [hml]; rfl) (argsL := [(.ref r0), (.int (6 : Int32)), (.int (1 : Int32))]) (rest := []) (lenOf pd_0 rfl) rfl rfl (W := 0) (by show 2 * 0 + _ ≤ _; exact Nat.le_of_eq rfl) (hb hby d6_101) (by decide) (by decide) (by decide) (by decide) (by decide)
            obtain ⟨hm21, rfl, e21⟩ := hQ21
            rcases hm21 with ⟨rfl, y1⟩ | ⟨rfl, y1⟩
            · refine own_go st21 ?_
              show own_Ends _ _ _ _ _ _ _ T21 (mkF m 104 #[.val (.ref r0), .val (.int (6 : Int32))] [(.int (1 : Int32))])
              refine own_go (fun _ k => XS.ifNo X21.here hx rfl (hb hby d6_104) rfl ((if0 _ _).trans (feq (by decide)).1) k) ?_
              show own_Ends _ _ _ _ _ _ _ T21 (mkF m 107 #[.val (.ref r0), .val (.int (6 : Int32))] [])
              refine own_go (fun _ k => XS.iconst X21.here hx rfl (hb hby d6_107) k) ?_
              show own_Ends _ _ _ _ _ _ _ T21 (mkF m 108 #[.val (.ref r0), .val (.int (6 : Int32))] [(.int (1 : Int32))])
              exact own_retI X21 hx hlk hret (hb hby d6_108) (by decide) (by decide) ⟨1, rfl, own_Bd_of 6 1 (by decide) y1 (fun L hL hl => by
                have := hl.1
                have seg : L = 6 ∨ L = 5 ∨ L = 4 ∨ L = 3 ∨ L = 2 := by omega
                rcases seg with rfl | rfl | rfl | rfl | rfl
                · exact y6 (own_Pm hl)
                · exact y5 (own_Pm hl)
                · exact y4 (own_Pm hl)
                · exact y3 (own_Pm hl)
                · exact y2 (own_Pm hl)), rfl, e21⟩
            · refine own_go st21 ?_
              show own_Ends _ _ _ _ _ _ _ T21 (mkF m 104 #[.val (.ref r0), .val (.int (6 : Int32))] [(.int (0 : Int32))])
              refine own_go (fun _ k => XS.ifYes X21.here hx rfl (pc0 := 104) (pc' := 109) rfl (hb hby d6_104) rfl ((if0 _ _).trans (teq (rfl)).1) (by decide) (by decide) k) ?_
              show own_Ends _ _ _ _ _ _ _ T21 (mkF m 109 #[.val (.ref r0), .val (.int (6 : Int32))] [])
              refine own_go (fun _ k => XS.iconst X21.here hx rfl (hb hby d6_109) k) ?_
              show own_Ends _ _ _ _ _ _ _ T21 (mkF m 110 #[.val (.ref r0), .val (.int (6 : Int32))] [(.int (0 : Int32))])
              exact own_retI X21 hx hlk hret (hb hby d6_110) (by decide) (by decide) ⟨0, rfl, ⟨own_P0, fun L hL => by
                have := hL.1
                apply Nat.le_of_not_lt
                intro q
                have seg : L = 6 ∨ L = 5 ∨ L = 4 ∨ L = 3 ∨ L = 2 ∨ L = 1 := by omega
                rcases seg with rfl | rfl | rfl | rfl | rfl | rfl
                · exact y6 (own_Pm hL)
                · exact y5 (own_Pm hL)
                · exact y4 (own_Pm hL)
                · exact y3 (own_Pm hL)
                · exact y2 (own_Pm hL)
                · exact y1 (own_Pm hL)⟩, rfl, e21⟩
abbrev own_xi : MethodName := ⟨"com/example/prefixleap/prefixleap/core/PrefixTable$SameUnit", "at", "(II)Z"⟩
abbrev own_yl : MethodName := ⟨"com/example/prefixleap/prefixleap/core/PrefixTable", "lambda$of$0", "([BII)Z"⟩
abbrev own_yof : MethodName := ⟨"com/example/prefixleap/prefixleap/core/PrefixTable", "of", "([B)[I"⟩
abbrev own_sg : Jvm.Lambda.Shape := (Jvm.Lambda.Shape.mk "com/example/prefixleap/prefixleap/core/PrefixTable$SameUnit" "at" (Jvm.ClassFile.MethodDescriptor.mk ([Jvm.ClassFile.FieldType.int, Jvm.ClassFile.FieldType.int] : List Jvm.ClassFile.FieldType) (Option.some Jvm.ClassFile.FieldType.boolean)) ([(Jvm.ClassFile.FieldType.array Jvm.ClassFile.FieldType.byte)] : List Jvm.ClassFile.FieldType) (6 : Nat) "com/example/prefixleap/prefixleap/core/PrefixTable" "lambda$of$0" (Jvm.ClassFile.MethodDescriptor.mk ([(Jvm.ClassFile.FieldType.array Jvm.ClassFile.FieldType.byte), Jvm.ClassFile.FieldType.int, Jvm.ClassFile.FieldType.int] : List Jvm.ClassFile.FieldType) (Option.some Jvm.ClassFile.FieldType.boolean)) false (Jvm.ClassFile.MethodDescriptor.mk ([Jvm.ClassFile.FieldType.int, Jvm.ClassFile.FieldType.int] : List Jvm.ClassFile.FieldType) (Option.some Jvm.ClassFile.FieldType.boolean)))
def own_fcode : ByteArray := ⟨#[0x2a, 0xb4, 0x00, 0x0f, 0x1b, 0x1c, 0xb8, 0x00, 0x17, 0xac]⟩
theorem own_fwd : Jvm.LamKit.fwdOK own_sg "com/example/prefixleap/prefixleap/core/PrefixTable" own_fcode 3 (some .boolean) 23 19 = true := by decide +kernel
theorem own_cap : Jvm.LamKit.capOK own_sg "com/example/prefixleap/prefixleap/core/PrefixTable" 15 0 = true := by decide +kernel
theorem own_f0 : decode own_fcode 0 = .ok (.aload_n 0, 1) := by decide +kernel
theorem own_f1 : decode own_fcode 1 = .ok (.getfield 15, 3) := by decide +kernel
theorem own_f4 : decode own_fcode 4 = .ok (.iload_n 1, 1) := by decide +kernel
theorem own_f5 : decode own_fcode 5 = .ok (.iload_n 2, 1) := by decide +kernel
theorem own_f6 : decode own_fcode 6 = .ok (.invokestatic 23, 3) := by decide +kernel
theorem own_f9 : decode own_fcode 9 = .ok (.ireturn, 1) := by decide +kernel
theorem own_pxi : parseMethodDescriptor "(II)Z" = some ⟨[.int, .int], some .boolean⟩ := by decide +kernel
theorem own_pyl : parseMethodDescriptor "([BII)Z" = some ⟨[(.array .byte), .int, .int], some .boolean⟩ := by decide +kernel
/-- the function object: of the class cK, holding the array's address -/
def own_Fn (h : Heap) (a : Addr) (cK : ClassId) (v : Addr) : Prop := ∃ cell : Cell, h[a]? = some cell ∧ cell.cls = cK ∧ cell.vm = .none ∧ cell.slots = #[.ref v]
theorem own_Fn.lt {h : Heap} {a v : Addr} {cK : ClassId} (F : own_Fn h a cK v) : a < h.size := by obtain ⟨_, h1, -⟩ := F; exact (Array.getElem?_eq_some_iff.mp h1).1
theorem own_Fn.ext {h h' : Heap} {a v : Addr} {cK : ClassId} (F : own_Fn h a cK v) (E : Ext h h') : own_Fn h' a cK v := by obtain ⟨c, h1, r⟩ := F; exact ⟨c, E.2 _ _ h1, r⟩
theorem own_Fn.keep {h h' : Heap} {a v : Addr} {cK : ClassId} {ws : List Addr} (F : own_Fn h a cK v) (K : Keep h h' ws) (q : a ∉ ws) : own_Fn h' a cK v := by obtain ⟨c, h1, r⟩ := F; exact ⟨c, K.2.1 _ _ h1 q, r⟩
theorem own_Fn.other {h h' : Heap} {a v b : Addr} {cK : ClassId} {sl : Nat} {w : Value} (F : own_Fn h a cK v) (W : Wr h h' b sl w) (q : a ≠ b) : own_Fn h' a cK v := F.keep (Keep.of_wr W) (ninS q nin0)
/-- the site: her class is cK in every state whose tables are warmer than Z's -/
def own_Md (Z : State) (cK : ClassId) : Prop := ∀ s : State, Z.WarmedH s.vm → Jvm.LamKit.Made s "com/example/prefixleap/prefixleap/core/PrefixTable" own_sg cK ∧
  ∀ m, s.methodNamed? own_yof = some m → ∃ (k : Class) (cf : ClassFile) (i0 p0 : Nat), s.vm.classes[m.cls]? = some k ∧ k.name = "com/example/prefixleap/prefixleap/core/PrefixTable" ∧ k.cf = some cf ∧ Jvm.Lambda.shapeOf? cf 7 = some own_sg ∧ (k.callSites.find? fun y => y.1 == m.idx && y.2.1 == 3) = some (i0, p0, .makes cK) ∧ Jvm.Lambda.isMade { classPath := fun _ => none } s.vm m.cls own_sg cK = true
theorem own_site0 {Z : State} {a0 : Array Value} (w : (Jvm.Cond.lambdaSite own_yof 3 7 own_sg).before a0 Z = true) : ∃ cK, own_Md Z cK := by
  obtain ⟨cK, one, hat⟩ := Cond.lambdaSite_spec w
  obtain ⟨mD, kD, cfD, i0, p0, lk, hmD, hkD, hcfD, hsh, -, hfind, hmade, hcan, hl⟩ := State.lambdaAt?_spec hat
  obtain ⟨kD', hkD', hnameD⟩ := className_of_methodNamed hmD
  cases hkD.symm.trans hkD'
  rcases hl with ⟨a, cell, -, -, hc0, -⟩ | ⟨rfl, -, -⟩
  · exact absurd hc0 (by decide)
  refine ⟨cK, fun s hW => ?_⟩
  obtain ⟨k', hk', he⟩ := hW.alike.2.2 _ _ hkD
  have hm' := Jvm.Lambda.isMade_warmer hW hmade
  have hcan' : s.lambdaCallable own_sg cK = true := by
    have hA := hW.alike
    simp only [State.lambdaCallable, hA.findClass, hA.assignable, hA.superclasses, hA.declaredIn] at hcan ⊢
    exact hcan
  refine ⟨⟨_, k', hk', by rw [he]; exact hnameD, hm', hcan'⟩, fun m hm => ?_⟩
  have hmm : s.methodNamed? own_yof = some mD := by
    have := State.methodNamed?_setVm (s := Z) hW.alike own_yof
    rw [hmD] at this
    exact this
  cases hm.symm.trans hmm
  exact ⟨k', cfD, i0, p0, hk', by rw [he]; exact hnameD, by rw [he]; exact hcfD, hsh, by rw [he]; exact hfind, hm'⟩
section OwnLam
variable {p : Program} {l : Launch} {e : Env} {R : Room} {s : State} {m : MethodId} {args : Array Value} {below : List Frame} {meth : Method} {c : Code} {T : State} {locs : List Loc} {cells slots : Nat} {Z : State} {a0 : Array Value} {h : Heap} {cK : ClassId}
theorem own_makes (X : Stand p l e R s m args below meth c T locs cells slots) (hx : p.tables.exec = Jvm.exec) (hZ : Z.Warmed39 s.vm) (hZH : Z.WarmedH s.vm) (hMd : own_Md Z cK) (hnamed : s.methodNamed? own_yof = some m) (wO : (Cond.instantiable "java/lang/Object" 0).before a0 Z = true) (eT : T.heap = h)
    {g : JFrame} (hg : g.method = m) (hpc : g.pc = 3) (hsize : g.locals.size = c.maxLocals) (hdg : decode c.code g.pc = .ok (.invokedynamic 7, 5)) {v : Addr} {rest : List Value} (hstack : g.stack = .ref v :: rest)
    (hwords : 2 * g.monitorRoom + (g.stack.map fun v => v.category).sum + 3072 ≤ R.locals) (hcells : cells + 1 ≤ R.cells) (hslots : slots + 1 ≤ R.slots) :
    ∃ T' h', Stand p l e R s m args below meth c T' locs (cells + 1) (slots + 1) ∧ T'.heap = h' ∧ Ext h h' ∧ own_Fn h' h.size cK v ∧ ∀ target, Steps p.tables e below (T'.setTop { g with pc := g.pc + 5, stack := .ref h.size :: rest }) target → Steps p.tables e below (T.setTop g) target := by
  obtain ⟨-, hs2⟩ := hMd s hZH
  obtain ⟨kD, cfD, i0, p0, hkD, hnameD, hcfD, hsh, hfind, hmade⟩ := hs2 m hnamed
  obtain ⟨b, nt, desc, site, h1, h2, h3, h4⟩ := Jvm.Lambda.shapeOf?_site hsh
  obtain ⟨kc, f, hkc, hkind, hty, -⟩ := Jvm.LamKit.made_cap own_cap hkD hnameD hmade (Jvm.LamKit.noFields (mvT (args := #[]) hZ wO) (State.WarmedH.refl s))
  have hz : ((kc.instanceTypes.toList.zip [Value.ref v]).map fun (t, v) => narrow t v) = [Value.ref v] := by rw [hty]; rfl
  have hw : e.platform.lambdaLinkWords = 3072 := by rw [X.admits.platform]
  have q := X.lambdaMakes hx hg hsize hdg (vals := [Value.ref v]) (rest := rest) hkD (by rw [hpc]; exact hfind) hcfD h1 h2 (parseLong_of_parse h3) (by rw [h4]; rfl) hstack hkc (by rw [hw]; exact hwords) hcells (by rw [hz]; exact hslots)
    (fun i v' hv => by
      rw [hz] at hv
      have hv' : [Value.ref v][i]? = some v' := by simpa using hv
      cases i with
      | zero => cases hv'; simp [State.fitsSlot, State.slotType?, hkc, hkind, hty]; rfl
      | succ i => cases hv')
  rw [hz] at q
  subst eT
  refine ⟨_, _, by simpa using q.1, rfl, ext_of fun a qa => ?_, ⟨{ cls := cK, slots := [Value.ref v].toArray, vm := .none }, ?_, rfl, rfl, rfl⟩, q.2⟩
  · show (T.heap.push _)[a]? = _
    exact (Array.getElem?_push_lt qa).trans (Array.getElem?_eq_getElem qa).symm
  · show (T.heap.push _)[T.heap.size]? = _
    simp
theorem own_met (Z : State) (a0 : Array Value) (hw : ∀ d ∈ tables_1, d.before a0 Z = true) {v : Addr} {kc : ClassId} {n i kx : Nat} {b : Nat → Int32} (A : own_Ar Z h v kc .byte n (fun j => .int (b j))) (hi : i < n) (hk : kx < n) (hn : n ≤ 7) :
    Met l own_yl [Cond.code own_yl prog_12_method_7_code 3 (some .boolean)] ({ frames := 0, cells := 0, slots := 0, locals := 0 } : Room) (fun a U => a = #[.ref v, .int (Int32.ofNat i), .int (Int32.ofNat kx)] ∧ Z.WarmedH U.vm ∧ U.heap = h) (fun _ _ o t => o = .returned (some (.int (if b i = b kx then 1 else 0))) ∧ t.heap = h) 0 0 (fun _ => False) := by
  intro p e ha hc hkk s m args below hf happ hP hK
  obtain ⟨n', o, q1, q2, q3, v', L, rfl, ⟨rfl, rfl, hh⟩, hF⟩ := rm5 l Z a0 hw v (Int32.ofNat i) (Int32.ofNat kx) h kc n b i kx A hi hk hn rfl rfl [] p e ha hc hkk s m args below hf happ hP hK
  exact ⟨n', _, q1, q2, q3, ⟨rfl, hh⟩, [], hF, fun q hq => nomatch hq⟩
theorem own_callLam (X : Stand p l e R s m args below meth c T locs cells slots) (hx : p.tables.exec = Jvm.exec) (hZ : Z.Warmed39 s.vm) (hZH : Z.WarmedH s.vm) (hMd : own_Md Z cK) (hw : ∀ d ∈ tables_1, d.before a0 Z = true) (hown : s.vm.findClass "com/example/prefixleap/prefixleap/core/PrefixTable" = some m.cls) (eT : T.heap = h)
    {a v : Addr} (hfn : own_Fn h a cK v) {kc : ClassId} {n i kx : Nat} {b : Nat → Int32} (A : own_Ar Z h v kc .byte n (fun j => .int (b j))) (hi : i < n) (hk : kx < n) (hn : n ≤ 7)
    {g : JFrame} (hg : g.method = m) (hsize : g.locals.size = c.maxLocals) {rest : List Value} (hstack : g.stack = .int (Int32.ofNat kx) :: .int (Int32.ofNat i) :: .ref a :: rest) (hdg : decode c.code g.pc = .ok (.invokeinterface 32 3, 5))
    (hfr : 2 ≤ R.frames) (hlo : 2 * g.monitorRoom + (rest.map fun v => v.category).sum + (3 + 11) + ((3 + 11) + 0) ≤ R.locals) (hc : cells ≤ R.cells) (hs : slots ≤ R.slots) :
    ∃ T', Stand p l e R s m args below meth c T' locs cells slots ∧ T'.heap = h ∧ ∀ target, Steps p.tables e below (T'.setTop { g with pc := g.pc + 5, stack := .int (if b i = b kx then 1 else 0) :: rest }) target → Steps p.tables e below (T.setTop g) target := by
  subst eT
  obtain ⟨cell, hcell, hcls, hvm, hsl⟩ := hfn
  have hcodeT : (Cond.code own_yl prog_12_method_7_code 3 (some .boolean)).before a0 Z = true := hw _ (List.mem_of_getElem? (i := 24) rfl)
  obtain ⟨w, st, t, T', L, X', hL, hh, -, hq, stp⟩ := Jvm.LamKit.callLamS X hx (own := "com/example/prefixleap/prefixleap/core/PrefixTable") (host := "com/example/prefixleap/prefixleap/core/PrefixTable") (index := 32) (count := 3) (xi := own_xi) (y := own_yl) (σ := own_sg) (own_met (l := l) Z a0 hw A hi hk hn) (fun _ _ _ _ h => h) rfl rfl
    (fun w hw' a' U hU => by rw [List.mem_singleton.mp hw']; exact mvT (State.Warmed39.trans hZ hU.wide) hcodeT) (List.mem_singleton.mpr rfl)
    hown (mvT hZ (hw _ (List.mem_of_getElem? (i := 20) rfl))) (mvT hZ (hw _ (List.mem_of_getElem? (i := 21) rfl))) (mvT hZ (hw _ (List.mem_of_getElem? (i := 22) rfl))) (mvT hZ hcodeT) (mvT hZ (hw _ (List.mem_of_getElem? (i := 23) rfl))) (mvT hZ (hw _ (List.mem_of_getElem? (i := 7) rfl)))
    (by decide +kernel) (by decide +kernel) (by decide) (hMd s hZH).1 ⟨cell, hcell, hcls, hvm⟩ own_fwd own_f6 own_f9
    hg hsize (argsL := [.int (Int32.ofNat i), .int (Int32.ofNat kx)]) (argsT := [.ref v, .int (Int32.ofNat i), .int (Int32.ofNat kx)]) (rest := rest) (L0 := #[.val (.ref a), .val (.int (Int32.ofNat i)), .val (.int (Int32.ofNat kx))])
    (lenOf own_pxi rfl) (lenOf own_pyl rfl) hstack hdg (fun _ => rfl) rfl
    (fun U ck bl target hU hck hh hW k => XS.aloadN hU hx rfl (hb hck own_f0) rfl rfl (Jvm.LamKit.getCap hx hU hW (hMd s hZH).1 own_cap (mvT (args := args) hZ (hw _ (List.mem_of_getElem? (i := 12) rfl))) (by rw [hh]; exact hcell) hvm (v := .ref v) (by rw [hsl]; rfl) rfl rfl (hb hck own_f1) (XS.iloadN hU hx rfl (hb hck own_f4) rfl (XS.iloadN hU hx rfl (hb hck own_f5) rfl k))))
    (fun st w t h => by
      obtain ⟨h1, -⟩ := h
      cases h1
      refine Or.inl ⟨.boolean, _, rfl, Or.inr (Or.inl rfl), ?_, rfl, rfl⟩
      split <;> rfl) hfr hlo hc hs (fun U hU hh => ⟨rfl, State.WarmedH.trans hZH hU, hh⟩)
  obtain ⟨hq1, hq2⟩ := hq
  cases hq1
  exact ⟨T', Stand.forget (extra := L) X' (fun q hq => (hL q hq).elim), hh.trans hq2, stp⟩
end OwnLam

theorem own_ofNat_sub1 {k : Nat} (h0 : 0 < k) (h : k < 16) : Int32.ofNat k - 1 = Int32.ofNat (k - 1) := by
  apply Int32.toInt_inj.mp
  have a := c_isub (Int32.ofNat k) 1
  have r := rng32 (Int32.ofNat k - 1)
  rw [own_ofNat (by omega)] at a
  have d : (1 : Int32).toInt = 1 := by decide
  rw [own_ofNat (by omega)]
  omega
set_option maxRecDepth 65536 in
set_option maxHeartbeats 40000000 in
theorem rm3 (l : Launch) (Z : State) (a0 : Array Value) (hw : ∀ d ∈ tables_1, d.before a0 Z = true) (p0 : Int32) (r1 : Addr) (h0 : Heap) (n0 : Nat) (n : Nat) (cK : ClassId) (va : Addr) (kc : ClassId) (b : Nat → Int32) (Z0 : n0 ≤ h0.size) (MD : own_Md Z cK) (Fn : own_Fn h0 r1 cK va) (A : own_Ar Z h0 va kc .byte n (fun j => .int (b j))) (hn : n ≤ 7) (hp : p0 = Int32.ofNat n) :
    own_C l (⟨"com/example/prefixleap/prefixleap/core/PrefixTable", "build", "(ILcom/example/prefixleap/prefixleap/core/PrefixTable$SameUnit;)[I"⟩ : MethodName) prog_12_method_5_code 5 (some (.array .int)) ({ frames := 2, cells := 1, slots := 7, locals := 40 } : Room) Z #[(.int p0), (.ref r1)] h0 (fun v h L => ∃ (t : Addr) (kt : ClassId) (g : Nat → Value), v = some (.ref t) ∧ Fr n0 L ∧ Keep h0 h [] ∧ own_Ar Z h t kt .int n g ∧ h0.size ≤ t ∧ ∀ j, j < n → ∃ q, g j = .int (Int32.ofNat q) ∧ own_Bd b j q) := by
  refine own_enter pn_3 ?_
  intro p e s m below meth c s₁ X0 hx hby hml hown hnm hret hlk hZ e0 hZH hnamed
  replace hown : s.vm.findClass "com/example/prefixleap/prefixleap/core/PrefixTable" = some m.cls := hown
  have ef : entryFrame m #[(.int p0), (.ref r1)] 5 = mkF m 0 #[.val (.int p0), .val (.ref r1), .unset, .unset, .unset] [] := by first | rfl | (simp [entryFrame, mkF, argsToLocals, Value.category, maxLocals]; done)
  refine own_cast ef ?_
  show own_Ends _ _ _ _ _ _ _ s₁ (mkF m 0 #[.val (.int p0), .val (.ref r1), .unset, .unset, .unset] [])
  subst hp
  show own_Ends _ _ _ _ _ _ _ s₁ (mkF m 0 #[.val (.int (Int32.ofNat n)), .val (.ref r1), .unset, .unset, .unset] [])
  have N0 := Fr.nil n0
  have K0 : Keep h0 h0 [] := Keep.refl _ _
  refine own_go (fun _ k => XS.iloadN X0.here hx rfl (hb hby d3_0) rfl k) ?_
  show own_Ends _ _ _ _ _ _ _ s₁ (mkF m 1 #[.val (.int (Int32.ofNat n)), .val (.ref r1), .unset, .unset, .unset] [(.int (Int32.ofNat n))])
  obtain ⟨T22, h22, k22, X22, e22, E22, A22, st22⟩ := own_newP X0 hx hZ (aty := .int) (hw _ (List.mem_of_getElem? (i := 16) rfl)) e0 (g := (mkF m 1 #[.val (.int (Int32.ofNat n)), .val (.ref r1), .unset, .unset, .unset] [(.int (Int32.ofNat n))])) rfl (hb hby d3_1) rfl (own_ofNat_nn (by omega)) (n := n) (own_ofNat_cl (by omega)) (cap := 7) hn (by decide) (by decide) (by decide)
  obtain ⟨bt, gq22⟩ : ∃ z, z = h0.size := ⟨_, rfl⟩
  rw [← gq22] at A22 st22
  have ne_r1_bt : r1 ≠ bt := Nat.ne_of_lt (Nat.lt_of_lt_of_le Fn.lt (Nat.le_of_eq gq22.symm))
  have ne_va_bt : va ≠ bt := Nat.ne_of_lt (Nat.lt_of_lt_of_le A.lt (Nat.le_of_eq gq22.symm))
  have sz_bt : h0.size ≤ bt := Nat.le_trans K0.1 (Nat.le_of_eq gq22.symm)
  have g_bt : n0 ≤ bt := Nat.le_trans Z0 sz_bt
  have K_22 := K0.ext E22
  have L_r1_22 := Fn.ext E22
  have V_va_22 := A.ext E22
  have V_bt : own_Ar Z h22 bt k22 .int n (fun _ => (.int (0 : Int32))) := A22
  refine own_go st22 ?_
  show own_Ends _ _ _ _ _ _ _ T22 (mkF m 3 #[.val (.int (Int32.ofNat n)), .val (.ref r1), .unset, .unset, .unset] [(.ref bt)])
  refine own_go (fun _ k => XS.astoreN X22.here hx rfl (hb hby d3_3) rfl rfl (l' := #[.val (.int (Int32.ofNat n)), .val (.ref r1), .val (.ref bt), .unset, .unset]) rfl k) ?_
  show own_Ends _ _ _ _ _ _ _ T22 (mkF m 4 #[.val (.int (Int32.ofNat n)), .val (.ref r1), .val (.ref bt), .unset, .unset] [])
  refine own_go (fun _ k => XS.iconst X22.here hx rfl (hb hby d3_4) k) ?_
  show own_Ends _ _ _ _ _ _ _ T22 (mkF m 5 #[.val (.int (Int32.ofNat n)), .val (.ref r1), .val (.ref bt), .unset, .unset] [(.int (0 : Int32))])
  refine own_go (fun _ k => XS.istoreN X22.here hx rfl (hb hby d3_5) rfl (l' := #[.val (.int (Int32.ofNat n)), .val (.ref r1), .val (.ref bt), .val (.int (0 : Int32)), .unset]) rfl k) ?_
  show own_Ends _ _ _ _ _ _ _ T22 (mkF m 6 #[.val (.int (Int32.ofNat n)), .val (.ref r1), .val (.ref bt), .val (.int (0 : Int32)), .unset] [])
  refine own_go (fun _ k => XS.iconst X22.here hx rfl (hb hby d3_6) k) ?_
  show own_Ends _ _ _ _ _ _ _ T22 (mkF m 7 #[.val (.int (Int32.ofNat n)), .val (.ref r1), .val (.ref bt), .val (.int (0 : Int32)), .unset] [(.int (1 : Int32))])
  refine own_go (fun _ k => XS.istore X22.here hx rfl (hb hby d3_7) rfl (l' := #[.val (.int (Int32.ofNat n)), .val (.ref r1), .val (.ref bt), .val (.int (0 : Int32)), .val (.int (1 : Int32))]) rfl k) ?_
  show own_Ends _ _ _ _ _ _ _ T22 (mkF m 9 #[.val (.int (Int32.ofNat n)), .val (.ref r1), .val (.ref bt), .val (.int (0 : Int32)), .val (.int (1 : Int32))] [])
  have K9 : ∀ (d i kx : Nat) (T : State) (hh : Heap) (lc : List Loc) (g : Nat → Value), Stand p l e ({ frames := 2, cells := 1, slots := 7, locals := 40 } : Room) s m #[(.int (Int32.ofNat n)), (.ref r1)] below meth c T lc (0 + 1) (0 + 7) → T.heap = hh → Fr n0 lc → Keep h0 hh [] → own_Fn hh r1 cK va → own_Ar Z hh va kc .byte n (fun j => .int (b j)) → own_Ar Z hh bt k22 .int n g → 1 ≤ i → d = n - i → i ≤ 8 → (i ≤ n → own_Bd b (i - 1) kx) → (∀ j, j < i → j < n → ∃ q, g j = .int (Int32.ofNat q) ∧ own_Bd b j q) → own_Ends p e s below ({ frames := 2, cells := 1, slots := 7, locals := 40 } : Room).cells ({ frames := 2, cells := 1, slots := 7, locals := 40 } : Room).slots (fun v h L => ∃ (t : Addr) (kt : ClassId) (g : Nat → Value), v = some (.ref t) ∧ Fr n0 L ∧ Keep h0 h [] ∧ own_Ar Z h t kt .int n g ∧ h0.size ≤ t ∧ ∀ j, j < n → ∃ q, g j = .int (Int32.ofNat q) ∧ own_Bd b j q) T (mkF m 9 #[.val (.int (Int32.ofNat n)), .val (.ref r1), .val (.ref bt), .val (.int (Int32.ofNat kx)), .val (.int (Int32.ofNat i))] []) := by
    intro d
    induction d with
    | zero =>
      intro i kx T hh lc g X eT N K Fl Va Vt hi1 hd hi8 hB hG
      have hc : ¬ Int32.ofNat i < Int32.ofNat n := fun q => by rw [own_ofNat_lt (by omega) (by omega)] at q; omega
      refine own_go (fun _ k => XS.iload X.here hx rfl (hb hby d3_9) rfl k) ?_
      show own_Ends _ _ _ _ _ _ _ T (mkF m 11 #[.val (.int (Int32.ofNat n)), .val (.ref r1), .val (.ref bt), .val (.int (Int32.ofNat kx)), .val (.int (Int32.ofNat i))] [(.int (Int32.ofNat i))])
      refine own_go (fun _ k => XS.iloadN X.here hx rfl (hb hby d3_11) rfl k) ?_
      show own_Ends _ _ _ _ _ _ _ T (mkF m 12 #[.val (.int (Int32.ofNat n)), .val (.ref r1), .val (.ref bt), .val (.int (Int32.ofNat kx)), .val (.int (Int32.ofNat i))] [(.int (Int32.ofNat n)), (.int (Int32.ofNat i))])
      refine own_go (fun _ k => XS.icmpYes X.here hx rfl (pc0 := 12) (pc' := 66) rfl (hb hby d3_12) rfl (flt hc).2.1 (by decide) (by decide) k) ?_
      show own_Ends _ _ _ _ _ _ _ T (mkF m 66 #[.val (.int (Int32.ofNat n)), .val (.ref r1), .val (.ref bt), .val (.int (Int32.ofNat kx)), .val (.int (Int32.ofNat i))] [])
      refine own_go (fun _ k => XS.aloadN X.here hx rfl (hb hby d3_66) rfl rfl k) ?_
      show own_Ends _ _ _ _ _ _ _ T (mkF m 67 #[.val (.int (Int32.ofNat n)), .val (.ref r1), .val (.ref bt), .val (.int (Int32.ofNat kx)), .val (.int (Int32.ofNat i))] [(.ref bt)])
      exact own_retR X hx hlk hret rfl rfl rfl (hb hby d3_67) (by decide) (by decide) (by rw [eT]; exact ⟨bt, k22, g, rfl, N, K, Vt, sz_bt, fun j hj => hG j (by omega) hj⟩)
    | succ d ih =>
      intro i kx T hh lc g X eT N K Fl Va Vt hi1 hd hi8 hB hG
      have hin : i < n := by omega
      have hc : Int32.ofNat i < Int32.ofNat n := (own_ofNat_lt (by omega) (by omega)).mpr hin
      have hI := own_In.start (hB (by omega))
      have K55 : ∀ (kx : Nat) (T : State), Stand p l e ({ frames := 2, cells := 1, slots := 7, locals := 40 } : Room) s m #[(.int (Int32.ofNat n)), (.ref r1)] below meth c T lc (0 + 1) (0 + 7) → T.heap = hh → own_Bd b i kx → own_Ends p e s below ({ frames := 2, cells := 1, slots := 7, locals := 40 } : Room).cells ({ frames := 2, cells := 1, slots := 7, locals := 40 } : Room).slots (fun v h L => ∃ (t : Addr) (kt : ClassId) (g : Nat → Value), v = some (.ref t) ∧ Fr n0 L ∧ Keep h0 h [] ∧ own_Ar Z h t kt .int n g ∧ h0.size ≤ t ∧ ∀ j, j < n → ∃ q, g j = .int (Int32.ofNat q) ∧ own_Bd b j q) T (mkF m 55 #[.val (.int (Int32.ofNat n)), .val (.ref r1), .val (.ref bt), .val (.int (Int32.ofNat kx)), .val (.int (Int32.ofNat i))] []) := by
        intro kx T X eT hbd
        refine own_go (fun _ k => XS.aloadN X.here hx rfl (hb hby d3_55) rfl rfl k) ?_
        show own_Ends _ _ _ _ _ _ _ T (mkF m 56 #[.val (.int (Int32.ofNat n)), .val (.ref r1), .val (.ref bt), .val (.int (Int32.ofNat kx)), .val (.int (Int32.ofNat i))] [(.ref bt)])
        refine own_go (fun _ k => XS.iload X.here hx rfl (hb hby d3_56) rfl k) ?_
        show own_Ends _ _ _ _ _ _ _ T (mkF m 58 #[.val (.int (Int32.ofNat n)), .val (.ref r1), .val (.ref bt), .val (.int (Int32.ofNat kx)), .val (.int (Int32.ofNat i))] [(.int (Int32.ofNat i)), (.ref bt)])
        refine own_go (fun _ k => XS.iloadN X.here hx rfl (hb hby d3_58) rfl k) ?_
        show own_Ends _ _ _ _ _ _ _ T (mkF m 59 #[.val (.int (Int32.ofNat n)), .val (.ref r1), .val (.ref bt), .val (.int (Int32.ofNat kx)), .val (.int (Int32.ofNat i))] [(.int (Int32.ofNat kx)), (.int (Int32.ofNat i)), (.ref bt)])
        obtain ⟨T23, h23, X23, e23, W23, V23, st23⟩ := own_stI X hx hZ eT Vt (i := i) (own_ofNat_nn (by omega)) (own_ofNat_cl (by omega)) hin (g := (mkF m 59 #[.val (.int (Int32.ofNat n)), .val (.ref r1), .val (.ref bt), .val (.int (Int32.ofNat kx)), .val (.int (Int32.ofNat i))] [(.int (Int32.ofNat kx)), (.int (Int32.ofNat i)), (.ref bt)])) rfl rfl (hb hby d3_59)
        have N23 := Fr.snoc X23 N g_bt
        have K_23 := K.wr W23 (Or.inr sz_bt)
        have L_r1_23 := Fl.other W23 ne_r1_bt
        have V_va_23 := Va.other W23 ne_va_bt
        refine own_go st23 ?_
        show own_Ends _ _ _ _ _ _ _ T23 (mkF m 60 #[.val (.int (Int32.ofNat n)), .val (.ref r1), .val (.ref bt), .val (.int (Int32.ofNat kx)), .val (.int (Int32.ofNat i))] [])
        refine own_go (fun _ k => XS.iinc X23.here hx rfl (hb hby d3_60) rfl (l' := #[.val (.int (Int32.ofNat n)), .val (.ref r1), .val (.ref bt), .val (.int (Int32.ofNat kx)), .val (.int ((Int32.ofNat i) + (1 : Int32)))]) rfl k) ?_
        show own_Ends _ _ _ _ _ _ _ T23 (mkF m 63 #[.val (.int (Int32.ofNat n)), .val (.ref r1), .val (.ref bt), .val (.int (Int32.ofNat kx)), .val (.int ((Int32.ofNat i) + (1 : Int32)))] [])
        refine own_go (fun _ k => XS.goto X23.here hx rfl (pc0 := 63) (pc' := 9) rfl (hb hby d3_63) (by decide) (by decide) k) ?_
        show own_Ends _ _ _ _ _ _ _ T23 (mkF m 9 #[.val (.int (Int32.ofNat n)), .val (.ref r1), .val (.ref bt), .val (.int (Int32.ofNat kx)), .val (.int ((Int32.ofNat i) + (1 : Int32)))] [])
        rw [show ((Int32.ofNat i) + (1 : Int32)) = (Int32.ofNat (i + 1)) from own_ofNat_add (j := 1) (by omega)]
        show own_Ends _ _ _ _ _ _ _ T23 (mkF m 9 #[.val (.int (Int32.ofNat n)), .val (.ref r1), .val (.ref bt), .val (.int (Int32.ofNat kx)), .val (.int (Int32.ofNat (i + 1)))] [])
        refine ih (i + 1) kx _ _ _ (fun j => if j = i then (.int (Int32.ofNat kx)) else g j) X23 e23 N23 K_23 L_r1_23 V_va_23 V23 (by omega) (by omega) (by omega) (fun _ => hbd) (fun j hj hjn => ?_)
        by_cases e : j = i
        · subst e
          exact ⟨kx, if_pos rfl, hbd⟩
        · obtain ⟨q, q1, q2⟩ := hG j (by omega) hjn
          exact ⟨q, (if_neg e).trans q1, q2⟩
      have K40 : ∀ (kx : Nat) (T : State), Stand p l e ({ frames := 2, cells := 1, slots := 7, locals := 40 } : Room) s m #[(.int (Int32.ofNat n)), (.ref r1)] below meth c T lc (0 + 1) (0 + 7) → T.heap = hh → own_In b i kx → (kx = 0 ∨ b i = b kx) → own_Ends p e s below ({ frames := 2, cells := 1, slots := 7, locals := 40 } : Room).cells ({ frames := 2, cells := 1, slots := 7, locals := 40 } : Room).slots (fun v h L => ∃ (t : Addr) (kt : ClassId) (g : Nat → Value), v = some (.ref t) ∧ Fr n0 L ∧ Keep h0 h [] ∧ own_Ar Z h t kt .int n g ∧ h0.size ≤ t ∧ ∀ j, j < n → ∃ q, g j = .int (Int32.ofNat q) ∧ own_Bd b j q) T (mkF m 40 #[.val (.int (Int32.ofNat n)), .val (.ref r1), .val (.ref bt), .val (.int (Int32.ofNat kx)), .val (.int (Int32.ofNat i))] []) := by
        intro kx T X eT hk hor
        have hkl := hk.le
        refine own_go (fun _ k => XS.aloadN X.here hx rfl (hb hby d3_40) rfl rfl k) ?_
        show own_Ends _ _ _ _ _ _ _ T (mkF m 41 #[.val (.int (Int32.ofNat n)), .val (.ref r1), .val (.ref bt), .val (.int (Int32.ofNat kx)), .val (.int (Int32.ofNat i))] [(.ref r1)])
        refine own_go (fun _ k => XS.iload X.here hx rfl (hb hby d3_41) rfl k) ?_
        show own_Ends _ _ _ _ _ _ _ T (mkF m 43 #[.val (.int (Int32.ofNat n)), .val (.ref r1), .val (.ref bt), .val (.int (Int32.ofNat kx)), .val (.int (Int32.ofNat i))] [(.int (Int32.ofNat i)), (.ref r1)])
        refine own_go (fun _ k => XS.iloadN X.here hx rfl (hb hby d3_43) rfl k) ?_
        show own_Ends _ _ _ _ _ _ _ T (mkF m 44 #[.val (.int (Int32.ofNat n)), .val (.ref r1), .val (.ref bt), .val (.int (Int32.ofNat kx)), .val (.int (Int32.ofNat i))] [(.int (Int32.ofNat kx)), (.int (Int32.ofNat i)), (.ref r1)])
        obtain ⟨T24, X24, e24, st24⟩ := own_callLam X hx hZ hZH MD hw hown eT Fl Va (i := i) (kx := kx) hin (by omega) hn (g := (mkF m 44 #[.val (.int (Int32.ofNat n)), .val (.ref r1), .val (.ref bt), .val (.int (Int32.ofNat kx)), .val (.int (Int32.ofNat i))] [(.int (Int32.ofNat kx)), (.int (Int32.ofNat i)), (.ref r1)])) rfl (by rw [hml]; rfl) rfl (hb hby d3_44) (by decide) (by show 2 * 0 + 0 + (3 + 11) + ((3 + 11) + 0) ≤ _; decide) (by decide) (by decide)
        refine own_go st24 ?_
        show own_Ends _ _ _ _ _ _ _ T24 (mkF m 49 #[.val (.int (Int32.ofNat n)), .val (.ref r1), .val (.ref bt), .val (.int (Int32.ofNat kx)), .val (.int (Int32.ofNat i))] [(.int (if b i = b kx then 1 else 0))])
        by_cases he : b i = b kx
        · rw [show (if b i = b kx then 1 else 0) = (1 : Int32) from if_pos he]
          show own_Ends _ _ _ _ _ _ _ T24 (mkF m 49 #[.val (.int (Int32.ofNat n)), .val (.ref r1), .val (.ref bt), .val (.int (Int32.ofNat kx)), .val (.int (Int32.ofNat i))] [(.int (1 : Int32))])
          refine own_go (fun _ k => XS.ifNo X24.here hx rfl (hb hby d3_49) rfl ((if0 _ _).trans (feq (by decide)).1) k) ?_
          show own_Ends _ _ _ _ _ _ _ T24 (mkF m 52 #[.val (.int (Int32.ofNat n)), .val (.ref r1), .val (.ref bt), .val (.int (Int32.ofNat kx)), .val (.int (Int32.ofNat i))] [])
          refine own_go (fun _ k => XS.iinc X24.here hx rfl (hb hby d3_52) rfl (l' := #[.val (.int (Int32.ofNat n)), .val (.ref r1), .val (.ref bt), .val (.int ((Int32.ofNat kx) + (1 : Int32))), .val (.int (Int32.ofNat i))]) rfl k) ?_
          show own_Ends _ _ _ _ _ _ _ T24 (mkF m 55 #[.val (.int (Int32.ofNat n)), .val (.ref r1), .val (.ref bt), .val (.int ((Int32.ofNat kx) + (1 : Int32))), .val (.int (Int32.ofNat i))] [])
          rw [show ((Int32.ofNat kx) + (1 : Int32)) = (Int32.ofNat (kx + 1)) from own_ofNat_add (j := 1) (by omega)]
          show own_Ends _ _ _ _ _ _ _ T24 (mkF m 55 #[.val (.int (Int32.ofNat n)), .val (.ref r1), .val (.ref bt), .val (.int (Int32.ofNat (kx + 1))), .val (.int (Int32.ofNat i))] [])
          exact K55 (kx + 1) _ X24 e24 (hk.hit hi1 he)
        · rw [show (if b i = b kx then 1 else 0) = (0 : Int32) from if_neg he]
          show own_Ends _ _ _ _ _ _ _ T24 (mkF m 49 #[.val (.int (Int32.ofNat n)), .val (.ref r1), .val (.ref bt), .val (.int (Int32.ofNat kx)), .val (.int (Int32.ofNat i))] [(.int (0 : Int32))])
          refine own_go (fun _ k => XS.ifYes X24.here hx rfl (pc0 := 49) (pc' := 55) rfl (hb hby d3_49) rfl ((if0 _ _).trans (teq (rfl)).1) (by decide) (by decide) k) ?_
          show own_Ends _ _ _ _ _ _ _ T24 (mkF m 55 #[.val (.int (Int32.ofNat n)), .val (.ref r1), .val (.ref bt), .val (.int (Int32.ofNat kx)), .val (.int (Int32.ofNat i))] [])
          obtain rfl : kx = 0 := hor.resolve_right he
          exact K55 0 _ X24 e24 (hk.miss hi1 he)
      have K15 : ∀ (f : Nat), ∀ (kx : Nat) (T : State), Stand p l e ({ frames := 2, cells := 1, slots := 7, locals := 40 } : Room) s m #[(.int (Int32.ofNat n)), (.ref r1)] below meth c T lc (0 + 1) (0 + 7) → T.heap = hh → own_In b i kx → kx ≤ f → own_Ends p e s below ({ frames := 2, cells := 1, slots := 7, locals := 40 } : Room).cells ({ frames := 2, cells := 1, slots := 7, locals := 40 } : Room).slots (fun v h L => ∃ (t : Addr) (kt : ClassId) (g : Nat → Value), v = some (.ref t) ∧ Fr n0 L ∧ Keep h0 h [] ∧ own_Ar Z h t kt .int n g ∧ h0.size ≤ t ∧ ∀ j, j < n → ∃ q, g j = .int (Int32.ofNat q) ∧ own_Bd b j q) T (mkF m 15 #[.val (.int (Int32.ofNat n)), .val (.ref r1), .val (.ref bt), .val (.int (Int32.ofNat kx)), .val (.int (Int32.ofNat i))] []) := by
        intro f
        induction f with
        | zero =>
          intro kx T X eT hk hkf
          obtain rfl : kx = 0 := by omega
          refine own_go (fun _ k => XS.iloadN X.here hx rfl (hb hby d3_15) rfl k) ?_
          show own_Ends _ _ _ _ _ _ _ T (mkF m 16 #[.val (.int (Int32.ofNat n)), .val (.ref r1), .val (.ref bt), .val (.int (Int32.ofNat 0)), .val (.int (Int32.ofNat i))] [(.int (Int32.ofNat 0))])
          refine own_go (fun _ k => XS.ifYes X.here hx rfl (pc0 := 16) (pc' := 40) rfl (hb hby d3_16) rfl ((if0 _ _).trans (flt (by decide)).2.2.2) (by decide) (by decide) k) ?_
          show own_Ends _ _ _ _ _ _ _ T (mkF m 40 #[.val (.int (Int32.ofNat n)), .val (.ref r1), .val (.ref bt), .val (.int (Int32.ofNat 0)), .val (.int (Int32.ofNat i))] [])
          exact K40 0 _ X eT hk (Or.inl rfl)
        | succ f ihf =>
          intro kx T X eT hk hkf
          have hkl := hk.le
          refine own_go (fun _ k => XS.iloadN X.here hx rfl (hb hby d3_15) rfl k) ?_
          show own_Ends _ _ _ _ _ _ _ T (mkF m 16 #[.val (.int (Int32.ofNat n)), .val (.ref r1), .val (.ref bt), .val (.int (Int32.ofNat kx)), .val (.int (Int32.ofNat i))] [(.int (Int32.ofNat kx))])
          by_cases h0 : kx = 0
          · subst h0
            show own_Ends _ _ _ _ _ _ _ T (mkF m 16 #[.val (.int (Int32.ofNat n)), .val (.ref r1), .val (.ref bt), .val (.int (Int32.ofNat 0)), .val (.int (Int32.ofNat i))] [(.int (Int32.ofNat 0))])
            refine own_go (fun _ k => XS.ifYes X.here hx rfl (pc0 := 16) (pc' := 40) rfl (hb hby d3_16) rfl ((if0 _ _).trans (flt (by decide)).2.2.2) (by decide) (by decide) k) ?_
            show own_Ends _ _ _ _ _ _ _ T (mkF m 40 #[.val (.int (Int32.ofNat n)), .val (.ref r1), .val (.ref bt), .val (.int (Int32.ofNat 0)), .val (.int (Int32.ofNat i))] [])
            exact K40 0 _ X eT hk (Or.inl rfl)
          · have hp0 : (0 : Int32) < Int32.ofNat kx := (own_ofNat_lt (i := 0) (by omega) (by omega)).mpr (by omega)
            refine own_go (fun _ k => XS.ifNo X.here hx rfl (hb hby d3_16) rfl ((if0 _ _).trans (tlt hp0).2.2.2) k) ?_
            show own_Ends _ _ _ _ _ _ _ T (mkF m 19 #[.val (.int (Int32.ofNat n)), .val (.ref r1), .val (.ref bt), .val (.int (Int32.ofNat kx)), .val (.int (Int32.ofNat i))] [])
            refine own_go (fun _ k => XS.aloadN X.here hx rfl (hb hby d3_19) rfl rfl k) ?_
            show own_Ends _ _ _ _ _ _ _ T (mkF m 20 #[.val (.int (Int32.ofNat n)), .val (.ref r1), .val (.ref bt), .val (.int (Int32.ofNat kx)), .val (.int (Int32.ofNat i))] [(.ref r1)])
            refine own_go (fun _ k => XS.iload X.here hx rfl (hb hby d3_20) rfl k) ?_
            show own_Ends _ _ _ _ _ _ _ T (mkF m 22 #[.val (.int (Int32.ofNat n)), .val (.ref r1), .val (.ref bt), .val (.int (Int32.ofNat kx)), .val (.int (Int32.ofNat i))] [(.int (Int32.ofNat i)), (.ref r1)])
            refine own_go (fun _ k => XS.iloadN X.here hx rfl (hb hby d3_22) rfl k) ?_
            show own_Ends _ _ _ _ _ _ _ T (mkF m 23 #[.val (.int (Int32.ofNat n)), .val (.ref r1), .val (.ref bt), .val (.int (Int32.ofNat kx)), .val (.int (Int32.ofNat i))] [(.int (Int32.ofNat kx)), (.int (Int32.ofNat i)), (.ref r1)])
            obtain ⟨T25, X25, e25, st25⟩ := own_callLam X hx hZ hZH MD hw hown eT Fl Va (i := i) (kx := kx) hin (by omega) hn (g := (mkF m 23 #[.val (.int (Int32.ofNat n)), .val (.ref r1), .val (.ref bt), .val (.int (Int32.ofNat kx)), .val (.int (Int32.ofNat i))] [(.int (Int32.ofNat kx)), (.int (Int32.ofNat i)), (.ref r1)])) rfl (by rw [hml]; rfl) rfl (hb hby d3_23) (by decide) (by show 2 * 0 + 0 + (3 + 11) + ((3 + 11) + 0) ≤ _; decide) (by decide) (by decide)
            refine own_go st25 ?_
            show own_Ends _ _ _ _ _ _ _ T25 (mkF m 28 #[.val (.int (Int32.ofNat n)), .val (.ref r1), .val (.ref bt), .val (.int (Int32.ofNat kx)), .val (.int (Int32.ofNat i))] [(.int (if b i = b kx then 1 else 0))])
            by_cases he : b i = b kx
            · rw [show (if b i = b kx then 1 else 0) = (1 : Int32) from if_pos he]
              show own_Ends _ _ _ _ _ _ _ T25 (mkF m 28 #[.val (.int (Int32.ofNat n)), .val (.ref r1), .val (.ref bt), .val (.int (Int32.ofNat kx)), .val (.int (Int32.ofNat i))] [(.int (1 : Int32))])
              refine own_go (fun _ k => XS.ifYes X25.here hx rfl (pc0 := 28) (pc' := 40) rfl (hb hby d3_28) rfl ((if0 _ _).trans (feq (by decide)).2) (by decide) (by decide) k) ?_
              show own_Ends _ _ _ _ _ _ _ T25 (mkF m 40 #[.val (.int (Int32.ofNat n)), .val (.ref r1), .val (.ref bt), .val (.int (Int32.ofNat kx)), .val (.int (Int32.ofNat i))] [])
              exact K40 kx _ X25 e25 hk (Or.inr he)
            · rw [show (if b i = b kx then 1 else 0) = (0 : Int32) from if_neg he]
              show own_Ends _ _ _ _ _ _ _ T25 (mkF m 28 #[.val (.int (Int32.ofNat n)), .val (.ref r1), .val (.ref bt), .val (.int (Int32.ofNat kx)), .val (.int (Int32.ofNat i))] [(.int (0 : Int32))])
              refine own_go (fun _ k => XS.ifNo X25.here hx rfl (hb hby d3_28) rfl ((if0 _ _).trans (teq (rfl)).2) k) ?_
              show own_Ends _ _ _ _ _ _ _ T25 (mkF m 31 #[.val (.int (Int32.ofNat n)), .val (.ref r1), .val (.ref bt), .val (.int (Int32.ofNat kx)), .val (.int (Int32.ofNat i))] [])
              refine own_go (fun _ k => XS.aloadN X25.here hx rfl (hb hby d3_31) rfl rfl k) ?_
              show own_Ends _ _ _ _ _ _ _ T25 (mkF m 32 #[.val (.int (Int32.ofNat n)), .val (.ref r1), .val (.ref bt), .val (.int (Int32.ofNat kx)), .val (.int (Int32.ofNat i))] [(.ref bt)])
              refine own_go (fun _ k => XS.iloadN X25.here hx rfl (hb hby d3_32) rfl k) ?_
              show own_Ends _ _ _ _ _ _ _ T25 (mkF m 33 #[.val (.int (Int32.ofNat n)), .val (.ref r1), .val (.ref bt), .val (.int (Int32.ofNat kx)), .val (.int (Int32.ofNat i))] [(.int (Int32.ofNat kx)), (.ref bt)])
              refine own_go (fun _ k => XS.iconst X25.here hx rfl (hb hby d3_33) k) ?_
              show own_Ends _ _ _ _ _ _ _ T25 (mkF m 34 #[.val (.int (Int32.ofNat n)), .val (.ref r1), .val (.ref bt), .val (.int (Int32.ofNat kx)), .val (.int (Int32.ofNat i))] [(.int (1 : Int32)), (.int (Int32.ofNat kx)), (.ref bt)])
              refine own_go (fun _ k => XS.isub X25.here hx rfl (hb hby d3_34) rfl k) ?_
              show own_Ends _ _ _ _ _ _ _ T25 (mkF m 35 #[.val (.int (Int32.ofNat n)), .val (.ref r1), .val (.ref bt), .val (.int (Int32.ofNat kx)), .val (.int (Int32.ofNat i))] [(.int ((Int32.ofNat kx) - (1 : Int32))), (.ref bt)])
              obtain ⟨q, hq1, hq2⟩ := hG (kx - 1) (by omega) (by omega)
              rw [show ((Int32.ofNat kx) - (1 : Int32)) = (Int32.ofNat (kx - 1)) from own_ofNat_sub1 (by omega) (by omega)]
              show own_Ends _ _ _ _ _ _ _ T25 (mkF m 35 #[.val (.int (Int32.ofNat n)), .val (.ref r1), .val (.ref bt), .val (.int (Int32.ofNat kx)), .val (.int (Int32.ofNat i))] [(.int (Int32.ofNat (kx - 1))), (.ref bt)])
              refine own_go (fun _ k => own_ldI X25 hx hZ e25 Vt (i := (kx - 1)) (v := (.int (Int32.ofNat q))) (own_ofNat_nn (by omega)) (own_ofNat_cl (by omega)) (by omega) hq1 (g := (mkF m 35 #[.val (.int (Int32.ofNat n)), .val (.ref r1), .val (.ref bt), .val (.int (Int32.ofNat kx)), .val (.int (Int32.ofNat i))] [(.int (Int32.ofNat (kx - 1))), (.ref bt)])) rfl rfl (hb hby d3_35) _ k) ?_
              show own_Ends _ _ _ _ _ _ _ T25 (mkF m 36 #[.val (.int (Int32.ofNat n)), .val (.ref r1), .val (.ref bt), .val (.int (Int32.ofNat kx)), .val (.int (Int32.ofNat i))] [(.int (Int32.ofNat q))])
              refine own_go (fun _ k => XS.istoreN X25.here hx rfl (hb hby d3_36) rfl (l' := #[.val (.int (Int32.ofNat n)), .val (.ref r1), .val (.ref bt), .val (.int (Int32.ofNat q)), .val (.int (Int32.ofNat i))]) rfl k) ?_
              show own_Ends _ _ _ _ _ _ _ T25 (mkF m 37 #[.val (.int (Int32.ofNat n)), .val (.ref r1), .val (.ref bt), .val (.int (Int32.ofNat q)), .val (.int (Int32.ofNat i))] [])
              refine own_go (fun _ k => XS.goto X25.here hx rfl (pc0 := 37) (pc' := 15) rfl (hb hby d3_37) (by decide) (by decide) k) ?_
              show own_Ends _ _ _ _ _ _ _ T25 (mkF m 15 #[.val (.int (Int32.ofNat n)), .val (.ref r1), .val (.ref bt), .val (.int (Int32.ofNat q)), .val (.int (Int32.ofNat i))] [])
              have hql := hq2.1.1
              exact ihf q _ X25 e25 (hk.next (by omega) he hq2) (by omega)
      refine own_go (fun _ k => XS.iload X.here hx rfl (hb hby d3_9) rfl k) ?_
      show own_Ends _ _ _ _ _ _ _ T (mkF m 11 #[.val (.int (Int32.ofNat n)), .val (.ref r1), .val (.ref bt), .val (.int (Int32.ofNat kx)), .val (.int (Int32.ofNat i))] [(.int (Int32.ofNat i))])
      refine own_go (fun _ k => XS.iloadN X.here hx rfl (hb hby d3_11) rfl k) ?_
      show own_Ends _ _ _ _ _ _ _ T (mkF m 12 #[.val (.int (Int32.ofNat n)), .val (.ref r1), .val (.ref bt), .val (.int (Int32.ofNat kx)), .val (.int (Int32.ofNat i))] [(.int (Int32.ofNat n)), (.int (Int32.ofNat i))])
      refine own_go (fun _ k => XS.icmpNo X.here hx rfl (hb hby d3_12) rfl (tlt hc).2.1 k) ?_
      show own_Ends _ _ _ _ _ _ _ T (mkF m 15 #[.val (.int (Int32.ofNat n)), .val (.ref r1), .val (.ref bt), .val (.int (Int32.ofNat kx)), .val (.int (Int32.ofNat i))] [])
      exact K15 kx kx _ X eT hI (Nat.le_refl _)
  refine K9 (n - 1) 1 0 _ _ _ _ X22 e22 N0 K_22 L_r1_22 V_va_22 V_bt (by omega) rfl (by omega) (fun _ => own_Bd0) (fun j hj _ => ?_)
  obtain rfl : j = 0 := by omega
  exact ⟨0, rfl, own_Bd0⟩
set_option maxRecDepth 65536 in
set_option maxHeartbeats 40000000 in
theorem rm2 (l : Launch) (Z : State) (a0 : Array Value) (hw : ∀ d ∈ tables_1, d.before a0 Z = true) (r0 : Addr) (h0 : Heap) (n0 : Nat) (n : Nat) (kc : ClassId) (b : Nat → Int32) (Z0 : n0 ≤ h0.size) (A : own_Ar Z h0 r0 kc .byte n (fun j => .int (b j))) (hn : n ≤ 7) :
    own_C l (⟨"com/example/prefixleap/prefixleap/core/PrefixTable", "of", "([B)[I"⟩ : MethodName) prog_12_method_2_code 1 (some (.array .int)) ({ frames := 3, cells := 2, slots := 8, locals := 3080 } : Room) Z #[(.ref r0)] h0 (fun v h L => ∃ (t : Addr) (kt : ClassId) (g : Nat → Value), v = some (.ref t) ∧ Fr n0 L ∧ Keep h0 h [] ∧ own_Ar Z h t kt .int n g ∧ h0.size ≤ t ∧ ∀ j, j < n → ∃ q, g j = .int (Int32.ofNat q) ∧ own_Bd b j q) := by
  refine own_enter pn_2 ?_
  intro p e s m below meth c s₁ X0 hx hby hml hown hnm hret hlk hZ e0 hZH hnamed
  replace hown : s.vm.findClass "com/example/prefixleap/prefixleap/core/PrefixTable" = some m.cls := hown
  have ef : entryFrame m #[(.ref r0)] 1 = mkF m 0 #[.val (.ref r0)] [] := by first | rfl | (simp [entryFrame, mkF, argsToLocals, Value.category, maxLocals]; done)
  refine own_cast ef ?_
  show own_Ends _ _ _ _ _ _ _ s₁ (mkF m 0 #[.val (.ref r0)] [])
  have N0 := Fr.nil n0
  have K0 : Keep h0 h0 [] := Keep.refl _ _
  refine own_go (fun _ k => XS.aloadN X0.here hx rfl (hb hby d2_0) rfl rfl k) ?_
  show own_Ends _ _ _ _ _ _ _ s₁ (mkF m 1 #[.val (.ref r0)] [(.ref r0)])
  refine own_go (fun _ k => own_len X0 hx hZ e0 A (z := (Int32.ofNat n)) rfl (g := (mkF m 1 #[.val (.ref r0)] [(.ref r0)])) rfl rfl (hb hby d2_1) _ k) ?_
  show own_Ends _ _ _ _ _ _ _ s₁ (mkF m 2 #[.val (.ref r0)] [(.int (Int32.ofNat n))])
  refine own_go (fun _ k => XS.aloadN X0.here hx rfl (hb hby d2_2) rfl rfl k) ?_
  show own_Ends _ _ _ _ _ _ _ s₁ (mkF m 3 #[.val (.ref r0)] [(.ref r0), (.int (Int32.ofNat n))])
  obtain ⟨cK, MD⟩ := own_site0 (hw _ (List.mem_of_getElem? (i := 9) rfl))
  obtain ⟨T26, h26, X26, e26, E26, Fn26, st26⟩ := own_makes X0 hx hZ hZH MD hnamed (hw _ (List.mem_of_getElem? (i := 12) rfl)) e0 (g := (mkF m 3 #[.val (.ref r0)] [(.ref r0), (.int (Int32.ofNat n))])) rfl rfl (by rw [hml]; rfl) (hb hby d2_3) (v := r0) (rest := [(.int (Int32.ofNat n))]) rfl (by show 2 * 0 + 2 + 3072 ≤ _; decide) (by decide) (by decide)
  obtain ⟨bl, gq26⟩ : ∃ z, z = h0.size := ⟨_, rfl⟩
  rw [← gq26] at Fn26 st26
  have ne_r0_bl : r0 ≠ bl := Nat.ne_of_lt (Nat.lt_of_lt_of_le A.lt (Nat.le_of_eq gq26.symm))
  have sz_bl : h0.size ≤ bl := Nat.le_trans K0.1 (Nat.le_of_eq gq26.symm)
  have g_bl : n0 ≤ bl := Nat.le_trans Z0 sz_bl
  have K_26 := K0.ext E26
  have V_r0_26 := A.ext E26
  refine own_go st26 ?_
  show own_Ends _ _ _ _ _ _ _ T26 (mkF m 8 #[.val (.ref r0)] [(.ref bl), (.int (Int32.ofNat n))])
  obtain ⟨v27, T27, L27, X27, hQ27, st27⟩ := own_callS X26 hx hZ hown (hw _ (List.mem_of_getElem? (i := 13) rfl)) (hw _ (List.mem_of_getElem? (i := 14) rfl)) (hw _ (List.mem_of_getElem? (i := 7) rfl)) (hw _ (List.mem_of_getElem? (i := 15) rfl)) (rm3 l Z a0 hw (Int32.ofNat n) bl h26 n0 n cK r0 kc b (Nat.le_trans Z0 K_26.1) MD Fn26 V_r0_26 hn rfl) e26 (g := (mkF m 8 #[.val (.ref r0)] [(.ref bl), (.int (Int32.ofNat n))])) rfl (by rw [hml]; rfl) (argsL := [(.int (Int32.ofNat n)), (.ref bl)]) (rest := []) (lenOf pd_1 rfl) rfl rfl (W := 0) (by show 2 * 0 + _ ≤ _; exact Nat.le_of_eq rfl) (hb hby d2_8) (by decide) (by decide) (by decide) (by decide) (by decide)
  obtain ⟨t, kt, g, rfl, N27q, K27, V27, s27, hG27⟩ := hQ27
  refine own_go st27 ?_
  have N27 := Fr.app N0 N27q
  have K_27 := K_26.trans K27 all0
  have V_r0_27 := V_r0_26.keep K27 nin0
  have L_bl_27 := Fn26.keep K27 nin0
  show own_Ends _ _ _ _ _ _ _ T27 (mkF m 11 #[.val (.ref r0)] [(.ref t)])
  exact own_retR X27 hx hlk hret rfl rfl rfl (hb hby d2_11) (by decide) (by decide) ⟨t, kt, g, rfl, N27, K_27, V27, Nat.le_trans E26.1 s27, hG27⟩
set_option maxRecDepth 65536 in
set_option maxHeartbeats 40000000 in
theorem rm4_hi (l : Launch) (Z : State) (a0 : Array Value) (hw : ∀ d ∈ tables_1, d.before a0 Z = true) (r0 : Addr) (r1 : Addr) (r2 : Addr) (p3 : Int32) (p4 : Int32) (h0 : Heap) (hc : ¬ p4 < p3) :
    own_C l (⟨"com/example/prefixleap/prefixleap/core/PrefixTableOfPinLaw", "check", "([I[B[BII)Z"⟩ : MethodName) method_5_code 5 (some .boolean) ({ frames := 0, cells := 0, slots := 0, locals := 0 } : Room) Z #[(.ref r0), (.ref r1), (.ref r2), (.int p3), (.int p4)] h0 (fun v h L => v = some (.int 1) ∧ L = [] ∧ h = h0) := by
  refine own_enter pn_4 ?_
  intro p e s m below meth c s₁ X0 hx hby hml hown hnm hret hlk hZ e0 hZH hnamed
  replace hown : s.vm.findClass "com/example/prefixleap/prefixleap/core/PrefixTableOfPinLaw" = some m.cls := hown
  have ef : entryFrame m #[(.ref r0), (.ref r1), (.ref r2), (.int p3), (.int p4)] 5 = mkF m 0 #[.val (.ref r0), .val (.ref r1), .val (.ref r2), .val (.int p3), .val (.int p4)] [] := by first | rfl | (simp [entryFrame, mkF, argsToLocals, Value.category, maxLocals]; done)
  refine own_cast ef ?_
  show own_Ends _ _ _ _ _ _ _ s₁ (mkF m 0 #[.val (.ref r0), .val (.ref r1), .val (.ref r2), .val (.int p3), .val (.int p4)] [])
  refine own_go (fun _ k => XS.iload X0.here hx rfl (hb hby d4_0) rfl k) ?_
  show own_Ends _ _ _ _ _ _ _ s₁ (mkF m 2 #[.val (.ref r0), .val (.ref r1), .val (.ref r2), .val (.int p3), .val (.int p4)] [(.int p4)])
  refine own_go (fun _ k => XS.iloadN X0.here hx rfl (hb hby d4_2) rfl k) ?_
  show own_Ends _ _ _ _ _ _ _ s₁ (mkF m 3 #[.val (.ref r0), .val (.ref r1), .val (.ref r2), .val (.int p3), .val (.int p4)] [(.int p3), (.int p4)])
  refine own_go (fun _ k => XS.icmpYes X0.here hx rfl (pc0 := 3) (pc' := 30) rfl (hb hby d4_3) rfl (flt hc).2.1 (by decide) (by decide) k) ?_
  show own_Ends _ _ _ _ _ _ _ s₁ (mkF m 30 #[.val (.ref r0), .val (.ref r1), .val (.ref r2), .val (.int p3), .val (.int p4)] [])
  refine own_go (fun _ k => XS.iconst X0.here hx rfl (hb hby d4_30) k) ?_
  show own_Ends _ _ _ _ _ _ _ s₁ (mkF m 31 #[.val (.ref r0), .val (.ref r1), .val (.ref r2), .val (.int p3), .val (.int p4)] [(.int (1 : Int32))])
  refine own_go (fun _ k => XS.goto X0.here hx rfl (pc0 := 31) (pc' := 35) rfl (hb hby d4_31) (by decide) (by decide) k) ?_
  show own_Ends _ _ _ _ _ _ _ s₁ (mkF m 35 #[.val (.ref r0), .val (.ref r1), .val (.ref r2), .val (.int p3), .val (.int p4)] [(.int (1 : Int32))])
  exact own_retZ X0 hx hlk hret (by decide) (hb hby d4_35) (by decide) (by decide) ⟨rfl, rfl, e0⟩
set_option maxRecDepth 65536 in
set_option maxHeartbeats 40000000 in
theorem rm4_0 (l : Launch) (Z : State) (a0 : Array Value) (hw : ∀ d ∈ tables_1, d.before a0 Z = true) (r0 : Addr) (r1 : Addr) (r2 : Addr) (p3 : Int32) (p4 : Int32) (h0 : Heap) (n : Nat) (kt : ClassId) (kp : ClassId) (kq : ClassId) (g : Nat → Value) (b : Nat → Int32) (q0 : Nat) (Vt : own_Ar Z h0 r0 kt .int n g) (Vp : own_Ar Z h0 r1 kp .byte n (fun j => .int (b j))) (Vq : own_Ar Z h0 r2 kq .byte 7 (fun j => .int (b j))) (hin : 0 < n) (hc : (0 : Int32) < p3) (hg : g 0 = .int (Int32.ofNat q0)) (hBq : own_Bd b 0 q0) (hp : p4 = 0) :
    own_C l (⟨"com/example/prefixleap/prefixleap/core/PrefixTableOfPinLaw", "check", "([I[B[BII)Z"⟩ : MethodName) method_5_code 5 (some .boolean) ({ frames := 2, cells := 0, slots := 0, locals := 60 } : Room) Z #[(.ref r0), (.ref r1), (.ref r2), (.int p3), (.int p4)] h0 (fun v h L => v = some (.int 1) ∧ L = [] ∧ h = h0) := by
  refine own_enter pn_4 ?_
  intro p e s m below meth c s₁ X0 hx hby hml hown hnm hret hlk hZ e0 hZH hnamed
  replace hown : s.vm.findClass "com/example/prefixleap/prefixleap/core/PrefixTableOfPinLaw" = some m.cls := hown
  have ef : entryFrame m #[(.ref r0), (.ref r1), (.ref r2), (.int p3), (.int p4)] 5 = mkF m 0 #[.val (.ref r0), .val (.ref r1), .val (.ref r2), .val (.int p3), .val (.int p4)] [] := by first | rfl | (simp [entryFrame, mkF, argsToLocals, Value.category, maxLocals]; done)
  refine own_cast ef ?_
  show own_Ends _ _ _ _ _ _ _ s₁ (mkF m 0 #[.val (.ref r0), .val (.ref r1), .val (.ref r2), .val (.int p3), .val (.int p4)] [])
  subst hp
  show own_Ends _ _ _ _ _ _ _ s₁ (mkF m 0 #[.val (.ref r0), .val (.ref r1), .val (.ref r2), .val (.int p3), .val (.int (0 : Int32))] [])
  refine own_go (fun _ k => XS.iload X0.here hx rfl (hb hby d4_0) rfl k) ?_
  show own_Ends _ _ _ _ _ _ _ s₁ (mkF m 2 #[.val (.ref r0), .val (.ref r1), .val (.ref r2), .val (.int p3), .val (.int (0 : Int32))] [(.int (0 : Int32))])
  refine own_go (fun _ k => XS.iloadN X0.here hx rfl (hb hby d4_2) rfl k) ?_
  show own_Ends _ _ _ _ _ _ _ s₁ (mkF m 3 #[.val (.ref r0), .val (.ref r1), .val (.ref r2), .val (.int p3), .val (.int (0 : Int32))] [(.int p3), (.int (0 : Int32))])
  refine own_go (fun _ k => XS.icmpNo X0.here hx rfl (hb hby d4_3) rfl (tlt hc).2.1 k) ?_
  show own_Ends _ _ _ _ _ _ _ s₁ (mkF m 6 #[.val (.ref r0), .val (.ref r1), .val (.ref r2), .val (.int p3), .val (.int (0 : Int32))] [])
  refine own_go (fun _ k => XS.aloadN X0.here hx rfl (hb hby d4_6) rfl rfl k) ?_
  show own_Ends _ _ _ _ _ _ _ s₁ (mkF m 7 #[.val (.ref r0), .val (.ref r1), .val (.ref r2), .val (.int p3), .val (.int (0 : Int32))] [(.ref r0)])
  refine own_go (fun _ k => XS.iload X0.here hx rfl (hb hby d4_7) rfl k) ?_
  show own_Ends _ _ _ _ _ _ _ s₁ (mkF m 9 #[.val (.ref r0), .val (.ref r1), .val (.ref r2), .val (.int p3), .val (.int (0 : Int32))] [(.int (0 : Int32)), (.ref r0)])
  refine own_go (fun _ k => own_ldI X0 hx hZ e0 Vt (i := 0) (v := (.int (Int32.ofNat q0))) (by decide) (by decide) hin hg (g := (mkF m 9 #[.val (.ref r0), .val (.ref r1), .val (.ref r2), .val (.int p3), .val (.int (0 : Int32))] [(.int (0 : Int32)), (.ref r0)])) rfl rfl (hb hby d4_9) _ k) ?_
  show own_Ends _ _ _ _ _ _ _ s₁ (mkF m 10 #[.val (.ref r0), .val (.ref r1), .val (.ref r2), .val (.int p3), .val (.int (0 : Int32))] [(.int (Int32.ofNat q0))])
  refine own_go (fun _ k => XS.aloadN X0.here hx rfl (hb hby d4_10) rfl rfl k) ?_
  show own_Ends _ _ _ _ _ _ _ s₁ (mkF m 11 #[.val (.ref r0), .val (.ref r1), .val (.ref r2), .val (.int p3), .val (.int (0 : Int32))] [(.ref r2), (.int (Int32.ofNat q0))])
  refine own_go (fun _ k => XS.iload X0.here hx rfl (hb hby d4_11) rfl k) ?_
  show own_Ends _ _ _ _ _ _ _ s₁ (mkF m 13 #[.val (.ref r0), .val (.ref r1), .val (.ref r2), .val (.int p3), .val (.int (0 : Int32))] [(.int (0 : Int32)), (.ref r2), (.int (Int32.ofNat q0))])
  obtain ⟨v28, T28, L28, X28, hQ28, st28⟩ := own_callS X0 hx hZ hown (hw _ (List.mem_of_getElem? (i := 25) rfl)) (hw _ (List.mem_of_getElem? (i := 26) rfl)) (hw _ (List.mem_of_getElem? (i := 3) rfl)) (hw _ (List.mem_of_getElem? (i := 27) rfl)) (rm6_0 l Z a0 hw r2 (0 : Int32) h0 kq b Vq rfl) e0 (g := (mkF m 13 #[.val (.ref r0), .val (.ref r1), .val (.ref r2), .val (.int p3), .val (.int (0 : Int32))] [(.int (0 : Int32)), (.ref r2), (.int (Int32.ofNat q0))])) rfl (by rw [hml]; rfl) (argsL := [(.ref r2), (.int (0 : Int32))]) (rest := [(.int (Int32.ofNat q0))]) (lenOf pd_2 rfl) rfl rfl (W := 1) (by show 2 * 0 + _ ≤ _; exact Nat.le_of_eq rfl) (hb hby d4_13) (by decide) (by decide) (by decide) (by decide) (by decide)
  obtain ⟨kb, rfl, hB28, rfl, e28⟩ := hQ28
  refine own_go st28 ?_
  show own_Ends _ _ _ _ _ _ _ T28 (mkF m 16 #[.val (.ref r0), .val (.ref r1), .val (.ref r2), .val (.int p3), .val (.int (0 : Int32))] [(.int (Int32.ofNat kb)), (.int (Int32.ofNat q0))])
  refine own_go (fun _ k => XS.icmpNo X28.here hx rfl (hb hby d4_16) rfl (teq (congrArg Int32.ofNat (hBq.uniq hB28))).2 k) ?_
  show own_Ends _ _ _ _ _ _ _ T28 (mkF m 19 #[.val (.ref r0), .val (.ref r1), .val (.ref r2), .val (.int p3), .val (.int (0 : Int32))] [])
  refine own_go (fun _ k => XS.aloadN X28.here hx rfl (hb hby d4_19) rfl rfl k) ?_
  show own_Ends _ _ _ _ _ _ _ T28 (mkF m 20 #[.val (.ref r0), .val (.ref r1), .val (.ref r2), .val (.int p3), .val (.int (0 : Int32))] [(.ref r1)])
  refine own_go (fun _ k => XS.iload X28.here hx rfl (hb hby d4_20) rfl k) ?_
  show own_Ends _ _ _ _ _ _ _ T28 (mkF m 22 #[.val (.ref r0), .val (.ref r1), .val (.ref r2), .val (.int p3), .val (.int (0 : Int32))] [(.int (0 : Int32)), (.ref r1)])
  refine own_go (fun _ k => own_ldB X28 hx hZ e28 Vp (i := 0) (v := (.int (b 0))) (by decide) (by decide) hin rfl (g := (mkF m 22 #[.val (.ref r0), .val (.ref r1), .val (.ref r2), .val (.int p3), .val (.int (0 : Int32))] [(.int (0 : Int32)), (.ref r1)])) rfl rfl (hb hby d4_22) _ k) ?_
  show own_Ends _ _ _ _ _ _ _ T28 (mkF m 23 #[.val (.ref r0), .val (.ref r1), .val (.ref r2), .val (.int p3), .val (.int (0 : Int32))] [(.int (b 0))])
  refine own_go (fun _ k => XS.aloadN X28.here hx rfl (hb hby d4_23) rfl rfl k) ?_
  show own_Ends _ _ _ _ _ _ _ T28 (mkF m 24 #[.val (.ref r0), .val (.ref r1), .val (.ref r2), .val (.int p3), .val (.int (0 : Int32))] [(.ref r2), (.int (b 0))])
  refine own_go (fun _ k => XS.iload X28.here hx rfl (hb hby d4_24) rfl k) ?_
  show own_Ends _ _ _ _ _ _ _ T28 (mkF m 26 #[.val (.ref r0), .val (.ref r1), .val (.ref r2), .val (.int p3), .val (.int (0 : Int32))] [(.int (0 : Int32)), (.ref r2), (.int (b 0))])
  refine own_go (fun _ k => own_ldB X28 hx hZ e28 Vq (i := 0) (v := (.int (b 0))) (by decide) (by decide) (by decide) rfl (g := (mkF m 26 #[.val (.ref r0), .val (.ref r1), .val (.ref r2), .val (.int p3), .val (.int (0 : Int32))] [(.int (0 : Int32)), (.ref r2), (.int (b 0))])) rfl rfl (hb hby d4_26) _ k) ?_
  show own_Ends _ _ _ _ _ _ _ T28 (mkF m 27 #[.val (.ref r0), .val (.ref r1), .val (.ref r2), .val (.int p3), .val (.int (0 : Int32))] [(.int (b 0)), (.int (b 0))])
  refine own_go (fun _ k => XS.icmpNo X28.here hx rfl (hb hby d4_27) rfl (teq (rfl)).2 k) ?_
  show own_Ends _ _ _ _ _ _ _ T28 (mkF m 30 #[.val (.ref r0), .val (.ref r1), .val (.ref r2), .val (.int p3), .val (.int (0 : Int32))] [])
  refine own_go (fun _ k => XS.iconst X28.here hx rfl (hb hby d4_30) k) ?_
  show own_Ends _ _ _ _ _ _ _ T28 (mkF m 31 #[.val (.ref r0), .val (.ref r1), .val (.ref r2), .val (.int p3), .val (.int (0 : Int32))] [(.int (1 : Int32))])
  refine own_go (fun _ k => XS.goto X28.here hx rfl (pc0 := 31) (pc' := 35) rfl (hb hby d4_31) (by decide) (by decide) k) ?_
  show own_Ends _ _ _ _ _ _ _ T28 (mkF m 35 #[.val (.ref r0), .val (.ref r1), .val (.ref r2), .val (.int p3), .val (.int (0 : Int32))] [(.int (1 : Int32))])
  exact own_retZ X28 hx hlk hret (by decide) (hb hby d4_35) (by decide) (by decide) ⟨rfl, rfl, e28⟩
set_option maxRecDepth 65536 in
set_option maxHeartbeats 40000000 in
theorem rm4_1 (l : Launch) (Z : State) (a0 : Array Value) (hw : ∀ d ∈ tables_1, d.before a0 Z = true) (r0 : Addr) (r1 : Addr) (r2 : Addr) (p3 : Int32) (p4 : Int32) (h0 : Heap) (n : Nat) (kt : ClassId) (kp : ClassId) (kq : ClassId) (g : Nat → Value) (b : Nat → Int32) (q0 : Nat) (Vt : own_Ar Z h0 r0 kt .int n g) (Vp : own_Ar Z h0 r1 kp .byte n (fun j => .int (b j))) (Vq : own_Ar Z h0 r2 kq .byte 7 (fun j => .int (b j))) (hin : 1 < n) (hc : (1 : Int32) < p3) (hg : g 1 = .int (Int32.ofNat q0)) (hBq : own_Bd b 1 q0) (hp : p4 = 1) :
    own_C l (⟨"com/example/prefixleap/prefixleap/core/PrefixTableOfPinLaw", "check", "([I[B[BII)Z"⟩ : MethodName) method_5_code 5 (some .boolean) ({ frames := 2, cells := 0, slots := 0, locals := 60 } : Room) Z #[(.ref r0), (.ref r1), (.ref r2), (.int p3), (.int p4)] h0 (fun v h L => v = some (.int 1) ∧ L = [] ∧ h = h0) := by
  refine own_enter pn_4 ?_
  intro p e s m below meth c s₁ X0 hx hby hml hown hnm hret hlk hZ e0 hZH hnamed
  replace hown : s.vm.findClass "com/example/prefixleap/prefixleap/core/PrefixTableOfPinLaw" = some m.cls := hown
  have ef : entryFrame m #[(.ref r0), (.ref r1), (.ref r2), (.int p3), (.int p4)] 5 = mkF m 0 #[.val (.ref r0), .val (.ref r1), .val (.ref r2), .val (.int p3), .val (.int p4)] [] := by first | rfl | (simp [entryFrame, mkF, argsToLocals, Value.category, maxLocals]; done)
  refine own_cast ef ?_
  show own_Ends _ _ _ _ _ _ _ s₁ (mkF m 0 #[.val (.ref r0), .val (.ref r1), .val (.ref r2), .val (.int p3), .val (.int p4)] [])
  subst hp
  show own_Ends _ _ _ _ _ _ _ s₁ (mkF m 0 #[.val (.ref r0), .val (.ref r1), .val (.ref r2), .val (.int p3), .val (.int (1 : Int32))] [])
  refine own_go (fun _ k => XS.iload X0.here hx rfl (hb hby d4_0) rfl k) ?_
  show own_Ends _ _ _ _ _ _ _ s₁ (mkF m 2 #[.val (.ref r0), .val (.ref r1), .val (.ref r2), .val (.int p3), .val (.int (1 : Int32))] [(.int (1 : Int32))])
  refine own_go (fun _ k => XS.iloadN X0.here hx rfl (hb hby d4_2) rfl k) ?_
  show own_Ends _ _ _ _ _ _ _ s₁ (mkF m 3 #[.val (.ref r0), .val (.ref r1), .val (.ref r2), .val (.int p3), .val (.int (1 : Int32))] [(.int p3), (.int (1 : Int32))])
  refine own_go (fun _ k => XS.icmpNo X0.here hx rfl (hb hby d4_3) rfl (tlt hc).2.1 k) ?_
  show own_Ends _ _ _ _ _ _ _ s₁ (mkF m 6 #[.val (.ref r0), .val (.ref r1), .val (.ref r2), .val (.int p3), .val (.int (1 : Int32))] [])
  refine own_go (fun _ k => XS.aloadN X0.here hx rfl (hb hby d4_6) rfl rfl k) ?_
  show own_Ends _ _ _ _ _ _ _ s₁ (mkF m 7 #[.val (.ref r0), .val (.ref r1), .val (.ref r2), .val (.int p3), .val (.int (1 : Int32))] [(.ref r0)])
  refine own_go (fun _ k => XS.iload X0.here hx rfl (hb hby d4_7) rfl k) ?_
  show own_Ends _ _ _ _ _ _ _ s₁ (mkF m 9 #[.val (.ref r0), .val (.ref r1), .val (.ref r2), .val (.int p3), .val (.int (1 : Int32))] [(.int (1 : Int32)), (.ref r0)])
  refine own_go (fun _ k => own_ldI X0 hx hZ e0 Vt (i := 1) (v := (.int (Int32.ofNat q0))) (by decide) (by decide) hin hg (g := (mkF m 9 #[.val (.ref r0), .val (.ref r1), .val (.ref r2), .val (.int p3), .val (.int (1 : Int32))] [(.int (1 : Int32)), (.ref r0)])) rfl rfl (hb hby d4_9) _ k) ?_
  show own_Ends _ _ _ _ _ _ _ s₁ (mkF m 10 #[.val (.ref r0), .val (.ref r1), .val (.ref r2), .val (.int p3), .val (.int (1 : Int32))] [(.int (Int32.ofNat q0))])
  refine own_go (fun _ k => XS.aloadN X0.here hx rfl (hb hby d4_10) rfl rfl k) ?_
  show own_Ends _ _ _ _ _ _ _ s₁ (mkF m 11 #[.val (.ref r0), .val (.ref r1), .val (.ref r2), .val (.int p3), .val (.int (1 : Int32))] [(.ref r2), (.int (Int32.ofNat q0))])
  refine own_go (fun _ k => XS.iload X0.here hx rfl (hb hby d4_11) rfl k) ?_
  show own_Ends _ _ _ _ _ _ _ s₁ (mkF m 13 #[.val (.ref r0), .val (.ref r1), .val (.ref r2), .val (.int p3), .val (.int (1 : Int32))] [(.int (1 : Int32)), (.ref r2), (.int (Int32.ofNat q0))])
  obtain ⟨v29, T29, L29, X29, hQ29, st29⟩ := own_callS X0 hx hZ hown (hw _ (List.mem_of_getElem? (i := 25) rfl)) (hw _ (List.mem_of_getElem? (i := 26) rfl)) (hw _ (List.mem_of_getElem? (i := 3) rfl)) (hw _ (List.mem_of_getElem? (i := 27) rfl)) (rm6_1 l Z a0 hw r2 (1 : Int32) h0 kq b Vq rfl) e0 (g := (mkF m 13 #[.val (.ref r0), .val (.ref r1), .val (.ref r2), .val (.int p3), .val (.int (1 : Int32))] [(.int (1 : Int32)), (.ref r2), (.int (Int32.ofNat q0))])) rfl (by rw [hml]; rfl) (argsL := [(.ref r2), (.int (1 : Int32))]) (rest := [(.int (Int32.ofNat q0))]) (lenOf pd_2 rfl) rfl rfl (W := 1) (by show 2 * 0 + _ ≤ _; exact Nat.le_of_eq rfl) (hb hby d4_13) (by decide) (by decide) (by decide) (by decide) (by decide)
  obtain ⟨kb, rfl, hB29, rfl, e29⟩ := hQ29
  refine own_go st29 ?_
  show own_Ends _ _ _ _ _ _ _ T29 (mkF m 16 #[.val (.ref r0), .val (.ref r1), .val (.ref r2), .val (.int p3), .val (.int (1 : Int32))] [(.int (Int32.ofNat kb)), (.int (Int32.ofNat q0))])
  refine own_go (fun _ k => XS.icmpNo X29.here hx rfl (hb hby d4_16) rfl (teq (congrArg Int32.ofNat (hBq.uniq hB29))).2 k) ?_
  show own_Ends _ _ _ _ _ _ _ T29 (mkF m 19 #[.val (.ref r0), .val (.ref r1), .val (.ref r2), .val (.int p3), .val (.int (1 : Int32))] [])
  refine own_go (fun _ k => XS.aloadN X29.here hx rfl (hb hby d4_19) rfl rfl k) ?_
  show own_Ends _ _ _ _ _ _ _ T29 (mkF m 20 #[.val (.ref r0), .val (.ref r1), .val (.ref r2), .val (.int p3), .val (.int (1 : Int32))] [(.ref r1)])
  refine own_go (fun _ k => XS.iload X29.here hx rfl (hb hby d4_20) rfl k) ?_
  show own_Ends _ _ _ _ _ _ _ T29 (mkF m 22 #[.val (.ref r0), .val (.ref r1), .val (.ref r2), .val (.int p3), .val (.int (1 : Int32))] [(.int (1 : Int32)), (.ref r1)])
  refine own_go (fun _ k => own_ldB X29 hx hZ e29 Vp (i := 1) (v := (.int (b 1))) (by decide) (by decide) hin rfl (g := (mkF m 22 #[.val (.ref r0), .val (.ref r1), .val (.ref r2), .val (.int p3), .val (.int (1 : Int32))] [(.int (1 : Int32)), (.ref r1)])) rfl rfl (hb hby d4_22) _ k) ?_
  show own_Ends _ _ _ _ _ _ _ T29 (mkF m 23 #[.val (.ref r0), .val (.ref r1), .val (.ref r2), .val (.int p3), .val (.int (1 : Int32))] [(.int (b 1))])
  refine own_go (fun _ k => XS.aloadN X29.here hx rfl (hb hby d4_23) rfl rfl k) ?_
  show own_Ends _ _ _ _ _ _ _ T29 (mkF m 24 #[.val (.ref r0), .val (.ref r1), .val (.ref r2), .val (.int p3), .val (.int (1 : Int32))] [(.ref r2), (.int (b 1))])
  refine own_go (fun _ k => XS.iload X29.here hx rfl (hb hby d4_24) rfl k) ?_
  show own_Ends _ _ _ _ _ _ _ T29 (mkF m 26 #[.val (.ref r0), .val (.ref r1), .val (.ref r2), .val (.int p3), .val (.int (1 : Int32))] [(.int (1 : Int32)), (.ref r2), (.int (b 1))])
  refine own_go (fun _ k => own_ldB X29 hx hZ e29 Vq (i := 1) (v := (.int (b 1))) (by decide) (by decide) (by decide) rfl (g := (mkF m 26 #[.val (.ref r0), .val (.ref r1), .val (.ref r2), .val (.int p3), .val (.int (1 : Int32))] [(.int (1 : Int32)), (.ref r2), (.int (b 1))])) rfl rfl (hb hby d4_26) _ k) ?_
  show own_Ends _ _ _ _ _ _ _ T29 (mkF m 27 #[.val (.ref r0), .val (.ref r1), .val (.ref r2), .val (.int p3), .val (.int (1 : Int32))] [(.int (b 1)), (.int (b 1))])
  refine own_go (fun _ k => XS.icmpNo X29.here hx rfl (hb hby d4_27) rfl (teq (rfl)).2 k) ?_
  show own_Ends _ _ _ _ _ _ _ T29 (mkF m 30 #[.val (.ref r0), .val (.ref r1), .val (.ref r2), .val (.int p3), .val (.int (1 : Int32))] [])
  refine own_go (fun _ k => XS.iconst X29.here hx rfl (hb hby d4_30) k) ?_
  show own_Ends _ _ _ _ _ _ _ T29 (mkF m 31 #[.val (.ref r0), .val (.ref r1), .val (.ref r2), .val (.int p3), .val (.int (1 : Int32))] [(.int (1 : Int32))])
  refine own_go (fun _ k => XS.goto X29.here hx rfl (pc0 := 31) (pc' := 35) rfl (hb hby d4_31) (by decide) (by decide) k) ?_
  show own_Ends _ _ _ _ _ _ _ T29 (mkF m 35 #[.val (.ref r0), .val (.ref r1), .val (.ref r2), .val (.int p3), .val (.int (1 : Int32))] [(.int (1 : Int32))])
  exact own_retZ X29 hx hlk hret (by decide) (hb hby d4_35) (by decide) (by decide) ⟨rfl, rfl, e29⟩
set_option maxRecDepth 65536 in
set_option maxHeartbeats 40000000 in
theorem rm4_2 (l : Launch) (Z : State) (a0 : Array Value) (hw : ∀ d ∈ tables_1, d.before a0 Z = true) (r0 : Addr) (r1 : Addr) (r2 : Addr) (p3 : Int32) (p4 : Int32) (h0 : Heap) (n : Nat) (kt : ClassId) (kp : ClassId) (kq : ClassId) (g : Nat → Value) (b : Nat → Int32) (q0 : Nat) (Vt : own_Ar Z h0 r0 kt .int n g) (Vp : own_Ar Z h0 r1 kp .byte n (fun j => .int (b j))) (Vq : own_Ar Z h0 r2 kq .byte 7 (fun j => .int (b j))) (hin : 2 < n) (hc : (2 : Int32) < p3) (hg : g 2 = .int (Int32.ofNat q0)) (hBq : own_Bd b 2 q0) (hp : p4 = 2) :
    own_C l (⟨"com/example/prefixleap/prefixleap/core/PrefixTableOfPinLaw", "check", "([I[B[BII)Z"⟩ : MethodName) method_5_code 5 (some .boolean) ({ frames := 2, cells := 0, slots := 0, locals := 60 } : Room) Z #[(.ref r0), (.ref r1), (.ref r2), (.int p3), (.int p4)] h0 (fun v h L => v = some (.int 1) ∧ L = [] ∧ h = h0) := by
  refine own_enter pn_4 ?_
  intro p e s m below meth c s₁ X0 hx hby hml hown hnm hret hlk hZ e0 hZH hnamed
  replace hown : s.vm.findClass "com/example/prefixleap/prefixleap/core/PrefixTableOfPinLaw" = some m.cls := hown
  have ef : entryFrame m #[(.ref r0), (.ref r1), (.ref r2), (.int p3), (.int p4)] 5 = mkF m 0 #[.val (.ref r0), .val (.ref r1), .val (.ref r2), .val (.int p3), .val (.int p4)] [] := by first | rfl | (simp [entryFrame, mkF, argsToLocals, Value.category, maxLocals]; done)
  refine own_cast ef ?_
  show own_Ends _ _ _ _ _ _ _ s₁ (mkF m 0 #[.val (.ref r0), .val (.ref r1), .val (.ref r2), .val (.int p3), .val (.int p4)] [])
  subst hp
  show own_Ends _ _ _ _ _ _ _ s₁ (mkF m 0 #[.val (.ref r0), .val (.ref r1), .val (.ref r2), .val (.int p3), .val (.int (2 : Int32))] [])
  refine own_go (fun _ k => XS.iload X0.here hx rfl (hb hby d4_0) rfl k) ?_
  show own_Ends _ _ _ _ _ _ _ s₁ (mkF m 2 #[.val (.ref r0), .val (.ref r1), .val (.ref r2), .val (.int p3), .val (.int (2 : Int32))] [(.int (2 : Int32))])
  refine own_go (fun _ k => XS.iloadN X0.here hx rfl (hb hby d4_2) rfl k) ?_
  show own_Ends _ _ _ _ _ _ _ s₁ (mkF m 3 #[.val (.ref r0), .val (.ref r1), .val (.ref r2), .val (.int p3), .val (.int (2 : Int32))] [(.int p3), (.int (2 : Int32))])
  refine own_go (fun _ k => XS.icmpNo X0.here hx rfl (hb hby d4_3) rfl (tlt hc).2.1 k) ?_
  show own_Ends _ _ _ _ _ _ _ s₁ (mkF m 6 #[.val (.ref r0), .val (.ref r1), .val (.ref r2), .val (.int p3), .val (.int (2 : Int32))] [])
  refine own_go (fun _ k => XS.aloadN X0.here hx rfl (hb hby d4_6) rfl rfl k) ?_
  show own_Ends _ _ _ _ _ _ _ s₁ (mkF m 7 #[.val (.ref r0), .val (.ref r1), .val (.ref r2), .val (.int p3), .val (.int (2 : Int32))] [(.ref r0)])
  refine own_go (fun _ k => XS.iload X0.here hx rfl (hb hby d4_7) rfl k) ?_
  show own_Ends _ _ _ _ _ _ _ s₁ (mkF m 9 #[.val (.ref r0), .val (.ref r1), .val (.ref r2), .val (.int p3), .val (.int (2 : Int32))] [(.int (2 : Int32)), (.ref r0)])
  refine own_go (fun _ k => own_ldI X0 hx hZ e0 Vt (i := 2) (v := (.int (Int32.ofNat q0))) (by decide) (by decide) hin hg (g := (mkF m 9 #[.val (.ref r0), .val (.ref r1), .val (.ref r2), .val (.int p3), .val (.int (2 : Int32))] [(.int (2 : Int32)), (.ref r0)])) rfl rfl (hb hby d4_9) _ k) ?_
  show own_Ends _ _ _ _ _ _ _ s₁ (mkF m 10 #[.val (.ref r0), .val (.ref r1), .val (.ref r2), .val (.int p3), .val (.int (2 : Int32))] [(.int (Int32.ofNat q0))])
  refine own_go (fun _ k => XS.aloadN X0.here hx rfl (hb hby d4_10) rfl rfl k) ?_
  show own_Ends _ _ _ _ _ _ _ s₁ (mkF m 11 #[.val (.ref r0), .val (.ref r1), .val (.ref r2), .val (.int p3), .val (.int (2 : Int32))] [(.ref r2), (.int (Int32.ofNat q0))])
  refine own_go (fun _ k => XS.iload X0.here hx rfl (hb hby d4_11) rfl k) ?_
  show own_Ends _ _ _ _ _ _ _ s₁ (mkF m 13 #[.val (.ref r0), .val (.ref r1), .val (.ref r2), .val (.int p3), .val (.int (2 : Int32))] [(.int (2 : Int32)), (.ref r2), (.int (Int32.ofNat q0))])
  obtain ⟨v30, T30, L30, X30, hQ30, st30⟩ := own_callS X0 hx hZ hown (hw _ (List.mem_of_getElem? (i := 25) rfl)) (hw _ (List.mem_of_getElem? (i := 26) rfl)) (hw _ (List.mem_of_getElem? (i := 3) rfl)) (hw _ (List.mem_of_getElem? (i := 27) rfl)) (rm6_2 l Z a0 hw r2 (2 : Int32) h0 kq b Vq rfl) e0 (g := (mkF m 13 #[.val (.ref r0), .val (.ref r1), .val (.ref r2), .val (.int p3), .val (.int (2 : Int32))] [(.int (2 : Int32)), (.ref r2), (.int (Int32.ofNat q0))])) rfl (by rw [hml]; rfl) (argsL := [(.ref r2), (.int (2 : Int32))]) (rest := [(.int (Int32.ofNat q0))]) (lenOf pd_2 rfl) rfl rfl (W := 1) (by show 2 * 0 + _ ≤ _; exact Nat.le_of_eq rfl) (hb hby d4_13) (by decide) (by decide) (by decide) (by decide) (by decide)
  obtain ⟨kb, rfl, hB30, rfl, e30⟩ := hQ30
  refine own_go st30 ?_
  show own_Ends _ _ _ _ _ _ _ T30 (mkF m 16 #[.val (.ref r0), .val (.ref r1), .val (.ref r2), .val (.int p3), .val (.int (2 : Int32))] [(.int (Int32.ofNat kb)), (.int (Int32.ofNat q0))])
  refine own_go (fun _ k => XS.icmpNo X30.here hx rfl (hb hby d4_16) rfl (teq (congrArg Int32.ofNat (hBq.uniq hB30))).2 k) ?_
  show own_Ends _ _ _ _ _ _ _ T30 (mkF m 19 #[.val (.ref r0), .val (.ref r1), .val (.ref r2), .val (.int p3), .val (.int (2 : Int32))] [])
  refine own_go (fun _ k => XS.aloadN X30.here hx rfl (hb hby d4_19) rfl rfl k) ?_
  show own_Ends _ _ _ _ _ _ _ T30 (mkF m 20 #[.val (.ref r0), .val (.ref r1), .val (.ref r2), .val (.int p3), .val (.int (2 : Int32))] [(.ref r1)])
  refine own_go (fun _ k => XS.iload X30.here hx rfl (hb hby d4_20) rfl k) ?_
  show own_Ends _ _ _ _ _ _ _ T30 (mkF m 22 #[.val (.ref r0), .val (.ref r1), .val (.ref r2), .val (.int p3), .val (.int (2 : Int32))] [(.int (2 : Int32)), (.ref r1)])
  refine own_go (fun _ k => own_ldB X30 hx hZ e30 Vp (i := 2) (v := (.int (b 2))) (by decide) (by decide) hin rfl (g := (mkF m 22 #[.val (.ref r0), .val (.ref r1), .val (.ref r2), .val (.int p3), .val (.int (2 : Int32))] [(.int (2 : Int32)), (.ref r1)])) rfl rfl (hb hby d4_22) _ k) ?_
  show own_Ends _ _ _ _ _ _ _ T30 (mkF m 23 #[.val (.ref r0), .val (.ref r1), .val (.ref r2), .val (.int p3), .val (.int (2 : Int32))] [(.int (b 2))])
  refine own_go (fun _ k => XS.aloadN X30.here hx rfl (hb hby d4_23) rfl rfl k) ?_
  show own_Ends _ _ _ _ _ _ _ T30 (mkF m 24 #[.val (.ref r0), .val (.ref r1), .val (.ref r2), .val (.int p3), .val (.int (2 : Int32))] [(.ref r2), (.int (b 2))])
  refine own_go (fun _ k => XS.iload X30.here hx rfl (hb hby d4_24) rfl k) ?_
  show own_Ends _ _ _ _ _ _ _ T30 (mkF m 26 #[.val (.ref r0), .val (.ref r1), .val (.ref r2), .val (.int p3), .val (.int (2 : Int32))] [(.int (2 : Int32)), (.ref r2), (.int (b 2))])
  refine own_go (fun _ k => own_ldB X30 hx hZ e30 Vq (i := 2) (v := (.int (b 2))) (by decide) (by decide) (by decide) rfl (g := (mkF m 26 #[.val (.ref r0), .val (.ref r1), .val (.ref r2), .val (.int p3), .val (.int (2 : Int32))] [(.int (2 : Int32)), (.ref r2), (.int (b 2))])) rfl rfl (hb hby d4_26) _ k) ?_
  show own_Ends _ _ _ _ _ _ _ T30 (mkF m 27 #[.val (.ref r0), .val (.ref r1), .val (.ref r2), .val (.int p3), .val (.int (2 : Int32))] [(.int (b 2)), (.int (b 2))])
  refine own_go (fun _ k => XS.icmpNo X30.here hx rfl (hb hby d4_27) rfl (teq (rfl)).2 k) ?_
  show own_Ends _ _ _ _ _ _ _ T30 (mkF m 30 #[.val (.ref r0), .val (.ref r1), .val (.ref r2), .val (.int p3), .val (.int (2 : Int32))] [])
  refine own_go (fun _ k => XS.iconst X30.here hx rfl (hb hby d4_30) k) ?_
  show own_Ends _ _ _ _ _ _ _ T30 (mkF m 31 #[.val (.ref r0), .val (.ref r1), .val (.ref r2), .val (.int p3), .val (.int (2 : Int32))] [(.int (1 : Int32))])
  refine own_go (fun _ k => XS.goto X30.here hx rfl (pc0 := 31) (pc' := 35) rfl (hb hby d4_31) (by decide) (by decide) k) ?_
  show own_Ends _ _ _ _ _ _ _ T30 (mkF m 35 #[.val (.ref r0), .val (.ref r1), .val (.ref r2), .val (.int p3), .val (.int (2 : Int32))] [(.int (1 : Int32))])
  exact own_retZ X30 hx hlk hret (by decide) (hb hby d4_35) (by decide) (by decide) ⟨rfl, rfl, e30⟩
set_option maxRecDepth 65536 in
set_option maxHeartbeats 40000000 in
theorem rm4_3 (l : Launch) (Z : State) (a0 : Array Value) (hw : ∀ d ∈ tables_1, d.before a0 Z = true) (r0 : Addr) (r1 : Addr) (r2 : Addr) (p3 : Int32) (p4 : Int32) (h0 : Heap) (n : Nat) (kt : ClassId) (kp : ClassId) (kq : ClassId) (g : Nat → Value) (b : Nat → Int32) (q0 : Nat) (Vt : own_Ar Z h0 r0 kt .int n g) (Vp : own_Ar Z h0 r1 kp .byte n (fun j => .int (b j))) (Vq : own_Ar Z h0 r2 kq .byte 7 (fun j => .int (b j))) (hin : 3 < n) (hc : (3 : Int32) < p3) (hg : g 3 = .int (Int32.ofNat q0)) (hBq : own_Bd b 3 q0) (hp : p4 = 3) :
    own_C l (⟨"com/example/prefixleap/prefixleap/core/PrefixTableOfPinLaw", "check", "([I[B[BII)Z"⟩ : MethodName) method_5_code 5 (some .boolean) ({ frames := 2, cells := 0, slots := 0, locals := 60 } : Room) Z #[(.ref r0), (.ref r1), (.ref r2), (.int p3), (.int p4)] h0 (fun v h L => v = some (.int 1) ∧ L = [] ∧ h = h0) := by
  refine own_enter pn_4 ?_
  intro p e s m below meth c s₁ X0 hx hby hml hown hnm hret hlk hZ e0 hZH hnamed
  replace hown : s.vm.findClass "com/example/prefixleap/prefixleap/core/PrefixTableOfPinLaw" = some m.cls := hown
  have ef : entryFrame m #[(.ref r0), (.ref r1), (.ref r2), (.int p3), (.int p4)] 5 = mkF m 0 #[.val (.ref r0), .val (.ref r1), .val (.ref r2), .val (.int p3), .val (.int p4)] [] := by first | rfl | (simp [entryFrame, mkF, argsToLocals, Value.category, maxLocals]; done)
  refine own_cast ef ?_
  show own_Ends _ _ _ _ _ _ _ s₁ (mkF m 0 #[.val (.ref r0), .val (.ref r1), .val (.ref r2), .val (.int p3), .val (.int p4)] [])
  subst hp
  show own_Ends _ _ _ _ _ _ _ s₁ (mkF m 0 #[.val (.ref r0), .val (.ref r1), .val (.ref r2), .val (.int p3), .val (.int (3 : Int32))] [])
  refine own_go (fun _ k => XS.iload X0.here hx rfl (hb hby d4_0) rfl k) ?_
  show own_Ends _ _ _ _ _ _ _ s₁ (mkF m 2 #[.val (.ref r0), .val (.ref r1), .val (.ref r2), .val (.int p3), .val (.int (3 : Int32))] [(.int (3 : Int32))])
  refine own_go (fun _ k => XS.iloadN X0.here hx rfl (hb hby d4_2) rfl k) ?_
  show own_Ends _ _ _ _ _ _ _ s₁ (mkF m 3 #[.val (.ref r0), .val (.ref r1), .val (.ref r2), .val (.int p3), .val (.int (3 : Int32))] [(.int p3), (.int (3 : Int32))])
  refine own_go (fun _ k => XS.icmpNo X0.here hx rfl (hb hby d4_3) rfl (tlt hc).2.1 k) ?_
  show own_Ends _ _ _ _ _ _ _ s₁ (mkF m 6 #[.val (.ref r0), .val (.ref r1), .val (.ref r2), .val (.int p3), .val (.int (3 : Int32))] [])
  refine own_go (fun _ k => XS.aloadN X0.here hx rfl (hb hby d4_6) rfl rfl k) ?_
  show own_Ends _ _ _ _ _ _ _ s₁ (mkF m 7 #[.val (.ref r0), .val (.ref r1), .val (.ref r2), .val (.int p3), .val (.int (3 : Int32))] [(.ref r0)])
  refine own_go (fun _ k => XS.iload X0.here hx rfl (hb hby d4_7) rfl k) ?_
  show own_Ends _ _ _ _ _ _ _ s₁ (mkF m 9 #[.val (.ref r0), .val (.ref r1), .val (.ref r2), .val (.int p3), .val (.int (3 : Int32))] [(.int (3 : Int32)), (.ref r0)])
  refine own_go (fun _ k => own_ldI X0 hx hZ e0 Vt (i := 3) (v := (.int (Int32.ofNat q0))) (by decide) (by decide) hin hg (g := (mkF m 9 #[.val (.ref r0), .val (.ref r1), .val (.ref r2), .val (.int p3), .val (.int (3 : Int32))] [(.int (3 : Int32)), (.ref r0)])) rfl rfl (hb hby d4_9) _ k) ?_
  show own_Ends _ _ _ _ _ _ _ s₁ (mkF m 10 #[.val (.ref r0), .val (.ref r1), .val (.ref r2), .val (.int p3), .val (.int (3 : Int32))] [(.int (Int32.ofNat q0))])
  refine own_go (fun _ k => XS.aloadN X0.here hx rfl (hb hby d4_10) rfl rfl k) ?_
  show own_Ends _ _ _ _ _ _ _ s₁ (mkF m 11 #[.val (.ref r0), .val (.ref r1), .val (.ref r2), .val (.int p3), .val (.int (3 : Int32))] [(.ref r2), (.int (Int32.ofNat q0))])
  refine own_go (fun _ k => XS.iload X0.here hx rfl (hb hby d4_11) rfl k) ?_
  show own_Ends _ _ _ _ _ _ _ s₁ (mkF m 13 #[.val (.ref r0), .val (.ref r1), .val (.ref r2), .val (.int p3), .val (.int (3 : Int32))] [(.int (3 : Int32)), (.ref r2), (.int (Int32.ofNat q0))])
  obtain ⟨v31, T31, L31, X31, hQ31, st31⟩ := own_callS X0 hx hZ hown (hw _ (List.mem_of_getElem? (i := 25) rfl)) (hw _ (List.mem_of_getElem? (i := 26) rfl)) (hw _ (List.mem_of_getElem? (i := 3) rfl)) (hw _ (List.mem_of_getElem? (i := 27) rfl)) (rm6_3 l Z a0 hw r2 (3 : Int32) h0 kq b Vq rfl) e0 (g := (mkF m 13 #[.val (.ref r0), .val (.ref r1), .val (.ref r2), .val (.int p3), .val (.int (3 : Int32))] [(.int (3 : Int32)), (.ref r2), (.int (Int32.ofNat q0))])) rfl (by rw [hml]; rfl) (argsL := [(.ref r2), (.int (3 : Int32))]) (rest := [(.int (Int32.ofNat q0))]) (lenOf pd_2 rfl) rfl rfl (W := 1) (by show 2 * 0 + _ ≤ _; exact Nat.le_of_eq rfl) (hb hby d4_13) (by decide) (by decide) (by decide) (by decide) (by decide)
  obtain ⟨kb, rfl, hB31, rfl, e31⟩ := hQ31
  refine own_go st31 ?_
  show own_Ends _ _ _ _ _ _ _ T31 (mkF m 16 #[.val (.ref r0), .val (.ref r1), .val (.ref r2), .val (.int p3), .val (.int (3 : Int32))] [(.int (Int32.ofNat kb)), (.int (Int32.ofNat q0))])
  refine own_go (fun _ k => XS.icmpNo X31.here hx rfl (hb hby d4_16) rfl (teq (congrArg Int32.ofNat (hBq.uniq hB31))).2 k) ?_
  show own_Ends _ _ _ _ _ _ _ T31 (mkF m 19 #[.val (.ref r0), .val (.ref r1), .val (.ref r2), .val (.int p3), .val (.int (3 : Int32))] [])
  refine own_go (fun _ k => XS.aloadN X31.here hx rfl (hb hby d4_19) rfl rfl k) ?_
  show own_Ends _ _ _ _ _ _ _ T31 (mkF m 20 #[.val (.ref r0), .val (.ref r1), .val (.ref r2), .val (.int p3), .val (.int (3 : Int32))] [(.ref r1)])
  refine own_go (fun _ k => XS.iload X31.here hx rfl (hb hby d4_20) rfl k) ?_
  show own_Ends _ _ _ _ _ _ _ T31 (mkF m 22 #[.val (.ref r0), .val (.ref r1), .val (.ref r2), .val (.int p3), .val (.int (3 : Int32))] [(.int (3 : Int32)), (.ref r1)])
  refine own_go (fun _ k => own_ldB X31 hx hZ e31 Vp (i := 3) (v := (.int (b 3))) (by decide) (by decide) hin rfl (g := (mkF m 22 #[.val (.ref r0), .val (.ref r1), .val (.ref r2), .val (.int p3), .val (.int (3 : Int32))] [(.int (3 : Int32)), (.ref r1)])) rfl rfl (hb hby d4_22) _ k) ?_
  show own_Ends _ _ _ _ _ _ _ T31 (mkF m 23 #[.val (.ref r0), .val (.ref r1), .val (.ref r2), .val (.int p3), .val (.int (3 : Int32))] [(.int (b 3))])
  refine own_go (fun _ k => XS.aloadN X31.here hx rfl (hb hby d4_23) rfl rfl k) ?_
  show own_Ends _ _ _ _ _ _ _ T31 (mkF m 24 #[.val (.ref r0), .val (.ref r1), .val (.ref r2), .val (.int p3), .val (.int (3 : Int32))] [(.ref r2), (.int (b 3))])
  refine own_go (fun _ k => XS.iload X31.here hx rfl (hb hby d4_24) rfl k) ?_
  show own_Ends _ _ _ _ _ _ _ T31 (mkF m 26 #[.val (.ref r0), .val (.ref r1), .val (.ref r2), .val (.int p3), .val (.int (3 : Int32))] [(.int (3 : Int32)), (.ref r2), (.int (b 3))])
  refine own_go (fun _ k => own_ldB X31 hx hZ e31 Vq (i := 3) (v := (.int (b 3))) (by decide) (by decide) (by decide) rfl (g := (mkF m 26 #[.val (.ref r0), .val (.ref r1), .val (.ref r2), .val (.int p3), .val (.int (3 : Int32))] [(.int (3 : Int32)), (.ref r2), (.int (b 3))])) rfl rfl (hb hby d4_26) _ k) ?_
  show own_Ends _ _ _ _ _ _ _ T31 (mkF m 27 #[.val (.ref r0), .val (.ref r1), .val (.ref r2), .val (.int p3), .val (.int (3 : Int32))] [(.int (b 3)), (.int (b 3))])
  refine own_go (fun _ k => XS.icmpNo X31.here hx rfl (hb hby d4_27) rfl (teq (rfl)).2 k) ?_
  show own_Ends _ _ _ _ _ _ _ T31 (mkF m 30 #[.val (.ref r0), .val (.ref r1), .val (.ref r2), .val (.int p3), .val (.int (3 : Int32))] [])
  refine own_go (fun _ k => XS.iconst X31.here hx rfl (hb hby d4_30) k) ?_
  show own_Ends _ _ _ _ _ _ _ T31 (mkF m 31 #[.val (.ref r0), .val (.ref r1), .val (.ref r2), .val (.int p3), .val (.int (3 : Int32))] [(.int (1 : Int32))])
  refine own_go (fun _ k => XS.goto X31.here hx rfl (pc0 := 31) (pc' := 35) rfl (hb hby d4_31) (by decide) (by decide) k) ?_
  show own_Ends _ _ _ _ _ _ _ T31 (mkF m 35 #[.val (.ref r0), .val (.ref r1), .val (.ref r2), .val (.int p3), .val (.int (3 : Int32))] [(.int (1 : Int32))])
  exact own_retZ X31 hx hlk hret (by decide) (hb hby d4_35) (by decide) (by decide) ⟨rfl, rfl, e31⟩
set_option maxRecDepth 65536 in
set_option maxHeartbeats 40000000 in
theorem rm4_4 (l : Launch) (Z : State) (a0 : Array Value) (hw : ∀ d ∈ tables_1, d.before a0 Z = true) (r0 : Addr) (r1 : Addr) (r2 : Addr) (p3 : Int32) (p4 : Int32) (h0 : Heap) (n : Nat) (kt : ClassId) (kp : ClassId) (kq : ClassId) (g : Nat → Value) (b : Nat → Int32) (q0 : Nat) (Vt : own_Ar Z h0 r0 kt .int n g) (Vp : own_Ar Z h0 r1 kp .byte n (fun j => .int (b j))) (Vq : own_Ar Z h0 r2 kq .byte 7 (fun j => .int (b j))) (hin : 4 < n) (hc : (4 : Int32) < p3) (hg : g 4 = .int (Int32.ofNat q0)) (hBq : own_Bd b 4 q0) (hp : p4 = 4) :
    own_C l (⟨"com/example/prefixleap/prefixleap/core/PrefixTableOfPinLaw", "check", "([I[B[BII)Z"⟩ : MethodName) method_5_code 5 (some .boolean) ({ frames := 2, cells := 0, slots := 0, locals := 60 } : Room) Z #[(.ref r0), (.ref r1), (.ref r2), (.int p3), (.int p4)] h0 (fun v h L => v = some (.int 1) ∧ L = [] ∧ h = h0) := by
  refine own_enter pn_4 ?_
  intro p e s m below meth c s₁ X0 hx hby hml hown hnm hret hlk hZ e0 hZH hnamed
  replace hown : s.vm.findClass "com/example/prefixleap/prefixleap/core/PrefixTableOfPinLaw" = some m.cls := hown
  have ef : entryFrame m #[(.ref r0), (.ref r1), (.ref r2), (.int p3), (.int p4)] 5 = mkF m 0 #[.val (.ref r0), .val (.ref r1), .val (.ref r2), .val (.int p3), .val (.int p4)] [] := by first | rfl | (simp [entryFrame, mkF, argsToLocals, Value.category, maxLocals]; done)
  refine own_cast ef ?_
  show own_Ends _ _ _ _ _ _ _ s₁ (mkF m 0 #[.val (.ref r0), .val (.ref r1), .val (.ref r2), .val (.int p3), .val (.int p4)] [])
  subst hp
  show own_Ends _ _ _ _ _ _ _ s₁ (mkF m 0 #[.val (.ref r0), .val (.ref r1), .val (.ref r2), .val (.int p3), .val (.int (4 : Int32))] [])
  refine own_go (fun _ k => XS.iload X0.here hx rfl (hb hby d4_0) rfl k) ?_
  show own_Ends _ _ _ _ _ _ _ s₁ (mkF m 2 #[.val (.ref r0), .val (.ref r1), .val (.ref r2), .val (.int p3), .val (.int (4 : Int32))] [(.int (4 : Int32))])
  refine own_go (fun _ k => XS.iloadN X0.here hx rfl (hb hby d4_2) rfl k) ?_
  show own_Ends _ _ _ _ _ _ _ s₁ (mkF m 3 #[.val (.ref r0), .val (.ref r1), .val (.ref r2), .val (.int p3), .val (.int (4 : Int32))] [(.int p3), (.int (4 : Int32))])
  refine own_go (fun _ k => XS.icmpNo X0.here hx rfl (hb hby d4_3) rfl (tlt hc).2.1 k) ?_
  show own_Ends _ _ _ _ _ _ _ s₁ (mkF m 6 #[.val (.ref r0), .val (.ref r1), .val (.ref r2), .val (.int p3), .val (.int (4 : Int32))] [])
  refine own_go (fun _ k => XS.aloadN X0.here hx rfl (hb hby d4_6) rfl rfl k) ?_
  show own_Ends _ _ _ _ _ _ _ s₁ (mkF m 7 #[.val (.ref r0), .val (.ref r1), .val (.ref r2), .val (.int p3), .val (.int (4 : Int32))] [(.ref r0)])
  refine own_go (fun _ k => XS.iload X0.here hx rfl (hb hby d4_7) rfl k) ?_
  show own_Ends _ _ _ _ _ _ _ s₁ (mkF m 9 #[.val (.ref r0), .val (.ref r1), .val (.ref r2), .val (.int p3), .val (.int (4 : Int32))] [(.int (4 : Int32)), (.ref r0)])
  refine own_go (fun _ k => own_ldI X0 hx hZ e0 Vt (i := 4) (v := (.int (Int32.ofNat q0))) (by decide) (by decide) hin hg (g := (mkF m 9 #[.val (.ref r0), .val (.ref r1), .val (.ref r2), .val (.int p3), .val (.int (4 : Int32))] [(.int (4 : Int32)), (.ref r0)])) rfl rfl (hb hby d4_9) _ k) ?_
  show own_Ends _ _ _ _ _ _ _ s₁ (mkF m 10 #[.val (.ref r0), .val (.ref r1), .val (.ref r2), .val (.int p3), .val (.int (4 : Int32))] [(.int (Int32.ofNat q0))])
  refine own_go (fun _ k => XS.aloadN X0.here hx rfl (hb hby d4_10) rfl rfl k) ?_
  show own_Ends _ _ _ _ _ _ _ s₁ (mkF m 11 #[.val (.ref r0), .val (.ref r1), .val (.ref r2), .val (.int p3), .val (.int (4 : Int32))] [(.ref r2), (.int (Int32.ofNat q0))])
  refine own_go (fun _ k => XS.iload X0.here hx rfl (hb hby d4_11) rfl k) ?_
  show own_Ends _ _ _ _ _ _ _ s₁ (mkF m 13 #[.val (.ref r0), .val (.ref r1), .val (.ref r2), .val (.int p3), .val (.int (4 : Int32))] [(.int (4 : Int32)), (.ref r2), (.int (Int32.ofNat q0))])
  obtain ⟨v32, T32, L32, X32, hQ32, st32⟩ := own_callS X0 hx hZ hown (hw _ (List.mem_of_getElem? (i := 25) rfl)) (hw _ (List.mem_of_getElem? (i := 26) rfl)) (hw _ (List.mem_of_getElem? (i := 3) rfl)) (hw _ (List.mem_of_getElem? (i := 27) rfl)) (rm6_4 l Z a0 hw r2 (4 : Int32) h0 kq b Vq rfl) e0 (g := (mkF m 13 #[.val (.ref r0), .val (.ref r1), .val (.ref r2), .val (.int p3), .val (.int (4 : Int32))] [(.int (4 : Int32)), (.ref r2), (.int (Int32.ofNat q0))])) rfl (by rw [hml]; rfl) (argsL := [(.ref r2), (.int (4 : Int32))]) (rest := [(.int (Int32.ofNat q0))]) (lenOf pd_2 rfl) rfl rfl (W := 1) (by show 2 * 0 + _ ≤ _; exact Nat.le_of_eq rfl) (hb hby d4_13) (by decide) (by decide) (by decide) (by decide) (by decide)
  obtain ⟨kb, rfl, hB32, rfl, e32⟩ := hQ32
  refine own_go st32 ?_
  show own_Ends _ _ _ _ _ _ _ T32 (mkF m 16 #[.val (.ref r0), .val (.ref r1), .val (.ref r2), .val (.int p3), .val (.int (4 : Int32))] [(.int (Int32.ofNat kb)), (.int (Int32.ofNat q0))])
  refine own_go (fun _ k => XS.icmpNo X32.here hx rfl (hb hby d4_16) rfl (teq (congrArg Int32.ofNat (hBq.uniq hB32))).2 k) ?_
  show own_Ends _ _ _ _ _ _ _ T32 (mkF m 19 #[.val (.ref r0), .val (.ref r1), .val (.ref r2), .val (.int p3), .val (.int (4 : Int32))] [])
  refine own_go (fun _ k => XS.aloadN X32.here hx rfl (hb hby d4_19) rfl rfl k) ?_
  show own_Ends _ _ _ _ _ _ _ T32 (mkF m 20 #[.val (.ref r0), .val (.ref r1), .val (.ref r2), .val (.int p3), .val (.int (4 : Int32))] [(.ref r1)])
  refine own_go (fun _ k => XS.iload X32.here hx rfl (hb hby d4_20) rfl k) ?_
  show own_Ends _ _ _ _ _ _ _ T32 (mkF m 22 #[.val (.ref r0), .val (.ref r1), .val (.ref r2), .val (.int p3), .val (.int (4 : Int32))] [(.int (4 : Int32)), (.ref r1)])
  refine own_go (fun _ k => own_ldB X32 hx hZ e32 Vp (i := 4) (v := (.int (b 4))) (by decide) (by decide) hin rfl (g := (mkF m 22 #[.val (.ref r0), .val (.ref r1), .val (.ref r2), .val (.int p3), .val (.int (4 : Int32))] [(.int (4 : Int32)), (.ref r1)])) rfl rfl (hb hby d4_22) _ k) ?_
  show own_Ends _ _ _ _ _ _ _ T32 (mkF m 23 #[.val (.ref r0), .val (.ref r1), .val (.ref r2), .val (.int p3), .val (.int (4 : Int32))] [(.int (b 4))])
  refine own_go (fun _ k => XS.aloadN X32.here hx rfl (hb hby d4_23) rfl rfl k) ?_
  show own_Ends _ _ _ _ _ _ _ T32 (mkF m 24 #[.val (.ref r0), .val (.ref r1), .val (.ref r2), .val (.int p3), .val (.int (4 : Int32))] [(.ref r2), (.int (b 4))])
  refine own_go (fun _ k => XS.iload X32.here hx rfl (hb hby d4_24) rfl k) ?_
  show own_Ends _ _ _ _ _ _ _ T32 (mkF m 26 #[.val (.ref r0), .val (.ref r1), .val (.ref r2), .val (.int p3), .val (.int (4 : Int32))] [(.int (4 : Int32)), (.ref r2), (.int (b 4))])
  refine own_go (fun _ k => own_ldB X32 hx hZ e32 Vq (i := 4) (v := (.int (b 4))) (by decide) (by decide) (by decide) rfl (g := (mkF m 26 #[.val (.ref r0), .val (.ref r1), .val (.ref r2), .val (.int p3), .val (.int (4 : Int32))] [(.int (4 : Int32)), (.ref r2), (.int (b 4))])) rfl rfl (hb hby d4_26) _ k) ?_
  show own_Ends _ _ _ _ _ _ _ T32 (mkF m 27 #[.val (.ref r0), .val (.ref r1), .val (.ref r2), .val (.int p3), .val (.int (4 : Int32))] [(.int (b 4)), (.int (b 4))])
  refine own_go (fun _ k => XS.icmpNo X32.here hx rfl (hb hby d4_27) rfl (teq (rfl)).2 k) ?_
  show own_Ends _ _ _ _ _ _ _ T32 (mkF m 30 #[.val (.ref r0), .val (.ref r1), .val (.ref r2), .val (.int p3), .val (.int (4 : Int32))] [])
  refine own_go (fun _ k => XS.iconst X32.here hx rfl (hb hby d4_30) k) ?_
  show own_Ends _ _ _ _ _ _ _ T32 (mkF m 31 #[.val (.ref r0), .val (.ref r1), .val (.ref r2), .val (.int p3), .val (.int (4 : Int32))] [(.int (1 : Int32))])
  refine own_go (fun _ k => XS.goto X32.here hx rfl (pc0 := 31) (pc' := 35) rfl (hb hby d4_31) (by decide) (by decide) k) ?_
  show own_Ends _ _ _ _ _ _ _ T32 (mkF m 35 #[.val (.ref r0), .val (.ref r1), .val (.ref r2), .val (.int p3), .val (.int (4 : Int32))] [(.int (1 : Int32))])
  exact own_retZ X32 hx hlk hret (by decide) (hb hby d4_35) (by decide) (by decide) ⟨rfl, rfl, e32⟩
set_option maxRecDepth 65536 in
set_option maxHeartbeats 40000000 in
theorem rm4_5 (l : Launch) (Z : State) (a0 : Array Value) (hw : ∀ d ∈ tables_1, d.before a0 Z = true) (r0 : Addr) (r1 : Addr) (r2 : Addr) (p3 : Int32) (p4 : Int32) (h0 : Heap) (n : Nat) (kt : ClassId) (kp : ClassId) (kq : ClassId) (g : Nat → Value) (b : Nat → Int32) (q0 : Nat) (Vt : own_Ar Z h0 r0 kt .int n g) (Vp : own_Ar Z h0 r1 kp .byte n (fun j => .int (b j))) (Vq : own_Ar Z h0 r2 kq .byte 7 (fun j => .int (b j))) (hin : 5 < n) (hc : (5 : Int32) < p3) (hg : g 5 = .int (Int32.ofNat q0)) (hBq : own_Bd b 5 q0) (hp : p4 = 5) :
    own_C l (⟨"com/example/prefixleap/prefixleap/core/PrefixTableOfPinLaw", "check", "([I[B[BII)Z"⟩ : MethodName) method_5_code 5 (some .boolean) ({ frames := 2, cells := 0, slots := 0, locals := 60 } : Room) Z #[(.ref r0), (.ref r1), (.ref r2), (.int p3), (.int p4)] h0 (fun v h L => v = some (.int 1) ∧ L = [] ∧ h = h0) := by
  refine own_enter pn_4 ?_
  intro p e s m below meth c s₁ X0 hx hby hml hown hnm hret hlk hZ e0 hZH hnamed
  replace hown : s.vm.findClass "com/example/prefixleap/prefixleap/core/PrefixTableOfPinLaw" = some m.cls := hown
  have ef : entryFrame m #[(.ref r0), (.ref r1), (.ref r2), (.int p3), (.int p4)] 5 = mkF m 0 #[.val (.ref r0), .val (.ref r1), .val (.ref r2), .val (.int p3), .val (.int p4)] [] := by first | rfl | (simp [entryFrame, mkF, argsToLocals, Value.category, maxLocals]; done)
  refine own_cast ef ?_
  show own_Ends _ _ _ _ _ _ _ s₁ (mkF m 0 #[.val (.ref r0), .val (.ref r1), .val (.ref r2), .val (.int p3), .val (.int p4)] [])
  subst hp
  show own_Ends _ _ _ _ _ _ _ s₁ (mkF m 0 #[.val (.ref r0), .val (.ref r1), .val (.ref r2), .val (.int p3), .val (.int (5 : Int32))] [])
  refine own_go (fun _ k => XS.iload X0.here hx rfl (hb hby d4_0) rfl k) ?_
  show own_Ends _ _ _ _ _ _ _ s₁ (mkF m 2 #[.val (.ref r0), .val (.ref r1), .val (.ref r2), .val (.int p3), .val (.int (5 : Int32))] [(.int (5 : Int32))])
  refine own_go (fun _ k => XS.iloadN X0.here hx rfl (hb hby d4_2) rfl k) ?_
  show own_Ends _ _ _ _ _ _ _ s₁ (mkF m 3 #[.val (.ref r0), .val (.ref r1), .val (.ref r2), .val (.int p3), .val (.int (5 : Int32))] [(.int p3), (.int (5 : Int32))])
  refine own_go (fun _ k => XS.icmpNo X0.here hx rfl (hb hby d4_3) rfl (tlt hc).2.1 k) ?_
  show own_Ends _ _ _ _ _ _ _ s₁ (mkF m 6 #[.val (.ref r0), .val (.ref r1), .val (.ref r2), .val (.int p3), .val (.int (5 : Int32))] [])
  refine own_go (fun _ k => XS.aloadN X0.here hx rfl (hb hby d4_6) rfl rfl k) ?_
  show own_Ends _ _ _ _ _ _ _ s₁ (mkF m 7 #[.val (.ref r0), .val (.ref r1), .val (.ref r2), .val (.int p3), .val (.int (5 : Int32))] [(.ref r0)])
  refine own_go (fun _ k => XS.iload X0.here hx rfl (hb hby d4_7) rfl k) ?_
  show own_Ends _ _ _ _ _ _ _ s₁ (mkF m 9 #[.val (.ref r0), .val (.ref r1), .val (.ref r2), .val (.int p3), .val (.int (5 : Int32))] [(.int (5 : Int32)), (.ref r0)])
  refine own_go (fun _ k => own_ldI X0 hx hZ e0 Vt (i := 5) (v := (.int (Int32.ofNat q0))) (by decide) (by decide) hin hg (g := (mkF m 9 #[.val (.ref r0), .val (.ref r1), .val (.ref r2), .val (.int p3), .val (.int (5 : Int32))] [(.int (5 : Int32)), (.ref r0)])) rfl rfl (hb hby d4_9) _ k) ?_
  show own_Ends _ _ _ _ _ _ _ s₁ (mkF m 10 #[.val (.ref r0), .val (.ref r1), .val (.ref r2), .val (.int p3), .val (.int (5 : Int32))] [(.int (Int32.ofNat q0))])
  refine own_go (fun _ k => XS.aloadN X0.here hx rfl (hb hby d4_10) rfl rfl k) ?_
  show own_Ends _ _ _ _ _ _ _ s₁ (mkF m 11 #[.val (.ref r0), .val (.ref r1), .val (.ref r2), .val (.int p3), .val (.int (5 : Int32))] [(.ref r2), (.int (Int32.ofNat q0))])
  refine own_go (fun _ k => XS.iload X0.here hx rfl (hb hby d4_11) rfl k) ?_
  show own_Ends _ _ _ _ _ _ _ s₁ (mkF m 13 #[.val (.ref r0), .val (.ref r1), .val (.ref r2), .val (.int p3), .val (.int (5 : Int32))] [(.int (5 : Int32)), (.ref r2), (.int (Int32.ofNat q0))])
  obtain ⟨v33, T33, L33, X33, hQ33, st33⟩ := own_callS X0 hx hZ hown (hw _ (List.mem_of_getElem? (i := 25) rfl)) (hw _ (List.mem_of_getElem? (i := 26) rfl)) (hw _ (List.mem_of_getElem? (i := 3) rfl)) (hw _ (List.mem_of_getElem? (i := 27) rfl)) (rm6_5 l Z a0 hw r2 (5 : Int32) h0 kq b Vq rfl) e0 (g := (mkF m 13 #[.val (.ref r0), .val (.ref r1), .val (.ref r2), .val (.int p3), .val (.int (5 : Int32))] [(.int (5 : Int32)), (.ref r2), (.int (Int32.ofNat q0))])) rfl (by rw [hml]; rfl) (argsL := [(.ref r2), (.int (5 : Int32))]) (rest := [(.int (Int32.ofNat q0))]) (lenOf pd_2 rfl) rfl rfl (W := 1) (by show 2 * 0 + _ ≤ _; exact Nat.le_of_eq rfl) (hb hby d4_13) (by decide) (by decide) (by decide) (by decide) (by decide)
  obtain ⟨kb, rfl, hB33, rfl, e33⟩ := hQ33
  refine own_go st33 ?_
  show own_Ends _ _ _ _ _ _ _ T33 (mkF m 16 #[.val (.ref r0), .val (.ref r1), .val (.ref r2), .val (.int p3), .val (.int (5 : Int32))] [(.int (Int32.ofNat kb)), (.int (Int32.ofNat q0))])
  refine own_go (fun _ k => XS.icmpNo X33.here hx rfl (hb hby d4_16) rfl (teq (congrArg Int32.ofNat (hBq.uniq hB33))).2 k) ?_
  show own_Ends _ _ _ _ _ _ _ T33 (mkF m 19 #[.val (.ref r0), .val (.ref r1), .val (.ref r2), .val (.int p3), .val (.int (5 : Int32))] [])
  refine own_go (fun _ k => XS.aloadN X33.here hx rfl (hb hby d4_19) rfl rfl k) ?_
  show own_Ends _ _ _ _ _ _ _ T33 (mkF m 20 #[.val (.ref r0), .val (.ref r1), .val (.ref r2), .val (.int p3), .val (.int (5 : Int32))] [(.ref r1)])
  refine own_go (fun _ k => XS.iload X33.here hx rfl (hb hby d4_20) rfl k) ?_
  show own_Ends _ _ _ _ _ _ _ T33 (mkF m 22 #[.val (.ref r0), .val (.ref r1), .val (.ref r2), .val (.int p3), .val (.int (5 : Int32))] [(.int (5 : Int32)), (.ref r1)])
  refine own_go (fun _ k => own_ldB X33 hx hZ e33 Vp (i := 5) (v := (.int (b 5))) (by decide) (by decide) hin rfl (g := (mkF m 22 #[.val (.ref r0), .val (.ref r1), .val (.ref r2), .val (.int p3), .val (.int (5 : Int32))] [(.int (5 : Int32)), (.ref r1)])) rfl rfl (hb hby d4_22) _ k) ?_
  show own_Ends _ _ _ _ _ _ _ T33 (mkF m 23 #[.val (.ref r0), .val (.ref r1), .val (.ref r2), .val (.int p3), .val (.int (5 : Int32))] [(.int (b 5))])
  refine own_go (fun _ k => XS.aloadN X33.here hx rfl (hb hby d4_23) rfl rfl k) ?_
  show own_Ends _ _ _ _ _ _ _ T33 (mkF m 24 #[.val (.ref r0), .val (.ref r1), .val (.ref r2), .val (.int p3), .val (.int (5 : Int32))] [(.ref r2), (.int (b 5))])
  refine own_go (fun _ k => XS.iload X33.here hx rfl (hb hby d4_24) rfl k) ?_
  show own_Ends _ _ _ _ _ _ _ T33 (mkF m 26 #[.val (.ref r0), .val (.ref r1), .val (.ref r2), .val (.int p3), .val (.int (5 : Int32))] [(.int (5 : Int32)), (.ref r2), (.int (b 5))])
  refine own_go (fun _ k => own_ldB X33 hx hZ e33 Vq (i := 5) (v := (.int (b 5))) (by decide) (by decide) (by decide) rfl (g := (mkF m 26 #[.val (.ref r0), .val (.ref r1), .val (.ref r2), .val (.int p3), .val (.int (5 : Int32))] [(.int (5 : Int32)), (.ref r2), (.int (b 5))])) rfl rfl (hb hby d4_26) _ k) ?_
  show own_Ends _ _ _ _ _ _ _ T33 (mkF m 27 #[.val (.ref r0), .val (.ref r1), .val (.ref r2), .val (.int p3), .val (.int (5 : Int32))] [(.int (b 5)), (.int (b 5))])
  refine own_go (fun _ k => XS.icmpNo X33.here hx rfl (hb hby d4_27) rfl (teq (rfl)).2 k) ?_
  show own_Ends _ _ _ _ _ _ _ T33 (mkF m 30 #[.val (.ref r0), .val (.ref r1), .val (.ref r2), .val (.int p3), .val (.int (5 : Int32))] [])
  refine own_go (fun _ k => XS.iconst X33.here hx rfl (hb hby d4_30) k) ?_
  show own_Ends _ _ _ _ _ _ _ T33 (mkF m 31 #[.val (.ref r0), .val (.ref r1), .val (.ref r2), .val (.int p3), .val (.int (5 : Int32))] [(.int (1 : Int32))])
  refine own_go (fun _ k => XS.goto X33.here hx rfl (pc0 := 31) (pc' := 35) rfl (hb hby d4_31) (by decide) (by decide) k) ?_
  show own_Ends _ _ _ _ _ _ _ T33 (mkF m 35 #[.val (.ref r0), .val (.ref r1), .val (.ref r2), .val (.int p3), .val (.int (5 : Int32))] [(.int (1 : Int32))])
  exact own_retZ X33 hx hlk hret (by decide) (hb hby d4_35) (by decide) (by decide) ⟨rfl, rfl, e33⟩
set_option maxRecDepth 65536 in
set_option maxHeartbeats 40000000 in
theorem rm4_6 (l : Launch) (Z : State) (a0 : Array Value) (hw : ∀ d ∈ tables_1, d.before a0 Z = true) (r0 : Addr) (r1 : Addr) (r2 : Addr) (p3 : Int32) (p4 : Int32) (h0 : Heap) (n : Nat) (kt : ClassId) (kp : ClassId) (kq : ClassId) (g : Nat → Value) (b : Nat → Int32) (q0 : Nat) (Vt : own_Ar Z h0 r0 kt .int n g) (Vp : own_Ar Z h0 r1 kp .byte n (fun j => .int (b j))) (Vq : own_Ar Z h0 r2 kq .byte 7 (fun j => .int (b j))) (hin : 6 < n) (hc : (6 : Int32) < p3) (hg : g 6 = .int (Int32.ofNat q0)) (hBq : own_Bd b 6 q0) (hp : p4 = 6) :
    own_C l (⟨"com/example/prefixleap/prefixleap/core/PrefixTableOfPinLaw", "check", "([I[B[BII)Z"⟩ : MethodName) method_5_code 5 (some .boolean) ({ frames := 2, cells := 0, slots := 0, locals := 60 } : Room) Z #[(.ref r0), (.ref r1), (.ref r2), (.int p3), (.int p4)] h0 (fun v h L => v = some (.int 1) ∧ L = [] ∧ h = h0) := by
  refine own_enter pn_4 ?_
  intro p e s m below meth c s₁ X0 hx hby hml hown hnm hret hlk hZ e0 hZH hnamed
  replace hown : s.vm.findClass "com/example/prefixleap/prefixleap/core/PrefixTableOfPinLaw" = some m.cls := hown
  have ef : entryFrame m #[(.ref r0), (.ref r1), (.ref r2), (.int p3), (.int p4)] 5 = mkF m 0 #[.val (.ref r0), .val (.ref r1), .val (.ref r2), .val (.int p3), .val (.int p4)] [] := by first | rfl | (simp [entryFrame, mkF, argsToLocals, Value.category, maxLocals]; done)
  refine own_cast ef ?_
  show own_Ends _ _ _ _ _ _ _ s₁ (mkF m 0 #[.val (.ref r0), .val (.ref r1), .val (.ref r2), .val (.int p3), .val (.int p4)] [])
  subst hp
  show own_Ends _ _ _ _ _ _ _ s₁ (mkF m 0 #[.val (.ref r0), .val (.ref r1), .val (.ref r2), .val (.int p3), .val (.int (6 : Int32))] [])
  refine own_go (fun _ k => XS.iload X0.here hx rfl (hb hby d4_0) rfl k) ?_
  show own_Ends _ _ _ _ _ _ _ s₁ (mkF m 2 #[.val (.ref r0), .val (.ref r1), .val (.ref r2), .val (.int p3), .val (.int (6 : Int32))] [(.int (6 : Int32))])
  refine own_go (fun _ k => XS.iloadN X0.here hx rfl (hb hby d4_2) rfl k) ?_
  show own_Ends _ _ _ _ _ _ _ s₁ (mkF m 3 #[.val (.ref r0), .val (.ref r1), .val (.ref r2), .val (.int p3), .val (.int (6 : Int32))] [(.int p3), (.int (6 : Int32))])
  refine own_go (fun _ k => XS.icmpNo X0.here hx rfl (hb hby d4_3) rfl (tlt hc).2.1 k) ?_
  show own_Ends _ _ _ _ _ _ _ s₁ (mkF m 6 #[.val (.ref r0), .val (.ref r1), .val (.ref r2), .val (.int p3), .val (.int (6 : Int32))] [])
  refine own_go (fun _ k => XS.aloadN X0.here hx rfl (hb hby d4_6) rfl rfl k) ?_
  show own_Ends _ _ _ _ _ _ _ s₁ (mkF m 7 #[.val (.ref r0), .val (.ref r1), .val (.ref r2), .val (.int p3), .val (.int (6 : Int32))] [(.ref r0)])
  refine own_go (fun _ k => XS.iload X0.here hx rfl (hb hby d4_7) rfl k) ?_
  show own_Ends _ _ _ _ _ _ _ s₁ (mkF m 9 #[.val (.ref r0), .val (.ref r1), .val (.ref r2), .val (.int p3), .val (.int (6 : Int32))] [(.int (6 : Int32)), (.ref r0)])
  refine own_go (fun _ k => own_ldI X0 hx hZ e0 Vt (i := 6) (v := (.int (Int32.ofNat q0))) (by decide) (by decide) hin hg (g := (mkF m 9 #[.val (.ref r0), .val (.ref r1), .val (.ref r2), .val (.int p3), .val (.int (6 : Int32))] [(.int (6 : Int32)), (.ref r0)])) rfl rfl (hb hby d4_9) _ k) ?_
  show own_Ends _ _ _ _ _ _ _ s₁ (mkF m 10 #[.val (.ref r0), .val (.ref r1), .val (.ref r2), .val (.int p3), .val (.int (6 : Int32))] [(.int (Int32.ofNat q0))])
  refine own_go (fun _ k => XS.aloadN X0.here hx rfl (hb hby d4_10) rfl rfl k) ?_
  show own_Ends _ _ _ _ _ _ _ s₁ (mkF m 11 #[.val (.ref r0), .val (.ref r1), .val (.ref r2), .val (.int p3), .val (.int (6 : Int32))] [(.ref r2), (.int (Int32.ofNat q0))])
  refine own_go (fun _ k => XS.iload X0.here hx rfl (hb hby d4_11) rfl k) ?_
  show own_Ends _ _ _ _ _ _ _ s₁ (mkF m 13 #[.val (.ref r0), .val (.ref r1), .val (.ref r2), .val (.int p3), .val (.int (6 : Int32))] [(.int (6 : Int32)), (.ref r2), (.int (Int32.ofNat q0))])
  obtain ⟨v34, T34, L34, X34, hQ34, st34⟩ := own_callS X0 hx hZ hown (hw _ (List.mem_of_getElem? (i := 25) rfl)) (hw _ (List.mem_of_getElem? (i := 26) rfl)) (hw _ (List.mem_of_getElem? (i := 3) rfl)) (hw _ (List.mem_of_getElem? (i := 27) rfl)) (rm6_6 l Z a0 hw r2 (6 : Int32) h0 kq b Vq rfl) e0 (g := (mkF m 13 #[.val (.ref r0), .val (.ref r1), .val (.ref r2), .val (.int p3), .val (.int (6 : Int32))] [(.int (6 : Int32)), (.ref r2), (.int (Int32.ofNat q0))])) rfl (by rw [hml]; rfl) (argsL := [(.ref r2), (.int (6 : Int32))]) (rest := [(.int (Int32.ofNat q0))]) (lenOf pd_2 rfl) rfl rfl (W := 1) (by show 2 * 0 + _ ≤ _; exact Nat.le_of_eq rfl) (hb hby d4_13) (by decide) (by decide) (by decide) (by decide) (by decide)
  obtain ⟨kb, rfl, hB34, rfl, e34⟩ := hQ34
  refine own_go st34 ?_
  show own_Ends _ _ _ _ _ _ _ T34 (mkF m 16 #[.val (.ref r0), .val (.ref r1), .val (.ref r2), .val (.int p3), .val (.int (6 : Int32))] [(.int (Int32.ofNat kb)), (.int (Int32.ofNat q0))])
  refine own_go (fun _ k => XS.icmpNo X34.here hx rfl (hb hby d4_16) rfl (teq (congrArg Int32.ofNat (hBq.uniq hB34))).2 k) ?_
  show own_Ends _ _ _ _ _ _ _ T34 (mkF m 19 #[.val (.ref r0), .val (.ref r1), .val (.ref r2), .val (.int p3), .val (.int (6 : Int32))] [])
  refine own_go (fun _ k => XS.aloadN X34.here hx rfl (hb hby d4_19) rfl rfl k) ?_
  show own_Ends _ _ _ _ _ _ _ T34 (mkF m 20 #[.val (.ref r0), .val (.ref r1), .val (.ref r2), .val (.int p3), .val (.int (6 : Int32))] [(.ref r1)])
  refine own_go (fun _ k => XS.iload X34.here hx rfl (hb hby d4_20) rfl k) ?_
  show own_Ends _ _ _ _ _ _ _ T34 (mkF m 22 #[.val (.ref r0), .val (.ref r1), .val (.ref r2), .val (.int p3), .val (.int (6 : Int32))] [(.int (6 : Int32)), (.ref r1)])
  refine own_go (fun _ k => own_ldB X34 hx hZ e34 Vp (i := 6) (v := (.int (b 6))) (by decide) (by decide) hin rfl (g := (mkF m 22 #[.val (.ref r0), .val (.ref r1), .val (.ref r2), .val (.int p3), .val (.int (6 : Int32))] [(.int (6 : Int32)), (.ref r1)])) rfl rfl (hb hby d4_22) _ k) ?_
  show own_Ends _ _ _ _ _ _ _ T34 (mkF m 23 #[.val (.ref r0), .val (.ref r1), .val (.ref r2), .val (.int p3), .val (.int (6 : Int32))] [(.int (b 6))])
  refine own_go (fun _ k => XS.aloadN X34.here hx rfl (hb hby d4_23) rfl rfl k) ?_
  show own_Ends _ _ _ _ _ _ _ T34 (mkF m 24 #[.val (.ref r0), .val (.ref r1), .val (.ref r2), .val (.int p3), .val (.int (6 : Int32))] [(.ref r2), (.int (b 6))])
  refine own_go (fun _ k => XS.iload X34.here hx rfl (hb hby d4_24) rfl k) ?_
  show own_Ends _ _ _ _ _ _ _ T34 (mkF m 26 #[.val (.ref r0), .val (.ref r1), .val (.ref r2), .val (.int p3), .val (.int (6 : Int32))] [(.int (6 : Int32)), (.ref r2), (.int (b 6))])
  refine own_go (fun _ k => own_ldB X34 hx hZ e34 Vq (i := 6) (v := (.int (b 6))) (by decide) (by decide) (by decide) rfl (g := (mkF m 26 #[.val (.ref r0), .val (.ref r1), .val (.ref r2), .val (.int p3), .val (.int (6 : Int32))] [(.int (6 : Int32)), (.ref r2), (.int (b 6))])) rfl rfl (hb hby d4_26) _ k) ?_
  show own_Ends _ _ _ _ _ _ _ T34 (mkF m 27 #[.val (.ref r0), .val (.ref r1), .val (.ref r2), .val (.int p3), .val (.int (6 : Int32))] [(.int (b 6)), (.int (b 6))])
  refine own_go (fun _ k => XS.icmpNo X34.here hx rfl (hb hby d4_27) rfl (teq (rfl)).2 k) ?_
  show own_Ends _ _ _ _ _ _ _ T34 (mkF m 30 #[.val (.ref r0), .val (.ref r1), .val (.ref r2), .val (.int p3), .val (.int (6 : Int32))] [])
  refine own_go (fun _ k => XS.iconst X34.here hx rfl (hb hby d4_30) k) ?_
  show own_Ends _ _ _ _ _ _ _ T34 (mkF m 31 #[.val (.ref r0), .val (.ref r1), .val (.ref r2), .val (.int p3), .val (.int (6 : Int32))] [(.int (1 : Int32))])
  refine own_go (fun _ k => XS.goto X34.here hx rfl (pc0 := 31) (pc' := 35) rfl (hb hby d4_31) (by decide) (by decide) k) ?_
  show own_Ends _ _ _ _ _ _ _ T34 (mkF m 35 #[.val (.ref r0), .val (.ref r1), .val (.ref r2), .val (.int p3), .val (.int (6 : Int32))] [(.int (1 : Int32))])
  exact own_retZ X34 hx hlk hret (by decide) (hb hby d4_35) (by decide) (by decide) ⟨rfl, rfl, e34⟩
theorem own_and7 (x : Int32) : x &&& (7 : Int32) = 0 ∨ x &&& (7 : Int32) = 1 ∨ x &&& (7 : Int32) = 2 ∨ x &&& (7 : Int32) = 3 ∨ x &&& (7 : Int32) = 4 ∨ x &&& (7 : Int32) = 5 ∨ x &&& (7 : Int32) = 6 ∨ x &&& (7 : Int32) = 7 := by
  have e := c_mask x 7 3 (by decide) (by decide)
  have d0 : (0 : Int32).toInt = 0 := by decide
  have d1 : (1 : Int32).toInt = 1 := by decide
  have d2 : (2 : Int32).toInt = 2 := by decide
  have d3 : (3 : Int32).toInt = 3 := by decide
  have d4 : (4 : Int32).toInt = 4 := by decide
  have d5 : (5 : Int32).toInt = 5 := by decide
  have d6 : (6 : Int32).toInt = 6 := by decide
  have d7 : (7 : Int32).toInt = 7 := by decide
  simp only [← Int32.toInt_inj, e, d0, d1, d2, d3, d4, d5, d6, d7]
  omega
theorem own_nn (x : Int32) : nar .byte (nar .byte x) = nar .byte x := by
  show x.toInt8.toInt32.toInt8.toInt32 = x.toInt8.toInt32
  simp
set_option maxRecDepth 65536 in
set_option maxHeartbeats 40000000 in
theorem rm0 (l : Launch) (Z : State) (a0 : Array Value) (hw : ∀ d ∈ tables_1, d.before a0 Z = true) (p0 : Int32) (p1 : Int32) (p2 : Int32) (p3 : Int32) (p4 : Int32) (h0 : Heap) :
    own_C l x code maxLocals ret room_1 Z #[(.int p0), (.int p1), (.int p2), (.int p3), (.int p4)] h0 (fun v h L => v = some (.int 1) ∧ Fr h0.size L) := by
  refine own_enter pn_0 ?_
  intro p e s m below meth c s₁ X0 hx hby hml hown hnm hret hlk hZ e0 hZH hnamed
  have hml : c.maxLocals = 9 := hml
  replace hown : s.vm.findClass "com/example/prefixleap/prefixleap/core/PrefixTableOfPinLaw" = some m.cls := hown
  have ef : entryFrame m #[(.int p0), (.int p1), (.int p2), (.int p3), (.int p4)] maxLocals = mkF m 0 #[.val (.int p0), .val (.int p1), .val (.int p2), .val (.int p3), .val (.int p4), .unset, .unset, .unset, .unset] [] := by first | rfl | (simp [entryFrame, mkF, argsToLocals, Value.category, maxLocals]; done)
  refine own_cast ef ?_
  show own_Ends _ _ _ _ _ _ _ s₁ (mkF m 0 #[.val (.int p0), .val (.int p1), .val (.int p2), .val (.int p3), .val (.int p4), .unset, .unset, .unset, .unset] [])
  have N0 := Fr.nil h0.size
  have K0 : Keep h0 h0 [] := Keep.refl _ _
  refine own_go (fun _ k => XS.iloadN X0.here hx rfl (hb hby at_0) rfl k) ?_
  show own_Ends _ _ _ _ _ _ _ s₁ (mkF m 1 #[.val (.int p0), .val (.int p1), .val (.int p2), .val (.int p3), .val (.int p4), .unset, .unset, .unset, .unset] [(.int p0)])
  refine own_go (fun _ k => XS.bipush X0.here hx rfl (hb hby at_1) k) ?_
  show own_Ends _ _ _ _ _ _ _ s₁ (mkF m 3 #[.val (.int p0), .val (.int p1), .val (.int p2), .val (.int p3), .val (.int p4), .unset, .unset, .unset, .unset] [(.int (7 : Int32)), (.int p0)])
  refine own_go (fun _ k => XS.iand X0.here hx rfl (hb hby at_3) rfl k) ?_
  show own_Ends _ _ _ _ _ _ _ s₁ (mkF m 4 #[.val (.int p0), .val (.int p1), .val (.int p2), .val (.int p3), .val (.int p4), .unset, .unset, .unset, .unset] [(.int (p0 &&& (7 : Int32)))])
  refine own_go (fun _ k => XS.istore X0.here hx rfl (hb hby at_4) rfl (l' := #[.val (.int p0), .val (.int p1), .val (.int p2), .val (.int p3), .val (.int p4), .val (.int (p0 &&& (7 : Int32))), .unset, .unset, .unset]) rfl k) ?_
  show own_Ends _ _ _ _ _ _ _ s₁ (mkF m 6 #[.val (.int p0), .val (.int p1), .val (.int p2), .val (.int p3), .val (.int p4), .val (.int (p0 &&& (7 : Int32))), .unset, .unset, .unset] [])
  refine own_go (fun _ k => XS.bipush X0.here hx rfl (hb hby at_6) k) ?_
  show own_Ends _ _ _ _ _ _ _ s₁ (mkF m 8 #[.val (.int p0), .val (.int p1), .val (.int p2), .val (.int p3), .val (.int p4), .val (.int (p0 &&& (7 : Int32))), .unset, .unset, .unset] [(.int (7 : Int32))])
  obtain ⟨T35, h35, k35, X35, e35, E35, A35, st35⟩ := own_newP X0 hx hZ (aty := .byte) (hw _ (List.mem_of_getElem? (i := 0) rfl)) e0 (g := (mkF m 8 #[.val (.int p0), .val (.int p1), .val (.int p2), .val (.int p3), .val (.int p4), .val (.int (p0 &&& (7 : Int32))), .unset, .unset, .unset] [(.int (7 : Int32))])) rfl (hb hby at_8) rfl (by decide) (n := 7) (by decide) (cap := 7) (by decide) (by decide) (by decide) (by decide)
  obtain ⟨bq, gq35⟩ : ∃ z, z = h0.size := ⟨_, rfl⟩
  rw [← gq35] at A35 st35
  have sz_bq : h0.size ≤ bq := Nat.le_trans K0.1 (Nat.le_of_eq gq35.symm)
  have g_bq : h0.size ≤ bq := Nat.le_trans (Nat.le_refl _) sz_bq
  have K_35 := K0.ext E35
  have V_bq : own_Ar Z h35 bq k35 .byte 7 (fun _ => (.int (0 : Int32))) := A35
  refine own_go st35 ?_
  show own_Ends _ _ _ _ _ _ _ T35 (mkF m 10 #[.val (.int p0), .val (.int p1), .val (.int p2), .val (.int p3), .val (.int p4), .val (.int (p0 &&& (7 : Int32))), .unset, .unset, .unset] [(.ref bq)])
  refine own_go (fun _ k => XS.astore X35.here hx rfl (hb hby at_10) rfl rfl (l' := #[.val (.int p0), .val (.int p1), .val (.int p2), .val (.int p3), .val (.int p4), .val (.int (p0 &&& (7 : Int32))), .val (.ref bq), .unset, .unset]) rfl k) ?_
  show own_Ends _ _ _ _ _ _ _ T35 (mkF m 12 #[.val (.int p0), .val (.int p1), .val (.int p2), .val (.int p3), .val (.int p4), .val (.int (p0 &&& (7 : Int32))), .val (.ref bq), .unset, .unset] [])
  refine own_go (fun _ k => XS.aload X35.here hx rfl (hb hby at_12) rfl rfl k) ?_
  show own_Ends _ _ _ _ _ _ _ T35 (mkF m 14 #[.val (.int p0), .val (.int p1), .val (.int p2), .val (.int p3), .val (.int p4), .val (.int (p0 &&& (7 : Int32))), .val (.ref bq), .unset, .unset] [(.ref bq)])
  refine own_go (fun _ k => XS.iconst X35.here hx rfl (hb hby at_14) k) ?_
  show own_Ends _ _ _ _ _ _ _ T35 (mkF m 15 #[.val (.int p0), .val (.int p1), .val (.int p2), .val (.int p3), .val (.int p4), .val (.int (p0 &&& (7 : Int32))), .val (.ref bq), .unset, .unset] [(.int (0 : Int32)), (.ref bq)])
  refine own_go (fun _ k => XS.iloadN X35.here hx rfl (hb hby at_15) rfl k) ?_
  show own_Ends _ _ _ _ _ _ _ T35 (mkF m 16 #[.val (.int p0), .val (.int p1), .val (.int p2), .val (.int p3), .val (.int p4), .val (.int (p0 &&& (7 : Int32))), .val (.ref bq), .unset, .unset] [(.int p0), (.int (0 : Int32)), (.ref bq)])
  refine own_go (fun _ k => XS.iconst X35.here hx rfl (hb hby at_16) k) ?_
  show own_Ends _ _ _ _ _ _ _ T35 (mkF m 17 #[.val (.int p0), .val (.int p1), .val (.int p2), .val (.int p3), .val (.int p4), .val (.int (p0 &&& (7 : Int32))), .val (.ref bq), .unset, .unset] [(.int (3 : Int32)), (.int p0), (.int (0 : Int32)), (.ref bq)])
  refine own_go (fun _ k => XS.iushr X35.here hx rfl (hb hby at_17) rfl k) ?_
  show own_Ends _ _ _ _ _ _ _ T35 (mkF m 18 #[.val (.int p0), .val (.int p1), .val (.int p2), .val (.int p3), .val (.int p4), .val (.int (p0 &&& (7 : Int32))), .val (.ref bq), .unset, .unset] [(.int ((p0.toUInt32 >>> ((3 : Int32) &&& 31).toUInt32).toInt32)), (.int (0 : Int32)), (.ref bq)])
  refine own_go (fun _ k => XS.iloadN X35.here hx rfl (hb hby at_18) rfl k) ?_
  show own_Ends _ _ _ _ _ _ _ T35 (mkF m 19 #[.val (.int p0), .val (.int p1), .val (.int p2), .val (.int p3), .val (.int p4), .val (.int (p0 &&& (7 : Int32))), .val (.ref bq), .unset, .unset] [(.int p1), (.int ((p0.toUInt32 >>> ((3 : Int32) &&& 31).toUInt32).toInt32)), (.int (0 : Int32)), (.ref bq)])
  refine own_go (fun _ k => XS.iloadN X35.here hx rfl (hb hby at_19) rfl k) ?_
  show own_Ends _ _ _ _ _ _ _ T35 (mkF m 20 #[.val (.int p0), .val (.int p1), .val (.int p2), .val (.int p3), .val (.int p4), .val (.int (p0 &&& (7 : Int32))), .val (.ref bq), .unset, .unset] [(.int p2), (.int p1), (.int ((p0.toUInt32 >>> ((3 : Int32) &&& 31).toUInt32).toInt32)), (.int (0 : Int32)), (.ref bq)])
  refine own_go (fun _ k => XS.iloadN X35.here hx rfl (hb hby at_20) rfl k) ?_
  show own_Ends _ _ _ _ _ _ _ T35 (mkF m 21 #[.val (.int p0), .val (.int p1), .val (.int p2), .val (.int p3), .val (.int p4), .val (.int (p0 &&& (7 : Int32))), .val (.ref bq), .unset, .unset] [(.int p3), (.int p2), (.int p1), (.int ((p0.toUInt32 >>> ((3 : Int32) &&& 31).toUInt32).toInt32)), (.int (0 : Int32)), (.ref bq)])
  refine own_go (fun _ k => XS.iload X35.here hx rfl (hb hby at_21) rfl k) ?_
  show own_Ends _ _ _ _ _ _ _ T35 (mkF m 23 #[.val (.int p0), .val (.int p1), .val (.int p2), .val (.int p3), .val (.int p4), .val (.int (p0 &&& (7 : Int32))), .val (.ref bq), .unset, .unset] [(.int p4), (.int p3), (.int p2), (.int p1), (.int ((p0.toUInt32 >>> ((3 : Int32) &&& 31).toUInt32).toInt32)), (.int (0 : Int32)), (.ref bq)])
  generalize hs0 : ((p0.toUInt32 >>> ((3 : Int32) &&& 31).toUInt32).toInt32) = s0
  show own_Ends _ _ _ _ _ _ _ T35 (mkF m 23 #[.val (.int p0), .val (.int p1), .val (.int p2), .val (.int p3), .val (.int p4), .val (.int (p0 &&& (7 : Int32))), .val (.ref bq), .unset, .unset] [(.int p4), (.int p3), (.int p2), (.int p1), (.int s0), (.int (0 : Int32)), (.ref bq)])
  obtain ⟨v36, T36, L36, X36, hQ36, st36⟩ := own_callS X35 hx hZ hown (hw _ (List.mem_of_getElem? (i := 1) rfl)) (hw _ (List.mem_of_getElem? (i := 2) rfl)) (hw _ (List.mem_of_getElem? (i := 3) rfl)) (hw _ (List.mem_of_getElem? (i := 4) rfl)) (rm1 l Z a0 hw s0 p1 p2 p3 p4 h35) e35 (g := (mkF m 23 #[.val (.int p0), .val (.int p1), .val (.int p2), .val (.int p3), .val (.int p4), .val (.int (p0 &&& (7 : Int32))), .val (.ref bq), .unset, .unset] [(.int p4), (.int p3), (.int p2), (.int p1), (.int s0), (.int (0 : Int32)), (.ref bq)])) rfl (by rw [hml]; rfl) (argsL := [(.int s0), (.int p1), (.int p2), (.int p3), (.int p4)]) (rest := [(.int (0 : Int32)), (.ref bq)]) (lenOf pd_3 rfl) rfl rfl (W := 2) (by show 2 * 0 + _ ≤ _; exact Nat.le_of_eq rfl) (hb hby at_23) (by decide) (by decide) (by decide) (by decide) (by decide)
  obtain ⟨rfl, rfl, e36⟩ := hQ36
  refine own_go st36 ?_
  have N36 := Fr.app N0 (Fr.nil _)
  show own_Ends _ _ _ _ _ _ _ T36 (mkF m 26 #[.val (.int p0), .val (.int p1), .val (.int p2), .val (.int p3), .val (.int p4), .val (.int (p0 &&& (7 : Int32))), .val (.ref bq), .unset, .unset] [(.int (own_ltr s0 p1 p2 p3 p4)), (.int (0 : Int32)), (.ref bq)])
  generalize hz0 : (own_ltr s0 p1 p2 p3 p4) = z0
  show own_Ends _ _ _ _ _ _ _ T36 (mkF m 26 #[.val (.int p0), .val (.int p1), .val (.int p2), .val (.int p3), .val (.int p4), .val (.int (p0 &&& (7 : Int32))), .val (.ref bq), .unset, .unset] [(.int z0), (.int (0 : Int32)), (.ref bq)])
  obtain ⟨T37, h37, X37, e37, W37, V37, st37⟩ := own_stB X36 hx hZ e36 V_bq (i := 0) (by decide) (by decide) (by decide) (g := (mkF m 26 #[.val (.int p0), .val (.int p1), .val (.int p2), .val (.int p3), .val (.int p4), .val (.int (p0 &&& (7 : Int32))), .val (.ref bq), .unset, .unset] [(.int z0), (.int (0 : Int32)), (.ref bq)])) rfl rfl (hb hby at_26)
  have N37 := Fr.snoc X37 N36 g_bq
  have K_37 := K_35.wr W37 (Or.inr sz_bq)
  refine own_go st37 ?_
  show own_Ends _ _ _ _ _ _ _ T37 (mkF m 27 #[.val (.int p0), .val (.int p1), .val (.int p2), .val (.int p3), .val (.int p4), .val (.int (p0 &&& (7 : Int32))), .val (.ref bq), .unset, .unset] [])
  refine own_go (fun _ k => XS.aload X37.here hx rfl (hb hby at_27) rfl rfl k) ?_
  show own_Ends _ _ _ _ _ _ _ T37 (mkF m 29 #[.val (.int p0), .val (.int p1), .val (.int p2), .val (.int p3), .val (.int p4), .val (.int (p0 &&& (7 : Int32))), .val (.ref bq), .unset, .unset] [(.ref bq)])
  refine own_go (fun _ k => XS.iconst X37.here hx rfl (hb hby at_29) k) ?_
  show own_Ends _ _ _ _ _ _ _ T37 (mkF m 30 #[.val (.int p0), .val (.int p1), .val (.int p2), .val (.int p3), .val (.int p4), .val (.int (p0 &&& (7 : Int32))), .val (.ref bq), .unset, .unset] [(.int (1 : Int32)), (.ref bq)])
  refine own_go (fun _ k => XS.iloadN X37.here hx rfl (hb hby at_30) rfl k) ?_
  show own_Ends _ _ _ _ _ _ _ T37 (mkF m 31 #[.val (.int p0), .val (.int p1), .val (.int p2), .val (.int p3), .val (.int p4), .val (.int (p0 &&& (7 : Int32))), .val (.ref bq), .unset, .unset] [(.int p0), (.int (1 : Int32)), (.ref bq)])
  refine own_go (fun _ k => XS.iconst X37.here hx rfl (hb hby at_31) k) ?_
  show own_Ends _ _ _ _ _ _ _ T37 (mkF m 32 #[.val (.int p0), .val (.int p1), .val (.int p2), .val (.int p3), .val (.int p4), .val (.int (p0 &&& (7 : Int32))), .val (.ref bq), .unset, .unset] [(.int (5 : Int32)), (.int p0), (.int (1 : Int32)), (.ref bq)])
  refine own_go (fun _ k => XS.iushr X37.here hx rfl (hb hby at_32) rfl k) ?_
  show own_Ends _ _ _ _ _ _ _ T37 (mkF m 33 #[.val (.int p0), .val (.int p1), .val (.int p2), .val (.int p3), .val (.int p4), .val (.int (p0 &&& (7 : Int32))), .val (.ref bq), .unset, .unset] [(.int ((p0.toUInt32 >>> ((5 : Int32) &&& 31).toUInt32).toInt32)), (.int (1 : Int32)), (.ref bq)])
  refine own_go (fun _ k => XS.iloadN X37.here hx rfl (hb hby at_33) rfl k) ?_
  show own_Ends _ _ _ _ _ _ _ T37 (mkF m 34 #[.val (.int p0), .val (.int p1), .val (.int p2), .val (.int p3), .val (.int p4), .val (.int (p0 &&& (7 : Int32))), .val (.ref bq), .unset, .unset] [(.int p1), (.int ((p0.toUInt32 >>> ((5 : Int32) &&& 31).toUInt32).toInt32)), (.int (1 : Int32)), (.ref bq)])
  refine own_go (fun _ k => XS.iloadN X37.here hx rfl (hb hby at_34) rfl k) ?_
  show own_Ends _ _ _ _ _ _ _ T37 (mkF m 35 #[.val (.int p0), .val (.int p1), .val (.int p2), .val (.int p3), .val (.int p4), .val (.int (p0 &&& (7 : Int32))), .val (.ref bq), .unset, .unset] [(.int p2), (.int p1), (.int ((p0.toUInt32 >>> ((5 : Int32) &&& 31).toUInt32).toInt32)), (.int (1 : Int32)), (.ref bq)])
  refine own_go (fun _ k => XS.iloadN X37.here hx rfl (hb hby at_35) rfl k) ?_
  show own_Ends _ _ _ _ _ _ _ T37 (mkF m 36 #[.val (.int p0), .val (.int p1), .val (.int p2), .val (.int p3), .val (.int p4), .val (.int (p0 &&& (7 : Int32))), .val (.ref bq), .unset, .unset] [(.int p3), (.int p2), (.int p1), (.int ((p0.toUInt32 >>> ((5 : Int32) &&& 31).toUInt32).toInt32)), (.int (1 : Int32)), (.ref bq)])
  refine own_go (fun _ k => XS.iload X37.here hx rfl (hb hby at_36) rfl k) ?_
  show own_Ends _ _ _ _ _ _ _ T37 (mkF m 38 #[.val (.int p0), .val (.int p1), .val (.int p2), .val (.int p3), .val (.int p4), .val (.int (p0 &&& (7 : Int32))), .val (.ref bq), .unset, .unset] [(.int p4), (.int p3), (.int p2), (.int p1), (.int ((p0.toUInt32 >>> ((5 : Int32) &&& 31).toUInt32).toInt32)), (.int (1 : Int32)), (.ref bq)])
  generalize hs1 : ((p0.toUInt32 >>> ((5 : Int32) &&& 31).toUInt32).toInt32) = s1
  show own_Ends _ _ _ _ _ _ _ T37 (mkF m 38 #[.val (.int p0), .val (.int p1), .val (.int p2), .val (.int p3), .val (.int p4), .val (.int (p0 &&& (7 : Int32))), .val (.ref bq), .unset, .unset] [(.int p4), (.int p3), (.int p2), (.int p1), (.int s1), (.int (1 : Int32)), (.ref bq)])
  obtain ⟨v38, T38, L38, X38, hQ38, st38⟩ := own_callS X37 hx hZ hown (hw _ (List.mem_of_getElem? (i := 1) rfl)) (hw _ (List.mem_of_getElem? (i := 2) rfl)) (hw _ (List.mem_of_getElem? (i := 3) rfl)) (hw _ (List.mem_of_getElem? (i := 4) rfl)) (rm1 l Z a0 hw s1 p1 p2 p3 p4 h37) e37 (g := (mkF m 38 #[.val (.int p0), .val (.int p1), .val (.int p2), .val (.int p3), .val (.int p4), .val (.int (p0 &&& (7 : Int32))), .val (.ref bq), .unset, .unset] [(.int p4), (.int p3), (.int p2), (.int p1), (.int s1), (.int (1 : Int32)), (.ref bq)])) rfl (by rw [hml]; rfl) (argsL := [(.int s1), (.int p1), (.int p2), (.int p3), (.int p4)]) (rest := [(.int (1 : Int32)), (.ref bq)]) (lenOf pd_3 rfl) rfl rfl (W := 2) (by show 2 * 0 + _ ≤ _; exact Nat.le_of_eq rfl) (hb hby at_38) (by decide) (by decide) (by decide) (by decide) (by decide)
  obtain ⟨rfl, rfl, e38⟩ := hQ38
  refine own_go st38 ?_
  have N38 := Fr.app N37 (Fr.nil _)
  show own_Ends _ _ _ _ _ _ _ T38 (mkF m 41 #[.val (.int p0), .val (.int p1), .val (.int p2), .val (.int p3), .val (.int p4), .val (.int (p0 &&& (7 : Int32))), .val (.ref bq), .unset, .unset] [(.int (own_ltr s1 p1 p2 p3 p4)), (.int (1 : Int32)), (.ref bq)])
  generalize hz1 : (own_ltr s1 p1 p2 p3 p4) = z1
  show own_Ends _ _ _ _ _ _ _ T38 (mkF m 41 #[.val (.int p0), .val (.int p1), .val (.int p2), .val (.int p3), .val (.int p4), .val (.int (p0 &&& (7 : Int32))), .val (.ref bq), .unset, .unset] [(.int z1), (.int (1 : Int32)), (.ref bq)])
  obtain ⟨T39, h39, X39, e39, W39, V39, st39⟩ := own_stB X38 hx hZ e38 V37 (i := 1) (by decide) (by decide) (by decide) (g := (mkF m 41 #[.val (.int p0), .val (.int p1), .val (.int p2), .val (.int p3), .val (.int p4), .val (.int (p0 &&& (7 : Int32))), .val (.ref bq), .unset, .unset] [(.int z1), (.int (1 : Int32)), (.ref bq)])) rfl rfl (hb hby at_41)
  have N39 := Fr.snoc X39 N38 g_bq
  have K_39 := K_37.wr W39 (Or.inr sz_bq)
  refine own_go st39 ?_
  show own_Ends _ _ _ _ _ _ _ T39 (mkF m 42 #[.val (.int p0), .val (.int p1), .val (.int p2), .val (.int p3), .val (.int p4), .val (.int (p0 &&& (7 : Int32))), .val (.ref bq), .unset, .unset] [])
  refine own_go (fun _ k => XS.aload X39.here hx rfl (hb hby at_42) rfl rfl k) ?_
  show own_Ends _ _ _ _ _ _ _ T39 (mkF m 44 #[.val (.int p0), .val (.int p1), .val (.int p2), .val (.int p3), .val (.int p4), .val (.int (p0 &&& (7 : Int32))), .val (.ref bq), .unset, .unset] [(.ref bq)])
  refine own_go (fun _ k => XS.iconst X39.here hx rfl (hb hby at_44) k) ?_
  show own_Ends _ _ _ _ _ _ _ T39 (mkF m 45 #[.val (.int p0), .val (.int p1), .val (.int p2), .val (.int p3), .val (.int p4), .val (.int (p0 &&& (7 : Int32))), .val (.ref bq), .unset, .unset] [(.int (2 : Int32)), (.ref bq)])
  refine own_go (fun _ k => XS.iloadN X39.here hx rfl (hb hby at_45) rfl k) ?_
  show own_Ends _ _ _ _ _ _ _ T39 (mkF m 46 #[.val (.int p0), .val (.int p1), .val (.int p2), .val (.int p3), .val (.int p4), .val (.int (p0 &&& (7 : Int32))), .val (.ref bq), .unset, .unset] [(.int p0), (.int (2 : Int32)), (.ref bq)])
  refine own_go (fun _ k => XS.bipush X39.here hx rfl (hb hby at_46) k) ?_
  show own_Ends _ _ _ _ _ _ _ T39 (mkF m 48 #[.val (.int p0), .val (.int p1), .val (.int p2), .val (.int p3), .val (.int p4), .val (.int (p0 &&& (7 : Int32))), .val (.ref bq), .unset, .unset] [(.int (7 : Int32)), (.int p0), (.int (2 : Int32)), (.ref bq)])
  refine own_go (fun _ k => XS.iushr X39.here hx rfl (hb hby at_48) rfl k) ?_
  show own_Ends _ _ _ _ _ _ _ T39 (mkF m 49 #[.val (.int p0), .val (.int p1), .val (.int p2), .val (.int p3), .val (.int p4), .val (.int (p0 &&& (7 : Int32))), .val (.ref bq), .unset, .unset] [(.int ((p0.toUInt32 >>> ((7 : Int32) &&& 31).toUInt32).toInt32)), (.int (2 : Int32)), (.ref bq)])
  refine own_go (fun _ k => XS.iloadN X39.here hx rfl (hb hby at_49) rfl k) ?_
  show own_Ends _ _ _ _ _ _ _ T39 (mkF m 50 #[.val (.int p0), .val (.int p1), .val (.int p2), .val (.int p3), .val (.int p4), .val (.int (p0 &&& (7 : Int32))), .val (.ref bq), .unset, .unset] [(.int p1), (.int ((p0.toUInt32 >>> ((7 : Int32) &&& 31).toUInt32).toInt32)), (.int (2 : Int32)), (.ref bq)])
  refine own_go (fun _ k => XS.iloadN X39.here hx rfl (hb hby at_50) rfl k) ?_
  show own_Ends _ _ _ _ _ _ _ T39 (mkF m 51 #[.val (.int p0), .val (.int p1), .val (.int p2), .val (.int p3), .val (.int p4), .val (.int (p0 &&& (7 : Int32))), .val (.ref bq), .unset, .unset] [(.int p2), (.int p1), (.int ((p0.toUInt32 >>> ((7 : Int32) &&& 31).toUInt32).toInt32)), (.int (2 : Int32)), (.ref bq)])
  refine own_go (fun _ k => XS.iloadN X39.here hx rfl (hb hby at_51) rfl k) ?_
  show own_Ends _ _ _ _ _ _ _ T39 (mkF m 52 #[.val (.int p0), .val (.int p1), .val (.int p2), .val (.int p3), .val (.int p4), .val (.int (p0 &&& (7 : Int32))), .val (.ref bq), .unset, .unset] [(.int p3), (.int p2), (.int p1), (.int ((p0.toUInt32 >>> ((7 : Int32) &&& 31).toUInt32).toInt32)), (.int (2 : Int32)), (.ref bq)])
  refine own_go (fun _ k => XS.iload X39.here hx rfl (hb hby at_52) rfl k) ?_
  show own_Ends _ _ _ _ _ _ _ T39 (mkF m 54 #[.val (.int p0), .val (.int p1), .val (.int p2), .val (.int p3), .val (.int p4), .val (.int (p0 &&& (7 : Int32))), .val (.ref bq), .unset, .unset] [(.int p4), (.int p3), (.int p2), (.int p1), (.int ((p0.toUInt32 >>> ((7 : Int32) &&& 31).toUInt32).toInt32)), (.int (2 : Int32)), (.ref bq)])
  generalize hs2 : ((p0.toUInt32 >>> ((7 : Int32) &&& 31).toUInt32).toInt32) = s2
  show own_Ends _ _ _ _ _ _ _ T39 (mkF m 54 #[.val (.int p0), .val (.int p1), .val (.int p2), .val (.int p3), .val (.int p4), .val (.int (p0 &&& (7 : Int32))), .val (.ref bq), .unset, .unset] [(.int p4), (.int p3), (.int p2), (.int p1), (.int s2), (.int (2 : Int32)), (.ref bq)])
  obtain ⟨v40, T40, L40, X40, hQ40, st40⟩ := own_callS X39 hx hZ hown (hw _ (List.mem_of_getElem? (i := 1) rfl)) (hw _ (List.mem_of_getElem? (i := 2) rfl)) (hw _ (List.mem_of_getElem? (i := 3) rfl)) (hw _ (List.mem_of_getElem? (i := 4) rfl)) (rm1 l Z a0 hw s2 p1 p2 p3 p4 h39) e39 (g := (mkF m 54 #[.val (.int p0), .val (.int p1), .val (.int p2), .val (.int p3), .val (.int p4), .val (.int (p0 &&& (7 : Int32))), .val (.ref bq), .unset, .unset] [(.int p4), (.int p3), (.int p2), (.int p1), (.int s2), (.int (2 : Int32)), (.ref bq)])) rfl (by rw [hml]; rfl) (argsL := [(.int s2), (.int p1), (.int p2), (.int p3), (.int p4)]) (rest := [(.int (2 : Int32)), (.ref bq)]) (lenOf pd_3 rfl) rfl rfl (W := 2) (by show 2 * 0 + _ ≤ _; exact Nat.le_of_eq rfl) (hb hby at_54) (by decide) (by decide) (by decide) (by decide) (by decide)
  obtain ⟨rfl, rfl, e40⟩ := hQ40
  refine own_go st40 ?_
  have N40 := Fr.app N39 (Fr.nil _)
  show own_Ends _ _ _ _ _ _ _ T40 (mkF m 57 #[.val (.int p0), .val (.int p1), .val (.int p2), .val (.int p3), .val (.int p4), .val (.int (p0 &&& (7 : Int32))), .val (.ref bq), .unset, .unset] [(.int (own_ltr s2 p1 p2 p3 p4)), (.int (2 : Int32)), (.ref bq)])
  generalize hz2 : (own_ltr s2 p1 p2 p3 p4) = z2
  show own_Ends _ _ _ _ _ _ _ T40 (mkF m 57 #[.val (.int p0), .val (.int p1), .val (.int p2), .val (.int p3), .val (.int p4), .val (.int (p0 &&& (7 : Int32))), .val (.ref bq), .unset, .unset] [(.int z2), (.int (2 : Int32)), (.ref bq)])
  obtain ⟨T41, h41, X41, e41, W41, V41, st41⟩ := own_stB X40 hx hZ e40 V39 (i := 2) (by decide) (by decide) (by decide) (g := (mkF m 57 #[.val (.int p0), .val (.int p1), .val (.int p2), .val (.int p3), .val (.int p4), .val (.int (p0 &&& (7 : Int32))), .val (.ref bq), .unset, .unset] [(.int z2), (.int (2 : Int32)), (.ref bq)])) rfl rfl (hb hby at_57)
  have N41 := Fr.snoc X41 N40 g_bq
  have K_41 := K_39.wr W41 (Or.inr sz_bq)
  refine own_go st41 ?_
  show own_Ends _ _ _ _ _ _ _ T41 (mkF m 58 #[.val (.int p0), .val (.int p1), .val (.int p2), .val (.int p3), .val (.int p4), .val (.int (p0 &&& (7 : Int32))), .val (.ref bq), .unset, .unset] [])
  refine own_go (fun _ k => XS.aload X41.here hx rfl (hb hby at_58) rfl rfl k) ?_
  show own_Ends _ _ _ _ _ _ _ T41 (mkF m 60 #[.val (.int p0), .val (.int p1), .val (.int p2), .val (.int p3), .val (.int p4), .val (.int (p0 &&& (7 : Int32))), .val (.ref bq), .unset, .unset] [(.ref bq)])
  refine own_go (fun _ k => XS.iconst X41.here hx rfl (hb hby at_60) k) ?_
  show own_Ends _ _ _ _ _ _ _ T41 (mkF m 61 #[.val (.int p0), .val (.int p1), .val (.int p2), .val (.int p3), .val (.int p4), .val (.int (p0 &&& (7 : Int32))), .val (.ref bq), .unset, .unset] [(.int (3 : Int32)), (.ref bq)])
  refine own_go (fun _ k => XS.iloadN X41.here hx rfl (hb hby at_61) rfl k) ?_
  show own_Ends _ _ _ _ _ _ _ T41 (mkF m 62 #[.val (.int p0), .val (.int p1), .val (.int p2), .val (.int p3), .val (.int p4), .val (.int (p0 &&& (7 : Int32))), .val (.ref bq), .unset, .unset] [(.int p0), (.int (3 : Int32)), (.ref bq)])
  refine own_go (fun _ k => XS.bipush X41.here hx rfl (hb hby at_62) k) ?_
  show own_Ends _ _ _ _ _ _ _ T41 (mkF m 64 #[.val (.int p0), .val (.int p1), .val (.int p2), .val (.int p3), .val (.int p4), .val (.int (p0 &&& (7 : Int32))), .val (.ref bq), .unset, .unset] [(.int (9 : Int32)), (.int p0), (.int (3 : Int32)), (.ref bq)])
  refine own_go (fun _ k => XS.iushr X41.here hx rfl (hb hby at_64) rfl k) ?_
  show own_Ends _ _ _ _ _ _ _ T41 (mkF m 65 #[.val (.int p0), .val (.int p1), .val (.int p2), .val (.int p3), .val (.int p4), .val (.int (p0 &&& (7 : Int32))), .val (.ref bq), .unset, .unset] [(.int ((p0.toUInt32 >>> ((9 : Int32) &&& 31).toUInt32).toInt32)), (.int (3 : Int32)), (.ref bq)])
  refine own_go (fun _ k => XS.iloadN X41.here hx rfl (hb hby at_65) rfl k) ?_
  show own_Ends _ _ _ _ _ _ _ T41 (mkF m 66 #[.val (.int p0), .val (.int p1), .val (.int p2), .val (.int p3), .val (.int p4), .val (.int (p0 &&& (7 : Int32))), .val (.ref bq), .unset, .unset] [(.int p1), (.int ((p0.toUInt32 >>> ((9 : Int32) &&& 31).toUInt32).toInt32)), (.int (3 : Int32)), (.ref bq)])
  refine own_go (fun _ k => XS.iloadN X41.here hx rfl (hb hby at_66) rfl k) ?_
  show own_Ends _ _ _ _ _ _ _ T41 (mkF m 67 #[.val (.int p0), .val (.int p1), .val (.int p2), .val (.int p3), .val (.int p4), .val (.int (p0 &&& (7 : Int32))), .val (.ref bq), .unset, .unset] [(.int p2), (.int p1), (.int ((p0.toUInt32 >>> ((9 : Int32) &&& 31).toUInt32).toInt32)), (.int (3 : Int32)), (.ref bq)])
  refine own_go (fun _ k => XS.iloadN X41.here hx rfl (hb hby at_67) rfl k) ?_
  show own_Ends _ _ _ _ _ _ _ T41 (mkF m 68 #[.val (.int p0), .val (.int p1), .val (.int p2), .val (.int p3), .val (.int p4), .val (.int (p0 &&& (7 : Int32))), .val (.ref bq), .unset, .unset] [(.int p3), (.int p2), (.int p1), (.int ((p0.toUInt32 >>> ((9 : Int32) &&& 31).toUInt32).toInt32)), (.int (3 : Int32)), (.ref bq)])
  refine own_go (fun _ k => XS.iload X41.here hx rfl (hb hby at_68) rfl k) ?_
  show own_Ends _ _ _ _ _ _ _ T41 (mkF m 70 #[.val (.int p0), .val (.int p1), .val (.int p2), .val (.int p3), .val (.int p4), .val (.int (p0 &&& (7 : Int32))), .val (.ref bq), .unset, .unset] [(.int p4), (.int p3), (.int p2), (.int p1), (.int ((p0.toUInt32 >>> ((9 : Int32) &&& 31).toUInt32).toInt32)), (.int (3 : Int32)), (.ref bq)])
  generalize hs3 : ((p0.toUInt32 >>> ((9 : Int32) &&& 31).toUInt32).toInt32) = s3
  show own_Ends _ _ _ _ _ _ _ T41 (mkF m 70 #[.val (.int p0), .val (.int p1), .val (.int p2), .val (.int p3), .val (.int p4), .val (.int (p0 &&& (7 : Int32))), .val (.ref bq), .unset, .unset] [(.int p4), (.int p3), (.int p2), (.int p1), (.int s3), (.int (3 : Int32)), (.ref bq)])
  obtain ⟨v42, T42, L42, X42, hQ42, st42⟩ := own_callS X41 hx hZ hown (hw _ (List.mem_of_getElem? (i := 1) rfl)) (hw _ (List.mem_of_getElem? (i := 2) rfl)) (hw _ (List.mem_of_getElem? (i := 3) rfl)) (hw _ (List.mem_of_getElem? (i := 4) rfl)) (rm1 l Z a0 hw s3 p1 p2 p3 p4 h41) e41 (g := (mkF m 70 #[.val (.int p0), .val (.int p1), .val (.int p2), .val (.int p3), .val (.int p4), .val (.int (p0 &&& (7 : Int32))), .val (.ref bq), .unset, .unset] [(.int p4), (.int p3), (.int p2), (.int p1), (.int s3), (.int (3 : Int32)), (.ref bq)])) rfl (by rw [hml]; rfl) (argsL := [(.int s3), (.int p1), (.int p2), (.int p3), (.int p4)]) (rest := [(.int (3 : Int32)), (.ref bq)]) (lenOf pd_3 rfl) rfl rfl (W := 2) (by show 2 * 0 + _ ≤ _; exact Nat.le_of_eq rfl) (hb hby at_70) (by decide) (by decide) (by decide) (by decide) (by decide)
  obtain ⟨rfl, rfl, e42⟩ := hQ42
  refine own_go st42 ?_
  have N42 := Fr.app N41 (Fr.nil _)
  show own_Ends _ _ _ _ _ _ _ T42 (mkF m 73 #[.val (.int p0), .val (.int p1), .val (.int p2), .val (.int p3), .val (.int p4), .val (.int (p0 &&& (7 : Int32))), .val (.ref bq), .unset, .unset] [(.int (own_ltr s3 p1 p2 p3 p4)), (.int (3 : Int32)), (.ref bq)])
  generalize hz3 : (own_ltr s3 p1 p2 p3 p4) = z3
  show own_Ends _ _ _ _ _ _ _ T42 (mkF m 73 #[.val (.int p0), .val (.int p1), .val (.int p2), .val (.int p3), .val (.int p4), .val (.int (p0 &&& (7 : Int32))), .val (.ref bq), .unset, .unset] [(.int z3), (.int (3 : Int32)), (.ref bq)])
  obtain ⟨T43, h43, X43, e43, W43, V43, st43⟩ := own_stB X42 hx hZ e42 V41 (i := 3) (by decide) (by decide) (by decide) (g := (mkF m 73 #[.val (.int p0), .val (.int p1), .val (.int p2), .val (.int p3), .val (.int p4), .val (.int (p0 &&& (7 : Int32))), .val (.ref bq), .unset, .unset] [(.int z3), (.int (3 : Int32)), (.ref bq)])) rfl rfl (hb hby at_73)
  have N43 := Fr.snoc X43 N42 g_bq
  have K_43 := K_41.wr W43 (Or.inr sz_bq)
  refine own_go st43 ?_
  show own_Ends _ _ _ _ _ _ _ T43 (mkF m 74 #[.val (.int p0), .val (.int p1), .val (.int p2), .val (.int p3), .val (.int p4), .val (.int (p0 &&& (7 : Int32))), .val (.ref bq), .unset, .unset] [])
  refine own_go (fun _ k => XS.aload X43.here hx rfl (hb hby at_74) rfl rfl k) ?_
  show own_Ends _ _ _ _ _ _ _ T43 (mkF m 76 #[.val (.int p0), .val (.int p1), .val (.int p2), .val (.int p3), .val (.int p4), .val (.int (p0 &&& (7 : Int32))), .val (.ref bq), .unset, .unset] [(.ref bq)])
  refine own_go (fun _ k => XS.iconst X43.here hx rfl (hb hby at_76) k) ?_
  show own_Ends _ _ _ _ _ _ _ T43 (mkF m 77 #[.val (.int p0), .val (.int p1), .val (.int p2), .val (.int p3), .val (.int p4), .val (.int (p0 &&& (7 : Int32))), .val (.ref bq), .unset, .unset] [(.int (4 : Int32)), (.ref bq)])
  refine own_go (fun _ k => XS.iloadN X43.here hx rfl (hb hby at_77) rfl k) ?_
  show own_Ends _ _ _ _ _ _ _ T43 (mkF m 78 #[.val (.int p0), .val (.int p1), .val (.int p2), .val (.int p3), .val (.int p4), .val (.int (p0 &&& (7 : Int32))), .val (.ref bq), .unset, .unset] [(.int p0), (.int (4 : Int32)), (.ref bq)])
  refine own_go (fun _ k => XS.bipush X43.here hx rfl (hb hby at_78) k) ?_
  show own_Ends _ _ _ _ _ _ _ T43 (mkF m 80 #[.val (.int p0), .val (.int p1), .val (.int p2), .val (.int p3), .val (.int p4), .val (.int (p0 &&& (7 : Int32))), .val (.ref bq), .unset, .unset] [(.int (11 : Int32)), (.int p0), (.int (4 : Int32)), (.ref bq)])
  refine own_go (fun _ k => XS.iushr X43.here hx rfl (hb hby at_80) rfl k) ?_
  show own_Ends _ _ _ _ _ _ _ T43 (mkF m 81 #[.val (.int p0), .val (.int p1), .val (.int p2), .val (.int p3), .val (.int p4), .val (.int (p0 &&& (7 : Int32))), .val (.ref bq), .unset, .unset] [(.int ((p0.toUInt32 >>> ((11 : Int32) &&& 31).toUInt32).toInt32)), (.int (4 : Int32)), (.ref bq)])
  refine own_go (fun _ k => XS.iloadN X43.here hx rfl (hb hby at_81) rfl k) ?_
  show own_Ends _ _ _ _ _ _ _ T43 (mkF m 82 #[.val (.int p0), .val (.int p1), .val (.int p2), .val (.int p3), .val (.int p4), .val (.int (p0 &&& (7 : Int32))), .val (.ref bq), .unset, .unset] [(.int p1), (.int ((p0.toUInt32 >>> ((11 : Int32) &&& 31).toUInt32).toInt32)), (.int (4 : Int32)), (.ref bq)])
  refine own_go (fun _ k => XS.iloadN X43.here hx rfl (hb hby at_82) rfl k) ?_
  show own_Ends _ _ _ _ _ _ _ T43 (mkF m 83 #[.val (.int p0), .val (.int p1), .val (.int p2), .val (.int p3), .val (.int p4), .val (.int (p0 &&& (7 : Int32))), .val (.ref bq), .unset, .unset] [(.int p2), (.int p1), (.int ((p0.toUInt32 >>> ((11 : Int32) &&& 31).toUInt32).toInt32)), (.int (4 : Int32)), (.ref bq)])
  refine own_go (fun _ k => XS.iloadN X43.here hx rfl (hb hby at_83) rfl k) ?_
  show own_Ends _ _ _ _ _ _ _ T43 (mkF m 84 #[.val (.int p0), .val (.int p1), .val (.int p2), .val (.int p3), .val (.int p4), .val (.int (p0 &&& (7 : Int32))), .val (.ref bq), .unset, .unset] [(.int p3), (.int p2), (.int p1), (.int ((p0.toUInt32 >>> ((11 : Int32) &&& 31).toUInt32).toInt32)), (.int (4 : Int32)), (.ref bq)])
  refine own_go (fun _ k => XS.iload X43.here hx rfl (hb hby at_84) rfl k) ?_
  show own_Ends _ _ _ _ _ _ _ T43 (mkF m 86 #[.val (.int p0), .val (.int p1), .val (.int p2), .val (.int p3), .val (.int p4), .val (.int (p0 &&& (7 : Int32))), .val (.ref bq), .unset, .unset] [(.int p4), (.int p3), (.int p2), (.int p1), (.int ((p0.toUInt32 >>> ((11 : Int32) &&& 31).toUInt32).toInt32)), (.int (4 : Int32)), (.ref bq)])
  generalize hs4 : ((p0.toUInt32 >>> ((11 : Int32) &&& 31).toUInt32).toInt32) = s4
  show own_Ends _ _ _ _ _ _ _ T43 (mkF m 86 #[.val (.int p0), .val (.int p1), .val (.int p2), .val (.int p3), .val (.int p4), .val (.int (p0 &&& (7 : Int32))), .val (.ref bq), .unset, .unset] [(.int p4), (.int p3), (.int p2), (.int p1), (.int s4), (.int (4 : Int32)), (.ref bq)])
  obtain ⟨v44, T44, L44, X44, hQ44, st44⟩ := own_callS X43 hx hZ hown (hw _ (List.mem_of_getElem? (i := 1) rfl)) (hw _ (List.mem_of_getElem? (i := 2) rfl)) (hw _ (List.mem_of_getElem? (i := 3) rfl)) (hw _ (List.mem_of_getElem? (i := 4) rfl)) (rm1 l Z a0 hw s4 p1 p2 p3 p4 h43) e43 (g := (mkF m 86 #[.val (.int p0), .val (.int p1), .val (.int p2), .val (.int p3), .val (.int p4), .val (.int (p0 &&& (7 : Int32))), .val (.ref bq), .unset, .unset] [(.int p4), (.int p3), (.int p2), (.int p1), (.int s4), (.int (4 : Int32)), (.ref bq)])) rfl (by rw [hml]; rfl) (argsL := [(.int s4), (.int p1), (.int p2), (.int p3), (.int p4)]) (rest := [(.int (4 : Int32)), (.ref bq)]) (lenOf pd_3 rfl) rfl rfl (W := 2) (by show 2 * 0 + _ ≤ _; exact Nat.le_of_eq rfl) (hb hby at_86) (by decide) (by decide) (by decide) (by decide) (by decide)
  obtain ⟨rfl, rfl, e44⟩ := hQ44
  refine own_go st44 ?_
  have N44 := Fr.app N43 (Fr.nil _)
  show own_Ends _ _ _ _ _ _ _ T44 (mkF m 89 #[.val (.int p0), .val (.int p1), .val (.int p2), .val (.int p3), .val (.int p4), .val (.int (p0 &&& (7 : Int32))), .val (.ref bq), .unset, .unset] [(.int (own_ltr s4 p1 p2 p3 p4)), (.int (4 : Int32)), (.ref bq)])
  generalize hz4 : (own_ltr s4 p1 p2 p3 p4) = z4
  show own_Ends _ _ _ _ _ _ _ T44 (mkF m 89 #[.val (.int p0), .val (.int p1), .val (.int p2), .val (.int p3), .val (.int p4), .val (.int (p0 &&& (7 : Int32))), .val (.ref bq), .unset, .unset] [(.int z4), (.int (4 : Int32)), (.ref bq)])
  obtain ⟨T45, h45, X45, e45, W45, V45, st45⟩ := own_stB X44 hx hZ e44 V43 (i := 4) (by decide) (by decide) (by decide) (g := (mkF m 89 #[.val (.int p0), .val (.int p1), .val (.int p2), .val (.int p3), .val (.int p4), .val (.int (p0 &&& (7 : Int32))), .val (.ref bq), .unset, .unset] [(.int z4), (.int (4 : Int32)), (.ref bq)])) rfl rfl (hb hby at_89)
  have N45 := Fr.snoc X45 N44 g_bq
  have K_45 := K_43.wr W45 (Or.inr sz_bq)
  refine own_go st45 ?_
  show own_Ends _ _ _ _ _ _ _ T45 (mkF m 90 #[.val (.int p0), .val (.int p1), .val (.int p2), .val (.int p3), .val (.int p4), .val (.int (p0 &&& (7 : Int32))), .val (.ref bq), .unset, .unset] [])
  refine own_go (fun _ k => XS.aload X45.here hx rfl (hb hby at_90) rfl rfl k) ?_
  show own_Ends _ _ _ _ _ _ _ T45 (mkF m 92 #[.val (.int p0), .val (.int p1), .val (.int p2), .val (.int p3), .val (.int p4), .val (.int (p0 &&& (7 : Int32))), .val (.ref bq), .unset, .unset] [(.ref bq)])
  refine own_go (fun _ k => XS.iconst X45.here hx rfl (hb hby at_92) k) ?_
  show own_Ends _ _ _ _ _ _ _ T45 (mkF m 93 #[.val (.int p0), .val (.int p1), .val (.int p2), .val (.int p3), .val (.int p4), .val (.int (p0 &&& (7 : Int32))), .val (.ref bq), .unset, .unset] [(.int (5 : Int32)), (.ref bq)])
  refine own_go (fun _ k => XS.iloadN X45.here hx rfl (hb hby at_93) rfl k) ?_
  show own_Ends _ _ _ _ _ _ _ T45 (mkF m 94 #[.val (.int p0), .val (.int p1), .val (.int p2), .val (.int p3), .val (.int p4), .val (.int (p0 &&& (7 : Int32))), .val (.ref bq), .unset, .unset] [(.int p0), (.int (5 : Int32)), (.ref bq)])
  refine own_go (fun _ k => XS.bipush X45.here hx rfl (hb hby at_94) k) ?_
  show own_Ends _ _ _ _ _ _ _ T45 (mkF m 96 #[.val (.int p0), .val (.int p1), .val (.int p2), .val (.int p3), .val (.int p4), .val (.int (p0 &&& (7 : Int32))), .val (.ref bq), .unset, .unset] [(.int (13 : Int32)), (.int p0), (.int (5 : Int32)), (.ref bq)])
  refine own_go (fun _ k => XS.iushr X45.here hx rfl (hb hby at_96) rfl k) ?_
  show own_Ends _ _ _ _ _ _ _ T45 (mkF m 97 #[.val (.int p0), .val (.int p1), .val (.int p2), .val (.int p3), .val (.int p4), .val (.int (p0 &&& (7 : Int32))), .val (.ref bq), .unset, .unset] [(.int ((p0.toUInt32 >>> ((13 : Int32) &&& 31).toUInt32).toInt32)), (.int (5 : Int32)), (.ref bq)])
  refine own_go (fun _ k => XS.iloadN X45.here hx rfl (hb hby at_97) rfl k) ?_
  show own_Ends _ _ _ _ _ _ _ T45 (mkF m 98 #[.val (.int p0), .val (.int p1), .val (.int p2), .val (.int p3), .val (.int p4), .val (.int (p0 &&& (7 : Int32))), .val (.ref bq), .unset, .unset] [(.int p1), (.int ((p0.toUInt32 >>> ((13 : Int32) &&& 31).toUInt32).toInt32)), (.int (5 : Int32)), (.ref bq)])
  refine own_go (fun _ k => XS.iloadN X45.here hx rfl (hb hby at_98) rfl k) ?_
  show own_Ends _ _ _ _ _ _ _ T45 (mkF m 99 #[.val (.int p0), .val (.int p1), .val (.int p2), .val (.int p3), .val (.int p4), .val (.int (p0 &&& (7 : Int32))), .val (.ref bq), .unset, .unset] [(.int p2), (.int p1), (.int ((p0.toUInt32 >>> ((13 : Int32) &&& 31).toUInt32).toInt32)), (.int (5 : Int32)), (.ref bq)])
  refine own_go (fun _ k => XS.iloadN X45.here hx rfl (hb hby at_99) rfl k) ?_
  show own_Ends _ _ _ _ _ _ _ T45 (mkF m 100 #[.val (.int p0), .val (.int p1), .val (.int p2), .val (.int p3), .val (.int p4), .val (.int (p0 &&& (7 : Int32))), .val (.ref bq), .unset, .unset] [(.int p3), (.int p2), (.int p1), (.int ((p0.toUInt32 >>> ((13 : Int32) &&& 31).toUInt32).toInt32)), (.int (5 : Int32)), (.ref bq)])
  refine own_go (fun _ k => XS.iload X45.here hx rfl (hb hby at_100) rfl k) ?_
  show own_Ends _ _ _ _ _ _ _ T45 (mkF m 102 #[.val (.int p0), .val (.int p1), .val (.int p2), .val (.int p3), .val (.int p4), .val (.int (p0 &&& (7 : Int32))), .val (.ref bq), .unset, .unset] [(.int p4), (.int p3), (.int p2), (.int p1), (.int ((p0.toUInt32 >>> ((13 : Int32) &&& 31).toUInt32).toInt32)), (.int (5 : Int32)), (.ref bq)])
  generalize hs5 : ((p0.toUInt32 >>> ((13 : Int32) &&& 31).toUInt32).toInt32) = s5
  show own_Ends _ _ _ _ _ _ _ T45 (mkF m 102 #[.val (.int p0), .val (.int p1), .val (.int p2), .val (.int p3), .val (.int p4), .val (.int (p0 &&& (7 : Int32))), .val (.ref bq), .unset, .unset] [(.int p4), (.int p3), (.int p2), (.int p1), (.int s5), (.int (5 : Int32)), (.ref bq)])
  obtain ⟨v46, T46, L46, X46, hQ46, st46⟩ := own_callS X45 hx hZ hown (hw _ (List.mem_of_getElem? (i := 1) rfl)) (hw _ (List.mem_of_getElem? (i := 2) rfl)) (hw _ (List.mem_of_getElem? (i := 3) rfl)) (hw _ (List.mem_of_getElem? (i := 4) rfl)) (rm1 l Z a0 hw s5 p1 p2 p3 p4 h45) e45 (g := (mkF m 102 #[.val (.int p0), .val (.int p1), .val (.int p2), .val (.int p3), .val (.int p4), .val (.int (p0 &&& (7 : Int32))), .val (.ref bq), .unset, .unset] [(.int p4), (.int p3), (.int p2), (.int p1), (.int s5), (.int (5 : Int32)), (.ref bq)])) rfl (by rw [hml]; rfl) (argsL := [(.int s5), (.int p1), (.int p2), (.int p3), (.int p4)]) (rest := [(.int (5 : Int32)), (.ref bq)]) (lenOf pd_3 rfl) rfl rfl (W := 2) (by show 2 * 0 + _ ≤ _; exact Nat.le_of_eq rfl) (hb hby at_102) (by decide) (by decide) (by decide) (by decide) (by decide)
  obtain ⟨rfl, rfl, e46⟩ := hQ46
  refine own_go st46 ?_
  have N46 := Fr.app N45 (Fr.nil _)
  show own_Ends _ _ _ _ _ _ _ T46 (mkF m 105 #[.val (.int p0), .val (.int p1), .val (.int p2), .val (.int p3), .val (.int p4), .val (.int (p0 &&& (7 : Int32))), .val (.ref bq), .unset, .unset] [(.int (own_ltr s5 p1 p2 p3 p4)), (.int (5 : Int32)), (.ref bq)])
  generalize hz5 : (own_ltr s5 p1 p2 p3 p4) = z5
  show own_Ends _ _ _ _ _ _ _ T46 (mkF m 105 #[.val (.int p0), .val (.int p1), .val (.int p2), .val (.int p3), .val (.int p4), .val (.int (p0 &&& (7 : Int32))), .val (.ref bq), .unset, .unset] [(.int z5), (.int (5 : Int32)), (.ref bq)])
  obtain ⟨T47, h47, X47, e47, W47, V47, st47⟩ := own_stB X46 hx hZ e46 V45 (i := 5) (by decide) (by decide) (by decide) (g := (mkF m 105 #[.val (.int p0), .val (.int p1), .val (.int p2), .val (.int p3), .val (.int p4), .val (.int (p0 &&& (7 : Int32))), .val (.ref bq), .unset, .unset] [(.int z5), (.int (5 : Int32)), (.ref bq)])) rfl rfl (hb hby at_105)
  have N47 := Fr.snoc X47 N46 g_bq
  have K_47 := K_45.wr W47 (Or.inr sz_bq)
  refine own_go st47 ?_
  show own_Ends _ _ _ _ _ _ _ T47 (mkF m 106 #[.val (.int p0), .val (.int p1), .val (.int p2), .val (.int p3), .val (.int p4), .val (.int (p0 &&& (7 : Int32))), .val (.ref bq), .unset, .unset] [])
  refine own_go (fun _ k => XS.aload X47.here hx rfl (hb hby at_106) rfl rfl k) ?_
  show own_Ends _ _ _ _ _ _ _ T47 (mkF m 108 #[.val (.int p0), .val (.int p1), .val (.int p2), .val (.int p3), .val (.int p4), .val (.int (p0 &&& (7 : Int32))), .val (.ref bq), .unset, .unset] [(.ref bq)])
  refine own_go (fun _ k => XS.bipush X47.here hx rfl (hb hby at_108) k) ?_
  show own_Ends _ _ _ _ _ _ _ T47 (mkF m 110 #[.val (.int p0), .val (.int p1), .val (.int p2), .val (.int p3), .val (.int p4), .val (.int (p0 &&& (7 : Int32))), .val (.ref bq), .unset, .unset] [(.int (6 : Int32)), (.ref bq)])
  refine own_go (fun _ k => XS.iloadN X47.here hx rfl (hb hby at_110) rfl k) ?_
  show own_Ends _ _ _ _ _ _ _ T47 (mkF m 111 #[.val (.int p0), .val (.int p1), .val (.int p2), .val (.int p3), .val (.int p4), .val (.int (p0 &&& (7 : Int32))), .val (.ref bq), .unset, .unset] [(.int p0), (.int (6 : Int32)), (.ref bq)])
  refine own_go (fun _ k => XS.bipush X47.here hx rfl (hb hby at_111) k) ?_
  show own_Ends _ _ _ _ _ _ _ T47 (mkF m 113 #[.val (.int p0), .val (.int p1), .val (.int p2), .val (.int p3), .val (.int p4), .val (.int (p0 &&& (7 : Int32))), .val (.ref bq), .unset, .unset] [(.int (15 : Int32)), (.int p0), (.int (6 : Int32)), (.ref bq)])
  refine own_go (fun _ k => XS.iushr X47.here hx rfl (hb hby at_113) rfl k) ?_
  show own_Ends _ _ _ _ _ _ _ T47 (mkF m 114 #[.val (.int p0), .val (.int p1), .val (.int p2), .val (.int p3), .val (.int p4), .val (.int (p0 &&& (7 : Int32))), .val (.ref bq), .unset, .unset] [(.int ((p0.toUInt32 >>> ((15 : Int32) &&& 31).toUInt32).toInt32)), (.int (6 : Int32)), (.ref bq)])
  refine own_go (fun _ k => XS.iloadN X47.here hx rfl (hb hby at_114) rfl k) ?_
  show own_Ends _ _ _ _ _ _ _ T47 (mkF m 115 #[.val (.int p0), .val (.int p1), .val (.int p2), .val (.int p3), .val (.int p4), .val (.int (p0 &&& (7 : Int32))), .val (.ref bq), .unset, .unset] [(.int p1), (.int ((p0.toUInt32 >>> ((15 : Int32) &&& 31).toUInt32).toInt32)), (.int (6 : Int32)), (.ref bq)])
  refine own_go (fun _ k => XS.iloadN X47.here hx rfl (hb hby at_115) rfl k) ?_
  show own_Ends _ _ _ _ _ _ _ T47 (mkF m 116 #[.val (.int p0), .val (.int p1), .val (.int p2), .val (.int p3), .val (.int p4), .val (.int (p0 &&& (7 : Int32))), .val (.ref bq), .unset, .unset] [(.int p2), (.int p1), (.int ((p0.toUInt32 >>> ((15 : Int32) &&& 31).toUInt32).toInt32)), (.int (6 : Int32)), (.ref bq)])
  refine own_go (fun _ k => XS.iloadN X47.here hx rfl (hb hby at_116) rfl k) ?_
  show own_Ends _ _ _ _ _ _ _ T47 (mkF m 117 #[.val (.int p0), .val (.int p1), .val (.int p2), .val (.int p3), .val (.int p4), .val (.int (p0 &&& (7 : Int32))), .val (.ref bq), .unset, .unset] [(.int p3), (.int p2), (.int p1), (.int ((p0.toUInt32 >>> ((15 : Int32) &&& 31).toUInt32).toInt32)), (.int (6 : Int32)), (.ref bq)])
  refine own_go (fun _ k => XS.iload X47.here hx rfl (hb hby at_117) rfl k) ?_
  show own_Ends _ _ _ _ _ _ _ T47 (mkF m 119 #[.val (.int p0), .val (.int p1), .val (.int p2), .val (.int p3), .val (.int p4), .val (.int (p0 &&& (7 : Int32))), .val (.ref bq), .unset, .unset] [(.int p4), (.int p3), (.int p2), (.int p1), (.int ((p0.toUInt32 >>> ((15 : Int32) &&& 31).toUInt32).toInt32)), (.int (6 : Int32)), (.ref bq)])
  generalize hs6 : ((p0.toUInt32 >>> ((15 : Int32) &&& 31).toUInt32).toInt32) = s6
  show own_Ends _ _ _ _ _ _ _ T47 (mkF m 119 #[.val (.int p0), .val (.int p1), .val (.int p2), .val (.int p3), .val (.int p4), .val (.int (p0 &&& (7 : Int32))), .val (.ref bq), .unset, .unset] [(.int p4), (.int p3), (.int p2), (.int p1), (.int s6), (.int (6 : Int32)), (.ref bq)])
  obtain ⟨v48, T48, L48, X48, hQ48, st48⟩ := own_callS X47 hx hZ hown (hw _ (List.mem_of_getElem? (i := 1) rfl)) (hw _ (List.mem_of_getElem? (i := 2) rfl)) (hw _ (List.mem_of_getElem? (i := 3) rfl)) (hw _ (List.mem_of_getElem? (i := 4) rfl)) (rm1 l Z a0 hw s6 p1 p2 p3 p4 h47) e47 (g := (mkF m 119 #[.val (.int p0), .val (.int p1), .val (.int p2), .val (.int p3), .val (.int p4), .val (.int (p0 &&& (7 : Int32))), .val (.ref bq), .unset, .unset] [(.int p4), (.int p3), (.int p2), (.int p1), (.int s6), (.int (6 : Int32)), (.ref bq)])) rfl (by rw [hml]; rfl) (argsL := [(.int s6), (.int p1), (.int p2), (.int p3), (.int p4)]) (rest := [(.int (6 : Int32)), (.ref bq)]) (lenOf pd_3 rfl) rfl rfl (W := 2) (by show 2 * 0 + _ ≤ _; exact Nat.le_of_eq rfl) (hb hby at_119) (by decide) (by decide) (by decide) (by decide) (by decide)
  obtain ⟨rfl, rfl, e48⟩ := hQ48
  refine own_go st48 ?_
  have N48 := Fr.app N47 (Fr.nil _)
  show own_Ends _ _ _ _ _ _ _ T48 (mkF m 122 #[.val (.int p0), .val (.int p1), .val (.int p2), .val (.int p3), .val (.int p4), .val (.int (p0 &&& (7 : Int32))), .val (.ref bq), .unset, .unset] [(.int (own_ltr s6 p1 p2 p3 p4)), (.int (6 : Int32)), (.ref bq)])
  generalize hz6 : (own_ltr s6 p1 p2 p3 p4) = z6
  show own_Ends _ _ _ _ _ _ _ T48 (mkF m 122 #[.val (.int p0), .val (.int p1), .val (.int p2), .val (.int p3), .val (.int p4), .val (.int (p0 &&& (7 : Int32))), .val (.ref bq), .unset, .unset] [(.int z6), (.int (6 : Int32)), (.ref bq)])
  obtain ⟨T49, h49, X49, e49, W49, V49, st49⟩ := own_stB X48 hx hZ e48 V47 (i := 6) (by decide) (by decide) (by decide) (g := (mkF m 122 #[.val (.int p0), .val (.int p1), .val (.int p2), .val (.int p3), .val (.int p4), .val (.int (p0 &&& (7 : Int32))), .val (.ref bq), .unset, .unset] [(.int z6), (.int (6 : Int32)), (.ref bq)])) rfl rfl (hb hby at_122)
  have N49 := Fr.snoc X49 N48 g_bq
  have K_49 := K_47.wr W49 (Or.inr sz_bq)
  refine own_go st49 ?_
  show own_Ends _ _ _ _ _ _ _ T49 (mkF m 123 #[.val (.int p0), .val (.int p1), .val (.int p2), .val (.int p3), .val (.int p4), .val (.int (p0 &&& (7 : Int32))), .val (.ref bq), .unset, .unset] [])
  refine own_go (fun _ k => XS.iload X49.here hx rfl (hb hby at_123) rfl k) ?_
  show own_Ends _ _ _ _ _ _ _ T49 (mkF m 125 #[.val (.int p0), .val (.int p1), .val (.int p2), .val (.int p3), .val (.int p4), .val (.int (p0 &&& (7 : Int32))), .val (.ref bq), .unset, .unset] [(.int (p0 &&& (7 : Int32)))])
  obtain ⟨b, hbf⟩ : ∃ b : Nat → Int32, b = (fun j => if j = 6 then nar .byte z6 else if j = 5 then nar .byte z5 else if j = 4 then nar .byte z4 else if j = 3 then nar .byte z3 else if j = 2 then nar .byte z2 else if j = 1 then nar .byte z1 else if j = 0 then nar .byte z0 else (0 : Int32)) := ⟨_, rfl⟩
  have hbn : ∀ j, j < 7 → nar .byte (b j) = b j := by
    intro j hj
    subst hbf
    have seg : j = 0 ∨ j = 1 ∨ j = 2 ∨ j = 3 ∨ j = 4 ∨ j = 5 ∨ j = 6 := by omega
    rcases seg with rfl | rfl | rfl | rfl | rfl | rfl | rfl <;> exact own_nn _
  have Vq : own_Ar Z h49 bq k35 .byte 7 (fun j => .int (b j)) := V49.cong (fun j hj => by
    subst hbf
    have seg : j = 0 ∨ j = 1 ∨ j = 2 ∨ j = 3 ∨ j = 4 ∨ j = 5 ∨ j = 6 := by omega
    rcases seg with rfl | rfl | rfl | rfl | rfl | rfl | rfl <;> rfl)
  rcases own_and7 p0 with hn | hn | hn | hn | hn | hn | hn | hn
  · rw [show (p0 &&& (7 : Int32)) = (0 : Int32) from hn]
    show own_Ends _ _ _ _ _ _ _ T49 (mkF m 125 #[.val (.int p0), .val (.int p1), .val (.int p2), .val (.int p3), .val (.int p4), .val (.int (0 : Int32)), .val (.ref bq), .unset, .unset] [(.int (0 : Int32))])
    obtain ⟨T50, h50, k50, X50, e50, E50, A50, st50⟩ := own_newP X49 hx hZ (aty := .byte) (hw _ (List.mem_of_getElem? (i := 0) rfl)) e49 (g := (mkF m 125 #[.val (.int p0), .val (.int p1), .val (.int p2), .val (.int p3), .val (.int p4), .val (.int (0 : Int32)), .val (.ref bq), .unset, .unset] [(.int (0 : Int32))])) rfl (hb hby at_125) rfl (by decide) (n := 0) (by decide) (cap := 0) (by decide) (by decide) (by decide) (by decide)
    obtain ⟨bp, gq50⟩ : ∃ z, z = h49.size := ⟨_, rfl⟩
    rw [← gq50] at A50 st50
    have ne_bq_bp : bq ≠ bp := Nat.ne_of_lt (Nat.lt_of_lt_of_le Vq.lt (Nat.le_of_eq gq50.symm))
    have sz_bp : h0.size ≤ bp := Nat.le_trans K_49.1 (Nat.le_of_eq gq50.symm)
    have g_bp : h0.size ≤ bp := Nat.le_trans (Nat.le_refl _) sz_bp
    have K_50 := K_49.ext E50
    have V_bq_50 := Vq.ext E50
    have V_bp : own_Ar Z h50 bp k50 .byte 0 (fun _ => (.int (0 : Int32))) := A50
    refine own_go st50 ?_
    show own_Ends _ _ _ _ _ _ _ T50 (mkF m 127 #[.val (.int p0), .val (.int p1), .val (.int p2), .val (.int p3), .val (.int p4), .val (.int (0 : Int32)), .val (.ref bq), .unset, .unset] [(.ref bp)])
    refine own_go (fun _ k => XS.astore X50.here hx rfl (hb hby at_127) rfl rfl (l' := #[.val (.int p0), .val (.int p1), .val (.int p2), .val (.int p3), .val (.int p4), .val (.int (0 : Int32)), .val (.ref bq), .val (.ref bp), .unset]) rfl k) ?_
    show own_Ends _ _ _ _ _ _ _ T50 (mkF m 129 #[.val (.int p0), .val (.int p1), .val (.int p2), .val (.int p3), .val (.int p4), .val (.int (0 : Int32)), .val (.ref bq), .val (.ref bp), .unset] [])
    refine own_go (fun _ k => XS.iload X50.here hx rfl (hb hby at_129) rfl k) ?_
    show own_Ends _ _ _ _ _ _ _ T50 (mkF m 131 #[.val (.int p0), .val (.int p1), .val (.int p2), .val (.int p3), .val (.int p4), .val (.int (0 : Int32)), .val (.ref bq), .val (.ref bp), .unset] [(.int (0 : Int32))])
    refine own_go (fun _ k => XS.ifYes X50.here hx rfl (pc0 := 131) (pc' := 142) rfl (hb hby at_131) rfl ((if0 _ _).trans (flt (by decide)).2.2.2) (by decide) (by decide) k) ?_
    show own_Ends _ _ _ _ _ _ _ T50 (mkF m 142 #[.val (.int p0), .val (.int p1), .val (.int p2), .val (.int p3), .val (.int p4), .val (.int (0 : Int32)), .val (.ref bq), .val (.ref bp), .unset] [])
    refine own_go (fun _ k => XS.iload X50.here hx rfl (hb hby at_142) rfl k) ?_
    show own_Ends _ _ _ _ _ _ _ T50 (mkF m 144 #[.val (.int p0), .val (.int p1), .val (.int p2), .val (.int p3), .val (.int p4), .val (.int (0 : Int32)), .val (.ref bq), .val (.ref bp), .unset] [(.int (0 : Int32))])
    refine own_go (fun _ k => XS.iconst X50.here hx rfl (hb hby at_144) k) ?_
    show own_Ends _ _ _ _ _ _ _ T50 (mkF m 145 #[.val (.int p0), .val (.int p1), .val (.int p2), .val (.int p3), .val (.int p4), .val (.int (0 : Int32)), .val (.ref bq), .val (.ref bp), .unset] [(.int (1 : Int32)), (.int (0 : Int32))])
    refine own_go (fun _ k => XS.icmpYes X50.here hx rfl (pc0 := 145) (pc' := 156) rfl (hb hby at_145) rfl (flt (by decide)).2.2.2 (by decide) (by decide) k) ?_
    show own_Ends _ _ _ _ _ _ _ T50 (mkF m 156 #[.val (.int p0), .val (.int p1), .val (.int p2), .val (.int p3), .val (.int p4), .val (.int (0 : Int32)), .val (.ref bq), .val (.ref bp), .unset] [])
    refine own_go (fun _ k => XS.iload X50.here hx rfl (hb hby at_156) rfl k) ?_
    show own_Ends _ _ _ _ _ _ _ T50 (mkF m 158 #[.val (.int p0), .val (.int p1), .val (.int p2), .val (.int p3), .val (.int p4), .val (.int (0 : Int32)), .val (.ref bq), .val (.ref bp), .unset] [(.int (0 : Int32))])
    refine own_go (fun _ k => XS.iconst X50.here hx rfl (hb hby at_158) k) ?_
    show own_Ends _ _ _ _ _ _ _ T50 (mkF m 159 #[.val (.int p0), .val (.int p1), .val (.int p2), .val (.int p3), .val (.int p4), .val (.int (0 : Int32)), .val (.ref bq), .val (.ref bp), .unset] [(.int (2 : Int32)), (.int (0 : Int32))])
    refine own_go (fun _ k => XS.icmpYes X50.here hx rfl (pc0 := 159) (pc' := 170) rfl (hb hby at_159) rfl (flt (by decide)).2.2.2 (by decide) (by decide) k) ?_
    show own_Ends _ _ _ _ _ _ _ T50 (mkF m 170 #[.val (.int p0), .val (.int p1), .val (.int p2), .val (.int p3), .val (.int p4), .val (.int (0 : Int32)), .val (.ref bq), .val (.ref bp), .unset] [])
    refine own_go (fun _ k => XS.iload X50.here hx rfl (hb hby at_170) rfl k) ?_
    show own_Ends _ _ _ _ _ _ _ T50 (mkF m 172 #[.val (.int p0), .val (.int p1), .val (.int p2), .val (.int p3), .val (.int p4), .val (.int (0 : Int32)), .val (.ref bq), .val (.ref bp), .unset] [(.int (0 : Int32))])
    refine own_go (fun _ k => XS.iconst X50.here hx rfl (hb hby at_172) k) ?_
    show own_Ends _ _ _ _ _ _ _ T50 (mkF m 173 #[.val (.int p0), .val (.int p1), .val (.int p2), .val (.int p3), .val (.int p4), .val (.int (0 : Int32)), .val (.ref bq), .val (.ref bp), .unset] [(.int (3 : Int32)), (.int (0 : Int32))])
    refine own_go (fun _ k => XS.icmpYes X50.here hx rfl (pc0 := 173) (pc' := 184) rfl (hb hby at_173) rfl (flt (by decide)).2.2.2 (by decide) (by decide) k) ?_
    show own_Ends _ _ _ _ _ _ _ T50 (mkF m 184 #[.val (.int p0), .val (.int p1), .val (.int p2), .val (.int p3), .val (.int p4), .val (.int (0 : Int32)), .val (.ref bq), .val (.ref bp), .unset] [])
    refine own_go (fun _ k => XS.iload X50.here hx rfl (hb hby at_184) rfl k) ?_
    show own_Ends _ _ _ _ _ _ _ T50 (mkF m 186 #[.val (.int p0), .val (.int p1), .val (.int p2), .val (.int p3), .val (.int p4), .val (.int (0 : Int32)), .val (.ref bq), .val (.ref bp), .unset] [(.int (0 : Int32))])
    refine own_go (fun _ k => XS.iconst X50.here hx rfl (hb hby at_186) k) ?_
    show own_Ends _ _ _ _ _ _ _ T50 (mkF m 187 #[.val (.int p0), .val (.int p1), .val (.int p2), .val (.int p3), .val (.int p4), .val (.int (0 : Int32)), .val (.ref bq), .val (.ref bp), .unset] [(.int (4 : Int32)), (.int (0 : Int32))])
    refine own_go (fun _ k => XS.icmpYes X50.here hx rfl (pc0 := 187) (pc' := 198) rfl (hb hby at_187) rfl (flt (by decide)).2.2.2 (by decide) (by decide) k) ?_
    show own_Ends _ _ _ _ _ _ _ T50 (mkF m 198 #[.val (.int p0), .val (.int p1), .val (.int p2), .val (.int p3), .val (.int p4), .val (.int (0 : Int32)), .val (.ref bq), .val (.ref bp), .unset] [])
    refine own_go (fun _ k => XS.iload X50.here hx rfl (hb hby at_198) rfl k) ?_
    show own_Ends _ _ _ _ _ _ _ T50 (mkF m 200 #[.val (.int p0), .val (.int p1), .val (.int p2), .val (.int p3), .val (.int p4), .val (.int (0 : Int32)), .val (.ref bq), .val (.ref bp), .unset] [(.int (0 : Int32))])
    refine own_go (fun _ k => XS.iconst X50.here hx rfl (hb hby at_200) k) ?_
    show own_Ends _ _ _ _ _ _ _ T50 (mkF m 201 #[.val (.int p0), .val (.int p1), .val (.int p2), .val (.int p3), .val (.int p4), .val (.int (0 : Int32)), .val (.ref bq), .val (.ref bp), .unset] [(.int (5 : Int32)), (.int (0 : Int32))])
    refine own_go (fun _ k => XS.icmpYes X50.here hx rfl (pc0 := 201) (pc' := 212) rfl (hb hby at_201) rfl (flt (by decide)).2.2.2 (by decide) (by decide) k) ?_
    show own_Ends _ _ _ _ _ _ _ T50 (mkF m 212 #[.val (.int p0), .val (.int p1), .val (.int p2), .val (.int p3), .val (.int p4), .val (.int (0 : Int32)), .val (.ref bq), .val (.ref bp), .unset] [])
    refine own_go (fun _ k => XS.iload X50.here hx rfl (hb hby at_212) rfl k) ?_
    show own_Ends _ _ _ _ _ _ _ T50 (mkF m 214 #[.val (.int p0), .val (.int p1), .val (.int p2), .val (.int p3), .val (.int p4), .val (.int (0 : Int32)), .val (.ref bq), .val (.ref bp), .unset] [(.int (0 : Int32))])
    refine own_go (fun _ k => XS.bipush X50.here hx rfl (hb hby at_214) k) ?_
    show own_Ends _ _ _ _ _ _ _ T50 (mkF m 216 #[.val (.int p0), .val (.int p1), .val (.int p2), .val (.int p3), .val (.int p4), .val (.int (0 : Int32)), .val (.ref bq), .val (.ref bp), .unset] [(.int (6 : Int32)), (.int (0 : Int32))])
    refine own_go (fun _ k => XS.icmpYes X50.here hx rfl (pc0 := 216) (pc' := 229) rfl (hb hby at_216) rfl (flt (by decide)).2.2.2 (by decide) (by decide) k) ?_
    show own_Ends _ _ _ _ _ _ _ T50 (mkF m 229 #[.val (.int p0), .val (.int p1), .val (.int p2), .val (.int p3), .val (.int p4), .val (.int (0 : Int32)), .val (.ref bq), .val (.ref bp), .unset] [])
    refine own_go (fun _ k => XS.aload X50.here hx rfl (hb hby at_229) rfl rfl k) ?_
    show own_Ends _ _ _ _ _ _ _ T50 (mkF m 231 #[.val (.int p0), .val (.int p1), .val (.int p2), .val (.int p3), .val (.int p4), .val (.int (0 : Int32)), .val (.ref bq), .val (.ref bp), .unset] [(.ref bp)])
    have Vp : own_Ar Z h50 bp k50 .byte 0 (fun j => .int (b j)) := V_bp.cong (fun j hj => absurd hj (Nat.not_lt_zero _))
    obtain ⟨v51, T51, L51, X51, hQ51, st51⟩ := own_callS X50 hx hZ hown (hw _ (List.mem_of_getElem? (i := 5) rfl)) (hw _ (List.mem_of_getElem? (i := 6) rfl)) (hw _ (List.mem_of_getElem? (i := 7) rfl)) (hw _ (List.mem_of_getElem? (i := 8) rfl)) (rm2 l Z a0 hw bp h50 h0.size 0 k50 b K_50.1 Vp (by decide)) e50 (g := (mkF m 231 #[.val (.int p0), .val (.int p1), .val (.int p2), .val (.int p3), .val (.int p4), .val (.int (0 : Int32)), .val (.ref bq), .val (.ref bp), .unset] [(.ref bp)])) rfl (by rw [hml]; rfl) (argsL := [(.ref bp)]) (rest := []) (lenOf pd_4 rfl) rfl rfl (W := 0) (by show 2 * 0 + _ ≤ _; exact Nat.le_of_eq rfl) (hb hby at_231) (by decide) (by decide) (by decide) (by decide) (by decide)
    obtain ⟨t, kt, g, rfl, N51q, K51, V51, s51, hG51⟩ := hQ51
    refine own_go st51 ?_
    have N51 := Fr.app N49 N51q
    have K_51 := K_50.trans K51 all0
    have V_bq_51 := V_bq_50.keep K51 nin0
    have V_bp_51 := Vp.keep K51 nin0
    show own_Ends _ _ _ _ _ _ _ T51 (mkF m 234 #[.val (.int p0), .val (.int p1), .val (.int p2), .val (.int p3), .val (.int p4), .val (.int (0 : Int32)), .val (.ref bq), .val (.ref bp), .unset] [(.ref t)])
    refine own_go (fun _ k => XS.astore X51.here hx rfl (hb hby at_234) rfl rfl (l' := #[.val (.int p0), .val (.int p1), .val (.int p2), .val (.int p3), .val (.int p4), .val (.int (0 : Int32)), .val (.ref bq), .val (.ref bp), .val (.ref t)]) rfl k) ?_
    show own_Ends _ _ _ _ _ _ _ T51 (mkF m 236 #[.val (.int p0), .val (.int p1), .val (.int p2), .val (.int p3), .val (.int p4), .val (.int (0 : Int32)), .val (.ref bq), .val (.ref bp), .val (.ref t)] [])
    refine own_go (fun _ k => XS.aload X51.here hx rfl (hb hby at_236) rfl rfl k) ?_
    show own_Ends _ _ _ _ _ _ _ T51 (mkF m 238 #[.val (.int p0), .val (.int p1), .val (.int p2), .val (.int p3), .val (.int p4), .val (.int (0 : Int32)), .val (.ref bq), .val (.ref bp), .val (.ref t)] [(.ref t)])
    refine own_go (fun _ k => XS.ifnullNo X51.here hx rfl (hb hby at_238) rfl k) ?_
    show own_Ends _ _ _ _ _ _ _ T51 (mkF m 241 #[.val (.int p0), .val (.int p1), .val (.int p2), .val (.int p3), .val (.int p4), .val (.int (0 : Int32)), .val (.ref bq), .val (.ref bp), .val (.ref t)] [])
    refine own_go (fun _ k => XS.aload X51.here hx rfl (hb hby at_241) rfl rfl k) ?_
    show own_Ends _ _ _ _ _ _ _ T51 (mkF m 243 #[.val (.int p0), .val (.int p1), .val (.int p2), .val (.int p3), .val (.int p4), .val (.int (0 : Int32)), .val (.ref bq), .val (.ref bp), .val (.ref t)] [(.ref t)])
    refine own_go (fun _ k => own_len X51 hx hZ rfl V51 (z := (0 : Int32)) rfl (g := (mkF m 243 #[.val (.int p0), .val (.int p1), .val (.int p2), .val (.int p3), .val (.int p4), .val (.int (0 : Int32)), .val (.ref bq), .val (.ref bp), .val (.ref t)] [(.ref t)])) rfl rfl (hb hby at_243) _ k) ?_
    show own_Ends _ _ _ _ _ _ _ T51 (mkF m 244 #[.val (.int p0), .val (.int p1), .val (.int p2), .val (.int p3), .val (.int p4), .val (.int (0 : Int32)), .val (.ref bq), .val (.ref bp), .val (.ref t)] [(.int (0 : Int32))])
    refine own_go (fun _ k => XS.iload X51.here hx rfl (hb hby at_244) rfl k) ?_
    show own_Ends _ _ _ _ _ _ _ T51 (mkF m 246 #[.val (.int p0), .val (.int p1), .val (.int p2), .val (.int p3), .val (.int p4), .val (.int (0 : Int32)), .val (.ref bq), .val (.ref bp), .val (.ref t)] [(.int (0 : Int32)), (.int (0 : Int32))])
    refine own_go (fun _ k => XS.icmpYes X51.here hx rfl (pc0 := 246) (pc' := 251) rfl (hb hby at_246) rfl (teq (rfl)).1 (by decide) (by decide) k) ?_
    show own_Ends _ _ _ _ _ _ _ T51 (mkF m 251 #[.val (.int p0), .val (.int p1), .val (.int p2), .val (.int p3), .val (.int p4), .val (.int (0 : Int32)), .val (.ref bq), .val (.ref bp), .val (.ref t)] [])
    refine own_go (fun _ k => XS.aload X51.here hx rfl (hb hby at_251) rfl rfl k) ?_
    show own_Ends _ _ _ _ _ _ _ T51 (mkF m 253 #[.val (.int p0), .val (.int p1), .val (.int p2), .val (.int p3), .val (.int p4), .val (.int (0 : Int32)), .val (.ref bq), .val (.ref bp), .val (.ref t)] [(.ref t)])
    refine own_go (fun _ k => XS.aload X51.here hx rfl (hb hby at_253) rfl rfl k) ?_
    show own_Ends _ _ _ _ _ _ _ T51 (mkF m 255 #[.val (.int p0), .val (.int p1), .val (.int p2), .val (.int p3), .val (.int p4), .val (.int (0 : Int32)), .val (.ref bq), .val (.ref bp), .val (.ref t)] [(.ref bp), (.ref t)])
    refine own_go (fun _ k => XS.aload X51.here hx rfl (hb hby at_255) rfl rfl k) ?_
    show own_Ends _ _ _ _ _ _ _ T51 (mkF m 257 #[.val (.int p0), .val (.int p1), .val (.int p2), .val (.int p3), .val (.int p4), .val (.int (0 : Int32)), .val (.ref bq), .val (.ref bp), .val (.ref t)] [(.ref bq), (.ref bp), (.ref t)])
    refine own_go (fun _ k => XS.iload X51.here hx rfl (hb hby at_257) rfl k) ?_
    show own_Ends _ _ _ _ _ _ _ T51 (mkF m 259 #[.val (.int p0), .val (.int p1), .val (.int p2), .val (.int p3), .val (.int p4), .val (.int (0 : Int32)), .val (.ref bq), .val (.ref bp), .val (.ref t)] [(.int (0 : Int32)), (.ref bq), (.ref bp), (.ref t)])
    refine own_go (fun _ k => XS.iconst X51.here hx rfl (hb hby at_259) k) ?_
    show own_Ends _ _ _ _ _ _ _ T51 (mkF m 260 #[.val (.int p0), .val (.int p1), .val (.int p2), .val (.int p3), .val (.int p4), .val (.int (0 : Int32)), .val (.ref bq), .val (.ref bp), .val (.ref t)] [(.int (0 : Int32)), (.int (0 : Int32)), (.ref bq), (.ref bp), (.ref t)])
    obtain ⟨v52, T52, L52, X52, hQ52, st52⟩ := own_callS X51 hx hZ hown (hw _ (List.mem_of_getElem? (i := 17) rfl)) (hw _ (List.mem_of_getElem? (i := 18) rfl)) (hw _ (List.mem_of_getElem? (i := 3) rfl)) (hw _ (List.mem_of_getElem? (i := 19) rfl)) (rm4_hi l Z a0 hw t bp bq (0 : Int32) (0 : Int32) T51.heap (by decide)) rfl (g := (mkF m 260 #[.val (.int p0), .val (.int p1), .val (.int p2), .val (.int p3), .val (.int p4), .val (.int (0 : Int32)), .val (.ref bq), .val (.ref bp), .val (.ref t)] [(.int (0 : Int32)), (.int (0 : Int32)), (.ref bq), (.ref bp), (.ref t)])) rfl (by rw [hml]; rfl) (argsL := [(.ref t), (.ref bp), (.ref bq), (.int (0 : Int32)), (.int (0 : Int32))]) (rest := []) (lenOf pd_5 rfl) rfl rfl (W := 0) (by show 2 * 0 + _ ≤ _; exact Nat.le_of_eq rfl) (hb hby at_260) (by decide) (by decide) (by decide) (by decide) (by decide)
    obtain ⟨rfl, rfl, e52⟩ := hQ52
    refine own_go st52 ?_
    have N52 := Fr.app N51 (Fr.nil _)
    show own_Ends _ _ _ _ _ _ _ T52 (mkF m 263 #[.val (.int p0), .val (.int p1), .val (.int p2), .val (.int p3), .val (.int p4), .val (.int (0 : Int32)), .val (.ref bq), .val (.ref bp), .val (.ref t)] [(.int (1 : Int32))])
    refine own_go (fun _ k => XS.ifNo X52.here hx rfl (hb hby at_263) rfl ((if0 _ _).trans (feq (by decide)).1) k) ?_
    show own_Ends _ _ _ _ _ _ _ T52 (mkF m 266 #[.val (.int p0), .val (.int p1), .val (.int p2), .val (.int p3), .val (.int p4), .val (.int (0 : Int32)), .val (.ref bq), .val (.ref bp), .val (.ref t)] [])
    refine own_go (fun _ k => XS.aload X52.here hx rfl (hb hby at_266) rfl rfl k) ?_
    show own_Ends _ _ _ _ _ _ _ T52 (mkF m 268 #[.val (.int p0), .val (.int p1), .val (.int p2), .val (.int p3), .val (.int p4), .val (.int (0 : Int32)), .val (.ref bq), .val (.ref bp), .val (.ref t)] [(.ref t)])
    refine own_go (fun _ k => XS.aload X52.here hx rfl (hb hby at_268) rfl rfl k) ?_
    show own_Ends _ _ _ _ _ _ _ T52 (mkF m 270 #[.val (.int p0), .val (.int p1), .val (.int p2), .val (.int p3), .val (.int p4), .val (.int (0 : Int32)), .val (.ref bq), .val (.ref bp), .val (.ref t)] [(.ref bp), (.ref t)])
    refine own_go (fun _ k => XS.aload X52.here hx rfl (hb hby at_270) rfl rfl k) ?_
    show own_Ends _ _ _ _ _ _ _ T52 (mkF m 272 #[.val (.int p0), .val (.int p1), .val (.int p2), .val (.int p3), .val (.int p4), .val (.int (0 : Int32)), .val (.ref bq), .val (.ref bp), .val (.ref t)] [(.ref bq), (.ref bp), (.ref t)])
    refine own_go (fun _ k => XS.iload X52.here hx rfl (hb hby at_272) rfl k) ?_
    show own_Ends _ _ _ _ _ _ _ T52 (mkF m 274 #[.val (.int p0), .val (.int p1), .val (.int p2), .val (.int p3), .val (.int p4), .val (.int (0 : Int32)), .val (.ref bq), .val (.ref bp), .val (.ref t)] [(.int (0 : Int32)), (.ref bq), (.ref bp), (.ref t)])
    refine own_go (fun _ k => XS.iconst X52.here hx rfl (hb hby at_274) k) ?_
    show own_Ends _ _ _ _ _ _ _ T52 (mkF m 275 #[.val (.int p0), .val (.int p1), .val (.int p2), .val (.int p3), .val (.int p4), .val (.int (0 : Int32)), .val (.ref bq), .val (.ref bp), .val (.ref t)] [(.int (1 : Int32)), (.int (0 : Int32)), (.ref bq), (.ref bp), (.ref t)])
    obtain ⟨v53, T53, L53, X53, hQ53, st53⟩ := own_callS X52 hx hZ hown (hw _ (List.mem_of_getElem? (i := 17) rfl)) (hw _ (List.mem_of_getElem? (i := 18) rfl)) (hw _ (List.mem_of_getElem? (i := 3) rfl)) (hw _ (List.mem_of_getElem? (i := 19) rfl)) (rm4_hi l Z a0 hw t bp bq (0 : Int32) (1 : Int32) T51.heap (by decide)) e52 (g := (mkF m 275 #[.val (.int p0), .val (.int p1), .val (.int p2), .val (.int p3), .val (.int p4), .val (.int (0 : Int32)), .val (.ref bq), .val (.ref bp), .val (.ref t)] [(.int (1 : Int32)), (.int (0 : Int32)), (.ref bq), (.ref bp), (.ref t)])) rfl (by rw [hml]; rfl) (argsL := [(.ref t), (.ref bp), (.ref bq), (.int (0 : Int32)), (.int (1 : Int32))]) (rest := []) (lenOf pd_5 rfl) rfl rfl (W := 0) (by show 2 * 0 + _ ≤ _; exact Nat.le_of_eq rfl) (hb hby at_275) (by decide) (by decide) (by decide) (by decide) (by decide)
    obtain ⟨rfl, rfl, e53⟩ := hQ53
    refine own_go st53 ?_
    have N53 := Fr.app N52 (Fr.nil _)
    show own_Ends _ _ _ _ _ _ _ T53 (mkF m 278 #[.val (.int p0), .val (.int p1), .val (.int p2), .val (.int p3), .val (.int p4), .val (.int (0 : Int32)), .val (.ref bq), .val (.ref bp), .val (.ref t)] [(.int (1 : Int32))])
    refine own_go (fun _ k => XS.ifNo X53.here hx rfl (hb hby at_278) rfl ((if0 _ _).trans (feq (by decide)).1) k) ?_
    show own_Ends _ _ _ _ _ _ _ T53 (mkF m 281 #[.val (.int p0), .val (.int p1), .val (.int p2), .val (.int p3), .val (.int p4), .val (.int (0 : Int32)), .val (.ref bq), .val (.ref bp), .val (.ref t)] [])
    refine own_go (fun _ k => XS.aload X53.here hx rfl (hb hby at_281) rfl rfl k) ?_
    show own_Ends _ _ _ _ _ _ _ T53 (mkF m 283 #[.val (.int p0), .val (.int p1), .val (.int p2), .val (.int p3), .val (.int p4), .val (.int (0 : Int32)), .val (.ref bq), .val (.ref bp), .val (.ref t)] [(.ref t)])
    refine own_go (fun _ k => XS.aload X53.here hx rfl (hb hby at_283) rfl rfl k) ?_
    show own_Ends _ _ _ _ _ _ _ T53 (mkF m 285 #[.val (.int p0), .val (.int p1), .val (.int p2), .val (.int p3), .val (.int p4), .val (.int (0 : Int32)), .val (.ref bq), .val (.ref bp), .val (.ref t)] [(.ref bp), (.ref t)])
    refine own_go (fun _ k => XS.aload X53.here hx rfl (hb hby at_285) rfl rfl k) ?_
    show own_Ends _ _ _ _ _ _ _ T53 (mkF m 287 #[.val (.int p0), .val (.int p1), .val (.int p2), .val (.int p3), .val (.int p4), .val (.int (0 : Int32)), .val (.ref bq), .val (.ref bp), .val (.ref t)] [(.ref bq), (.ref bp), (.ref t)])
    refine own_go (fun _ k => XS.iload X53.here hx rfl (hb hby at_287) rfl k) ?_
    show own_Ends _ _ _ _ _ _ _ T53 (mkF m 289 #[.val (.int p0), .val (.int p1), .val (.int p2), .val (.int p3), .val (.int p4), .val (.int (0 : Int32)), .val (.ref bq), .val (.ref bp), .val (.ref t)] [(.int (0 : Int32)), (.ref bq), (.ref bp), (.ref t)])
    refine own_go (fun _ k => XS.iconst X53.here hx rfl (hb hby at_289) k) ?_
    show own_Ends _ _ _ _ _ _ _ T53 (mkF m 290 #[.val (.int p0), .val (.int p1), .val (.int p2), .val (.int p3), .val (.int p4), .val (.int (0 : Int32)), .val (.ref bq), .val (.ref bp), .val (.ref t)] [(.int (2 : Int32)), (.int (0 : Int32)), (.ref bq), (.ref bp), (.ref t)])
    obtain ⟨v54, T54, L54, X54, hQ54, st54⟩ := own_callS X53 hx hZ hown (hw _ (List.mem_of_getElem? (i := 17) rfl)) (hw _ (List.mem_of_getElem? (i := 18) rfl)) (hw _ (List.mem_of_getElem? (i := 3) rfl)) (hw _ (List.mem_of_getElem? (i := 19) rfl)) (rm4_hi l Z a0 hw t bp bq (0 : Int32) (2 : Int32) T51.heap (by decide)) e53 (g := (mkF m 290 #[.val (.int p0), .val (.int p1), .val (.int p2), .val (.int p3), .val (.int p4), .val (.int (0 : Int32)), .val (.ref bq), .val (.ref bp), .val (.ref t)] [(.int (2 : Int32)), (.int (0 : Int32)), (.ref bq), (.ref bp), (.ref t)])) rfl (by rw [hml]; rfl) (argsL := [(.ref t), (.ref bp), (.ref bq), (.int (0 : Int32)), (.int (2 : Int32))]) (rest := []) (lenOf pd_5 rfl) rfl rfl (W := 0) (by show 2 * 0 + _ ≤ _; exact Nat.le_of_eq rfl) (hb hby at_290) (by decide) (by decide) (by decide) (by decide) (by decide)
    obtain ⟨rfl, rfl, e54⟩ := hQ54
    refine own_go st54 ?_
    have N54 := Fr.app N53 (Fr.nil _)
    show own_Ends _ _ _ _ _ _ _ T54 (mkF m 293 #[.val (.int p0), .val (.int p1), .val (.int p2), .val (.int p3), .val (.int p4), .val (.int (0 : Int32)), .val (.ref bq), .val (.ref bp), .val (.ref t)] [(.int (1 : Int32))])
    refine own_go (fun _ k => XS.ifNo X54.here hx rfl (hb hby at_293) rfl ((if0 _ _).trans (feq (by decide)).1) k) ?_
    show own_Ends _ _ _ _ _ _ _ T54 (mkF m 296 #[.val (.int p0), .val (.int p1), .val (.int p2), .val (.int p3), .val (.int p4), .val (.int (0 : Int32)), .val (.ref bq), .val (.ref bp), .val (.ref t)] [])
    refine own_go (fun _ k => XS.aload X54.here hx rfl (hb hby at_296) rfl rfl k) ?_
    show own_Ends _ _ _ _ _ _ _ T54 (mkF m 298 #[.val (.int p0), .val (.int p1), .val (.int p2), .val (.int p3), .val (.int p4), .val (.int (0 : Int32)), .val (.ref bq), .val (.ref bp), .val (.ref t)] [(.ref t)])
    refine own_go (fun _ k => XS.aload X54.here hx rfl (hb hby at_298) rfl rfl k) ?_
    show own_Ends _ _ _ _ _ _ _ T54 (mkF m 300 #[.val (.int p0), .val (.int p1), .val (.int p2), .val (.int p3), .val (.int p4), .val (.int (0 : Int32)), .val (.ref bq), .val (.ref bp), .val (.ref t)] [(.ref bp), (.ref t)])
    refine own_go (fun _ k => XS.aload X54.here hx rfl (hb hby at_300) rfl rfl k) ?_
    show own_Ends _ _ _ _ _ _ _ T54 (mkF m 302 #[.val (.int p0), .val (.int p1), .val (.int p2), .val (.int p3), .val (.int p4), .val (.int (0 : Int32)), .val (.ref bq), .val (.ref bp), .val (.ref t)] [(.ref bq), (.ref bp), (.ref t)])
    refine own_go (fun _ k => XS.iload X54.here hx rfl (hb hby at_302) rfl k) ?_
    show own_Ends _ _ _ _ _ _ _ T54 (mkF m 304 #[.val (.int p0), .val (.int p1), .val (.int p2), .val (.int p3), .val (.int p4), .val (.int (0 : Int32)), .val (.ref bq), .val (.ref bp), .val (.ref t)] [(.int (0 : Int32)), (.ref bq), (.ref bp), (.ref t)])
    refine own_go (fun _ k => XS.iconst X54.here hx rfl (hb hby at_304) k) ?_
    show own_Ends _ _ _ _ _ _ _ T54 (mkF m 305 #[.val (.int p0), .val (.int p1), .val (.int p2), .val (.int p3), .val (.int p4), .val (.int (0 : Int32)), .val (.ref bq), .val (.ref bp), .val (.ref t)] [(.int (3 : Int32)), (.int (0 : Int32)), (.ref bq), (.ref bp), (.ref t)])
    obtain ⟨v55, T55, L55, X55, hQ55, st55⟩ := own_callS X54 hx hZ hown (hw _ (List.mem_of_getElem? (i := 17) rfl)) (hw _ (List.mem_of_getElem? (i := 18) rfl)) (hw _ (List.mem_of_getElem? (i := 3) rfl)) (hw _ (List.mem_of_getElem? (i := 19) rfl)) (rm4_hi l Z a0 hw t bp bq (0 : Int32) (3 : Int32) T51.heap (by decide)) e54 (g := (mkF m 305 #[.val (.int p0), .val (.int p1), .val (.int p2), .val (.int p3), .val (.int p4), .val (.int (0 : Int32)), .val (.ref bq), .val (.ref bp), .val (.ref t)] [(.int (3 : Int32)), (.int (0 : Int32)), (.ref bq), (.ref bp), (.ref t)])) rfl (by rw [hml]; rfl) (argsL := [(.ref t), (.ref bp), (.ref bq), (.int (0 : Int32)), (.int (3 : Int32))]) (rest := []) (lenOf pd_5 rfl) rfl rfl (W := 0) (by show 2 * 0 + _ ≤ _; exact Nat.le_of_eq rfl) (hb hby at_305) (by decide) (by decide) (by decide) (by decide) (by decide)
    obtain ⟨rfl, rfl, e55⟩ := hQ55
    refine own_go st55 ?_
    have N55 := Fr.app N54 (Fr.nil _)
    show own_Ends _ _ _ _ _ _ _ T55 (mkF m 308 #[.val (.int p0), .val (.int p1), .val (.int p2), .val (.int p3), .val (.int p4), .val (.int (0 : Int32)), .val (.ref bq), .val (.ref bp), .val (.ref t)] [(.int (1 : Int32))])
    refine own_go (fun _ k => XS.ifNo X55.here hx rfl (hb hby at_308) rfl ((if0 _ _).trans (feq (by decide)).1) k) ?_
    show own_Ends _ _ _ _ _ _ _ T55 (mkF m 311 #[.val (.int p0), .val (.int p1), .val (.int p2), .val (.int p3), .val (.int p4), .val (.int (0 : Int32)), .val (.ref bq), .val (.ref bp), .val (.ref t)] [])
    refine own_go (fun _ k => XS.aload X55.here hx rfl (hb hby at_311) rfl rfl k) ?_
    show own_Ends _ _ _ _ _ _ _ T55 (mkF m 313 #[.val (.int p0), .val (.int p1), .val (.int p2), .val (.int p3), .val (.int p4), .val (.int (0 : Int32)), .val (.ref bq), .val (.ref bp), .val (.ref t)] [(.ref t)])
    refine own_go (fun _ k => XS.aload X55.here hx rfl (hb hby at_313) rfl rfl k) ?_
    show own_Ends _ _ _ _ _ _ _ T55 (mkF m 315 #[.val (.int p0), .val (.int p1), .val (.int p2), .val (.int p3), .val (.int p4), .val (.int (0 : Int32)), .val (.ref bq), .val (.ref bp), .val (.ref t)] [(.ref bp), (.ref t)])
    refine own_go (fun _ k => XS.aload X55.here hx rfl (hb hby at_315) rfl rfl k) ?_
    show own_Ends _ _ _ _ _ _ _ T55 (mkF m 317 #[.val (.int p0), .val (.int p1), .val (.int p2), .val (.int p3), .val (.int p4), .val (.int (0 : Int32)), .val (.ref bq), .val (.ref bp), .val (.ref t)] [(.ref bq), (.ref bp), (.ref t)])
    refine own_go (fun _ k => XS.iload X55.here hx rfl (hb hby at_317) rfl k) ?_
    show own_Ends _ _ _ _ _ _ _ T55 (mkF m 319 #[.val (.int p0), .val (.int p1), .val (.int p2), .val (.int p3), .val (.int p4), .val (.int (0 : Int32)), .val (.ref bq), .val (.ref bp), .val (.ref t)] [(.int (0 : Int32)), (.ref bq), (.ref bp), (.ref t)])
    refine own_go (fun _ k => XS.iconst X55.here hx rfl (hb hby at_319) k) ?_
    show own_Ends _ _ _ _ _ _ _ T55 (mkF m 320 #[.val (.int p0), .val (.int p1), .val (.int p2), .val (.int p3), .val (.int p4), .val (.int (0 : Int32)), .val (.ref bq), .val (.ref bp), .val (.ref t)] [(.int (4 : Int32)), (.int (0 : Int32)), (.ref bq), (.ref bp), (.ref t)])
    obtain ⟨v56, T56, L56, X56, hQ56, st56⟩ := own_callS X55 hx hZ hown (hw _ (List.mem_of_getElem? (i := 17) rfl)) (hw _ (List.mem_of_getElem? (i := 18) rfl)) (hw _ (List.mem_of_getElem? (i := 3) rfl)) (hw _ (List.mem_of_getElem? (i := 19) rfl)) (rm4_hi l Z a0 hw t bp bq (0 : Int32) (4 : Int32) T51.heap (by decide)) e55 (g := (mkF m 320 #[.val (.int p0), .val (.int p1), .val (.int p2), .val (.int p3), .val (.int p4), .val (.int (0 : Int32)), .val (.ref bq), .val (.ref bp), .val (.ref t)] [(.int (4 : Int32)), (.int (0 : Int32)), (.ref bq), (.ref bp), (.ref t)])) rfl (by rw [hml]; rfl) (argsL := [(.ref t), (.ref bp), (.ref bq), (.int (0 : Int32)), (.int (4 : Int32))]) (rest := []) (lenOf pd_5 rfl) rfl rfl (W := 0) (by show 2 * 0 + _ ≤ _; exact Nat.le_of_eq rfl) (hb hby at_320) (by decide) (by decide) (by decide) (by decide) (by decide)
    obtain ⟨rfl, rfl, e56⟩ := hQ56
    refine own_go st56 ?_
    have N56 := Fr.app N55 (Fr.nil _)
    show own_Ends _ _ _ _ _ _ _ T56 (mkF m 323 #[.val (.int p0), .val (.int p1), .val (.int p2), .val (.int p3), .val (.int p4), .val (.int (0 : Int32)), .val (.ref bq), .val (.ref bp), .val (.ref t)] [(.int (1 : Int32))])
    refine own_go (fun _ k => XS.ifNo X56.here hx rfl (hb hby at_323) rfl ((if0 _ _).trans (feq (by decide)).1) k) ?_
    show own_Ends _ _ _ _ _ _ _ T56 (mkF m 326 #[.val (.int p0), .val (.int p1), .val (.int p2), .val (.int p3), .val (.int p4), .val (.int (0 : Int32)), .val (.ref bq), .val (.ref bp), .val (.ref t)] [])
    refine own_go (fun _ k => XS.aload X56.here hx rfl (hb hby at_326) rfl rfl k) ?_
    show own_Ends _ _ _ _ _ _ _ T56 (mkF m 328 #[.val (.int p0), .val (.int p1), .val (.int p2), .val (.int p3), .val (.int p4), .val (.int (0 : Int32)), .val (.ref bq), .val (.ref bp), .val (.ref t)] [(.ref t)])
    refine own_go (fun _ k => XS.aload X56.here hx rfl (hb hby at_328) rfl rfl k) ?_
    show own_Ends _ _ _ _ _ _ _ T56 (mkF m 330 #[.val (.int p0), .val (.int p1), .val (.int p2), .val (.int p3), .val (.int p4), .val (.int (0 : Int32)), .val (.ref bq), .val (.ref bp), .val (.ref t)] [(.ref bp), (.ref t)])
    refine own_go (fun _ k => XS.aload X56.here hx rfl (hb hby at_330) rfl rfl k) ?_
    show own_Ends _ _ _ _ _ _ _ T56 (mkF m 332 #[.val (.int p0), .val (.int p1), .val (.int p2), .val (.int p3), .val (.int p4), .val (.int (0 : Int32)), .val (.ref bq), .val (.ref bp), .val (.ref t)] [(.ref bq), (.ref bp), (.ref t)])
    refine own_go (fun _ k => XS.iload X56.here hx rfl (hb hby at_332) rfl k) ?_
    show own_Ends _ _ _ _ _ _ _ T56 (mkF m 334 #[.val (.int p0), .val (.int p1), .val (.int p2), .val (.int p3), .val (.int p4), .val (.int (0 : Int32)), .val (.ref bq), .val (.ref bp), .val (.ref t)] [(.int (0 : Int32)), (.ref bq), (.ref bp), (.ref t)])
    refine own_go (fun _ k => XS.iconst X56.here hx rfl (hb hby at_334) k) ?_
    show own_Ends _ _ _ _ _ _ _ T56 (mkF m 335 #[.val (.int p0), .val (.int p1), .val (.int p2), .val (.int p3), .val (.int p4), .val (.int (0 : Int32)), .val (.ref bq), .val (.ref bp), .val (.ref t)] [(.int (5 : Int32)), (.int (0 : Int32)), (.ref bq), (.ref bp), (.ref t)])
    obtain ⟨v57, T57, L57, X57, hQ57, st57⟩ := own_callS X56 hx hZ hown (hw _ (List.mem_of_getElem? (i := 17) rfl)) (hw _ (List.mem_of_getElem? (i := 18) rfl)) (hw _ (List.mem_of_getElem? (i := 3) rfl)) (hw _ (List.mem_of_getElem? (i := 19) rfl)) (rm4_hi l Z a0 hw t bp bq (0 : Int32) (5 : Int32) T51.heap (by decide)) e56 (g := (mkF m 335 #[.val (.int p0), .val (.int p1), .val (.int p2), .val (.int p3), .val (.int p4), .val (.int (0 : Int32)), .val (.ref bq), .val (.ref bp), .val (.ref t)] [(.int (5 : Int32)), (.int (0 : Int32)), (.ref bq), (.ref bp), (.ref t)])) rfl (by rw [hml]; rfl) (argsL := [(.ref t), (.ref bp), (.ref bq), (.int (0 : Int32)), (.int (5 : Int32))]) (rest := []) (lenOf pd_5 rfl) rfl rfl (W := 0) (by show 2 * 0 + _ ≤ _; exact Nat.le_of_eq rfl) (hb hby at_335) (by decide) (by decide) (by decide) (by decide) (by decide)
    obtain ⟨rfl, rfl, e57⟩ := hQ57
    refine own_go st57 ?_
    have N57 := Fr.app N56 (Fr.nil _)
    show own_Ends _ _ _ _ _ _ _ T57 (mkF m 338 #[.val (.int p0), .val (.int p1), .val (.int p2), .val (.int p3), .val (.int p4), .val (.int (0 : Int32)), .val (.ref bq), .val (.ref bp), .val (.ref t)] [(.int (1 : Int32))])
    refine own_go (fun _ k => XS.ifNo X57.here hx rfl (hb hby at_338) rfl ((if0 _ _).trans (feq (by decide)).1) k) ?_
    show own_Ends _ _ _ _ _ _ _ T57 (mkF m 341 #[.val (.int p0), .val (.int p1), .val (.int p2), .val (.int p3), .val (.int p4), .val (.int (0 : Int32)), .val (.ref bq), .val (.ref bp), .val (.ref t)] [])
    refine own_go (fun _ k => XS.aload X57.here hx rfl (hb hby at_341) rfl rfl k) ?_
    show own_Ends _ _ _ _ _ _ _ T57 (mkF m 343 #[.val (.int p0), .val (.int p1), .val (.int p2), .val (.int p3), .val (.int p4), .val (.int (0 : Int32)), .val (.ref bq), .val (.ref bp), .val (.ref t)] [(.ref t)])
    refine own_go (fun _ k => XS.aload X57.here hx rfl (hb hby at_343) rfl rfl k) ?_
    show own_Ends _ _ _ _ _ _ _ T57 (mkF m 345 #[.val (.int p0), .val (.int p1), .val (.int p2), .val (.int p3), .val (.int p4), .val (.int (0 : Int32)), .val (.ref bq), .val (.ref bp), .val (.ref t)] [(.ref bp), (.ref t)])
    refine own_go (fun _ k => XS.aload X57.here hx rfl (hb hby at_345) rfl rfl k) ?_
    show own_Ends _ _ _ _ _ _ _ T57 (mkF m 347 #[.val (.int p0), .val (.int p1), .val (.int p2), .val (.int p3), .val (.int p4), .val (.int (0 : Int32)), .val (.ref bq), .val (.ref bp), .val (.ref t)] [(.ref bq), (.ref bp), (.ref t)])
    refine own_go (fun _ k => XS.iload X57.here hx rfl (hb hby at_347) rfl k) ?_
    show own_Ends _ _ _ _ _ _ _ T57 (mkF m 349 #[.val (.int p0), .val (.int p1), .val (.int p2), .val (.int p3), .val (.int p4), .val (.int (0 : Int32)), .val (.ref bq), .val (.ref bp), .val (.ref t)] [(.int (0 : Int32)), (.ref bq), (.ref bp), (.ref t)])
    refine own_go (fun _ k => XS.bipush X57.here hx rfl (hb hby at_349) k) ?_
    show own_Ends _ _ _ _ _ _ _ T57 (mkF m 351 #[.val (.int p0), .val (.int p1), .val (.int p2), .val (.int p3), .val (.int p4), .val (.int (0 : Int32)), .val (.ref bq), .val (.ref bp), .val (.ref t)] [(.int (6 : Int32)), (.int (0 : Int32)), (.ref bq), (.ref bp), (.ref t)])
    obtain ⟨v58, T58, L58, X58, hQ58, st58⟩ := own_callS X57 hx hZ hown (hw _ (List.mem_of_getElem? (i := 17) rfl)) (hw _ (List.mem_of_getElem? (i := 18) rfl)) (hw _ (List.mem_of_getElem? (i := 3) rfl)) (hw _ (List.mem_of_getElem? (i := 19) rfl)) (rm4_hi l Z a0 hw t bp bq (0 : Int32) (6 : Int32) T51.heap (by decide)) e57 (g := (mkF m 351 #[.val (.int p0), .val (.int p1), .val (.int p2), .val (.int p3), .val (.int p4), .val (.int (0 : Int32)), .val (.ref bq), .val (.ref bp), .val (.ref t)] [(.int (6 : Int32)), (.int (0 : Int32)), (.ref bq), (.ref bp), (.ref t)])) rfl (by rw [hml]; rfl) (argsL := [(.ref t), (.ref bp), (.ref bq), (.int (0 : Int32)), (.int (6 : Int32))]) (rest := []) (lenOf pd_5 rfl) rfl rfl (W := 0) (by show 2 * 0 + _ ≤ _; exact Nat.le_of_eq rfl) (hb hby at_351) (by decide) (by decide) (by decide) (by decide) (by decide)
    obtain ⟨rfl, rfl, e58⟩ := hQ58
    refine own_go st58 ?_
    have N58 := Fr.app N57 (Fr.nil _)
    show own_Ends _ _ _ _ _ _ _ T58 (mkF m 354 #[.val (.int p0), .val (.int p1), .val (.int p2), .val (.int p3), .val (.int p4), .val (.int (0 : Int32)), .val (.ref bq), .val (.ref bp), .val (.ref t)] [(.int (1 : Int32))])
    refine own_go (fun _ k => XS.ifNo X58.here hx rfl (hb hby at_354) rfl ((if0 _ _).trans (feq (by decide)).1) k) ?_
    show own_Ends _ _ _ _ _ _ _ T58 (mkF m 357 #[.val (.int p0), .val (.int p1), .val (.int p2), .val (.int p3), .val (.int p4), .val (.int (0 : Int32)), .val (.ref bq), .val (.ref bp), .val (.ref t)] [])
    refine own_go (fun _ k => XS.iconst X58.here hx rfl (hb hby at_357) k) ?_
    show own_Ends _ _ _ _ _ _ _ T58 (mkF m 358 #[.val (.int p0), .val (.int p1), .val (.int p2), .val (.int p3), .val (.int p4), .val (.int (0 : Int32)), .val (.ref bq), .val (.ref bp), .val (.ref t)] [(.int (1 : Int32))])
    refine own_go (fun _ k => XS.goto X58.here hx rfl (pc0 := 358) (pc' := 362) rfl (hb hby at_358) (by decide) (by decide) k) ?_
    show own_Ends _ _ _ _ _ _ _ T58 (mkF m 362 #[.val (.int p0), .val (.int p1), .val (.int p2), .val (.int p3), .val (.int p4), .val (.int (0 : Int32)), .val (.ref bq), .val (.ref bp), .val (.ref t)] [(.int (1 : Int32))])
    exact own_retZ X58 hx hlk hret (by decide) (hb hby at_362) (by decide) (by decide) ⟨rfl, N58⟩
  · rw [show (p0 &&& (7 : Int32)) = (1 : Int32) from hn]
    show own_Ends _ _ _ _ _ _ _ T49 (mkF m 125 #[.val (.int p0), .val (.int p1), .val (.int p2), .val (.int p3), .val (.int p4), .val (.int (1 : Int32)), .val (.ref bq), .unset, .unset] [(.int (1 : Int32))])
    obtain ⟨T59, h59, k59, X59, e59, E59, A59, st59⟩ := own_newP X49 hx hZ (aty := .byte) (hw _ (List.mem_of_getElem? (i := 0) rfl)) e49 (g := (mkF m 125 #[.val (.int p0), .val (.int p1), .val (.int p2), .val (.int p3), .val (.int p4), .val (.int (1 : Int32)), .val (.ref bq), .unset, .unset] [(.int (1 : Int32))])) rfl (hb hby at_125) rfl (by decide) (n := 1) (by decide) (cap := 1) (by decide) (by decide) (by decide) (by decide)
    obtain ⟨bp, gq59⟩ : ∃ z, z = h49.size := ⟨_, rfl⟩
    rw [← gq59] at A59 st59
    have ne_bq_bp : bq ≠ bp := Nat.ne_of_lt (Nat.lt_of_lt_of_le Vq.lt (Nat.le_of_eq gq59.symm))
    have sz_bp : h0.size ≤ bp := Nat.le_trans K_49.1 (Nat.le_of_eq gq59.symm)
    have g_bp : h0.size ≤ bp := Nat.le_trans (Nat.le_refl _) sz_bp
    have K_59 := K_49.ext E59
    have V_bq_59 := Vq.ext E59
    have V_bp : own_Ar Z h59 bp k59 .byte 1 (fun _ => (.int (0 : Int32))) := A59
    refine own_go st59 ?_
    show own_Ends _ _ _ _ _ _ _ T59 (mkF m 127 #[.val (.int p0), .val (.int p1), .val (.int p2), .val (.int p3), .val (.int p4), .val (.int (1 : Int32)), .val (.ref bq), .unset, .unset] [(.ref bp)])
    refine own_go (fun _ k => XS.astore X59.here hx rfl (hb hby at_127) rfl rfl (l' := #[.val (.int p0), .val (.int p1), .val (.int p2), .val (.int p3), .val (.int p4), .val (.int (1 : Int32)), .val (.ref bq), .val (.ref bp), .unset]) rfl k) ?_
    show own_Ends _ _ _ _ _ _ _ T59 (mkF m 129 #[.val (.int p0), .val (.int p1), .val (.int p2), .val (.int p3), .val (.int p4), .val (.int (1 : Int32)), .val (.ref bq), .val (.ref bp), .unset] [])
    refine own_go (fun _ k => XS.iload X59.here hx rfl (hb hby at_129) rfl k) ?_
    show own_Ends _ _ _ _ _ _ _ T59 (mkF m 131 #[.val (.int p0), .val (.int p1), .val (.int p2), .val (.int p3), .val (.int p4), .val (.int (1 : Int32)), .val (.ref bq), .val (.ref bp), .unset] [(.int (1 : Int32))])
    refine own_go (fun _ k => XS.ifNo X59.here hx rfl (hb hby at_131) rfl ((if0 _ _).trans (tlt (by decide)).2.2.2) k) ?_
    show own_Ends _ _ _ _ _ _ _ T59 (mkF m 134 #[.val (.int p0), .val (.int p1), .val (.int p2), .val (.int p3), .val (.int p4), .val (.int (1 : Int32)), .val (.ref bq), .val (.ref bp), .unset] [])
    refine own_go (fun _ k => XS.aload X59.here hx rfl (hb hby at_134) rfl rfl k) ?_
    show own_Ends _ _ _ _ _ _ _ T59 (mkF m 136 #[.val (.int p0), .val (.int p1), .val (.int p2), .val (.int p3), .val (.int p4), .val (.int (1 : Int32)), .val (.ref bq), .val (.ref bp), .unset] [(.ref bp)])
    refine own_go (fun _ k => XS.iconst X59.here hx rfl (hb hby at_136) k) ?_
    show own_Ends _ _ _ _ _ _ _ T59 (mkF m 137 #[.val (.int p0), .val (.int p1), .val (.int p2), .val (.int p3), .val (.int p4), .val (.int (1 : Int32)), .val (.ref bq), .val (.ref bp), .unset] [(.int (0 : Int32)), (.ref bp)])
    refine own_go (fun _ k => XS.aload X59.here hx rfl (hb hby at_137) rfl rfl k) ?_
    show own_Ends _ _ _ _ _ _ _ T59 (mkF m 139 #[.val (.int p0), .val (.int p1), .val (.int p2), .val (.int p3), .val (.int p4), .val (.int (1 : Int32)), .val (.ref bq), .val (.ref bp), .unset] [(.ref bq), (.int (0 : Int32)), (.ref bp)])
    refine own_go (fun _ k => XS.iconst X59.here hx rfl (hb hby at_139) k) ?_
    show own_Ends _ _ _ _ _ _ _ T59 (mkF m 140 #[.val (.int p0), .val (.int p1), .val (.int p2), .val (.int p3), .val (.int p4), .val (.int (1 : Int32)), .val (.ref bq), .val (.ref bp), .unset] [(.int (0 : Int32)), (.ref bq), (.int (0 : Int32)), (.ref bp)])
    refine own_go (fun _ k => own_ldB X59 hx hZ e59 V_bq_59 (i := 0) (v := (.int (b 0))) (by decide) (by decide) (by decide) rfl (g := (mkF m 140 #[.val (.int p0), .val (.int p1), .val (.int p2), .val (.int p3), .val (.int p4), .val (.int (1 : Int32)), .val (.ref bq), .val (.ref bp), .unset] [(.int (0 : Int32)), (.ref bq), (.int (0 : Int32)), (.ref bp)])) rfl rfl (hb hby at_140) _ k) ?_
    show own_Ends _ _ _ _ _ _ _ T59 (mkF m 141 #[.val (.int p0), .val (.int p1), .val (.int p2), .val (.int p3), .val (.int p4), .val (.int (1 : Int32)), .val (.ref bq), .val (.ref bp), .unset] [(.int (b 0)), (.int (0 : Int32)), (.ref bp)])
    obtain ⟨T60, h60, X60, e60, W60, V60, st60⟩ := own_stB X59 hx hZ e59 V_bp (i := 0) (by decide) (by decide) (by decide) (g := (mkF m 141 #[.val (.int p0), .val (.int p1), .val (.int p2), .val (.int p3), .val (.int p4), .val (.int (1 : Int32)), .val (.ref bq), .val (.ref bp), .unset] [(.int (b 0)), (.int (0 : Int32)), (.ref bp)])) rfl rfl (hb hby at_141)
    have N60 := Fr.snoc X60 N49 g_bp
    have K_60 := K_59.wr W60 (Or.inr sz_bp)
    have V_bq_60 := V_bq_59.other W60 ne_bq_bp
    refine own_go st60 ?_
    show own_Ends _ _ _ _ _ _ _ T60 (mkF m 142 #[.val (.int p0), .val (.int p1), .val (.int p2), .val (.int p3), .val (.int p4), .val (.int (1 : Int32)), .val (.ref bq), .val (.ref bp), .unset] [])
    refine own_go (fun _ k => XS.iload X60.here hx rfl (hb hby at_142) rfl k) ?_
    show own_Ends _ _ _ _ _ _ _ T60 (mkF m 144 #[.val (.int p0), .val (.int p1), .val (.int p2), .val (.int p3), .val (.int p4), .val (.int (1 : Int32)), .val (.ref bq), .val (.ref bp), .unset] [(.int (1 : Int32))])
    refine own_go (fun _ k => XS.iconst X60.here hx rfl (hb hby at_144) k) ?_
    show own_Ends _ _ _ _ _ _ _ T60 (mkF m 145 #[.val (.int p0), .val (.int p1), .val (.int p2), .val (.int p3), .val (.int p4), .val (.int (1 : Int32)), .val (.ref bq), .val (.ref bp), .unset] [(.int (1 : Int32)), (.int (1 : Int32))])
    refine own_go (fun _ k => XS.icmpYes X60.here hx rfl (pc0 := 145) (pc' := 156) rfl (hb hby at_145) rfl (flt (by decide)).2.2.2 (by decide) (by decide) k) ?_
    show own_Ends _ _ _ _ _ _ _ T60 (mkF m 156 #[.val (.int p0), .val (.int p1), .val (.int p2), .val (.int p3), .val (.int p4), .val (.int (1 : Int32)), .val (.ref bq), .val (.ref bp), .unset] [])
    refine own_go (fun _ k => XS.iload X60.here hx rfl (hb hby at_156) rfl k) ?_
    show own_Ends _ _ _ _ _ _ _ T60 (mkF m 158 #[.val (.int p0), .val (.int p1), .val (.int p2), .val (.int p3), .val (.int p4), .val (.int (1 : Int32)), .val (.ref bq), .val (.ref bp), .unset] [(.int (1 : Int32))])
    refine own_go (fun _ k => XS.iconst X60.here hx rfl (hb hby at_158) k) ?_
    show own_Ends _ _ _ _ _ _ _ T60 (mkF m 159 #[.val (.int p0), .val (.int p1), .val (.int p2), .val (.int p3), .val (.int p4), .val (.int (1 : Int32)), .val (.ref bq), .val (.ref bp), .unset] [(.int (2 : Int32)), (.int (1 : Int32))])
    refine own_go (fun _ k => XS.icmpYes X60.here hx rfl (pc0 := 159) (pc' := 170) rfl (hb hby at_159) rfl (flt (by decide)).2.2.2 (by decide) (by decide) k) ?_
    show own_Ends _ _ _ _ _ _ _ T60 (mkF m 170 #[.val (.int p0), .val (.int p1), .val (.int p2), .val (.int p3), .val (.int p4), .val (.int (1 : Int32)), .val (.ref bq), .val (.ref bp), .unset] [])
    refine own_go (fun _ k => XS.iload X60.here hx rfl (hb hby at_170) rfl k) ?_
    show own_Ends _ _ _ _ _ _ _ T60 (mkF m 172 #[.val (.int p0), .val (.int p1), .val (.int p2), .val (.int p3), .val (.int p4), .val (.int (1 : Int32)), .val (.ref bq), .val (.ref bp), .unset] [(.int (1 : Int32))])
    refine own_go (fun _ k => XS.iconst X60.here hx rfl (hb hby at_172) k) ?_
    show own_Ends _ _ _ _ _ _ _ T60 (mkF m 173 #[.val (.int p0), .val (.int p1), .val (.int p2), .val (.int p3), .val (.int p4), .val (.int (1 : Int32)), .val (.ref bq), .val (.ref bp), .unset] [(.int (3 : Int32)), (.int (1 : Int32))])
    refine own_go (fun _ k => XS.icmpYes X60.here hx rfl (pc0 := 173) (pc' := 184) rfl (hb hby at_173) rfl (flt (by decide)).2.2.2 (by decide) (by decide) k) ?_
    show own_Ends _ _ _ _ _ _ _ T60 (mkF m 184 #[.val (.int p0), .val (.int p1), .val (.int p2), .val (.int p3), .val (.int p4), .val (.int (1 : Int32)), .val (.ref bq), .val (.ref bp), .unset] [])
    refine own_go (fun _ k => XS.iload X60.here hx rfl (hb hby at_184) rfl k) ?_
    show own_Ends _ _ _ _ _ _ _ T60 (mkF m 186 #[.val (.int p0), .val (.int p1), .val (.int p2), .val (.int p3), .val (.int p4), .val (.int (1 : Int32)), .val (.ref bq), .val (.ref bp), .unset] [(.int (1 : Int32))])
    refine own_go (fun _ k => XS.iconst X60.here hx rfl (hb hby at_186) k) ?_
    show own_Ends _ _ _ _ _ _ _ T60 (mkF m 187 #[.val (.int p0), .val (.int p1), .val (.int p2), .val (.int p3), .val (.int p4), .val (.int (1 : Int32)), .val (.ref bq), .val (.ref bp), .unset] [(.int (4 : Int32)), (.int (1 : Int32))])
    refine own_go (fun _ k => XS.icmpYes X60.here hx rfl (pc0 := 187) (pc' := 198) rfl (hb hby at_187) rfl (flt (by decide)).2.2.2 (by decide) (by decide) k) ?_
    show own_Ends _ _ _ _ _ _ _ T60 (mkF m 198 #[.val (.int p0), .val (.int p1), .val (.int p2), .val (.int p3), .val (.int p4), .val (.int (1 : Int32)), .val (.ref bq), .val (.ref bp), .unset] [])
    refine own_go (fun _ k => XS.iload X60.here hx rfl (hb hby at_198) rfl k) ?_
    show own_Ends _ _ _ _ _ _ _ T60 (mkF m 200 #[.val (.int p0), .val (.int p1), .val (.int p2), .val (.int p3), .val (.int p4), .val (.int (1 : Int32)), .val (.ref bq), .val (.ref bp), .unset] [(.int (1 : Int32))])
    refine own_go (fun _ k => XS.iconst X60.here hx rfl (hb hby at_200) k) ?_
    show own_Ends _ _ _ _ _ _ _ T60 (mkF m 201 #[.val (.int p0), .val (.int p1), .val (.int p2), .val (.int p3), .val (.int p4), .val (.int (1 : Int32)), .val (.ref bq), .val (.ref bp), .unset] [(.int (5 : Int32)), (.int (1 : Int32))])
    refine own_go (fun _ k => XS.icmpYes X60.here hx rfl (pc0 := 201) (pc' := 212) rfl (hb hby at_201) rfl (flt (by decide)).2.2.2 (by decide) (by decide) k) ?_
    show own_Ends _ _ _ _ _ _ _ T60 (mkF m 212 #[.val (.int p0), .val (.int p1), .val (.int p2), .val (.int p3), .val (.int p4), .val (.int (1 : Int32)), .val (.ref bq), .val (.ref bp), .unset] [])
    refine own_go (fun _ k => XS.iload X60.here hx rfl (hb hby at_212) rfl k) ?_
    show own_Ends _ _ _ _ _ _ _ T60 (mkF m 214 #[.val (.int p0), .val (.int p1), .val (.int p2), .val (.int p3), .val (.int p4), .val (.int (1 : Int32)), .val (.ref bq), .val (.ref bp), .unset] [(.int (1 : Int32))])
    refine own_go (fun _ k => XS.bipush X60.here hx rfl (hb hby at_214) k) ?_
    show own_Ends _ _ _ _ _ _ _ T60 (mkF m 216 #[.val (.int p0), .val (.int p1), .val (.int p2), .val (.int p3), .val (.int p4), .val (.int (1 : Int32)), .val (.ref bq), .val (.ref bp), .unset] [(.int (6 : Int32)), (.int (1 : Int32))])
    refine own_go (fun _ k => XS.icmpYes X60.here hx rfl (pc0 := 216) (pc' := 229) rfl (hb hby at_216) rfl (flt (by decide)).2.2.2 (by decide) (by decide) k) ?_
    show own_Ends _ _ _ _ _ _ _ T60 (mkF m 229 #[.val (.int p0), .val (.int p1), .val (.int p2), .val (.int p3), .val (.int p4), .val (.int (1 : Int32)), .val (.ref bq), .val (.ref bp), .unset] [])
    refine own_go (fun _ k => XS.aload X60.here hx rfl (hb hby at_229) rfl rfl k) ?_
    show own_Ends _ _ _ _ _ _ _ T60 (mkF m 231 #[.val (.int p0), .val (.int p1), .val (.int p2), .val (.int p3), .val (.int p4), .val (.int (1 : Int32)), .val (.ref bq), .val (.ref bp), .unset] [(.ref bp)])
    have Vp : own_Ar Z h60 bp k59 .byte 1 (fun j => .int (b j)) := V60.cong (fun j hj => by
      have seg : j = 0 := by omega
      rcases seg with rfl
      · exact congrArg Value.int (hbn 0 (by decide)))
    obtain ⟨v61, T61, L61, X61, hQ61, st61⟩ := own_callS X60 hx hZ hown (hw _ (List.mem_of_getElem? (i := 5) rfl)) (hw _ (List.mem_of_getElem? (i := 6) rfl)) (hw _ (List.mem_of_getElem? (i := 7) rfl)) (hw _ (List.mem_of_getElem? (i := 8) rfl)) (rm2 l Z a0 hw bp h60 h0.size 1 k59 b K_60.1 Vp (by decide)) e60 (g := (mkF m 231 #[.val (.int p0), .val (.int p1), .val (.int p2), .val (.int p3), .val (.int p4), .val (.int (1 : Int32)), .val (.ref bq), .val (.ref bp), .unset] [(.ref bp)])) rfl (by rw [hml]; rfl) (argsL := [(.ref bp)]) (rest := []) (lenOf pd_4 rfl) rfl rfl (W := 0) (by show 2 * 0 + _ ≤ _; exact Nat.le_of_eq rfl) (hb hby at_231) (by decide) (by decide) (by decide) (by decide) (by decide)
    obtain ⟨t, kt, g, rfl, N61q, K61, V61, s61, hG61⟩ := hQ61
    refine own_go st61 ?_
    have N61 := Fr.app N60 N61q
    have K_61 := K_60.trans K61 all0
    have V_bq_61 := V_bq_60.keep K61 nin0
    have V_bp_61 := Vp.keep K61 nin0
    show own_Ends _ _ _ _ _ _ _ T61 (mkF m 234 #[.val (.int p0), .val (.int p1), .val (.int p2), .val (.int p3), .val (.int p4), .val (.int (1 : Int32)), .val (.ref bq), .val (.ref bp), .unset] [(.ref t)])
    refine own_go (fun _ k => XS.astore X61.here hx rfl (hb hby at_234) rfl rfl (l' := #[.val (.int p0), .val (.int p1), .val (.int p2), .val (.int p3), .val (.int p4), .val (.int (1 : Int32)), .val (.ref bq), .val (.ref bp), .val (.ref t)]) rfl k) ?_
    show own_Ends _ _ _ _ _ _ _ T61 (mkF m 236 #[.val (.int p0), .val (.int p1), .val (.int p2), .val (.int p3), .val (.int p4), .val (.int (1 : Int32)), .val (.ref bq), .val (.ref bp), .val (.ref t)] [])
    refine own_go (fun _ k => XS.aload X61.here hx rfl (hb hby at_236) rfl rfl k) ?_
    show own_Ends _ _ _ _ _ _ _ T61 (mkF m 238 #[.val (.int p0), .val (.int p1), .val (.int p2), .val (.int p3), .val (.int p4), .val (.int (1 : Int32)), .val (.ref bq), .val (.ref bp), .val (.ref t)] [(.ref t)])
    refine own_go (fun _ k => XS.ifnullNo X61.here hx rfl (hb hby at_238) rfl k) ?_
    show own_Ends _ _ _ _ _ _ _ T61 (mkF m 241 #[.val (.int p0), .val (.int p1), .val (.int p2), .val (.int p3), .val (.int p4), .val (.int (1 : Int32)), .val (.ref bq), .val (.ref bp), .val (.ref t)] [])
    refine own_go (fun _ k => XS.aload X61.here hx rfl (hb hby at_241) rfl rfl k) ?_
    show own_Ends _ _ _ _ _ _ _ T61 (mkF m 243 #[.val (.int p0), .val (.int p1), .val (.int p2), .val (.int p3), .val (.int p4), .val (.int (1 : Int32)), .val (.ref bq), .val (.ref bp), .val (.ref t)] [(.ref t)])
    refine own_go (fun _ k => own_len X61 hx hZ rfl V61 (z := (1 : Int32)) rfl (g := (mkF m 243 #[.val (.int p0), .val (.int p1), .val (.int p2), .val (.int p3), .val (.int p4), .val (.int (1 : Int32)), .val (.ref bq), .val (.ref bp), .val (.ref t)] [(.ref t)])) rfl rfl (hb hby at_243) _ k) ?_
    show own_Ends _ _ _ _ _ _ _ T61 (mkF m 244 #[.val (.int p0), .val (.int p1), .val (.int p2), .val (.int p3), .val (.int p4), .val (.int (1 : Int32)), .val (.ref bq), .val (.ref bp), .val (.ref t)] [(.int (1 : Int32))])
    refine own_go (fun _ k => XS.iload X61.here hx rfl (hb hby at_244) rfl k) ?_
    show own_Ends _ _ _ _ _ _ _ T61 (mkF m 246 #[.val (.int p0), .val (.int p1), .val (.int p2), .val (.int p3), .val (.int p4), .val (.int (1 : Int32)), .val (.ref bq), .val (.ref bp), .val (.ref t)] [(.int (1 : Int32)), (.int (1 : Int32))])
    refine own_go (fun _ k => XS.icmpYes X61.here hx rfl (pc0 := 246) (pc' := 251) rfl (hb hby at_246) rfl (teq (rfl)).1 (by decide) (by decide) k) ?_
    show own_Ends _ _ _ _ _ _ _ T61 (mkF m 251 #[.val (.int p0), .val (.int p1), .val (.int p2), .val (.int p3), .val (.int p4), .val (.int (1 : Int32)), .val (.ref bq), .val (.ref bp), .val (.ref t)] [])
    refine own_go (fun _ k => XS.aload X61.here hx rfl (hb hby at_251) rfl rfl k) ?_
    show own_Ends _ _ _ _ _ _ _ T61 (mkF m 253 #[.val (.int p0), .val (.int p1), .val (.int p2), .val (.int p3), .val (.int p4), .val (.int (1 : Int32)), .val (.ref bq), .val (.ref bp), .val (.ref t)] [(.ref t)])
    refine own_go (fun _ k => XS.aload X61.here hx rfl (hb hby at_253) rfl rfl k) ?_
    show own_Ends _ _ _ _ _ _ _ T61 (mkF m 255 #[.val (.int p0), .val (.int p1), .val (.int p2), .val (.int p3), .val (.int p4), .val (.int (1 : Int32)), .val (.ref bq), .val (.ref bp), .val (.ref t)] [(.ref bp), (.ref t)])
    refine own_go (fun _ k => XS.aload X61.here hx rfl (hb hby at_255) rfl rfl k) ?_
    show own_Ends _ _ _ _ _ _ _ T61 (mkF m 257 #[.val (.int p0), .val (.int p1), .val (.int p2), .val (.int p3), .val (.int p4), .val (.int (1 : Int32)), .val (.ref bq), .val (.ref bp), .val (.ref t)] [(.ref bq), (.ref bp), (.ref t)])
    refine own_go (fun _ k => XS.iload X61.here hx rfl (hb hby at_257) rfl k) ?_
    show own_Ends _ _ _ _ _ _ _ T61 (mkF m 259 #[.val (.int p0), .val (.int p1), .val (.int p2), .val (.int p3), .val (.int p4), .val (.int (1 : Int32)), .val (.ref bq), .val (.ref bp), .val (.ref t)] [(.int (1 : Int32)), (.ref bq), (.ref bp), (.ref t)])
    refine own_go (fun _ k => XS.iconst X61.here hx rfl (hb hby at_259) k) ?_
    show own_Ends _ _ _ _ _ _ _ T61 (mkF m 260 #[.val (.int p0), .val (.int p1), .val (.int p2), .val (.int p3), .val (.int p4), .val (.int (1 : Int32)), .val (.ref bq), .val (.ref bp), .val (.ref t)] [(.int (0 : Int32)), (.int (1 : Int32)), (.ref bq), (.ref bp), (.ref t)])
    obtain ⟨q0, g0, hB0⟩ := hG61 0 (by decide)
    obtain ⟨v62, T62, L62, X62, hQ62, st62⟩ := own_callS X61 hx hZ hown (hw _ (List.mem_of_getElem? (i := 17) rfl)) (hw _ (List.mem_of_getElem? (i := 18) rfl)) (hw _ (List.mem_of_getElem? (i := 3) rfl)) (hw _ (List.mem_of_getElem? (i := 19) rfl)) (rm4_0 l Z a0 hw t bp bq (1 : Int32) (0 : Int32) T61.heap 1 kt k59 k35 g b q0 V61 V_bp_61 V_bq_61 (by decide) (by decide) g0 hB0 rfl) rfl (g := (mkF m 260 #[.val (.int p0), .val (.int p1), .val (.int p2), .val (.int p3), .val (.int p4), .val (.int (1 : Int32)), .val (.ref bq), .val (.ref bp), .val (.ref t)] [(.int (0 : Int32)), (.int (1 : Int32)), (.ref bq), (.ref bp), (.ref t)])) rfl (by rw [hml]; rfl) (argsL := [(.ref t), (.ref bp), (.ref bq), (.int (1 : Int32)), (.int (0 : Int32))]) (rest := []) (lenOf pd_5 rfl) rfl rfl (W := 0) (by show 2 * 0 + _ ≤ _; exact Nat.le_of_eq rfl) (hb hby at_260) (by decide) (by decide) (by decide) (by decide) (by decide)
    obtain ⟨rfl, rfl, e62⟩ := hQ62
    refine own_go st62 ?_
    have N62 := Fr.app N61 (Fr.nil _)
    show own_Ends _ _ _ _ _ _ _ T62 (mkF m 263 #[.val (.int p0), .val (.int p1), .val (.int p2), .val (.int p3), .val (.int p4), .val (.int (1 : Int32)), .val (.ref bq), .val (.ref bp), .val (.ref t)] [(.int (1 : Int32))])
    refine own_go (fun _ k => XS.ifNo X62.here hx rfl (hb hby at_263) rfl ((if0 _ _).trans (feq (by decide)).1) k) ?_
    show own_Ends _ _ _ _ _ _ _ T62 (mkF m 266 #[.val (.int p0), .val (.int p1), .val (.int p2), .val (.int p3), .val (.int p4), .val (.int (1 : Int32)), .val (.ref bq), .val (.ref bp), .val (.ref t)] [])
    refine own_go (fun _ k => XS.aload X62.here hx rfl (hb hby at_266) rfl rfl k) ?_
    show own_Ends _ _ _ _ _ _ _ T62 (mkF m 268 #[.val (.int p0), .val (.int p1), .val (.int p2), .val (.int p3), .val (.int p4), .val (.int (1 : Int32)), .val (.ref bq), .val (.ref bp), .val (.ref t)] [(.ref t)])
    refine own_go (fun _ k => XS.aload X62.here hx rfl (hb hby at_268) rfl rfl k) ?_
    show own_Ends _ _ _ _ _ _ _ T62 (mkF m 270 #[.val (.int p0), .val (.int p1), .val (.int p2), .val (.int p3), .val (.int p4), .val (.int (1 : Int32)), .val (.ref bq), .val (.ref bp), .val (.ref t)] [(.ref bp), (.ref t)])
    refine own_go (fun _ k => XS.aload X62.here hx rfl (hb hby at_270) rfl rfl k) ?_
    show own_Ends _ _ _ _ _ _ _ T62 (mkF m 272 #[.val (.int p0), .val (.int p1), .val (.int p2), .val (.int p3), .val (.int p4), .val (.int (1 : Int32)), .val (.ref bq), .val (.ref bp), .val (.ref t)] [(.ref bq), (.ref bp), (.ref t)])
    refine own_go (fun _ k => XS.iload X62.here hx rfl (hb hby at_272) rfl k) ?_
    show own_Ends _ _ _ _ _ _ _ T62 (mkF m 274 #[.val (.int p0), .val (.int p1), .val (.int p2), .val (.int p3), .val (.int p4), .val (.int (1 : Int32)), .val (.ref bq), .val (.ref bp), .val (.ref t)] [(.int (1 : Int32)), (.ref bq), (.ref bp), (.ref t)])
    refine own_go (fun _ k => XS.iconst X62.here hx rfl (hb hby at_274) k) ?_
    show own_Ends _ _ _ _ _ _ _ T62 (mkF m 275 #[.val (.int p0), .val (.int p1), .val (.int p2), .val (.int p3), .val (.int p4), .val (.int (1 : Int32)), .val (.ref bq), .val (.ref bp), .val (.ref t)] [(.int (1 : Int32)), (.int (1 : Int32)), (.ref bq), (.ref bp), (.ref t)])
    obtain ⟨v63, T63, L63, X63, hQ63, st63⟩ := own_callS X62 hx hZ hown (hw _ (List.mem_of_getElem? (i := 17) rfl)) (hw _ (List.mem_of_getElem? (i := 18) rfl)) (hw _ (List.mem_of_getElem? (i := 3) rfl)) (hw _ (List.mem_of_getElem? (i := 19) rfl)) (rm4_hi l Z a0 hw t bp bq (1 : Int32) (1 : Int32) T61.heap (by decide)) e62 (g := (mkF m 275 #[.val (.int p0), .val (.int p1), .val (.int p2), .val (.int p3), .val (.int p4), .val (.int (1 : Int32)), .val (.ref bq), .val (.ref bp), .val (.ref t)] [(.int (1 : Int32)), (.int (1 : Int32)), (.ref bq), (.ref bp), (.ref t)])) rfl (by rw [hml]; rfl) (argsL := [(.ref t), (.ref bp), (.ref bq), (.int (1 : Int32)), (.int (1 : Int32))]) (rest := []) (lenOf pd_5 rfl) rfl rfl (W := 0) (by show 2 * 0 + _ ≤ _; exact Nat.le_of_eq rfl) (hb hby at_275) (by decide) (by decide) (by decide) (by decide) (by decide)
    obtain ⟨rfl, rfl, e63⟩ := hQ63
    refine own_go st63 ?_
    have N63 := Fr.app N62 (Fr.nil _)
    show own_Ends _ _ _ _ _ _ _ T63 (mkF m 278 #[.val (.int p0), .val (.int p1), .val (.int p2), .val (.int p3), .val (.int p4), .val (.int (1 : Int32)), .val (.ref bq), .val (.ref bp), .val (.ref t)] [(.int (1 : Int32))])
    refine own_go (fun _ k => XS.ifNo X63.here hx rfl (hb hby at_278) rfl ((if0 _ _).trans (feq (by decide)).1) k) ?_
    show own_Ends _ _ _ _ _ _ _ T63 (mkF m 281 #[.val (.int p0), .val (.int p1), .val (.int p2), .val (.int p3), .val (.int p4), .val (.int (1 : Int32)), .val (.ref bq), .val (.ref bp), .val (.ref t)] [])
    refine own_go (fun _ k => XS.aload X63.here hx rfl (hb hby at_281) rfl rfl k) ?_
    show own_Ends _ _ _ _ _ _ _ T63 (mkF m 283 #[.val (.int p0), .val (.int p1), .val (.int p2), .val (.int p3), .val (.int p4), .val (.int (1 : Int32)), .val (.ref bq), .val (.ref bp), .val (.ref t)] [(.ref t)])
    refine own_go (fun _ k => XS.aload X63.here hx rfl (hb hby at_283) rfl rfl k) ?_
    show own_Ends _ _ _ _ _ _ _ T63 (mkF m 285 #[.val (.int p0), .val (.int p1), .val (.int p2), .val (.int p3), .val (.int p4), .val (.int (1 : Int32)), .val (.ref bq), .val (.ref bp), .val (.ref t)] [(.ref bp), (.ref t)])
    refine own_go (fun _ k => XS.aload X63.here hx rfl (hb hby at_285) rfl rfl k) ?_
    show own_Ends _ _ _ _ _ _ _ T63 (mkF m 287 #[.val (.int p0), .val (.int p1), .val (.int p2), .val (.int p3), .val (.int p4), .val (.int (1 : Int32)), .val (.ref bq), .val (.ref bp), .val (.ref t)] [(.ref bq), (.ref bp), (.ref t)])
    refine own_go (fun _ k => XS.iload X63.here hx rfl (hb hby at_287) rfl k) ?_
    show own_Ends _ _ _ _ _ _ _ T63 (mkF m 289 #[.val (.int p0), .val (.int p1), .val (.int p2), .val (.int p3), .val (.int p4), .val (.int (1 : Int32)), .val (.ref bq), .val (.ref bp), .val (.ref t)] [(.int (1 : Int32)), (.ref bq), (.ref bp), (.ref t)])
    refine own_go (fun _ k => XS.iconst X63.here hx rfl (hb hby at_289) k) ?_
    show own_Ends _ _ _ _ _ _ _ T63 (mkF m 290 #[.val (.int p0), .val (.int p1), .val (.int p2), .val (.int p3), .val (.int p4), .val (.int (1 : Int32)), .val (.ref bq), .val (.ref bp), .val (.ref t)] [(.int (2 : Int32)), (.int (1 : Int32)), (.ref bq), (.ref bp), (.ref t)])
    obtain ⟨v64, T64, L64, X64, hQ64, st64⟩ := own_callS X63 hx hZ hown (hw _ (List.mem_of_getElem? (i := 17) rfl)) (hw _ (List.mem_of_getElem? (i := 18) rfl)) (hw _ (List.mem_of_getElem? (i := 3) rfl)) (hw _ (List.mem_of_getElem? (i := 19) rfl)) (rm4_hi l Z a0 hw t bp bq (1 : Int32) (2 : Int32) T61.heap (by decide)) e63 (g := (mkF m 290 #[.val (.int p0), .val (.int p1), .val (.int p2), .val (.int p3), .val (.int p4), .val (.int (1 : Int32)), .val (.ref bq), .val (.ref bp), .val (.ref t)] [(.int (2 : Int32)), (.int (1 : Int32)), (.ref bq), (.ref bp), (.ref t)])) rfl (by rw [hml]; rfl) (argsL := [(.ref t), (.ref bp), (.ref bq), (.int (1 : Int32)), (.int (2 : Int32))]) (rest := []) (lenOf pd_5 rfl) rfl rfl (W := 0) (by show 2 * 0 + _ ≤ _; exact Nat.le_of_eq rfl) (hb hby at_290) (by decide) (by decide) (by decide) (by decide) (by decide)
    obtain ⟨rfl, rfl, e64⟩ := hQ64
    refine own_go st64 ?_
    have N64 := Fr.app N63 (Fr.nil _)
    show own_Ends _ _ _ _ _ _ _ T64 (mkF m 293 #[.val (.int p0), .val (.int p1), .val (.int p2), .val (.int p3), .val (.int p4), .val (.int (1 : Int32)), .val (.ref bq), .val (.ref bp), .val (.ref t)] [(.int (1 : Int32))])
    refine own_go (fun _ k => XS.ifNo X64.here hx rfl (hb hby at_293) rfl ((if0 _ _).trans (feq (by decide)).1) k) ?_
    show own_Ends _ _ _ _ _ _ _ T64 (mkF m 296 #[.val (.int p0), .val (.int p1), .val (.int p2), .val (.int p3), .val (.int p4), .val (.int (1 : Int32)), .val (.ref bq), .val (.ref bp), .val (.ref t)] [])
    refine own_go (fun _ k => XS.aload X64.here hx rfl (hb hby at_296) rfl rfl k) ?_
    show own_Ends _ _ _ _ _ _ _ T64 (mkF m 298 #[.val (.int p0), .val (.int p1), .val (.int p2), .val (.int p3), .val (.int p4), .val (.int (1 : Int32)), .val (.ref bq), .val (.ref bp), .val (.ref t)] [(.ref t)])
    refine own_go (fun _ k => XS.aload X64.here hx rfl (hb hby at_298) rfl rfl k) ?_
    show own_Ends _ _ _ _ _ _ _ T64 (mkF m 300 #[.val (.int p0), .val (.int p1), .val (.int p2), .val (.int p3), .val (.int p4), .val (.int (1 : Int32)), .val (.ref bq), .val (.ref bp), .val (.ref t)] [(.ref bp), (.ref t)])
    refine own_go (fun _ k => XS.aload X64.here hx rfl (hb hby at_300) rfl rfl k) ?_
    show own_Ends _ _ _ _ _ _ _ T64 (mkF m 302 #[.val (.int p0), .val (.int p1), .val (.int p2), .val (.int p3), .val (.int p4), .val (.int (1 : Int32)), .val (.ref bq), .val (.ref bp), .val (.ref t)] [(.ref bq), (.ref bp), (.ref t)])
    refine own_go (fun _ k => XS.iload X64.here hx rfl (hb hby at_302) rfl k) ?_
    show own_Ends _ _ _ _ _ _ _ T64 (mkF m 304 #[.val (.int p0), .val (.int p1), .val (.int p2), .val (.int p3), .val (.int p4), .val (.int (1 : Int32)), .val (.ref bq), .val (.ref bp), .val (.ref t)] [(.int (1 : Int32)), (.ref bq), (.ref bp), (.ref t)])
    refine own_go (fun _ k => XS.iconst X64.here hx rfl (hb hby at_304) k) ?_
    show own_Ends _ _ _ _ _ _ _ T64 (mkF m 305 #[.val (.int p0), .val (.int p1), .val (.int p2), .val (.int p3), .val (.int p4), .val (.int (1 : Int32)), .val (.ref bq), .val (.ref bp), .val (.ref t)] [(.int (3 : Int32)), (.int (1 : Int32)), (.ref bq), (.ref bp), (.ref t)])
    obtain ⟨v65, T65, L65, X65, hQ65, st65⟩ := own_callS X64 hx hZ hown (hw _ (List.mem_of_getElem? (i := 17) rfl)) (hw _ (List.mem_of_getElem? (i := 18) rfl)) (hw _ (List.mem_of_getElem? (i := 3) rfl)) (hw _ (List.mem_of_getElem? (i := 19) rfl)) (rm4_hi l Z a0 hw t bp bq (1 : Int32) (3 : Int32) T61.heap (by decide)) e64 (g := (mkF m 305 #[.val (.int p0), .val (.int p1), .val (.int p2), .val (.int p3), .val (.int p4), .val (.int (1 : Int32)), .val (.ref bq), .val (.ref bp), .val (.ref t)] [(.int (3 : Int32)), (.int (1 : Int32)), (.ref bq), (.ref bp), (.ref t)])) rfl (by rw [hml]; rfl) (argsL := [(.ref t), (.ref bp), (.ref bq), (.int (1 : Int32)), (.int (3 : Int32))]) (rest := []) (lenOf pd_5 rfl) rfl rfl (W := 0) (by show 2 * 0 + _ ≤ _; exact Nat.le_of_eq rfl) (hb hby at_305) (by decide) (by decide) (by decide) (by decide) (by decide)
    obtain ⟨rfl, rfl, e65⟩ := hQ65
    refine own_go st65 ?_
    have N65 := Fr.app N64 (Fr.nil _)
    show own_Ends _ _ _ _ _ _ _ T65 (mkF m 308 #[.val (.int p0), .val (.int p1), .val (.int p2), .val (.int p3), .val (.int p4), .val (.int (1 : Int32)), .val (.ref bq), .val (.ref bp), .val (.ref t)] [(.int (1 : Int32))])
    refine own_go (fun _ k => XS.ifNo X65.here hx rfl (hb hby at_308) rfl ((if0 _ _).trans (feq (by decide)).1) k) ?_
    show own_Ends _ _ _ _ _ _ _ T65 (mkF m 311 #[.val (.int p0), .val (.int p1), .val (.int p2), .val (.int p3), .val (.int p4), .val (.int (1 : Int32)), .val (.ref bq), .val (.ref bp), .val (.ref t)] [])
    refine own_go (fun _ k => XS.aload X65.here hx rfl (hb hby at_311) rfl rfl k) ?_
    show own_Ends _ _ _ _ _ _ _ T65 (mkF m 313 #[.val (.int p0), .val (.int p1), .val (.int p2), .val (.int p3), .val (.int p4), .val (.int (1 : Int32)), .val (.ref bq), .val (.ref bp), .val (.ref t)] [(.ref t)])
    refine own_go (fun _ k => XS.aload X65.here hx rfl (hb hby at_313) rfl rfl k) ?_
    show own_Ends _ _ _ _ _ _ _ T65 (mkF m 315 #[.val (.int p0), .val (.int p1), .val (.int p2), .val (.int p3), .val (.int p4), .val (.int (1 : Int32)), .val (.ref bq), .val (.ref bp), .val (.ref t)] [(.ref bp), (.ref t)])
    refine own_go (fun _ k => XS.aload X65.here hx rfl (hb hby at_315) rfl rfl k) ?_
    show own_Ends _ _ _ _ _ _ _ T65 (mkF m 317 #[.val (.int p0), .val (.int p1), .val (.int p2), .val (.int p3), .val (.int p4), .val (.int (1 : Int32)), .val (.ref bq), .val (.ref bp), .val (.ref t)] [(.ref bq), (.ref bp), (.ref t)])
    refine own_go (fun _ k => XS.iload X65.here hx rfl (hb hby at_317) rfl k) ?_
    show own_Ends _ _ _ _ _ _ _ T65 (mkF m 319 #[.val (.int p0), .val (.int p1), .val (.int p2), .val (.int p3), .val (.int p4), .val (.int (1 : Int32)), .val (.ref bq), .val (.ref bp), .val (.ref t)] [(.int (1 : Int32)), (.ref bq), (.ref bp), (.ref t)])
    refine own_go (fun _ k => XS.iconst X65.here hx rfl (hb hby at_319) k) ?_
    show own_Ends _ _ _ _ _ _ _ T65 (mkF m 320 #[.val (.int p0), .val (.int p1), .val (.int p2), .val (.int p3), .val (.int p4), .val (.int (1 : Int32)), .val (.ref bq), .val (.ref bp), .val (.ref t)] [(.int (4 : Int32)), (.int (1 : Int32)), (.ref bq), (.ref bp), (.ref t)])
    obtain ⟨v66, T66, L66, X66, hQ66, st66⟩ := own_callS X65 hx hZ hown (hw _ (List.mem_of_getElem? (i := 17) rfl)) (hw _ (List.mem_of_getElem? (i := 18) rfl)) (hw _ (List.mem_of_getElem? (i := 3) rfl)) (hw _ (List.mem_of_getElem? (i := 19) rfl)) (rm4_hi l Z a0 hw t bp bq (1 : Int32) (4 : Int32) T61.heap (by decide)) e65 (g := (mkF m 320 #[.val (.int p0), .val (.int p1), .val (.int p2), .val (.int p3), .val (.int p4), .val (.int (1 : Int32)), .val (.ref bq), .val (.ref bp), .val (.ref t)] [(.int (4 : Int32)), (.int (1 : Int32)), (.ref bq), (.ref bp), (.ref t)])) rfl (by rw [hml]; rfl) (argsL := [(.ref t), (.ref bp), (.ref bq), (.int (1 : Int32)), (.int (4 : Int32))]) (rest := []) (lenOf pd_5 rfl) rfl rfl (W := 0) (by show 2 * 0 + _ ≤ _; exact Nat.le_of_eq rfl) (hb hby at_320) (by decide) (by decide) (by decide) (by decide) (by decide)
    obtain ⟨rfl, rfl, e66⟩ := hQ66
    refine own_go st66 ?_
    have N66 := Fr.app N65 (Fr.nil _)
    show own_Ends _ _ _ _ _ _ _ T66 (mkF m 323 #[.val (.int p0), .val (.int p1), .val (.int p2), .val (.int p3), .val (.int p4), .val (.int (1 : Int32)), .val (.ref bq), .val (.ref bp), .val (.ref t)] [(.int (1 : Int32))])
    refine own_go (fun _ k => XS.ifNo X66.here hx rfl (hb hby at_323) rfl ((if0 _ _).trans (feq (by decide)).1) k) ?_
    show own_Ends _ _ _ _ _ _ _ T66 (mkF m 326 #[.val (.int p0), .val (.int p1), .val (.int p2), .val (.int p3), .val (.int p4), .val (.int (1 : Int32)), .val (.ref bq), .val (.ref bp), .val (.ref t)] [])
    refine own_go (fun _ k => XS.aload X66.here hx rfl (hb hby at_326) rfl rfl k) ?_
    show own_Ends _ _ _ _ _ _ _ T66 (mkF m 328 #[.val (.int p0), .val (.int p1), .val (.int p2), .val (.int p3), .val (.int p4), .val (.int (1 : Int32)), .val (.ref bq), .val (.ref bp), .val (.ref t)] [(.ref t)])
    refine own_go (fun _ k => XS.aload X66.here hx rfl (hb hby at_328) rfl rfl k) ?_
    show own_Ends _ _ _ _ _ _ _ T66 (mkF m 330 #[.val (.int p0), .val (.int p1), .val (.int p2), .val (.int p3), .val (.int p4), .val (.int (1 : Int32)), .val (.ref bq), .val (.ref bp), .val (.ref t)] [(.ref bp), (.ref t)])
    refine own_go (fun _ k => XS.aload X66.here hx rfl (hb hby at_330) rfl rfl k) ?_
    show own_Ends _ _ _ _ _ _ _ T66 (mkF m 332 #[.val (.int p0), .val (.int p1), .val (.int p2), .val (.int p3), .val (.int p4), .val (.int (1 : Int32)), .val (.ref bq), .val (.ref bp), .val (.ref t)] [(.ref bq), (.ref bp), (.ref t)])
    refine own_go (fun _ k => XS.iload X66.here hx rfl (hb hby at_332) rfl k) ?_
    show own_Ends _ _ _ _ _ _ _ T66 (mkF m 334 #[.val (.int p0), .val (.int p1), .val (.int p2), .val (.int p3), .val (.int p4), .val (.int (1 : Int32)), .val (.ref bq), .val (.ref bp), .val (.ref t)] [(.int (1 : Int32)), (.ref bq), (.ref bp), (.ref t)])
    refine own_go (fun _ k => XS.iconst X66.here hx rfl (hb hby at_334) k) ?_
    show own_Ends _ _ _ _ _ _ _ T66 (mkF m 335 #[.val (.int p0), .val (.int p1), .val (.int p2), .val (.int p3), .val (.int p4), .val (.int (1 : Int32)), .val (.ref bq), .val (.ref bp), .val (.ref t)] [(.int (5 : Int32)), (.int (1 : Int32)), (.ref bq), (.ref bp), (.ref t)])
    obtain ⟨v67, T67, L67, X67, hQ67, st67⟩ := own_callS X66 hx hZ hown (hw _ (List.mem_of_getElem? (i := 17) rfl)) (hw _ (List.mem_of_getElem? (i := 18) rfl)) (hw _ (List.mem_of_getElem? (i := 3) rfl)) (hw _ (List.mem_of_getElem? (i := 19) rfl)) (rm4_hi l Z a0 hw t bp bq (1 : Int32) (5 : Int32) T61.heap (by decide)) e66 (g := (mkF m 335 #[.val (.int p0), .val (.int p1), .val (.int p2), .val (.int p3), .val (.int p4), .val (.int (1 : Int32)), .val (.ref bq), .val (.ref bp), .val (.ref t)] [(.int (5 : Int32)), (.int (1 : Int32)), (.ref bq), (.ref bp), (.ref t)])) rfl (by rw [hml]; rfl) (argsL := [(.ref t), (.ref bp), (.ref bq), (.int (1 : Int32)), (.int (5 : Int32))]) (rest := []) (lenOf pd_5 rfl) rfl rfl (W := 0) (by show 2 * 0 + _ ≤ _; exact Nat.le_of_eq rfl) (hb hby at_335) (by decide) (by decide) (by decide) (by decide) (by decide)
    obtain ⟨rfl, rfl, e67⟩ := hQ67
    refine own_go st67 ?_
    have N67 := Fr.app N66 (Fr.nil _)
    show own_Ends _ _ _ _ _ _ _ T67 (mkF m 338 #[.val (.int p0), .val (.int p1), .val (.int p2), .val (.int p3), .val (.int p4), .val (.int (1 : Int32)), .val (.ref bq), .val (.ref bp), .val (.ref t)] [(.int (1 : Int32))])
    refine own_go (fun _ k => XS.ifNo X67.here hx rfl (hb hby at_338) rfl ((if0 _ _).trans (feq (by decide)).1) k) ?_
    show own_Ends _ _ _ _ _ _ _ T67 (mkF m 341 #[.val (.int p0), .val (.int p1), .val (.int p2), .val (.int p3), .val (.int p4), .val (.int (1 : Int32)), .val (.ref bq), .val (.ref bp), .val (.ref t)] [])
    refine own_go (fun _ k => XS.aload X67.here hx rfl (hb hby at_341) rfl rfl k) ?_
    show own_Ends _ _ _ _ _ _ _ T67 (mkF m 343 #[.val (.int p0), .val (.int p1), .val (.int p2), .val (.int p3), .val (.int p4), .val (.int (1 : Int32)), .val (.ref bq), .val (.ref bp), .val (.ref t)] [(.ref t)])
    refine own_go (fun _ k => XS.aload X67.here hx rfl (hb hby at_343) rfl rfl k) ?_
    show own_Ends _ _ _ _ _ _ _ T67 (mkF m 345 #[.val (.int p0), .val (.int p1), .val (.int p2), .val (.int p3), .val (.int p4), .val (.int (1 : Int32)), .val (.ref bq), .val (.ref bp), .val (.ref t)] [(.ref bp), (.ref t)])
    refine own_go (fun _ k => XS.aload X67.here hx rfl (hb hby at_345) rfl rfl k) ?_
    show own_Ends _ _ _ _ _ _ _ T67 (mkF m 347 #[.val (.int p0), .val (.int p1), .val (.int p2), .val (.int p3), .val (.int p4), .val (.int (1 : Int32)), .val (.ref bq), .val (.ref bp), .val (.ref t)] [(.ref bq), (.ref bp), (.ref t)])
    refine own_go (fun _ k => XS.iload X67.here hx rfl (hb hby at_347) rfl k) ?_
    show own_Ends _ _ _ _ _ _ _ T67 (mkF m 349 #[.val (.int p0), .val (.int p1), .val (.int p2), .val (.int p3), .val (.int p4), .val (.int (1 : Int32)), .val (.ref bq), .val (.ref bp), .val (.ref t)] [(.int (1 : Int32)), (.ref bq), (.ref bp), (.ref t)])
    refine own_go (fun _ k => XS.bipush X67.here hx rfl (hb hby at_349) k) ?_
    show own_Ends _ _ _ _ _ _ _ T67 (mkF m 351 #[.val (.int p0), .val (.int p1), .val (.int p2), .val (.int p3), .val (.int p4), .val (.int (1 : Int32)), .val (.ref bq), .val (.ref bp), .val (.ref t)] [(.int (6 : Int32)), (.int (1 : Int32)), (.ref bq), (.ref bp), (.ref t)])
    obtain ⟨v68, T68, L68, X68, hQ68, st68⟩ := own_callS X67 hx hZ hown (hw _ (List.mem_of_getElem? (i := 17) rfl)) (hw _ (List.mem_of_getElem? (i := 18) rfl)) (hw _ (List.mem_of_getElem? (i := 3) rfl)) (hw _ (List.mem_of_getElem? (i := 19) rfl)) (rm4_hi l Z a0 hw t bp bq (1 : Int32) (6 : Int32) T61.heap (by decide)) e67 (g := (mkF m 351 #[.val (.int p0), .val (.int p1), .val (.int p2), .val (.int p3), .val (.int p4), .val (.int (1 : Int32)), .val (.ref bq), .val (.ref bp), .val (.ref t)] [(.int (6 : Int32)), (.int (1 : Int32)), (.ref bq), (.ref bp), (.ref t)])) rfl (by rw [hml]; rfl) (argsL := [(.ref t), (.ref bp), (.ref bq), (.int (1 : Int32)), (.int (6 : Int32))]) (rest := []) (lenOf pd_5 rfl) rfl rfl (W := 0) (by show 2 * 0 + _ ≤ _; exact Nat.le_of_eq rfl) (hb hby at_351) (by decide) (by decide) (by decide) (by decide) (by decide)
    obtain ⟨rfl, rfl, e68⟩ := hQ68
    refine own_go st68 ?_
    have N68 := Fr.app N67 (Fr.nil _)
    show own_Ends _ _ _ _ _ _ _ T68 (mkF m 354 #[.val (.int p0), .val (.int p1), .val (.int p2), .val (.int p3), .val (.int p4), .val (.int (1 : Int32)), .val (.ref bq), .val (.ref bp), .val (.ref t)] [(.int (1 : Int32))])
    refine own_go (fun _ k => XS.ifNo X68.here hx rfl (hb hby at_354) rfl ((if0 _ _).trans (feq (by decide)).1) k) ?_
    show own_Ends _ _ _ _ _ _ _ T68 (mkF m 357 #[.val (.int p0), .val (.int p1), .val (.int p2), .val (.int p3), .val (.int p4), .val (.int (1 : Int32)), .val (.ref bq), .val (.ref bp), .val (.ref t)] [])
    refine own_go (fun _ k => XS.iconst X68.here hx rfl (hb hby at_357) k) ?_
    show own_Ends _ _ _ _ _ _ _ T68 (mkF m 358 #[.val (.int p0), .val (.int p1), .val (.int p2), .val (.int p3), .val (.int p4), .val (.int (1 : Int32)), .val (.ref bq), .val (.ref bp), .val (.ref t)] [(.int (1 : Int32))])
    refine own_go (fun _ k => XS.goto X68.here hx rfl (pc0 := 358) (pc' := 362) rfl (hb hby at_358) (by decide) (by decide) k) ?_
    show own_Ends _ _ _ _ _ _ _ T68 (mkF m 362 #[.val (.int p0), .val (.int p1), .val (.int p2), .val (.int p3), .val (.int p4), .val (.int (1 : Int32)), .val (.ref bq), .val (.ref bp), .val (.ref t)] [(.int (1 : Int32))])
    exact own_retZ X68 hx hlk hret (by decide) (hb hby at_362) (by decide) (by decide) ⟨rfl, N68⟩
  · rw [show (p0 &&& (7 : Int32)) = (2 : Int32) from hn]
    show own_Ends _ _ _ _ _ _ _ T49 (mkF m 125 #[.val (.int p0), .val (.int p1), .val (.int p2), .val (.int p3), .val (.int p4), .val (.int (2 : Int32)), .val (.ref bq), .unset, .unset] [(.int (2 : Int32))])
    obtain ⟨T69, h69, k69, X69, e69, E69, A69, st69⟩ := own_newP X49 hx hZ (aty := .byte) (hw _ (List.mem_of_getElem? (i := 0) rfl)) e49 (g := (mkF m 125 #[.val (.int p0), .val (.int p1), .val (.int p2), .val (.int p3), .val (.int p4), .val (.int (2 : Int32)), .val (.ref bq), .unset, .unset] [(.int (2 : Int32))])) rfl (hb hby at_125) rfl (by decide) (n := 2) (by decide) (cap := 2) (by decide) (by decide) (by decide) (by decide)
    obtain ⟨bp, gq69⟩ : ∃ z, z = h49.size := ⟨_, rfl⟩
    rw [← gq69] at A69 st69
    have ne_bq_bp : bq ≠ bp := Nat.ne_of_lt (Nat.lt_of_lt_of_le Vq.lt (Nat.le_of_eq gq69.symm))
    have sz_bp : h0.size ≤ bp := Nat.le_trans K_49.1 (Nat.le_of_eq gq69.symm)
    have g_bp : h0.size ≤ bp := Nat.le_trans (Nat.le_refl _) sz_bp
    have K_69 := K_49.ext E69
    have V_bq_69 := Vq.ext E69
    have V_bp : own_Ar Z h69 bp k69 .byte 2 (fun _ => (.int (0 : Int32))) := A69
    refine own_go st69 ?_
    show own_Ends _ _ _ _ _ _ _ T69 (mkF m 127 #[.val (.int p0), .val (.int p1), .val (.int p2), .val (.int p3), .val (.int p4), .val (.int (2 : Int32)), .val (.ref bq), .unset, .unset] [(.ref bp)])
    refine own_go (fun _ k => XS.astore X69.here hx rfl (hb hby at_127) rfl rfl (l' := #[.val (.int p0), .val (.int p1), .val (.int p2), .val (.int p3), .val (.int p4), .val (.int (2 : Int32)), .val (.ref bq), .val (.ref bp), .unset]) rfl k) ?_
    show own_Ends _ _ _ _ _ _ _ T69 (mkF m 129 #[.val (.int p0), .val (.int p1), .val (.int p2), .val (.int p3), .val (.int p4), .val (.int (2 : Int32)), .val (.ref bq), .val (.ref bp), .unset] [])
    refine own_go (fun _ k => XS.iload X69.here hx rfl (hb hby at_129) rfl k) ?_
    show own_Ends _ _ _ _ _ _ _ T69 (mkF m 131 #[.val (.int p0), .val (.int p1), .val (.int p2), .val (.int p3), .val (.int p4), .val (.int (2 : Int32)), .val (.ref bq), .val (.ref bp), .unset] [(.int (2 : Int32))])
    refine own_go (fun _ k => XS.ifNo X69.here hx rfl (hb hby at_131) rfl ((if0 _ _).trans (tlt (by decide)).2.2.2) k) ?_
    show own_Ends _ _ _ _ _ _ _ T69 (mkF m 134 #[.val (.int p0), .val (.int p1), .val (.int p2), .val (.int p3), .val (.int p4), .val (.int (2 : Int32)), .val (.ref bq), .val (.ref bp), .unset] [])
    refine own_go (fun _ k => XS.aload X69.here hx rfl (hb hby at_134) rfl rfl k) ?_
    show own_Ends _ _ _ _ _ _ _ T69 (mkF m 136 #[.val (.int p0), .val (.int p1), .val (.int p2), .val (.int p3), .val (.int p4), .val (.int (2 : Int32)), .val (.ref bq), .val (.ref bp), .unset] [(.ref bp)])
    refine own_go (fun _ k => XS.iconst X69.here hx rfl (hb hby at_136) k) ?_
    show own_Ends _ _ _ _ _ _ _ T69 (mkF m 137 #[.val (.int p0), .val (.int p1), .val (.int p2), .val (.int p3), .val (.int p4), .val (.int (2 : Int32)), .val (.ref bq), .val (.ref bp), .unset] [(.int (0 : Int32)), (.ref bp)])
    refine own_go (fun _ k => XS.aload X69.here hx rfl (hb hby at_137) rfl rfl k) ?_
    show own_Ends _ _ _ _ _ _ _ T69 (mkF m 139 #[.val (.int p0), .val (.int p1), .val (.int p2), .val (.int p3), .val (.int p4), .val (.int (2 : Int32)), .val (.ref bq), .val (.ref bp), .unset] [(.ref bq), (.int (0 : Int32)), (.ref bp)])
    refine own_go (fun _ k => XS.iconst X69.here hx rfl (hb hby at_139) k) ?_
    show own_Ends _ _ _ _ _ _ _ T69 (mkF m 140 #[.val (.int p0), .val (.int p1), .val (.int p2), .val (.int p3), .val (.int p4), .val (.int (2 : Int32)), .val (.ref bq), .val (.ref bp), .unset] [(.int (0 : Int32)), (.ref bq), (.int (0 : Int32)), (.ref bp)])
    refine own_go (fun _ k => own_ldB X69 hx hZ e69 V_bq_69 (i := 0) (v := (.int (b 0))) (by decide) (by decide) (by decide) rfl (g := (mkF m 140 #[.val (.int p0), .val (.int p1), .val (.int p2), .val (.int p3), .val (.int p4), .val (.int (2 : Int32)), .val (.ref bq), .val (.ref bp), .unset] [(.int (0 : Int32)), (.ref bq), (.int (0 : Int32)), (.ref bp)])) rfl rfl (hb hby at_140) _ k) ?_
    show own_Ends _ _ _ _ _ _ _ T69 (mkF m 141 #[.val (.int p0), .val (.int p1), .val (.int p2), .val (.int p3), .val (.int p4), .val (.int (2 : Int32)), .val (.ref bq), .val (.ref bp), .unset] [(.int (b 0)), (.int (0 : Int32)), (.ref bp)])
    obtain ⟨T70, h70, X70, e70, W70, V70, st70⟩ := own_stB X69 hx hZ e69 V_bp (i := 0) (by decide) (by decide) (by decide) (g := (mkF m 141 #[.val (.int p0), .val (.int p1), .val (.int p2), .val (.int p3), .val (.int p4), .val (.int (2 : Int32)), .val (.ref bq), .val (.ref bp), .unset] [(.int (b 0)), (.int (0 : Int32)), (.ref bp)])) rfl rfl (hb hby at_141)
    have N70 := Fr.snoc X70 N49 g_bp
    have K_70 := K_69.wr W70 (Or.inr sz_bp)
    have V_bq_70 := V_bq_69.other W70 ne_bq_bp
    refine own_go st70 ?_
    show own_Ends _ _ _ _ _ _ _ T70 (mkF m 142 #[.val (.int p0), .val (.int p1), .val (.int p2), .val (.int p3), .val (.int p4), .val (.int (2 : Int32)), .val (.ref bq), .val (.ref bp), .unset] [])
    refine own_go (fun _ k => XS.iload X70.here hx rfl (hb hby at_142) rfl k) ?_
    show own_Ends _ _ _ _ _ _ _ T70 (mkF m 144 #[.val (.int p0), .val (.int p1), .val (.int p2), .val (.int p3), .val (.int p4), .val (.int (2 : Int32)), .val (.ref bq), .val (.ref bp), .unset] [(.int (2 : Int32))])
    refine own_go (fun _ k => XS.iconst X70.here hx rfl (hb hby at_144) k) ?_
    show own_Ends _ _ _ _ _ _ _ T70 (mkF m 145 #[.val (.int p0), .val (.int p1), .val (.int p2), .val (.int p3), .val (.int p4), .val (.int (2 : Int32)), .val (.ref bq), .val (.ref bp), .unset] [(.int (1 : Int32)), (.int (2 : Int32))])
    refine own_go (fun _ k => XS.icmpNo X70.here hx rfl (hb hby at_145) rfl (tlt (by decide)).2.2.2 k) ?_
    show own_Ends _ _ _ _ _ _ _ T70 (mkF m 148 #[.val (.int p0), .val (.int p1), .val (.int p2), .val (.int p3), .val (.int p4), .val (.int (2 : Int32)), .val (.ref bq), .val (.ref bp), .unset] [])
    refine own_go (fun _ k => XS.aload X70.here hx rfl (hb hby at_148) rfl rfl k) ?_
    show own_Ends _ _ _ _ _ _ _ T70 (mkF m 150 #[.val (.int p0), .val (.int p1), .val (.int p2), .val (.int p3), .val (.int p4), .val (.int (2 : Int32)), .val (.ref bq), .val (.ref bp), .unset] [(.ref bp)])
    refine own_go (fun _ k => XS.iconst X70.here hx rfl (hb hby at_150) k) ?_
    show own_Ends _ _ _ _ _ _ _ T70 (mkF m 151 #[.val (.int p0), .val (.int p1), .val (.int p2), .val (.int p3), .val (.int p4), .val (.int (2 : Int32)), .val (.ref bq), .val (.ref bp), .unset] [(.int (1 : Int32)), (.ref bp)])
    refine own_go (fun _ k => XS.aload X70.here hx rfl (hb hby at_151) rfl rfl k) ?_
    show own_Ends _ _ _ _ _ _ _ T70 (mkF m 153 #[.val (.int p0), .val (.int p1), .val (.int p2), .val (.int p3), .val (.int p4), .val (.int (2 : Int32)), .val (.ref bq), .val (.ref bp), .unset] [(.ref bq), (.int (1 : Int32)), (.ref bp)])
    refine own_go (fun _ k => XS.iconst X70.here hx rfl (hb hby at_153) k) ?_
    show own_Ends _ _ _ _ _ _ _ T70 (mkF m 154 #[.val (.int p0), .val (.int p1), .val (.int p2), .val (.int p3), .val (.int p4), .val (.int (2 : Int32)), .val (.ref bq), .val (.ref bp), .unset] [(.int (1 : Int32)), (.ref bq), (.int (1 : Int32)), (.ref bp)])
    refine own_go (fun _ k => own_ldB X70 hx hZ e70 V_bq_70 (i := 1) (v := (.int (b 1))) (by decide) (by decide) (by decide) rfl (g := (mkF m 154 #[.val (.int p0), .val (.int p1), .val (.int p2), .val (.int p3), .val (.int p4), .val (.int (2 : Int32)), .val (.ref bq), .val (.ref bp), .unset] [(.int (1 : Int32)), (.ref bq), (.int (1 : Int32)), (.ref bp)])) rfl rfl (hb hby at_154) _ k) ?_
    show own_Ends _ _ _ _ _ _ _ T70 (mkF m 155 #[.val (.int p0), .val (.int p1), .val (.int p2), .val (.int p3), .val (.int p4), .val (.int (2 : Int32)), .val (.ref bq), .val (.ref bp), .unset] [(.int (b 1)), (.int (1 : Int32)), (.ref bp)])
    obtain ⟨T71, h71, X71, e71, W71, V71, st71⟩ := own_stB X70 hx hZ e70 V70 (i := 1) (by decide) (by decide) (by decide) (g := (mkF m 155 #[.val (.int p0), .val (.int p1), .val (.int p2), .val (.int p3), .val (.int p4), .val (.int (2 : Int32)), .val (.ref bq), .val (.ref bp), .unset] [(.int (b 1)), (.int (1 : Int32)), (.ref bp)])) rfl rfl (hb hby at_155)
    have N71 := Fr.snoc X71 N70 g_bp
    have K_71 := K_70.wr W71 (Or.inr sz_bp)
    have V_bq_71 := V_bq_70.other W71 ne_bq_bp
    refine own_go st71 ?_
    show own_Ends _ _ _ _ _ _ _ T71 (mkF m 156 #[.val (.int p0), .val (.int p1), .val (.int p2), .val (.int p3), .val (.int p4), .val (.int (2 : Int32)), .val (.ref bq), .val (.ref bp), .unset] [])
    refine own_go (fun _ k => XS.iload X71.here hx rfl (hb hby at_156) rfl k) ?_
    show own_Ends _ _ _ _ _ _ _ T71 (mkF m 158 #[.val (.int p0), .val (.int p1), .val (.int p2), .val (.int p3), .val (.int p4), .val (.int (2 : Int32)), .val (.ref bq), .val (.ref bp), .unset] [(.int (2 : Int32))])
    refine own_go (fun _ k => XS.iconst X71.here hx rfl (hb hby at_158) k) ?_
    show own_Ends _ _ _ _ _ _ _ T71 (mkF m 159 #[.val (.int p0), .val (.int p1), .val (.int p2), .val (.int p3), .val (.int p4), .val (.int (2 : Int32)), .val (.ref bq), .val (.ref bp), .unset] [(.int (2 : Int32)), (.int (2 : Int32))])
    refine own_go (fun _ k => XS.icmpYes X71.here hx rfl (pc0 := 159) (pc' := 170) rfl (hb hby at_159) rfl (flt (by decide)).2.2.2 (by decide) (by decide) k) ?_
    show own_Ends _ _ _ _ _ _ _ T71 (mkF m 170 #[.val (.int p0), .val (.int p1), .val (.int p2), .val (.int p3), .val (.int p4), .val (.int (2 : Int32)), .val (.ref bq), .val (.ref bp), .unset] [])
    refine own_go (fun _ k => XS.iload X71.here hx rfl (hb hby at_170) rfl k) ?_
    show own_Ends _ _ _ _ _ _ _ T71 (mkF m 172 #[.val (.int p0), .val (.int p1), .val (.int p2), .val (.int p3), .val (.int p4), .val (.int (2 : Int32)), .val (.ref bq), .val (.ref bp), .unset] [(.int (2 : Int32))])
    refine own_go (fun _ k => XS.iconst X71.here hx rfl (hb hby at_172) k) ?_
    show own_Ends _ _ _ _ _ _ _ T71 (mkF m 173 #[.val (.int p0), .val (.int p1), .val (.int p2), .val (.int p3), .val (.int p4), .val (.int (2 : Int32)), .val (.ref bq), .val (.ref bp), .unset] [(.int (3 : Int32)), (.int (2 : Int32))])
    refine own_go (fun _ k => XS.icmpYes X71.here hx rfl (pc0 := 173) (pc' := 184) rfl (hb hby at_173) rfl (flt (by decide)).2.2.2 (by decide) (by decide) k) ?_
    show own_Ends _ _ _ _ _ _ _ T71 (mkF m 184 #[.val (.int p0), .val (.int p1), .val (.int p2), .val (.int p3), .val (.int p4), .val (.int (2 : Int32)), .val (.ref bq), .val (.ref bp), .unset] [])
    refine own_go (fun _ k => XS.iload X71.here hx rfl (hb hby at_184) rfl k) ?_
    show own_Ends _ _ _ _ _ _ _ T71 (mkF m 186 #[.val (.int p0), .val (.int p1), .val (.int p2), .val (.int p3), .val (.int p4), .val (.int (2 : Int32)), .val (.ref bq), .val (.ref bp), .unset] [(.int (2 : Int32))])
    refine own_go (fun _ k => XS.iconst X71.here hx rfl (hb hby at_186) k) ?_
    show own_Ends _ _ _ _ _ _ _ T71 (mkF m 187 #[.val (.int p0), .val (.int p1), .val (.int p2), .val (.int p3), .val (.int p4), .val (.int (2 : Int32)), .val (.ref bq), .val (.ref bp), .unset] [(.int (4 : Int32)), (.int (2 : Int32))])
    refine own_go (fun _ k => XS.icmpYes X71.here hx rfl (pc0 := 187) (pc' := 198) rfl (hb hby at_187) rfl (flt (by decide)).2.2.2 (by decide) (by decide) k) ?_
    show own_Ends _ _ _ _ _ _ _ T71 (mkF m 198 #[.val (.int p0), .val (.int p1), .val (.int p2), .val (.int p3), .val (.int p4), .val (.int (2 : Int32)), .val (.ref bq), .val (.ref bp), .unset] [])
    refine own_go (fun _ k => XS.iload X71.here hx rfl (hb hby at_198) rfl k) ?_
    show own_Ends _ _ _ _ _ _ _ T71 (mkF m 200 #[.val (.int p0), .val (.int p1), .val (.int p2), .val (.int p3), .val (.int p4), .val (.int (2 : Int32)), .val (.ref bq), .val (.ref bp), .unset] [(.int (2 : Int32))])
    refine own_go (fun _ k => XS.iconst X71.here hx rfl (hb hby at_200) k) ?_
    show own_Ends _ _ _ _ _ _ _ T71 (mkF m 201 #[.val (.int p0), .val (.int p1), .val (.int p2), .val (.int p3), .val (.int p4), .val (.int (2 : Int32)), .val (.ref bq), .val (.ref bp), .unset] [(.int (5 : Int32)), (.int (2 : Int32))])
    refine own_go (fun _ k => XS.icmpYes X71.here hx rfl (pc0 := 201) (pc' := 212) rfl (hb hby at_201) rfl (flt (by decide)).2.2.2 (by decide) (by decide) k) ?_
    show own_Ends _ _ _ _ _ _ _ T71 (mkF m 212 #[.val (.int p0), .val (.int p1), .val (.int p2), .val (.int p3), .val (.int p4), .val (.int (2 : Int32)), .val (.ref bq), .val (.ref bp), .unset] [])
    refine own_go (fun _ k => XS.iload X71.here hx rfl (hb hby at_212) rfl k) ?_
    show own_Ends _ _ _ _ _ _ _ T71 (mkF m 214 #[.val (.int p0), .val (.int p1), .val (.int p2), .val (.int p3), .val (.int p4), .val (.int (2 : Int32)), .val (.ref bq), .val (.ref bp), .unset] [(.int (2 : Int32))])
    refine own_go (fun _ k => XS.bipush X71.here hx rfl (hb hby at_214) k) ?_
    show own_Ends _ _ _ _ _ _ _ T71 (mkF m 216 #[.val (.int p0), .val (.int p1), .val (.int p2), .val (.int p3), .val (.int p4), .val (.int (2 : Int32)), .val (.ref bq), .val (.ref bp), .unset] [(.int (6 : Int32)), (.int (2 : Int32))])
    refine own_go (fun _ k => XS.icmpYes X71.here hx rfl (pc0 := 216) (pc' := 229) rfl (hb hby at_216) rfl (flt (by decide)).2.2.2 (by decide) (by decide) k) ?_
    show own_Ends _ _ _ _ _ _ _ T71 (mkF m 229 #[.val (.int p0), .val (.int p1), .val (.int p2), .val (.int p3), .val (.int p4), .val (.int (2 : Int32)), .val (.ref bq), .val (.ref bp), .unset] [])
    refine own_go (fun _ k => XS.aload X71.here hx rfl (hb hby at_229) rfl rfl k) ?_
    show own_Ends _ _ _ _ _ _ _ T71 (mkF m 231 #[.val (.int p0), .val (.int p1), .val (.int p2), .val (.int p3), .val (.int p4), .val (.int (2 : Int32)), .val (.ref bq), .val (.ref bp), .unset] [(.ref bp)])
    have Vp : own_Ar Z h71 bp k69 .byte 2 (fun j => .int (b j)) := V71.cong (fun j hj => by
      have seg : j = 0 ∨ j = 1 := by omega
      rcases seg with rfl | rfl
      · exact congrArg Value.int (hbn 0 (by decide))
      · exact congrArg Value.int (hbn 1 (by decide)))
    obtain ⟨v72, T72, L72, X72, hQ72, st72⟩ := own_callS X71 hx hZ hown (hw _ (List.mem_of_getElem? (i := 5) rfl)) (hw _ (List.mem_of_getElem? (i := 6) rfl)) (hw _ (List.mem_of_getElem? (i := 7) rfl)) (hw _ (List.mem_of_getElem? (i := 8) rfl)) (rm2 l Z a0 hw bp h71 h0.size 2 k69 b K_71.1 Vp (by decide)) e71 (g := (mkF m 231 #[.val (.int p0), .val (.int p1), .val (.int p2), .val (.int p3), .val (.int p4), .val (.int (2 : Int32)), .val (.ref bq), .val (.ref bp), .unset] [(.ref bp)])) rfl (by rw [hml]; rfl) (argsL := [(.ref bp)]) (rest := []) (lenOf pd_4 rfl) rfl rfl (W := 0) (by show 2 * 0 + _ ≤ _; exact Nat.le_of_eq rfl) (hb hby at_231) (by decide) (by decide) (by decide) (by decide) (by decide)
    obtain ⟨t, kt, g, rfl, N72q, K72, V72, s72, hG72⟩ := hQ72
    refine own_go st72 ?_
    have N72 := Fr.app N71 N72q
    have K_72 := K_71.trans K72 all0
    have V_bq_72 := V_bq_71.keep K72 nin0
    have V_bp_72 := Vp.keep K72 nin0
    show own_Ends _ _ _ _ _ _ _ T72 (mkF m 234 #[.val (.int p0), .val (.int p1), .val (.int p2), .val (.int p3), .val (.int p4), .val (.int (2 : Int32)), .val (.ref bq), .val (.ref bp), .unset] [(.ref t)])
    refine own_go (fun _ k => XS.astore X72.here hx rfl (hb hby at_234) rfl rfl (l' := #[.val (.int p0), .val (.int p1), .val (.int p2), .val (.int p3), .val (.int p4), .val (.int (2 : Int32)), .val (.ref bq), .val (.ref bp), .val (.ref t)]) rfl k) ?_
    show own_Ends _ _ _ _ _ _ _ T72 (mkF m 236 #[.val (.int p0), .val (.int p1), .val (.int p2), .val (.int p3), .val (.int p4), .val (.int (2 : Int32)), .val (.ref bq), .val (.ref bp), .val (.ref t)] [])
    refine own_go (fun _ k => XS.aload X72.here hx rfl (hb hby at_236) rfl rfl k) ?_
    show own_Ends _ _ _ _ _ _ _ T72 (mkF m 238 #[.val (.int p0), .val (.int p1), .val (.int p2), .val (.int p3), .val (.int p4), .val (.int (2 : Int32)), .val (.ref bq), .val (.ref bp), .val (.ref t)] [(.ref t)])
    refine own_go (fun _ k => XS.ifnullNo X72.here hx rfl (hb hby at_238) rfl k) ?_
    show own_Ends _ _ _ _ _ _ _ T72 (mkF m 241 #[.val (.int p0), .val (.int p1), .val (.int p2), .val (.int p3), .val (.int p4), .val (.int (2 : Int32)), .val (.ref bq), .val (.ref bp), .val (.ref t)] [])
    refine own_go (fun _ k => XS.aload X72.here hx rfl (hb hby at_241) rfl rfl k) ?_
    show own_Ends _ _ _ _ _ _ _ T72 (mkF m 243 #[.val (.int p0), .val (.int p1), .val (.int p2), .val (.int p3), .val (.int p4), .val (.int (2 : Int32)), .val (.ref bq), .val (.ref bp), .val (.ref t)] [(.ref t)])
    refine own_go (fun _ k => own_len X72 hx hZ rfl V72 (z := (2 : Int32)) rfl (g := (mkF m 243 #[.val (.int p0), .val (.int p1), .val (.int p2), .val (.int p3), .val (.int p4), .val (.int (2 : Int32)), .val (.ref bq), .val (.ref bp), .val (.ref t)] [(.ref t)])) rfl rfl (hb hby at_243) _ k) ?_
    show own_Ends _ _ _ _ _ _ _ T72 (mkF m 244 #[.val (.int p0), .val (.int p1), .val (.int p2), .val (.int p3), .val (.int p4), .val (.int (2 : Int32)), .val (.ref bq), .val (.ref bp), .val (.ref t)] [(.int (2 : Int32))])
    refine own_go (fun _ k => XS.iload X72.here hx rfl (hb hby at_244) rfl k) ?_
    show own_Ends _ _ _ _ _ _ _ T72 (mkF m 246 #[.val (.int p0), .val (.int p1), .val (.int p2), .val (.int p3), .val (.int p4), .val (.int (2 : Int32)), .val (.ref bq), .val (.ref bp), .val (.ref t)] [(.int (2 : Int32)), (.int (2 : Int32))])
    refine own_go (fun _ k => XS.icmpYes X72.here hx rfl (pc0 := 246) (pc' := 251) rfl (hb hby at_246) rfl (teq (rfl)).1 (by decide) (by decide) k) ?_
    show own_Ends _ _ _ _ _ _ _ T72 (mkF m 251 #[.val (.int p0), .val (.int p1), .val (.int p2), .val (.int p3), .val (.int p4), .val (.int (2 : Int32)), .val (.ref bq), .val (.ref bp), .val (.ref t)] [])
    refine own_go (fun _ k => XS.aload X72.here hx rfl (hb hby at_251) rfl rfl k) ?_
    show own_Ends _ _ _ _ _ _ _ T72 (mkF m 253 #[.val (.int p0), .val (.int p1), .val (.int p2), .val (.int p3), .val (.int p4), .val (.int (2 : Int32)), .val (.ref bq), .val (.ref bp), .val (.ref t)] [(.ref t)])
    refine own_go (fun _ k => XS.aload X72.here hx rfl (hb hby at_253) rfl rfl k) ?_
    show own_Ends _ _ _ _ _ _ _ T72 (mkF m 255 #[.val (.int p0), .val (.int p1), .val (.int p2), .val (.int p3), .val (.int p4), .val (.int (2 : Int32)), .val (.ref bq), .val (.ref bp), .val (.ref t)] [(.ref bp), (.ref t)])
    refine own_go (fun _ k => XS.aload X72.here hx rfl (hb hby at_255) rfl rfl k) ?_
    show own_Ends _ _ _ _ _ _ _ T72 (mkF m 257 #[.val (.int p0), .val (.int p1), .val (.int p2), .val (.int p3), .val (.int p4), .val (.int (2 : Int32)), .val (.ref bq), .val (.ref bp), .val (.ref t)] [(.ref bq), (.ref bp), (.ref t)])
    refine own_go (fun _ k => XS.iload X72.here hx rfl (hb hby at_257) rfl k) ?_
    show own_Ends _ _ _ _ _ _ _ T72 (mkF m 259 #[.val (.int p0), .val (.int p1), .val (.int p2), .val (.int p3), .val (.int p4), .val (.int (2 : Int32)), .val (.ref bq), .val (.ref bp), .val (.ref t)] [(.int (2 : Int32)), (.ref bq), (.ref bp), (.ref t)])
    refine own_go (fun _ k => XS.iconst X72.here hx rfl (hb hby at_259) k) ?_
    show own_Ends _ _ _ _ _ _ _ T72 (mkF m 260 #[.val (.int p0), .val (.int p1), .val (.int p2), .val (.int p3), .val (.int p4), .val (.int (2 : Int32)), .val (.ref bq), .val (.ref bp), .val (.ref t)] [(.int (0 : Int32)), (.int (2 : Int32)), (.ref bq), (.ref bp), (.ref t)])
    obtain ⟨q0, g0, hB0⟩ := hG72 0 (by decide)
    obtain ⟨v73, T73, L73, X73, hQ73, st73⟩ := own_callS X72 hx hZ hown (hw _ (List.mem_of_getElem? (i := 17) rfl)) (hw _ (List.mem_of_getElem? (i := 18) rfl)) (hw _ (List.mem_of_getElem? (i := 3) rfl)) (hw _ (List.mem_of_getElem? (i := 19) rfl)) (rm4_0 l Z a0 hw t bp bq (2 : Int32) (0 : Int32) T72.heap 2 kt k69 k35 g b q0 V72 V_bp_72 V_bq_72 (by decide) (by decide) g0 hB0 rfl) rfl (g := (mkF m 260 #[.val (.int p0), .val (.int p1), .val (.int p2), .val (.int p3), .val (.int p4), .val (.int (2 : Int32)), .val (.ref bq), .val (.ref bp), .val (.ref t)] [(.int (0 : Int32)), (.int (2 : Int32)), (.ref bq), (.ref bp), (.ref t)])) rfl (by rw [hml]; rfl) (argsL := [(.ref t), (.ref bp), (.ref bq), (.int (2 : Int32)), (.int (0 : Int32))]) (rest := []) (lenOf pd_5 rfl) rfl rfl (W := 0) (by show 2 * 0 + _ ≤ _; exact Nat.le_of_eq rfl) (hb hby at_260) (by decide) (by decide) (by decide) (by decide) (by decide)
    obtain ⟨rfl, rfl, e73⟩ := hQ73
    refine own_go st73 ?_
    have N73 := Fr.app N72 (Fr.nil _)
    show own_Ends _ _ _ _ _ _ _ T73 (mkF m 263 #[.val (.int p0), .val (.int p1), .val (.int p2), .val (.int p3), .val (.int p4), .val (.int (2 : Int32)), .val (.ref bq), .val (.ref bp), .val (.ref t)] [(.int (1 : Int32))])
    refine own_go (fun _ k => XS.ifNo X73.here hx rfl (hb hby at_263) rfl ((if0 _ _).trans (feq (by decide)).1) k) ?_
    show own_Ends _ _ _ _ _ _ _ T73 (mkF m 266 #[.val (.int p0), .val (.int p1), .val (.int p2), .val (.int p3), .val (.int p4), .val (.int (2 : Int32)), .val (.ref bq), .val (.ref bp), .val (.ref t)] [])
    refine own_go (fun _ k => XS.aload X73.here hx rfl (hb hby at_266) rfl rfl k) ?_
    show own_Ends _ _ _ _ _ _ _ T73 (mkF m 268 #[.val (.int p0), .val (.int p1), .val (.int p2), .val (.int p3), .val (.int p4), .val (.int (2 : Int32)), .val (.ref bq), .val (.ref bp), .val (.ref t)] [(.ref t)])
    refine own_go (fun _ k => XS.aload X73.here hx rfl (hb hby at_268) rfl rfl k) ?_
    show own_Ends _ _ _ _ _ _ _ T73 (mkF m 270 #[.val (.int p0), .val (.int p1), .val (.int p2), .val (.int p3), .val (.int p4), .val (.int (2 : Int32)), .val (.ref bq), .val (.ref bp), .val (.ref t)] [(.ref bp), (.ref t)])
    refine own_go (fun _ k => XS.aload X73.here hx rfl (hb hby at_270) rfl rfl k) ?_
    show own_Ends _ _ _ _ _ _ _ T73 (mkF m 272 #[.val (.int p0), .val (.int p1), .val (.int p2), .val (.int p3), .val (.int p4), .val (.int (2 : Int32)), .val (.ref bq), .val (.ref bp), .val (.ref t)] [(.ref bq), (.ref bp), (.ref t)])
    refine own_go (fun _ k => XS.iload X73.here hx rfl (hb hby at_272) rfl k) ?_
    show own_Ends _ _ _ _ _ _ _ T73 (mkF m 274 #[.val (.int p0), .val (.int p1), .val (.int p2), .val (.int p3), .val (.int p4), .val (.int (2 : Int32)), .val (.ref bq), .val (.ref bp), .val (.ref t)] [(.int (2 : Int32)), (.ref bq), (.ref bp), (.ref t)])
    refine own_go (fun _ k => XS.iconst X73.here hx rfl (hb hby at_274) k) ?_
    show own_Ends _ _ _ _ _ _ _ T73 (mkF m 275 #[.val (.int p0), .val (.int p1), .val (.int p2), .val (.int p3), .val (.int p4), .val (.int (2 : Int32)), .val (.ref bq), .val (.ref bp), .val (.ref t)] [(.int (1 : Int32)), (.int (2 : Int32)), (.ref bq), (.ref bp), (.ref t)])
    obtain ⟨q1, g1, hB1⟩ := hG72 1 (by decide)
    obtain ⟨v74, T74, L74, X74, hQ74, st74⟩ := own_callS X73 hx hZ hown (hw _ (List.mem_of_getElem? (i := 17) rfl)) (hw _ (List.mem_of_getElem? (i := 18) rfl)) (hw _ (List.mem_of_getElem? (i := 3) rfl)) (hw _ (List.mem_of_getElem? (i := 19) rfl)) (rm4_1 l Z a0 hw t bp bq (2 : Int32) (1 : Int32) T72.heap 2 kt k69 k35 g b q1 V72 V_bp_72 V_bq_72 (by decide) (by decide) g1 hB1 rfl) e73 (g := (mkF m 275 #[.val (.int p0), .val (.int p1), .val (.int p2), .val (.int p3), .val (.int p4), .val (.int (2 : Int32)), .val (.ref bq), .val (.ref bp), .val (.ref t)] [(.int (1 : Int32)), (.int (2 : Int32)), (.ref bq), (.ref bp), (.ref t)])) rfl (by rw [hml]; rfl) (argsL := [(.ref t), (.ref bp), (.ref bq), (.int (2 : Int32)), (.int (1 : Int32))]) (rest := []) (lenOf pd_5 rfl) rfl rfl (W := 0) (by show 2 * 0 + _ ≤ _; exact Nat.le_of_eq rfl) (hb hby at_275) (by decide) (by decide) (by decide) (by decide) (by decide)
    obtain ⟨rfl, rfl, e74⟩ := hQ74
    refine own_go st74 ?_
    have N74 := Fr.app N73 (Fr.nil _)
    show own_Ends _ _ _ _ _ _ _ T74 (mkF m 278 #[.val (.int p0), .val (.int p1), .val (.int p2), .val (.int p3), .val (.int p4), .val (.int (2 : Int32)), .val (.ref bq), .val (.ref bp), .val (.ref t)] [(.int (1 : Int32))])
    refine own_go (fun _ k => XS.ifNo X74.here hx rfl (hb hby at_278) rfl ((if0 _ _).trans (feq (by decide)).1) k) ?_
    show own_Ends _ _ _ _ _ _ _ T74 (mkF m 281 #[.val (.int p0), .val (.int p1), .val (.int p2), .val (.int p3), .val (.int p4), .val (.int (2 : Int32)), .val (.ref bq), .val (.ref bp), .val (.ref t)] [])
    refine own_go (fun _ k => XS.aload X74.here hx rfl (hb hby at_281) rfl rfl k) ?_
    show own_Ends _ _ _ _ _ _ _ T74 (mkF m 283 #[.val (.int p0), .val (.int p1), .val (.int p2), .val (.int p3), .val (.int p4), .val (.int (2 : Int32)), .val (.ref bq), .val (.ref bp), .val (.ref t)] [(.ref t)])
    refine own_go (fun _ k => XS.aload X74.here hx rfl (hb hby at_283) rfl rfl k) ?_
    show own_Ends _ _ _ _ _ _ _ T74 (mkF m 285 #[.val (.int p0), .val (.int p1), .val (.int p2), .val (.int p3), .val (.int p4), .val (.int (2 : Int32)), .val (.ref bq), .val (.ref bp), .val (.ref t)] [(.ref bp), (.ref t)])
    refine own_go (fun _ k => XS.aload X74.here hx rfl (hb hby at_285) rfl rfl k) ?_
    show own_Ends _ _ _ _ _ _ _ T74 (mkF m 287 #[.val (.int p0), .val (.int p1), .val (.int p2), .val (.int p3), .val (.int p4), .val (.int (2 : Int32)), .val (.ref bq), .val (.ref bp), .val (.ref t)] [(.ref bq), (.ref bp), (.ref t)])
    refine own_go (fun _ k => XS.iload X74.here hx rfl (hb hby at_287) rfl k) ?_
    show own_Ends _ _ _ _ _ _ _ T74 (mkF m 289 #[.val (.int p0), .val (.int p1), .val (.int p2), .val (.int p3), .val (.int p4), .val (.int (2 : Int32)), .val (.ref bq), .val (.ref bp), .val (.ref t)] [(.int (2 : Int32)), (.ref bq), (.ref bp), (.ref t)])
    refine own_go (fun _ k => XS.iconst X74.here hx rfl (hb hby at_289) k) ?_
    show own_Ends _ _ _ _ _ _ _ T74 (mkF m 290 #[.val (.int p0), .val (.int p1), .val (.int p2), .val (.int p3), .val (.int p4), .val (.int (2 : Int32)), .val (.ref bq), .val (.ref bp), .val (.ref t)] [(.int (2 : Int32)), (.int (2 : Int32)), (.ref bq), (.ref bp), (.ref t)])
    obtain ⟨v75, T75, L75, X75, hQ75, st75⟩ := own_callS X74 hx hZ hown (hw _ (List.mem_of_getElem? (i := 17) rfl)) (hw _ (List.mem_of_getElem? (i := 18) rfl)) (hw _ (List.mem_of_getElem? (i := 3) rfl)) (hw _ (List.mem_of_getElem? (i := 19) rfl)) (rm4_hi l Z a0 hw t bp bq (2 : Int32) (2 : Int32) T72.heap (by decide)) e74 (g := (mkF m 290 #[.val (.int p0), .val (.int p1), .val (.int p2), .val (.int p3), .val (.int p4), .val (.int (2 : Int32)), .val (.ref bq), .val (.ref bp), .val (.ref t)] [(.int (2 : Int32)), (.int (2 : Int32)), (.ref bq), (.ref bp), (.ref t)])) rfl (by rw [hml]; rfl) (argsL := [(.ref t), (.ref bp), (.ref bq), (.int (2 : Int32)), (.int (2 : Int32))]) (rest := []) (lenOf pd_5 rfl) rfl rfl (W := 0) (by show 2 * 0 + _ ≤ _; exact Nat.le_of_eq rfl) (hb hby at_290) (by decide) (by decide) (by decide) (by decide) (by decide)
    obtain ⟨rfl, rfl, e75⟩ := hQ75
    refine own_go st75 ?_
    have N75 := Fr.app N74 (Fr.nil _)
    show own_Ends _ _ _ _ _ _ _ T75 (mkF m 293 #[.val (.int p0), .val (.int p1), .val (.int p2), .val (.int p3), .val (.int p4), .val (.int (2 : Int32)), .val (.ref bq), .val (.ref bp), .val (.ref t)] [(.int (1 : Int32))])
    refine own_go (fun _ k => XS.ifNo X75.here hx rfl (hb hby at_293) rfl ((if0 _ _).trans (feq (by decide)).1) k) ?_
    show own_Ends _ _ _ _ _ _ _ T75 (mkF m 296 #[.val (.int p0), .val (.int p1), .val (.int p2), .val (.int p3), .val (.int p4), .val (.int (2 : Int32)), .val (.ref bq), .val (.ref bp), .val (.ref t)] [])
    refine own_go (fun _ k => XS.aload X75.here hx rfl (hb hby at_296) rfl rfl k) ?_
    show own_Ends _ _ _ _ _ _ _ T75 (mkF m 298 #[.val (.int p0), .val (.int p1), .val (.int p2), .val (.int p3), .val (.int p4), .val (.int (2 : Int32)), .val (.ref bq), .val (.ref bp), .val (.ref t)] [(.ref t)])
    refine own_go (fun _ k => XS.aload X75.here hx rfl (hb hby at_298) rfl rfl k) ?_
    show own_Ends _ _ _ _ _ _ _ T75 (mkF m 300 #[.val (.int p0), .val (.int p1), .val (.int p2), .val (.int p3), .val (.int p4), .val (.int (2 : Int32)), .val (.ref bq), .val (.ref bp), .val (.ref t)] [(.ref bp), (.ref t)])
    refine own_go (fun _ k => XS.aload X75.here hx rfl (hb hby at_300) rfl rfl k) ?_
    show own_Ends _ _ _ _ _ _ _ T75 (mkF m 302 #[.val (.int p0), .val (.int p1), .val (.int p2), .val (.int p3), .val (.int p4), .val (.int (2 : Int32)), .val (.ref bq), .val (.ref bp), .val (.ref t)] [(.ref bq), (.ref bp), (.ref t)])
    refine own_go (fun _ k => XS.iload X75.here hx rfl (hb hby at_302) rfl k) ?_
    show own_Ends _ _ _ _ _ _ _ T75 (mkF m 304 #[.val (.int p0), .val (.int p1), .val (.int p2), .val (.int p3), .val (.int p4), .val (.int (2 : Int32)), .val (.ref bq), .val (.ref bp), .val (.ref t)] [(.int (2 : Int32)), (.ref bq), (.ref bp), (.ref t)])
    refine own_go (fun _ k => XS.iconst X75.here hx rfl (hb hby at_304) k) ?_
    show own_Ends _ _ _ _ _ _ _ T75 (mkF m 305 #[.val (.int p0), .val (.int p1), .val (.int p2), .val (.int p3), .val (.int p4), .val (.int (2 : Int32)), .val (.ref bq), .val (.ref bp), .val (.ref t)] [(.int (3 : Int32)), (.int (2 : Int32)), (.ref bq), (.ref bp), (.ref t)])
    obtain ⟨v76, T76, L76, X76, hQ76, st76⟩ := own_callS X75 hx hZ hown (hw _ (List.mem_of_getElem? (i := 17) rfl)) (hw _ (List.mem_of_getElem? (i := 18) rfl)) (hw _ (List.mem_of_getElem? (i := 3) rfl)) (hw _ (List.mem_of_getElem? (i := 19) rfl)) (rm4_hi l Z a0 hw t bp bq (2 : Int32) (3 : Int32) T72.heap (by decide)) e75 (g := (mkF m 305 #[.val (.int p0), .val (.int p1), .val (.int p2), .val (.int p3), .val (.int p4), .val (.int (2 : Int32)), .val (.ref bq), .val (.ref bp), .val (.ref t)] [(.int (3 : Int32)), (.int (2 : Int32)), (.ref bq), (.ref bp), (.ref t)])) rfl (by rw [hml]; rfl) (argsL := [(.ref t), (.ref bp), (.ref bq), (.int (2 : Int32)), (.int (3 : Int32))]) (rest := []) (lenOf pd_5 rfl) rfl rfl (W := 0) (by show 2 * 0 + _ ≤ _; exact Nat.le_of_eq rfl) (hb hby at_305) (by decide) (by decide) (by decide) (by decide) (by decide)
    obtain ⟨rfl, rfl, e76⟩ := hQ76
    refine own_go st76 ?_
    have N76 := Fr.app N75 (Fr.nil _)
    show own_Ends _ _ _ _ _ _ _ T76 (mkF m 308 #[.val (.int p0), .val (.int p1), .val (.int p2), .val (.int p3), .val (.int p4), .val (.int (2 : Int32)), .val (.ref bq), .val (.ref bp), .val (.ref t)] [(.int (1 : Int32))])
    refine own_go (fun _ k => XS.ifNo X76.here hx rfl (hb hby at_308) rfl ((if0 _ _).trans (feq (by decide)).1) k) ?_
    show own_Ends _ _ _ _ _ _ _ T76 (mkF m 311 #[.val (.int p0), .val (.int p1), .val (.int p2), .val (.int p3), .val (.int p4), .val (.int (2 : Int32)), .val (.ref bq), .val (.ref bp), .val (.ref t)] [])
    refine own_go (fun _ k => XS.aload X76.here hx rfl (hb hby at_311) rfl rfl k) ?_
    show own_Ends _ _ _ _ _ _ _ T76 (mkF m 313 #[.val (.int p0), .val (.int p1), .val (.int p2), .val (.int p3), .val (.int p4), .val (.int (2 : Int32)), .val (.ref bq), .val (.ref bp), .val (.ref t)] [(.ref t)])
    refine own_go (fun _ k => XS.aload X76.here hx rfl (hb hby at_313) rfl rfl k) ?_
    show own_Ends _ _ _ _ _ _ _ T76 (mkF m 315 #[.val (.int p0), .val (.int p1), .val (.int p2), .val (.int p3), .val (.int p4), .val (.int (2 : Int32)), .val (.ref bq), .val (.ref bp), .val (.ref t)] [(.ref bp), (.ref t)])
    refine own_go (fun _ k => XS.aload X76.here hx rfl (hb hby at_315) rfl rfl k) ?_
    show own_Ends _ _ _ _ _ _ _ T76 (mkF m 317 #[.val (.int p0), .val (.int p1), .val (.int p2), .val (.int p3), .val (.int p4), .val (.int (2 : Int32)), .val (.ref bq), .val (.ref bp), .val (.ref t)] [(.ref bq), (.ref bp), (.ref t)])
    refine own_go (fun _ k => XS.iload X76.here hx rfl (hb hby at_317) rfl k) ?_
    show own_Ends _ _ _ _ _ _ _ T76 (mkF m 319 #[.val (.int p0), .val (.int p1), .val (.int p2), .val (.int p3), .val (.int p4), .val (.int (2 : Int32)), .val (.ref bq), .val (.ref bp), .val (.ref t)] [(.int (2 : Int32)), (.ref bq), (.ref bp), (.ref t)])
    refine own_go (fun _ k => XS.iconst X76.here hx rfl (hb hby at_319) k) ?_
    show own_Ends _ _ _ _ _ _ _ T76 (mkF m 320 #[.val (.int p0), .val (.int p1), .val (.int p2), .val (.int p3), .val (.int p4), .val (.int (2 : Int32)), .val (.ref bq), .val (.ref bp), .val (.ref t)] [(.int (4 : Int32)), (.int (2 : Int32)), (.ref bq), (.ref bp), (.ref t)])
    obtain ⟨v77, T77, L77, X77, hQ77, st77⟩ := own_callS X76 hx hZ hown (hw _ (List.mem_of_getElem? (i := 17) rfl)) (hw _ (List.mem_of_getElem? (i := 18) rfl)) (hw _ (List.mem_of_getElem? (i := 3) rfl)) (hw _ (List.mem_of_getElem? (i := 19) rfl)) (rm4_hi l Z a0 hw t bp bq (2 : Int32) (4 : Int32) T72.heap (by decide)) e76 (g := (mkF m 320 #[.val (.int p0), .val (.int p1), .val (.int p2), .val (.int p3), .val (.int p4), .val (.int (2 : Int32)), .val (.ref bq), .val (.ref bp), .val (.ref t)] [(.int (4 : Int32)), (.int (2 : Int32)), (.ref bq), (.ref bp), (.ref t)])) rfl (by rw [hml]; rfl) (argsL := [(.ref t), (.ref bp), (.ref bq), (.int (2 : Int32)), (.int (4 : Int32))]) (rest := []) (lenOf pd_5 rfl) rfl rfl (W := 0) (by show 2 * 0 + _ ≤ _; exact Nat.le_of_eq rfl) (hb hby at_320) (by decide) (by decide) (by decide) (by decide) (by decide)
    obtain ⟨rfl, rfl, e77⟩ := hQ77
    refine own_go st77 ?_
    have N77 := Fr.app N76 (Fr.nil _)
    show own_Ends _ _ _ _ _ _ _ T77 (mkF m 323 #[.val (.int p0), .val (.int p1), .val (.int p2), .val (.int p3), .val (.int p4), .val (.int (2 : Int32)), .val (.ref bq), .val (.ref bp), .val (.ref t)] [(.int (1 : Int32))])
    refine own_go (fun _ k => XS.ifNo X77.here hx rfl (hb hby at_323) rfl ((if0 _ _).trans (feq (by decide)).1) k) ?_
    show own_Ends _ _ _ _ _ _ _ T77 (mkF m 326 #[.val (.int p0), .val (.int p1), .val (.int p2), .val (.int p3), .val (.int p4), .val (.int (2 : Int32)), .val (.ref bq), .val (.ref bp), .val (.ref t)] [])
    refine own_go (fun _ k => XS.aload X77.here hx rfl (hb hby at_326) rfl rfl k) ?_
    show own_Ends _ _ _ _ _ _ _ T77 (mkF m 328 #[.val (.int p0), .val (.int p1), .val (.int p2), .val (.int p3), .val (.int p4), .val (.int (2 : Int32)), .val (.ref bq), .val (.ref bp), .val (.ref t)] [(.ref t)])
    refine own_go (fun _ k => XS.aload X77.here hx rfl (hb hby at_328) rfl rfl k) ?_
    show own_Ends _ _ _ _ _ _ _ T77 (mkF m 330 #[.val (.int p0), .val (.int p1), .val (.int p2), .val (.int p3), .val (.int p4), .val (.int (2 : Int32)), .val (.ref bq), .val (.ref bp), .val (.ref t)] [(.ref bp), (.ref t)])
    refine own_go (fun _ k => XS.aload X77.here hx rfl (hb hby at_330) rfl rfl k) ?_
    show own_Ends _ _ _ _ _ _ _ T77 (mkF m 332 #[.val (.int p0), .val (.int p1), .val (.int p2), .val (.int p3), .val (.int p4), .val (.int (2 : Int32)), .val (.ref bq), .val (.ref bp), .val (.ref t)] [(.ref bq), (.ref bp), (.ref t)])
    refine own_go (fun _ k => XS.iload X77.here hx rfl (hb hby at_332) rfl k) ?_
    show own_Ends _ _ _ _ _ _ _ T77 (mkF m 334 #[.val (.int p0), .val (.int p1), .val (.int p2), .val (.int p3), .val (.int p4), .val (.int (2 : Int32)), .val (.ref bq), .val (.ref bp), .val (.ref t)] [(.int (2 : Int32)), (.ref bq), (.ref bp), (.ref t)])
    refine own_go (fun _ k => XS.iconst X77.here hx rfl (hb hby at_334) k) ?_
    show own_Ends _ _ _ _ _ _ _ T77 (mkF m 335 #[.val (.int p0), .val (.int p1), .val (.int p2), .val (.int p3), .val (.int p4), .val (.int (2 : Int32)), .val (.ref bq), .val (.ref bp), .val (.ref t)] [(.int (5 : Int32)), (.int (2 : Int32)), (.ref bq), (.ref bp), (.ref t)])
    obtain ⟨v78, T78, L78, X78, hQ78, st78⟩ := own_callS X77 hx hZ hown (hw _ (List.mem_of_getElem? (i := 17) rfl)) (hw _ (List.mem_of_getElem? (i := 18) rfl)) (hw _ (List.mem_of_getElem? (i := 3) rfl)) (hw _ (List.mem_of_getElem? (i := 19) rfl)) (rm4_hi l Z a0 hw t bp bq (2 : Int32) (5 : Int32) T72.heap (by decide)) e77 (g := (mkF m 335 #[.val (.int p0), .val (.int p1), .val (.int p2), .val (.int p3), .val (.int p4), .val (.int (2 : Int32)), .val (.ref bq), .val (.ref bp), .val (.ref t)] [(.int (5 : Int32)), (.int (2 : Int32)), (.ref bq), (.ref bp), (.ref t)])) rfl (by rw [hml]; rfl) (argsL := [(.ref t), (.ref bp), (.ref bq), (.int (2 : Int32)), (.int (5 : Int32))]) (rest := []) (lenOf pd_5 rfl) rfl rfl (W := 0) (by show 2 * 0 + _ ≤ _; exact Nat.le_of_eq rfl) (hb hby at_335) (by decide) (by decide) (by decide) (by decide) (by decide)
    obtain ⟨rfl, rfl, e78⟩ := hQ78
    refine own_go st78 ?_
    have N78 := Fr.app N77 (Fr.nil _)
    show own_Ends _ _ _ _ _ _ _ T78 (mkF m 338 #[.val (.int p0), .val (.int p1), .val (.int p2), .val (.int p3), .val (.int p4), .val (.int (2 : Int32)), .val (.ref bq), .val (.ref bp), .val (.ref t)] [(.int (1 : Int32))])
    refine own_go (fun _ k => XS.ifNo X78.here hx rfl (hb hby at_338) rfl ((if0 _ _).trans (feq (by decide)).1) k) ?_
    show own_Ends _ _ _ _ _ _ _ T78 (mkF m 341 #[.val (.int p0), .val (.int p1), .val (.int p2), .val (.int p3), .val (.int p4), .val (.int (2 : Int32)), .val (.ref bq), .val (.ref bp), .val (.ref t)] [])
    refine own_go (fun _ k => XS.aload X78.here hx rfl (hb hby at_341) rfl rfl k) ?_
    show own_Ends _ _ _ _ _ _ _ T78 (mkF m 343 #[.val (.int p0), .val (.int p1), .val (.int p2), .val (.int p3), .val (.int p4), .val (.int (2 : Int32)), .val (.ref bq), .val (.ref bp), .val (.ref t)] [(.ref t)])
    refine own_go (fun _ k => XS.aload X78.here hx rfl (hb hby at_343) rfl rfl k) ?_
    show own_Ends _ _ _ _ _ _ _ T78 (mkF m 345 #[.val (.int p0), .val (.int p1), .val (.int p2), .val (.int p3), .val (.int p4), .val (.int (2 : Int32)), .val (.ref bq), .val (.ref bp), .val (.ref t)] [(.ref bp), (.ref t)])
    refine own_go (fun _ k => XS.aload X78.here hx rfl (hb hby at_345) rfl rfl k) ?_
    show own_Ends _ _ _ _ _ _ _ T78 (mkF m 347 #[.val (.int p0), .val (.int p1), .val (.int p2), .val (.int p3), .val (.int p4), .val (.int (2 : Int32)), .val (.ref bq), .val (.ref bp), .val (.ref t)] [(.ref bq), (.ref bp), (.ref t)])
    refine own_go (fun _ k => XS.iload X78.here hx rfl (hb hby at_347) rfl k) ?_
    show own_Ends _ _ _ _ _ _ _ T78 (mkF m 349 #[.val (.int p0), .val (.int p1), .val (.int p2), .val (.int p3), .val (.int p4), .val (.int (2 : Int32)), .val (.ref bq), .val (.ref bp), .val (.ref t)] [(.int (2 : Int32)), (.ref bq), (.ref bp), (.ref t)])
    refine own_go (fun _ k => XS.bipush X78.here hx rfl (hb hby at_349) k) ?_
    show own_Ends _ _ _ _ _ _ _ T78 (mkF m 351 #[.val (.int p0), .val (.int p1), .val (.int p2), .val (.int p3), .val (.int p4), .val (.int (2 : Int32)), .val (.ref bq), .val (.ref bp), .val (.ref t)] [(.int (6 : Int32)), (.int (2 : Int32)), (.ref bq), (.ref bp), (.ref t)])
    obtain ⟨v79, T79, L79, X79, hQ79, st79⟩ := own_callS X78 hx hZ hown (hw _ (List.mem_of_getElem? (i := 17) rfl)) (hw _ (List.mem_of_getElem? (i := 18) rfl)) (hw _ (List.mem_of_getElem? (i := 3) rfl)) (hw _ (List.mem_of_getElem? (i := 19) rfl)) (rm4_hi l Z a0 hw t bp bq (2 : Int32) (6 : Int32) T72.heap (by decide)) e78 (g := (mkF m 351 #[.val (.int p0), .val (.int p1), .val (.int p2), .val (.int p3), .val (.int p4), .val (.int (2 : Int32)), .val (.ref bq), .val (.ref bp), .val (.ref t)] [(.int (6 : Int32)), (.int (2 : Int32)), (.ref bq), (.ref bp), (.ref t)])) rfl (by rw [hml]; rfl) (argsL := [(.ref t), (.ref bp), (.ref bq), (.int (2 : Int32)), (.int (6 : Int32))]) (rest := []) (lenOf pd_5 rfl) rfl rfl (W := 0) (by show 2 * 0 + _ ≤ _; exact Nat.le_of_eq rfl) (hb hby at_351) (by decide) (by decide) (by decide) (by decide) (by decide)
    obtain ⟨rfl, rfl, e79⟩ := hQ79
    refine own_go st79 ?_
    have N79 := Fr.app N78 (Fr.nil _)
    show own_Ends _ _ _ _ _ _ _ T79 (mkF m 354 #[.val (.int p0), .val (.int p1), .val (.int p2), .val (.int p3), .val (.int p4), .val (.int (2 : Int32)), .val (.ref bq), .val (.ref bp), .val (.ref t)] [(.int (1 : Int32))])
    refine own_go (fun _ k => XS.ifNo X79.here hx rfl (hb hby at_354) rfl ((if0 _ _).trans (feq (by decide)).1) k) ?_
    show own_Ends _ _ _ _ _ _ _ T79 (mkF m 357 #[.val (.int p0), .val (.int p1), .val (.int p2), .val (.int p3), .val (.int p4), .val (.int (2 : Int32)), .val (.ref bq), .val (.ref bp), .val (.ref t)] [])
    refine own_go (fun _ k => XS.iconst X79.here hx rfl (hb hby at_357) k) ?_
    show own_Ends _ _ _ _ _ _ _ T79 (mkF m 358 #[.val (.int p0), .val (.int p1), .val (.int p2), .val (.int p3), .val (.int p4), .val (.int (2 : Int32)), .val (.ref bq), .val (.ref bp), .val (.ref t)] [(.int (1 : Int32))])
    refine own_go (fun _ k => XS.goto X79.here hx rfl (pc0 := 358) (pc' := 362) rfl (hb hby at_358) (by decide) (by decide) k) ?_
    show own_Ends _ _ _ _ _ _ _ T79 (mkF m 362 #[.val (.int p0), .val (.int p1), .val (.int p2), .val (.int p3), .val (.int p4), .val (.int (2 : Int32)), .val (.ref bq), .val (.ref bp), .val (.ref t)] [(.int (1 : Int32))])
    exact own_retZ X79 hx hlk hret (by decide) (hb hby at_362) (by decide) (by decide) ⟨rfl, N79⟩
  · rw [show (p0 &&& (7 : Int32)) = (3 : Int32) from hn]
    show own_Ends _ _ _ _ _ _ _ T49 (mkF m 125 #[.val (.int p0), .val (.int p1), .val (.int p2), .val (.int p3), .val (.int p4), .val (.int (3 : Int32)), .val (.ref bq), .unset, .unset] [(.int (3 : Int32))])
    obtain ⟨T80, h80, k80, X80, e80, E80, A80, st80⟩ := own_newP X49 hx hZ (aty := .byte) (hw _ (List.mem_of_getElem? (i := 0) rfl)) e49 (g := (mkF m 125 #[.val (.int p0), .val (.int p1), .val (.int p2), .val (.int p3), .val (.int p4), .val (.int (3 : Int32)), .val (.ref bq), .unset, .unset] [(.int (3 : Int32))])) rfl (hb hby at_125) rfl (by decide) (n := 3) (by decide) (cap := 3) (by decide) (by decide) (by decide) (by decide)
    obtain ⟨bp, gq80⟩ : ∃ z, z = h49.size := ⟨_, rfl⟩
    rw [← gq80] at A80 st80
    have ne_bq_bp : bq ≠ bp := Nat.ne_of_lt (Nat.lt_of_lt_of_le Vq.lt (Nat.le_of_eq gq80.symm))
    have sz_bp : h0.size ≤ bp := Nat.le_trans K_49.1 (Nat.le_of_eq gq80.symm)
    have g_bp : h0.size ≤ bp := Nat.le_trans (Nat.le_refl _) sz_bp
    have K_80 := K_49.ext E80
    have V_bq_80 := Vq.ext E80
    have V_bp : own_Ar Z h80 bp k80 .byte 3 (fun _ => (.int (0 : Int32))) := A80
    refine own_go st80 ?_
    show own_Ends _ _ _ _ _ _ _ T80 (mkF m 127 #[.val (.int p0), .val (.int p1), .val (.int p2), .val (.int p3), .val (.int p4), .val (.int (3 : Int32)), .val (.ref bq), .unset, .unset] [(.ref bp)])
    refine own_go (fun _ k => XS.astore X80.here hx rfl (hb hby at_127) rfl rfl (l' := #[.val (.int p0), .val (.int p1), .val (.int p2), .val (.int p3), .val (.int p4), .val (.int (3 : Int32)), .val (.ref bq), .val (.ref bp), .unset]) rfl k) ?_
    show own_Ends _ _ _ _ _ _ _ T80 (mkF m 129 #[.val (.int p0), .val (.int p1), .val (.int p2), .val (.int p3), .val (.int p4), .val (.int (3 : Int32)), .val (.ref bq), .val (.ref bp), .unset] [])
    refine own_go (fun _ k => XS.iload X80.here hx rfl (hb hby at_129) rfl k) ?_
    show own_Ends _ _ _ _ _ _ _ T80 (mkF m 131 #[.val (.int p0), .val (.int p1), .val (.int p2), .val (.int p3), .val (.int p4), .val (.int (3 : Int32)), .val (.ref bq), .val (.ref bp), .unset] [(.int (3 : Int32))])
    refine own_go (fun _ k => XS.ifNo X80.here hx rfl (hb hby at_131) rfl ((if0 _ _).trans (tlt (by decide)).2.2.2) k) ?_
    show own_Ends _ _ _ _ _ _ _ T80 (mkF m 134 #[.val (.int p0), .val (.int p1), .val (.int p2), .val (.int p3), .val (.int p4), .val (.int (3 : Int32)), .val (.ref bq), .val (.ref bp), .unset] [])
    refine own_go (fun _ k => XS.aload X80.here hx rfl (hb hby at_134) rfl rfl k) ?_
    show own_Ends _ _ _ _ _ _ _ T80 (mkF m 136 #[.val (.int p0), .val (.int p1), .val (.int p2), .val (.int p3), .val (.int p4), .val (.int (3 : Int32)), .val (.ref bq), .val (.ref bp), .unset] [(.ref bp)])
    refine own_go (fun _ k => XS.iconst X80.here hx rfl (hb hby at_136) k) ?_
    show own_Ends _ _ _ _ _ _ _ T80 (mkF m 137 #[.val (.int p0), .val (.int p1), .val (.int p2), .val (.int p3), .val (.int p4), .val (.int (3 : Int32)), .val (.ref bq), .val (.ref bp), .unset] [(.int (0 : Int32)), (.ref bp)])
    refine own_go (fun _ k => XS.aload X80.here hx rfl (hb hby at_137) rfl rfl k) ?_
    show own_Ends _ _ _ _ _ _ _ T80 (mkF m 139 #[.val (.int p0), .val (.int p1), .val (.int p2), .val (.int p3), .val (.int p4), .val (.int (3 : Int32)), .val (.ref bq), .val (.ref bp), .unset] [(.ref bq), (.int (0 : Int32)), (.ref bp)])
    refine own_go (fun _ k => XS.iconst X80.here hx rfl (hb hby at_139) k) ?_
    show own_Ends _ _ _ _ _ _ _ T80 (mkF m 140 #[.val (.int p0), .val (.int p1), .val (.int p2), .val (.int p3), .val (.int p4), .val (.int (3 : Int32)), .val (.ref bq), .val (.ref bp), .unset] [(.int (0 : Int32)), (.ref bq), (.int (0 : Int32)), (.ref bp)])
    refine own_go (fun _ k => own_ldB X80 hx hZ e80 V_bq_80 (i := 0) (v := (.int (b 0))) (by decide) (by decide) (by decide) rfl (g := (mkF m 140 #[.val (.int p0), .val (.int p1), .val (.int p2), .val (.int p3), .val (.int p4), .val (.int (3 : Int32)), .val (.ref bq), .val (.ref bp), .unset] [(.int (0 : Int32)), (.ref bq), (.int (0 : Int32)), (.ref bp)])) rfl rfl (hb hby at_140) _ k) ?_
    show own_Ends _ _ _ _ _ _ _ T80 (mkF m 141 #[.val (.int p0), .val (.int p1), .val (.int p2), .val (.int p3), .val (.int p4), .val (.int (3 : Int32)), .val (.ref bq), .val (.ref bp), .unset] [(.int (b 0)), (.int (0 : Int32)), (.ref bp)])
    obtain ⟨T81, h81, X81, e81, W81, V81, st81⟩ := own_stB X80 hx hZ e80 V_bp (i := 0) (by decide) (by decide) (by decide) (g := (mkF m 141 #[.val (.int p0), .val (.int p1), .val (.int p2), .val (.int p3), .val (.int p4), .val (.int (3 : Int32)), .val (.ref bq), .val (.ref bp), .unset] [(.int (b 0)), (.int (0 : Int32)), (.ref bp)])) rfl rfl (hb hby at_141)
    have N81 := Fr.snoc X81 N49 g_bp
    have K_81 := K_80.wr W81 (Or.inr sz_bp)
    have V_bq_81 := V_bq_80.other W81 ne_bq_bp
    refine own_go st81 ?_
    show own_Ends _ _ _ _ _ _ _ T81 (mkF m 142 #[.val (.int p0), .val (.int p1), .val (.int p2), .val (.int p3), .val (.int p4), .val (.int (3 : Int32)), .val (.ref bq), .val (.ref bp), .unset] [])
    refine own_go (fun _ k => XS.iload X81.here hx rfl (hb hby at_142) rfl k) ?_
    show own_Ends _ _ _ _ _ _ _ T81 (mkF m 144 #[.val (.int p0), .val (.int p1), .val (.int p2), .val (.int p3), .val (.int p4), .val (.int (3 : Int32)), .val (.ref bq), .val (.ref bp), .unset] [(.int (3 : Int32))])
    refine own_go (fun _ k => XS.iconst X81.here hx rfl (hb hby at_144) k) ?_
    show own_Ends _ _ _ _ _ _ _ T81 (mkF m 145 #[.val (.int p0), .val (.int p1), .val (.int p2), .val (.int p3), .val (.int p4), .val (.int (3 : Int32)), .val (.ref bq), .val (.ref bp), .unset] [(.int (1 : Int32)), (.int (3 : Int32))])
    refine own_go (fun _ k => XS.icmpNo X81.here hx rfl (hb hby at_145) rfl (tlt (by decide)).2.2.2 k) ?_
    show own_Ends _ _ _ _ _ _ _ T81 (mkF m 148 #[.val (.int p0), .val (.int p1), .val (.int p2), .val (.int p3), .val (.int p4), .val (.int (3 : Int32)), .val (.ref bq), .val (.ref bp), .unset] [])
    refine own_go (fun _ k => XS.aload X81.here hx rfl (hb hby at_148) rfl rfl k) ?_
    show own_Ends _ _ _ _ _ _ _ T81 (mkF m 150 #[.val (.int p0), .val (.int p1), .val (.int p2), .val (.int p3), .val (.int p4), .val (.int (3 : Int32)), .val (.ref bq), .val (.ref bp), .unset] [(.ref bp)])
    refine own_go (fun _ k => XS.iconst X81.here hx rfl (hb hby at_150) k) ?_
    show own_Ends _ _ _ _ _ _ _ T81 (mkF m 151 #[.val (.int p0), .val (.int p1), .val (.int p2), .val (.int p3), .val (.int p4), .val (.int (3 : Int32)), .val (.ref bq), .val (.ref bp), .unset] [(.int (1 : Int32)), (.ref bp)])
    refine own_go (fun _ k => XS.aload X81.here hx rfl (hb hby at_151) rfl rfl k) ?_
    show own_Ends _ _ _ _ _ _ _ T81 (mkF m 153 #[.val (.int p0), .val (.int p1), .val (.int p2), .val (.int p3), .val (.int p4), .val (.int (3 : Int32)), .val (.ref bq), .val (.ref bp), .unset] [(.ref bq), (.int (1 : Int32)), (.ref bp)])
    refine own_go (fun _ k => XS.iconst X81.here hx rfl (hb hby at_153) k) ?_
    show own_Ends _ _ _ _ _ _ _ T81 (mkF m 154 #[.val (.int p0), .val (.int p1), .val (.int p2), .val (.int p3), .val (.int p4), .val (.int (3 : Int32)), .val (.ref bq), .val (.ref bp), .unset] [(.int (1 : Int32)), (.ref bq), (.int (1 : Int32)), (.ref bp)])
    refine own_go (fun _ k => own_ldB X81 hx hZ e81 V_bq_81 (i := 1) (v := (.int (b 1))) (by decide) (by decide) (by decide) rfl (g := (mkF m 154 #[.val (.int p0), .val (.int p1), .val (.int p2), .val (.int p3), .val (.int p4), .val (.int (3 : Int32)), .val (.ref bq), .val (.ref bp), .unset] [(.int (1 : Int32)), (.ref bq), (.int (1 : Int32)), (.ref bp)])) rfl rfl (hb hby at_154) _ k) ?_
    show own_Ends _ _ _ _ _ _ _ T81 (mkF m 155 #[.val (.int p0), .val (.int p1), .val (.int p2), .val (.int p3), .val (.int p4), .val (.int (3 : Int32)), .val (.ref bq), .val (.ref bp), .unset] [(.int (b 1)), (.int (1 : Int32)), (.ref bp)])
    obtain ⟨T82, h82, X82, e82, W82, V82, st82⟩ := own_stB X81 hx hZ e81 V81 (i := 1) (by decide) (by decide) (by decide) (g := (mkF m 155 #[.val (.int p0), .val (.int p1), .val (.int p2), .val (.int p3), .val (.int p4), .val (.int (3 : Int32)), .val (.ref bq), .val (.ref bp), .unset] [(.int (b 1)), (.int (1 : Int32)), (.ref bp)])) rfl rfl (hb hby at_155)
    have N82 := Fr.snoc X82 N81 g_bp
    have K_82 := K_81.wr W82 (Or.inr sz_bp)
    have V_bq_82 := V_bq_81.other W82 ne_bq_bp
    refine own_go st82 ?_
    show own_Ends _ _ _ _ _ _ _ T82 (mkF m 156 #[.val (.int p0), .val (.int p1), .val (.int p2), .val (.int p3), .val (.int p4), .val (.int (3 : Int32)), .val (.ref bq), .val (.ref bp), .unset] [])
    refine own_go (fun _ k => XS.iload X82.here hx rfl (hb hby at_156) rfl k) ?_
    show own_Ends _ _ _ _ _ _ _ T82 (mkF m 158 #[.val (.int p0), .val (.int p1), .val (.int p2), .val (.int p3), .val (.int p4), .val (.int (3 : Int32)), .val (.ref bq), .val (.ref bp), .unset] [(.int (3 : Int32))])
    refine own_go (fun _ k => XS.iconst X82.here hx rfl (hb hby at_158) k) ?_
    show own_Ends _ _ _ _ _ _ _ T82 (mkF m 159 #[.val (.int p0), .val (.int p1), .val (.int p2), .val (.int p3), .val (.int p4), .val (.int (3 : Int32)), .val (.ref bq), .val (.ref bp), .unset] [(.int (2 : Int32)), (.int (3 : Int32))])
    refine own_go (fun _ k => XS.icmpNo X82.here hx rfl (hb hby at_159) rfl (tlt (by decide)).2.2.2 k) ?_
    show own_Ends _ _ _ _ _ _ _ T82 (mkF m 162 #[.val (.int p0), .val (.int p1), .val (.int p2), .val (.int p3), .val (.int p4), .val (.int (3 : Int32)), .val (.ref bq), .val (.ref bp), .unset] [])
    refine own_go (fun _ k => XS.aload X82.here hx rfl (hb hby at_162) rfl rfl k) ?_
    show own_Ends _ _ _ _ _ _ _ T82 (mkF m 164 #[.val (.int p0), .val (.int p1), .val (.int p2), .val (.int p3), .val (.int p4), .val (.int (3 : Int32)), .val (.ref bq), .val (.ref bp), .unset] [(.ref bp)])
    refine own_go (fun _ k => XS.iconst X82.here hx rfl (hb hby at_164) k) ?_
    show own_Ends _ _ _ _ _ _ _ T82 (mkF m 165 #[.val (.int p0), .val (.int p1), .val (.int p2), .val (.int p3), .val (.int p4), .val (.int (3 : Int32)), .val (.ref bq), .val (.ref bp), .unset] [(.int (2 : Int32)), (.ref bp)])
    refine own_go (fun _ k => XS.aload X82.here hx rfl (hb hby at_165) rfl rfl k) ?_
    show own_Ends _ _ _ _ _ _ _ T82 (mkF m 167 #[.val (.int p0), .val (.int p1), .val (.int p2), .val (.int p3), .val (.int p4), .val (.int (3 : Int32)), .val (.ref bq), .val (.ref bp), .unset] [(.ref bq), (.int (2 : Int32)), (.ref bp)])
    refine own_go (fun _ k => XS.iconst X82.here hx rfl (hb hby at_167) k) ?_
    show own_Ends _ _ _ _ _ _ _ T82 (mkF m 168 #[.val (.int p0), .val (.int p1), .val (.int p2), .val (.int p3), .val (.int p4), .val (.int (3 : Int32)), .val (.ref bq), .val (.ref bp), .unset] [(.int (2 : Int32)), (.ref bq), (.int (2 : Int32)), (.ref bp)])
    refine own_go (fun _ k => own_ldB X82 hx hZ e82 V_bq_82 (i := 2) (v := (.int (b 2))) (by decide) (by decide) (by decide) rfl (g := (mkF m 168 #[.val (.int p0), .val (.int p1), .val (.int p2), .val (.int p3), .val (.int p4), .val (.int (3 : Int32)), .val (.ref bq), .val (.ref bp), .unset] [(.int (2 : Int32)), (.ref bq), (.int (2 : Int32)), (.ref bp)])) rfl rfl (hb hby at_168) _ k) ?_
    show own_Ends _ _ _ _ _ _ _ T82 (mkF m 169 #[.val (.int p0), .val (.int p1), .val (.int p2), .val (.int p3), .val (.int p4), .val (.int (3 : Int32)), .val (.ref bq), .val (.ref bp), .unset] [(.int (b 2)), (.int (2 : Int32)), (.ref bp)])
    obtain ⟨T83, h83, X83, e83, W83, V83, st83⟩ := own_stB X82 hx hZ e82 V82 (i := 2) (by decide) (by decide) (by decide) (g := (mkF m 169 #[.val (.int p0), .val (.int p1), .val (.int p2), .val (.int p3), .val (.int p4), .val (.int (3 : Int32)), .val (.ref bq), .val (.ref bp), .unset] [(.int (b 2)), (.int (2 : Int32)), (.ref bp)])) rfl rfl (hb hby at_169)
    have N83 := Fr.snoc X83 N82 g_bp
    have K_83 := K_82.wr W83 (Or.inr sz_bp)
    have V_bq_83 := V_bq_82.other W83 ne_bq_bp
    refine own_go st83 ?_
    show own_Ends _ _ _ _ _ _ _ T83 (mkF m 170 #[.val (.int p0), .val (.int p1), .val (.int p2), .val (.int p3), .val (.int p4), .val (.int (3 : Int32)), .val (.ref bq), .val (.ref bp), .unset] [])
    refine own_go (fun _ k => XS.iload X83.here hx rfl (hb hby at_170) rfl k) ?_
    show own_Ends _ _ _ _ _ _ _ T83 (mkF m 172 #[.val (.int p0), .val (.int p1), .val (.int p2), .val (.int p3), .val (.int p4), .val (.int (3 : Int32)), .val (.ref bq), .val (.ref bp), .unset] [(.int (3 : Int32))])
    refine own_go (fun _ k => XS.iconst X83.here hx rfl (hb hby at_172) k) ?_
    show own_Ends _ _ _ _ _ _ _ T83 (mkF m 173 #[.val (.int p0), .val (.int p1), .val (.int p2), .val (.int p3), .val (.int p4), .val (.int (3 : Int32)), .val (.ref bq), .val (.ref bp), .unset] [(.int (3 : Int32)), (.int (3 : Int32))])
    refine own_go (fun _ k => XS.icmpYes X83.here hx rfl (pc0 := 173) (pc' := 184) rfl (hb hby at_173) rfl (flt (by decide)).2.2.2 (by decide) (by decide) k) ?_
    show own_Ends _ _ _ _ _ _ _ T83 (mkF m 184 #[.val (.int p0), .val (.int p1), .val (.int p2), .val (.int p3), .val (.int p4), .val (.int (3 : Int32)), .val (.ref bq), .val (.ref bp), .unset] [])
    refine own_go (fun _ k => XS.iload X83.here hx rfl (hb hby at_184) rfl k) ?_
    show own_Ends _ _ _ _ _ _ _ T83 (mkF m 186 #[.val (.int p0), .val (.int p1), .val (.int p2), .val (.int p3), .val (.int p4), .val (.int (3 : Int32)), .val (.ref bq), .val (.ref bp), .unset] [(.int (3 : Int32))])
    refine own_go (fun _ k => XS.iconst X83.here hx rfl (hb hby at_186) k) ?_
    show own_Ends _ _ _ _ _ _ _ T83 (mkF m 187 #[.val (.int p0), .val (.int p1), .val (.int p2), .val (.int p3), .val (.int p4), .val (.int (3 : Int32)), .val (.ref bq), .val (.ref bp), .unset] [(.int (4 : Int32)), (.int (3 : Int32))])
    refine own_go (fun _ k => XS.icmpYes X83.here hx rfl (pc0 := 187) (pc' := 198) rfl (hb hby at_187) rfl (flt (by decide)).2.2.2 (by decide) (by decide) k) ?_
    show own_Ends _ _ _ _ _ _ _ T83 (mkF m 198 #[.val (.int p0), .val (.int p1), .val (.int p2), .val (.int p3), .val (.int p4), .val (.int (3 : Int32)), .val (.ref bq), .val (.ref bp), .unset] [])
    refine own_go (fun _ k => XS.iload X83.here hx rfl (hb hby at_198) rfl k) ?_
    show own_Ends _ _ _ _ _ _ _ T83 (mkF m 200 #[.val (.int p0), .val (.int p1), .val (.int p2), .val (.int p3), .val (.int p4), .val (.int (3 : Int32)), .val (.ref bq), .val (.ref bp), .unset] [(.int (3 : Int32))])
    refine own_go (fun _ k => XS.iconst X83.here hx rfl (hb hby at_200) k) ?_
    show own_Ends _ _ _ _ _ _ _ T83 (mkF m 201 #[.val (.int p0), .val (.int p1), .val (.int p2), .val (.int p3), .val (.int p4), .val (.int (3 : Int32)), .val (.ref bq), .val (.ref bp), .unset] [(.int (5 : Int32)), (.int (3 : Int32))])
    refine own_go (fun _ k => XS.icmpYes X83.here hx rfl (pc0 := 201) (pc' := 212) rfl (hb hby at_201) rfl (flt (by decide)).2.2.2 (by decide) (by decide) k) ?_
    show own_Ends _ _ _ _ _ _ _ T83 (mkF m 212 #[.val (.int p0), .val (.int p1), .val (.int p2), .val (.int p3), .val (.int p4), .val (.int (3 : Int32)), .val (.ref bq), .val (.ref bp), .unset] [])
    refine own_go (fun _ k => XS.iload X83.here hx rfl (hb hby at_212) rfl k) ?_
    show own_Ends _ _ _ _ _ _ _ T83 (mkF m 214 #[.val (.int p0), .val (.int p1), .val (.int p2), .val (.int p3), .val (.int p4), .val (.int (3 : Int32)), .val (.ref bq), .val (.ref bp), .unset] [(.int (3 : Int32))])
    refine own_go (fun _ k => XS.bipush X83.here hx rfl (hb hby at_214) k) ?_
    show own_Ends _ _ _ _ _ _ _ T83 (mkF m 216 #[.val (.int p0), .val (.int p1), .val (.int p2), .val (.int p3), .val (.int p4), .val (.int (3 : Int32)), .val (.ref bq), .val (.ref bp), .unset] [(.int (6 : Int32)), (.int (3 : Int32))])
    refine own_go (fun _ k => XS.icmpYes X83.here hx rfl (pc0 := 216) (pc' := 229) rfl (hb hby at_216) rfl (flt (by decide)).2.2.2 (by decide) (by decide) k) ?_
    show own_Ends _ _ _ _ _ _ _ T83 (mkF m 229 #[.val (.int p0), .val (.int p1), .val (.int p2), .val (.int p3), .val (.int p4), .val (.int (3 : Int32)), .val (.ref bq), .val (.ref bp), .unset] [])
    refine own_go (fun _ k => XS.aload X83.here hx rfl (hb hby at_229) rfl rfl k) ?_
    show own_Ends _ _ _ _ _ _ _ T83 (mkF m 231 #[.val (.int p0), .val (.int p1), .val (.int p2), .val (.int p3), .val (.int p4), .val (.int (3 : Int32)), .val (.ref bq), .val (.ref bp), .unset] [(.ref bp)])
    have Vp : own_Ar Z h83 bp k80 .byte 3 (fun j => .int (b j)) := V83.cong (fun j hj => by
      have seg : j = 0 ∨ j = 1 ∨ j = 2 := by omega
      rcases seg with rfl | rfl | rfl
      · exact congrArg Value.int (hbn 0 (by decide))
      · exact congrArg Value.int (hbn 1 (by decide))
      · exact congrArg Value.int (hbn 2 (by decide)))
    obtain ⟨v84, T84, L84, X84, hQ84, st84⟩ := own_callS X83 hx hZ hown (hw _ (List.mem_of_getElem? (i := 5) rfl)) (hw _ (List.mem_of_getElem? (i := 6) rfl)) (hw _ (List.mem_of_getElem? (i := 7) rfl)) (hw _ (List.mem_of_getElem? (i := 8) rfl)) (rm2 l Z a0 hw bp h83 h0.size 3 k80 b K_83.1 Vp (by decide)) e83 (g := (mkF m 231 #[.val (.int p0), .val (.int p1), .val (.int p2), .val (.int p3), .val (.int p4), .val (.int (3 : Int32)), .val (.ref bq), .val (.ref bp), .unset] [(.ref bp)])) rfl (by rw [hml]; rfl) (argsL := [(.ref bp)]) (rest := []) (lenOf pd_4 rfl) rfl rfl (W := 0) (by show 2 * 0 + _ ≤ _; exact Nat.le_of_eq rfl) (hb hby at_231) (by decide) (by decide) (by decide) (by decide) (by decide)
    obtain ⟨t, kt, g, rfl, N84q, K84, V84, s84, hG84⟩ := hQ84
    refine own_go st84 ?_
    have N84 := Fr.app N83 N84q
    have K_84 := K_83.trans K84 all0
    have V_bq_84 := V_bq_83.keep K84 nin0
    have V_bp_84 := Vp.keep K84 nin0
    show own_Ends _ _ _ _ _ _ _ T84 (mkF m 234 #[.val (.int p0), .val (.int p1), .val (.int p2), .val (.int p3), .val (.int p4), .val (.int (3 : Int32)), .val (.ref bq), .val (.ref bp), .unset] [(.ref t)])
    refine own_go (fun _ k => XS.astore X84.here hx rfl (hb hby at_234) rfl rfl (l' := #[.val (.int p0), .val (.int p1), .val (.int p2), .val (.int p3), .val (.int p4), .val (.int (3 : Int32)), .val (.ref bq), .val (.ref bp), .val (.ref t)]) rfl k) ?_
    show own_Ends _ _ _ _ _ _ _ T84 (mkF m 236 #[.val (.int p0), .val (.int p1), .val (.int p2), .val (.int p3), .val (.int p4), .val (.int (3 : Int32)), .val (.ref bq), .val (.ref bp), .val (.ref t)] [])
    refine own_go (fun _ k => XS.aload X84.here hx rfl (hb hby at_236) rfl rfl k) ?_
    show own_Ends _ _ _ _ _ _ _ T84 (mkF m 238 #[.val (.int p0), .val (.int p1), .val (.int p2), .val (.int p3), .val (.int p4), .val (.int (3 : Int32)), .val (.ref bq), .val (.ref bp), .val (.ref t)] [(.ref t)])
    refine own_go (fun _ k => XS.ifnullNo X84.here hx rfl (hb hby at_238) rfl k) ?_
    show own_Ends _ _ _ _ _ _ _ T84 (mkF m 241 #[.val (.int p0), .val (.int p1), .val (.int p2), .val (.int p3), .val (.int p4), .val (.int (3 : Int32)), .val (.ref bq), .val (.ref bp), .val (.ref t)] [])
    refine own_go (fun _ k => XS.aload X84.here hx rfl (hb hby at_241) rfl rfl k) ?_
    show own_Ends _ _ _ _ _ _ _ T84 (mkF m 243 #[.val (.int p0), .val (.int p1), .val (.int p2), .val (.int p3), .val (.int p4), .val (.int (3 : Int32)), .val (.ref bq), .val (.ref bp), .val (.ref t)] [(.ref t)])
    refine own_go (fun _ k => own_len X84 hx hZ rfl V84 (z := (3 : Int32)) rfl (g := (mkF m 243 #[.val (.int p0), .val (.int p1), .val (.int p2), .val (.int p3), .val (.int p4), .val (.int (3 : Int32)), .val (.ref bq), .val (.ref bp), .val (.ref t)] [(.ref t)])) rfl rfl (hb hby at_243) _ k) ?_
    show own_Ends _ _ _ _ _ _ _ T84 (mkF m 244 #[.val (.int p0), .val (.int p1), .val (.int p2), .val (.int p3), .val (.int p4), .val (.int (3 : Int32)), .val (.ref bq), .val (.ref bp), .val (.ref t)] [(.int (3 : Int32))])
    refine own_go (fun _ k => XS.iload X84.here hx rfl (hb hby at_244) rfl k) ?_
    show own_Ends _ _ _ _ _ _ _ T84 (mkF m 246 #[.val (.int p0), .val (.int p1), .val (.int p2), .val (.int p3), .val (.int p4), .val (.int (3 : Int32)), .val (.ref bq), .val (.ref bp), .val (.ref t)] [(.int (3 : Int32)), (.int (3 : Int32))])
    refine own_go (fun _ k => XS.icmpYes X84.here hx rfl (pc0 := 246) (pc' := 251) rfl (hb hby at_246) rfl (teq (rfl)).1 (by decide) (by decide) k) ?_
    show own_Ends _ _ _ _ _ _ _ T84 (mkF m 251 #[.val (.int p0), .val (.int p1), .val (.int p2), .val (.int p3), .val (.int p4), .val (.int (3 : Int32)), .val (.ref bq), .val (.ref bp), .val (.ref t)] [])
    refine own_go (fun _ k => XS.aload X84.here hx rfl (hb hby at_251) rfl rfl k) ?_
    show own_Ends _ _ _ _ _ _ _ T84 (mkF m 253 #[.val (.int p0), .val (.int p1), .val (.int p2), .val (.int p3), .val (.int p4), .val (.int (3 : Int32)), .val (.ref bq), .val (.ref bp), .val (.ref t)] [(.ref t)])
    refine own_go (fun _ k => XS.aload X84.here hx rfl (hb hby at_253) rfl rfl k) ?_
    show own_Ends _ _ _ _ _ _ _ T84 (mkF m 255 #[.val (.int p0), .val (.int p1), .val (.int p2), .val (.int p3), .val (.int p4), .val (.int (3 : Int32)), .val (.ref bq), .val (.ref bp), .val (.ref t)] [(.ref bp), (.ref t)])
    refine own_go (fun _ k => XS.aload X84.here hx rfl (hb hby at_255) rfl rfl k) ?_
    show own_Ends _ _ _ _ _ _ _ T84 (mkF m 257 #[.val (.int p0), .val (.int p1), .val (.int p2), .val (.int p3), .val (.int p4), .val (.int (3 : Int32)), .val (.ref bq), .val (.ref bp), .val (.ref t)] [(.ref bq), (.ref bp), (.ref t)])
    refine own_go (fun _ k => XS.iload X84.here hx rfl (hb hby at_257) rfl k) ?_
    show own_Ends _ _ _ _ _ _ _ T84 (mkF m 259 #[.val (.int p0), .val (.int p1), .val (.int p2), .val (.int p3), .val (.int p4), .val (.int (3 : Int32)), .val (.ref bq), .val (.ref bp), .val (.ref t)] [(.int (3 : Int32)), (.ref bq), (.ref bp), (.ref t)])
    refine own_go (fun _ k => XS.iconst X84.here hx rfl (hb hby at_259) k) ?_
    show own_Ends _ _ _ _ _ _ _ T84 (mkF m 260 #[.val (.int p0), .val (.int p1), .val (.int p2), .val (.int p3), .val (.int p4), .val (.int (3 : Int32)), .val (.ref bq), .val (.ref bp), .val (.ref t)] [(.int (0 : Int32)), (.int (3 : Int32)), (.ref bq), (.ref bp), (.ref t)])
    obtain ⟨q0, g0, hB0⟩ := hG84 0 (by decide)
    obtain ⟨v85, T85, L85, X85, hQ85, st85⟩ := own_callS X84 hx hZ hown (hw _ (List.mem_of_getElem? (i := 17) rfl)) (hw _ (List.mem_of_getElem? (i := 18) rfl)) (hw _ (List.mem_of_getElem? (i := 3) rfl)) (hw _ (List.mem_of_getElem? (i := 19) rfl)) (rm4_0 l Z a0 hw t bp bq (3 : Int32) (0 : Int32) T84.heap 3 kt k80 k35 g b q0 V84 V_bp_84 V_bq_84 (by decide) (by decide) g0 hB0 rfl) rfl (g := (mkF m 260 #[.val (.int p0), .val (.int p1), .val (.int p2), .val (.int p3), .val (.int p4), .val (.int (3 : Int32)), .val (.ref bq), .val (.ref bp), .val (.ref t)] [(.int (0 : Int32)), (.int (3 : Int32)), (.ref bq), (.ref bp), (.ref t)])) rfl (by rw [hml]; rfl) (argsL := [(.ref t), (.ref bp), (.ref bq), (.int (3 : Int32)), (.int (0 : Int32))]) (rest := []) (lenOf pd_5 rfl) rfl rfl (W := 0) (by show 2 * 0 + _ ≤ _; exact Nat.le_of_eq rfl) (hb hby at_260) (by decide) (by decide) (by decide) (by decide) (by decide)
    obtain ⟨rfl, rfl, e85⟩ := hQ85
    refine own_go st85 ?_
    have N85 := Fr.app N84 (Fr.nil _)
    show own_Ends _ _ _ _ _ _ _ T85 (mkF m 263 #[.val (.int p0), .val (.int p1), .val (.int p2), .val (.int p3), .val (.int p4), .val (.int (3 : Int32)), .val (.ref bq), .val (.ref bp), .val (.ref t)] [(.int (1 : Int32))])
    refine own_go (fun _ k => XS.ifNo X85.here hx rfl (hb hby at_263) rfl ((if0 _ _).trans (feq (by decide)).1) k) ?_
    show own_Ends _ _ _ _ _ _ _ T85 (mkF m 266 #[.val (.int p0), .val (.int p1), .val (.int p2), .val (.int p3), .val (.int p4), .val (.int (3 : Int32)), .val (.ref bq), .val (.ref bp), .val (.ref t)] [])
    refine own_go (fun _ k => XS.aload X85.here hx rfl (hb hby at_266) rfl rfl k) ?_
    show own_Ends _ _ _ _ _ _ _ T85 (mkF m 268 #[.val (.int p0), .val (.int p1), .val (.int p2), .val (.int p3), .val (.int p4), .val (.int (3 : Int32)), .val (.ref bq), .val (.ref bp), .val (.ref t)] [(.ref t)])
    refine own_go (fun _ k => XS.aload X85.here hx rfl (hb hby at_268) rfl rfl k) ?_
    show own_Ends _ _ _ _ _ _ _ T85 (mkF m 270 #[.val (.int p0), .val (.int p1), .val (.int p2), .val (.int p3), .val (.int p4), .val (.int (3 : Int32)), .val (.ref bq), .val (.ref bp), .val (.ref t)] [(.ref bp), (.ref t)])
    refine own_go (fun _ k => XS.aload X85.here hx rfl (hb hby at_270) rfl rfl k) ?_
    show own_Ends _ _ _ _ _ _ _ T85 (mkF m 272 #[.val (.int p0), .val (.int p1), .val (.int p2), .val (.int p3), .val (.int p4), .val (.int (3 : Int32)), .val (.ref bq), .val (.ref bp), .val (.ref t)] [(.ref bq), (.ref bp), (.ref t)])
    refine own_go (fun _ k => XS.iload X85.here hx rfl (hb hby at_272) rfl k) ?_
    show own_Ends _ _ _ _ _ _ _ T85 (mkF m 274 #[.val (.int p0), .val (.int p1), .val (.int p2), .val (.int p3), .val (.int p4), .val (.int (3 : Int32)), .val (.ref bq), .val (.ref bp), .val (.ref t)] [(.int (3 : Int32)), (.ref bq), (.ref bp), (.ref t)])
    refine own_go (fun _ k => XS.iconst X85.here hx rfl (hb hby at_274) k) ?_
    show own_Ends _ _ _ _ _ _ _ T85 (mkF m 275 #[.val (.int p0), .val (.int p1), .val (.int p2), .val (.int p3), .val (.int p4), .val (.int (3 : Int32)), .val (.ref bq), .val (.ref bp), .val (.ref t)] [(.int (1 : Int32)), (.int (3 : Int32)), (.ref bq), (.ref bp), (.ref t)])
    obtain ⟨q1, g1, hB1⟩ := hG84 1 (by decide)
    obtain ⟨v86, T86, L86, X86, hQ86, st86⟩ := own_callS X85 hx hZ hown (hw _ (List.mem_of_getElem? (i := 17) rfl)) (hw _ (List.mem_of_getElem? (i := 18) rfl)) (hw _ (List.mem_of_getElem? (i := 3) rfl)) (hw _ (List.mem_of_getElem? (i := 19) rfl)) (rm4_1 l Z a0 hw t bp bq (3 : Int32) (1 : Int32) T84.heap 3 kt k80 k35 g b q1 V84 V_bp_84 V_bq_84 (by decide) (by decide) g1 hB1 rfl) e85 (g := (mkF m 275 #[.val (.int p0), .val (.int p1), .val (.int p2), .val (.int p3), .val (.int p4), .val (.int (3 : Int32)), .val (.ref bq), .val (.ref bp), .val (.ref t)] [(.int (1 : Int32)), (.int (3 : Int32)), (.ref bq), (.ref bp), (.ref t)])) rfl (by rw [hml]; rfl) (argsL := [(.ref t), (.ref bp), (.ref bq), (.int (3 : Int32)), (.int (1 : Int32))]) (rest := []) (lenOf pd_5 rfl) rfl rfl (W := 0) (by show 2 * 0 + _ ≤ _; exact Nat.le_of_eq rfl) (hb hby at_275) (by decide) (by decide) (by decide) (by decide) (by decide)
    obtain ⟨rfl, rfl, e86⟩ := hQ86
    refine own_go st86 ?_
    have N86 := Fr.app N85 (Fr.nil _)
    show own_Ends _ _ _ _ _ _ _ T86 (mkF m 278 #[.val (.int p0), .val (.int p1), .val (.int p2), .val (.int p3), .val (.int p4), .val (.int (3 : Int32)), .val (.ref bq), .val (.ref bp), .val (.ref t)] [(.int (1 : Int32))])
    refine own_go (fun _ k => XS.ifNo X86.here hx rfl (hb hby at_278) rfl ((if0 _ _).trans (feq (by decide)).1) k) ?_
    show own_Ends _ _ _ _ _ _ _ T86 (mkF m 281 #[.val (.int p0), .val (.int p1), .val (.int p2), .val (.int p3), .val (.int p4), .val (.int (3 : Int32)), .val (.ref bq), .val (.ref bp), .val (.ref t)] [])
    refine own_go (fun _ k => XS.aload X86.here hx rfl (hb hby at_281) rfl rfl k) ?_
    show own_Ends _ _ _ _ _ _ _ T86 (mkF m 283 #[.val (.int p0), .val (.int p1), .val (.int p2), .val (.int p3), .val (.int p4), .val (.int (3 : Int32)), .val (.ref bq), .val (.ref bp), .val (.ref t)] [(.ref t)])
    refine own_go (fun _ k => XS.aload X86.here hx rfl (hb hby at_283) rfl rfl k) ?_
    show own_Ends _ _ _ _ _ _ _ T86 (mkF m 285 #[.val (.int p0), .val (.int p1), .val (.int p2), .val (.int p3), .val (.int p4), .val (.int (3 : Int32)), .val (.ref bq), .val (.ref bp), .val (.ref t)] [(.ref bp), (.ref t)])
    refine own_go (fun _ k => XS.aload X86.here hx rfl (hb hby at_285) rfl rfl k) ?_
    show own_Ends _ _ _ _ _ _ _ T86 (mkF m 287 #[.val (.int p0), .val (.int p1), .val (.int p2), .val (.int p3), .val (.int p4), .val (.int (3 : Int32)), .val (.ref bq), .val (.ref bp), .val (.ref t)] [(.ref bq), (.ref bp), (.ref t)])
    refine own_go (fun _ k => XS.iload X86.here hx rfl (hb hby at_287) rfl k) ?_
    show own_Ends _ _ _ _ _ _ _ T86 (mkF m 289 #[.val (.int p0), .val (.int p1), .val (.int p2), .val (.int p3), .val (.int p4), .val (.int (3 : Int32)), .val (.ref bq), .val (.ref bp), .val (.ref t)] [(.int (3 : Int32)), (.ref bq), (.ref bp), (.ref t)])
    refine own_go (fun _ k => XS.iconst X86.here hx rfl (hb hby at_289) k) ?_
    show own_Ends _ _ _ _ _ _ _ T86 (mkF m 290 #[.val (.int p0), .val (.int p1), .val (.int p2), .val (.int p3), .val (.int p4), .val (.int (3 : Int32)), .val (.ref bq), .val (.ref bp), .val (.ref t)] [(.int (2 : Int32)), (.int (3 : Int32)), (.ref bq), (.ref bp), (.ref t)])
    obtain ⟨q2, g2, hB2⟩ := hG84 2 (by decide)
    obtain ⟨v87, T87, L87, X87, hQ87, st87⟩ := own_callS X86 hx hZ hown (hw _ (List.mem_of_getElem? (i := 17) rfl)) (hw _ (List.mem_of_getElem? (i := 18) rfl)) (hw _ (List.mem_of_getElem? (i := 3) rfl)) (hw _ (List.mem_of_getElem? (i := 19) rfl)) (rm4_2 l Z a0 hw t bp bq (3 : Int32) (2 : Int32) T84.heap 3 kt k80 k35 g b q2 V84 V_bp_84 V_bq_84 (by decide) (by decide) g2 hB2 rfl) e86 (g := (mkF m 290 #[.val (.int p0), .val (.int p1), .val (.int p2), .val (.int p3), .val (.int p4), .val (.int (3 : Int32)), .val (.ref bq), .val (.ref bp), .val (.ref t)] [(.int (2 : Int32)), (.int (3 : Int32)), (.ref bq), (.ref bp), (.ref t)])) rfl (by rw [hml]; rfl) (argsL := [(.ref t), (.ref bp), (.ref bq), (.int (3 : Int32)), (.int (2 : Int32))]) (rest := []) (lenOf pd_5 rfl) rfl rfl (W := 0) (by show 2 * 0 + _ ≤ _; exact Nat.le_of_eq rfl) (hb hby at_290) (by decide) (by decide) (by decide) (by decide) (by decide)
    obtain ⟨rfl, rfl, e87⟩ := hQ87
    refine own_go st87 ?_
    have N87 := Fr.app N86 (Fr.nil _)
    show own_Ends _ _ _ _ _ _ _ T87 (mkF m 293 #[.val (.int p0), .val (.int p1), .val (.int p2), .val (.int p3), .val (.int p4), .val (.int (3 : Int32)), .val (.ref bq), .val (.ref bp), .val (.ref t)] [(.int (1 : Int32))])
    refine own_go (fun _ k => XS.ifNo X87.here hx rfl (hb hby at_293) rfl ((if0 _ _).trans (feq (by decide)).1) k) ?_
    show own_Ends _ _ _ _ _ _ _ T87 (mkF m 296 #[.val (.int p0), .val (.int p1), .val (.int p2), .val (.int p3), .val (.int p4), .val (.int (3 : Int32)), .val (.ref bq), .val (.ref bp), .val (.ref t)] [])
    refine own_go (fun _ k => XS.aload X87.here hx rfl (hb hby at_296) rfl rfl k) ?_
    show own_Ends _ _ _ _ _ _ _ T87 (mkF m 298 #[.val (.int p0), .val (.int p1), .val (.int p2), .val (.int p3), .val (.int p4), .val (.int (3 : Int32)), .val (.ref bq), .val (.ref bp), .val (.ref t)] [(.ref t)])
    refine own_go (fun _ k => XS.aload X87.here hx rfl (hb hby at_298) rfl rfl k) ?_
    show own_Ends _ _ _ _ _ _ _ T87 (mkF m 300 #[.val (.int p0), .val (.int p1), .val (.int p2), .val (.int p3), .val (.int p4), .val (.int (3 : Int32)), .val (.ref bq), .val (.ref bp), .val (.ref t)] [(.ref bp), (.ref t)])
    refine own_go (fun _ k => XS.aload X87.here hx rfl (hb hby at_300) rfl rfl k) ?_
    show own_Ends _ _ _ _ _ _ _ T87 (mkF m 302 #[.val (.int p0), .val (.int p1), .val (.int p2), .val (.int p3), .val (.int p4), .val (.int (3 : Int32)), .val (.ref bq), .val (.ref bp), .val (.ref t)] [(.ref bq), (.ref bp), (.ref t)])
    refine own_go (fun _ k => XS.iload X87.here hx rfl (hb hby at_302) rfl k) ?_
    show own_Ends _ _ _ _ _ _ _ T87 (mkF m 304 #[.val (.int p0), .val (.int p1), .val (.int p2), .val (.int p3), .val (.int p4), .val (.int (3 : Int32)), .val (.ref bq), .val (.ref bp), .val (.ref t)] [(.int (3 : Int32)), (.ref bq), (.ref bp), (.ref t)])
    refine own_go (fun _ k => XS.iconst X87.here hx rfl (hb hby at_304) k) ?_
    show own_Ends _ _ _ _ _ _ _ T87 (mkF m 305 #[.val (.int p0), .val (.int p1), .val (.int p2), .val (.int p3), .val (.int p4), .val (.int (3 : Int32)), .val (.ref bq), .val (.ref bp), .val (.ref t)] [(.int (3 : Int32)), (.int (3 : Int32)), (.ref bq), (.ref bp), (.ref t)])
    obtain ⟨v88, T88, L88, X88, hQ88, st88⟩ := own_callS X87 hx hZ hown (hw _ (List.mem_of_getElem? (i := 17) rfl)) (hw _ (List.mem_of_getElem? (i := 18) rfl)) (hw _ (List.mem_of_getElem? (i := 3) rfl)) (hw _ (List.mem_of_getElem? (i := 19) rfl)) (rm4_hi l Z a0 hw t bp bq (3 : Int32) (3 : Int32) T84.heap (by decide)) e87 (g := (mkF m 305 #[.val (.int p0), .val (.int p1), .val (.int p2), .val (.int p3), .val (.int p4), .val (.int (3 : Int32)), .val (.ref bq), .val (.ref bp), .val (.ref t)] [(.int (3 : Int32)), (.int (3 : Int32)), (.ref bq), (.ref bp), (.ref t)])) rfl (by rw [hml]; rfl) (argsL := [(.ref t), (.ref bp), (.ref bq), (.int (3 : Int32)), (.int (3 : Int32))]) (rest := []) (lenOf pd_5 rfl) rfl rfl (W := 0) (by show 2 * 0 + _ ≤ _; exact Nat.le_of_eq rfl) (hb hby at_305) (by decide) (by decide) (by decide) (by decide) (by decide)
    obtain ⟨rfl, rfl, e88⟩ := hQ88
    refine own_go st88 ?_
    have N88 := Fr.app N87 (Fr.nil _)
    show own_Ends _ _ _ _ _ _ _ T88 (mkF m 308 #[.val (.int p0), .val (.int p1), .val (.int p2), .val (.int p3), .val (.int p4), .val (.int (3 : Int32)), .val (.ref bq), .val (.ref bp), .val (.ref t)] [(.int (1 : Int32))])
    refine own_go (fun _ k => XS.ifNo X88.here hx rfl (hb hby at_308) rfl ((if0 _ _).trans (feq (by decide)).1) k) ?_
    show own_Ends _ _ _ _ _ _ _ T88 (mkF m 311 #[.val (.int p0), .val (.int p1), .val (.int p2), .val (.int p3), .val (.int p4), .val (.int (3 : Int32)), .val (.ref bq), .val (.ref bp), .val (.ref t)] [])
    refine own_go (fun _ k => XS.aload X88.here hx rfl (hb hby at_311) rfl rfl k) ?_
    show own_Ends _ _ _ _ _ _ _ T88 (mkF m 313 #[.val (.int p0), .val (.int p1), .val (.int p2), .val (.int p3), .val (.int p4), .val (.int (3 : Int32)), .val (.ref bq), .val (.ref bp), .val (.ref t)] [(.ref t)])
    refine own_go (fun _ k => XS.aload X88.here hx rfl (hb hby at_313) rfl rfl k) ?_
    show own_Ends _ _ _ _ _ _ _ T88 (mkF m 315 #[.val (.int p0), .val (.int p1), .val (.int p2), .val (.int p3), .val (.int p4), .val (.int (3 : Int32)), .val (.ref bq), .val (.ref bp), .val (.ref t)] [(.ref bp), (.ref t)])
    refine own_go (fun _ k => XS.aload X88.here hx rfl (hb hby at_315) rfl rfl k) ?_
    show own_Ends _ _ _ _ _ _ _ T88 (mkF m 317 #[.val (.int p0), .val (.int p1), .val (.int p2), .val (.int p3), .val (.int p4), .val (.int (3 : Int32)), .val (.ref bq), .val (.ref bp), .val (.ref t)] [(.ref bq), (.ref bp), (.ref t)])
    refine own_go (fun _ k => XS.iload X88.here hx rfl (hb hby at_317) rfl k) ?_
    show own_Ends _ _ _ _ _ _ _ T88 (mkF m 319 #[.val (.int p0), .val (.int p1), .val (.int p2), .val (.int p3), .val (.int p4), .val (.int (3 : Int32)), .val (.ref bq), .val (.ref bp), .val (.ref t)] [(.int (3 : Int32)), (.ref bq), (.ref bp), (.ref t)])
    refine own_go (fun _ k => XS.iconst X88.here hx rfl (hb hby at_319) k) ?_
    show own_Ends _ _ _ _ _ _ _ T88 (mkF m 320 #[.val (.int p0), .val (.int p1), .val (.int p2), .val (.int p3), .val (.int p4), .val (.int (3 : Int32)), .val (.ref bq), .val (.ref bp), .val (.ref t)] [(.int (4 : Int32)), (.int (3 : Int32)), (.ref bq), (.ref bp), (.ref t)])
    obtain ⟨v89, T89, L89, X89, hQ89, st89⟩ := own_callS X88 hx hZ hown (hw _ (List.mem_of_getElem? (i := 17) rfl)) (hw _ (List.mem_of_getElem? (i := 18) rfl)) (hw _ (List.mem_of_getElem? (i := 3) rfl)) (hw _ (List.mem_of_getElem? (i := 19) rfl)) (rm4_hi l Z a0 hw t bp bq (3 : Int32) (4 : Int32) T84.heap (by decide)) e88 (g := (mkF m 320 #[.val (.int p0), .val (.int p1), .val (.int p2), .val (.int p3), .val (.int p4), .val (.int (3 : Int32)), .val (.ref bq), .val (.ref bp), .val (.ref t)] [(.int (4 : Int32)), (.int (3 : Int32)), (.ref bq), (.ref bp), (.ref t)])) rfl (by rw [hml]; rfl) (argsL := [(.ref t), (.ref bp), (.ref bq), (.int (3 : Int32)), (.int (4 : Int32))]) (rest := []) (lenOf pd_5 rfl) rfl rfl (W := 0) (by show 2 * 0 + _ ≤ _; exact Nat.le_of_eq rfl) (hb hby at_320) (by decide) (by decide) (by decide) (by decide) (by decide)
    obtain ⟨rfl, rfl, e89⟩ := hQ89
    refine own_go st89 ?_
    have N89 := Fr.app N88 (Fr.nil _)
    show own_Ends _ _ _ _ _ _ _ T89 (mkF m 323 #[.val (.int p0), .val (.int p1), .val (.int p2), .val (.int p3), .val (.int p4), .val (.int (3 : Int32)), .val (.ref bq), .val (.ref bp), .val (.ref t)] [(.int (1 : Int32))])
    refine own_go (fun _ k => XS.ifNo X89.here hx rfl (hb hby at_323) rfl ((if0 _ _).trans (feq (by decide)).1) k) ?_
    show own_Ends _ _ _ _ _ _ _ T89 (mkF m 326 #[.val (.int p0), .val (.int p1), .val (.int p2), .val (.int p3), .val (.int p4), .val (.int (3 : Int32)), .val (.ref bq), .val (.ref bp), .val (.ref t)] [])
    refine own_go (fun _ k => XS.aload X89.here hx rfl (hb hby at_326) rfl rfl k) ?_
    show own_Ends _ _ _ _ _ _ _ T89 (mkF m 328 #[.val (.int p0), .val (.int p1), .val (.int p2), .val (.int p3), .val (.int p4), .val (.int (3 : Int32)), .val (.ref bq), .val (.ref bp), .val (.ref t)] [(.ref t)])
    refine own_go (fun _ k => XS.aload X89.here hx rfl (hb hby at_328) rfl rfl k) ?_
    show own_Ends _ _ _ _ _ _ _ T89 (mkF m 330 #[.val (.int p0), .val (.int p1), .val (.int p2), .val (.int p3), .val (.int p4), .val (.int (3 : Int32)), .val (.ref bq), .val (.ref bp), .val (.ref t)] [(.ref bp), (.ref t)])
    refine own_go (fun _ k => XS.aload X89.here hx rfl (hb hby at_330) rfl rfl k) ?_
    show own_Ends _ _ _ _ _ _ _ T89 (mkF m 332 #[.val (.int p0), .val (.int p1), .val (.int p2), .val (.int p3), .val (.int p4), .val (.int (3 : Int32)), .val (.ref bq), .val (.ref bp), .val (.ref t)] [(.ref bq), (.ref bp), (.ref t)])
    refine own_go (fun _ k => XS.iload X89.here hx rfl (hb hby at_332) rfl k) ?_
    show own_Ends _ _ _ _ _ _ _ T89 (mkF m 334 #[.val (.int p0), .val (.int p1), .val (.int p2), .val (.int p3), .val (.int p4), .val (.int (3 : Int32)), .val (.ref bq), .val (.ref bp), .val (.ref t)] [(.int (3 : Int32)), (.ref bq), (.ref bp), (.ref t)])
    refine own_go (fun _ k => XS.iconst X89.here hx rfl (hb hby at_334) k) ?_
    show own_Ends _ _ _ _ _ _ _ T89 (mkF m 335 #[.val (.int p0), .val (.int p1), .val (.int p2), .val (.int p3), .val (.int p4), .val (.int (3 : Int32)), .val (.ref bq), .val (.ref bp), .val (.ref t)] [(.int (5 : Int32)), (.int (3 : Int32)), (.ref bq), (.ref bp), (.ref t)])
    obtain ⟨v90, T90, L90, X90, hQ90, st90⟩ := own_callS X89 hx hZ hown (hw _ (List.mem_of_getElem? (i := 17) rfl)) (hw _ (List.mem_of_getElem? (i := 18) rfl)) (hw _ (List.mem_of_getElem? (i := 3) rfl)) (hw _ (List.mem_of_getElem? (i := 19) rfl)) (rm4_hi l Z a0 hw t bp bq (3 : Int32) (5 : Int32) T84.heap (by decide)) e89 (g := (mkF m 335 #[.val (.int p0), .val (.int p1), .val (.int p2), .val (.int p3), .val (.int p4), .val (.int (3 : Int32)), .val (.ref bq), .val (.ref bp), .val (.ref t)] [(.int (5 : Int32)), (.int (3 : Int32)), (.ref bq), (.ref bp), (.ref t)])) rfl (by rw [hml]; rfl) (argsL := [(.ref t), (.ref bp), (.ref bq), (.int (3 : Int32)), (.int (5 : Int32))]) (rest := []) (lenOf pd_5 rfl) rfl rfl (W := 0) (by show 2 * 0 + _ ≤ _; exact Nat.le_of_eq rfl) (hb hby at_335) (by decide) (by decide) (by decide) (by decide) (by decide)
    obtain ⟨rfl, rfl, e90⟩ := hQ90
    refine own_go st90 ?_
    have N90 := Fr.app N89 (Fr.nil _)
    show own_Ends _ _ _ _ _ _ _ T90 (mkF m 338 #[.val (.int p0), .val (.int p1), .val (.int p2), .val (.int p3), .val (.int p4), .val (.int (3 : Int32)), .val (.ref bq), .val (.ref bp), .val (.ref t)] [(.int (1 : Int32))])
    refine own_go (fun _ k => XS.ifNo X90.here hx rfl (hb hby at_338) rfl ((if0 _ _).trans (feq (by decide)).1) k) ?_
    show own_Ends _ _ _ _ _ _ _ T90 (mkF m 341 #[.val (.int p0), .val (.int p1), .val (.int p2), .val (.int p3), .val (.int p4), .val (.int (3 : Int32)), .val (.ref bq), .val (.ref bp), .val (.ref t)] [])
    refine own_go (fun _ k => XS.aload X90.here hx rfl (hb hby at_341) rfl rfl k) ?_
    show own_Ends _ _ _ _ _ _ _ T90 (mkF m 343 #[.val (.int p0), .val (.int p1), .val (.int p2), .val (.int p3), .val (.int p4), .val (.int (3 : Int32)), .val (.ref bq), .val (.ref bp), .val (.ref t)] [(.ref t)])
    refine own_go (fun _ k => XS.aload X90.here hx rfl (hb hby at_343) rfl rfl k) ?_
    show own_Ends _ _ _ _ _ _ _ T90 (mkF m 345 #[.val (.int p0), .val (.int p1), .val (.int p2), .val (.int p3), .val (.int p4), .val (.int (3 : Int32)), .val (.ref bq), .val (.ref bp), .val (.ref t)] [(.ref bp), (.ref t)])
    refine own_go (fun _ k => XS.aload X90.here hx rfl (hb hby at_345) rfl rfl k) ?_
    show own_Ends _ _ _ _ _ _ _ T90 (mkF m 347 #[.val (.int p0), .val (.int p1), .val (.int p2), .val (.int p3), .val (.int p4), .val (.int (3 : Int32)), .val (.ref bq), .val (.ref bp), .val (.ref t)] [(.ref bq), (.ref bp), (.ref t)])
    refine own_go (fun _ k => XS.iload X90.here hx rfl (hb hby at_347) rfl k) ?_
    show own_Ends _ _ _ _ _ _ _ T90 (mkF m 349 #[.val (.int p0), .val (.int p1), .val (.int p2), .val (.int p3), .val (.int p4), .val (.int (3 : Int32)), .val (.ref bq), .val (.ref bp), .val (.ref t)] [(.int (3 : Int32)), (.ref bq), (.ref bp), (.ref t)])
    refine own_go (fun _ k => XS.bipush X90.here hx rfl (hb hby at_349) k) ?_
    show own_Ends _ _ _ _ _ _ _ T90 (mkF m 351 #[.val (.int p0), .val (.int p1), .val (.int p2), .val (.int p3), .val (.int p4), .val (.int (3 : Int32)), .val (.ref bq), .val (.ref bp), .val (.ref t)] [(.int (6 : Int32)), (.int (3 : Int32)), (.ref bq), (.ref bp), (.ref t)])
    obtain ⟨v91, T91, L91, X91, hQ91, st91⟩ := own_callS X90 hx hZ hown (hw _ (List.mem_of_getElem? (i := 17) rfl)) (hw _ (List.mem_of_getElem? (i := 18) rfl)) (hw _ (List.mem_of_getElem? (i := 3) rfl)) (hw _ (List.mem_of_getElem? (i := 19) rfl)) (rm4_hi l Z a0 hw t bp bq (3 : Int32) (6 : Int32) T84.heap (by decide)) e90 (g := (mkF m 351 #[.val (.int p0), .val (.int p1), .val (.int p2), .val (.int p3), .val (.int p4), .val (.int (3 : Int32)), .val (.ref bq), .val (.ref bp), .val (.ref t)] [(.int (6 : Int32)), (.int (3 : Int32)), (.ref bq), (.ref bp), (.ref t)])) rfl (by rw [hml]; rfl) (argsL := [(.ref t), (.ref bp), (.ref bq), (.int (3 : Int32)), (.int (6 : Int32))]) (rest := []) (lenOf pd_5 rfl) rfl rfl (W := 0) (by show 2 * 0 + _ ≤ _; exact Nat.le_of_eq rfl) (hb hby at_351) (by decide) (by decide) (by decide) (by decide) (by decide)
    obtain ⟨rfl, rfl, e91⟩ := hQ91
    refine own_go st91 ?_
    have N91 := Fr.app N90 (Fr.nil _)
    show own_Ends _ _ _ _ _ _ _ T91 (mkF m 354 #[.val (.int p0), .val (.int p1), .val (.int p2), .val (.int p3), .val (.int p4), .val (.int (3 : Int32)), .val (.ref bq), .val (.ref bp), .val (.ref t)] [(.int (1 : Int32))])
    refine own_go (fun _ k => XS.ifNo X91.here hx rfl (hb hby at_354) rfl ((if0 _ _).trans (feq (by decide)).1) k) ?_
    show own_Ends _ _ _ _ _ _ _ T91 (mkF m 357 #[.val (.int p0), .val (.int p1), .val (.int p2), .val (.int p3), .val (.int p4), .val (.int (3 : Int32)), .val (.ref bq), .val (.ref bp), .val (.ref t)] [])
    refine own_go (fun _ k => XS.iconst X91.here hx rfl (hb hby at_357) k) ?_
    show own_Ends _ _ _ _ _ _ _ T91 (mkF m 358 #[.val (.int p0), .val (.int p1), .val (.int p2), .val (.int p3), .val (.int p4), .val (.int (3 : Int32)), .val (.ref bq), .val (.ref bp), .val (.ref t)] [(.int (1 : Int32))])
    refine own_go (fun _ k => XS.goto X91.here hx rfl (pc0 := 358) (pc' := 362) rfl (hb hby at_358) (by decide) (by decide) k) ?_
    show own_Ends _ _ _ _ _ _ _ T91 (mkF m 362 #[.val (.int p0), .val (.int p1), .val (.int p2), .val (.int p3), .val (.int p4), .val (.int (3 : Int32)), .val (.ref bq), .val (.ref bp), .val (.ref t)] [(.int (1 : Int32))])
    exact own_retZ X91 hx hlk hret (by decide) (hb hby at_362) (by decide) (by decide) ⟨rfl, N91⟩
  · rw [show (p0 &&& (7 : Int32)) = (4 : Int32) from hn]
    show own_Ends _ _ _ _ _ _ _ T49 (mkF m 125 #[.val (.int p0), .val (.int p1), .val (.int p2), .val (.int p3), .val (.int p4), .val (.int (4 : Int32)), .val (.ref bq), .unset, .unset] [(.int (4 : Int32))])
    obtain ⟨T92, h92, k92, X92, e92, E92, A92, st92⟩ := own_newP X49 hx hZ (aty := .byte) (hw _ (List.mem_of_getElem? (i := 0) rfl)) e49 (g := (mkF m 125 #[.val (.int p0), .val (.int p1), .val (.int p2), .val (.int p3), .val (.int p4), .val (.int (4 : Int32)), .val (.ref bq), .unset, .unset] [(.int (4 : Int32))])) rfl (hb hby at_125) rfl (by decide) (n := 4) (by decide) (cap := 4) (by decide) (by decide) (by decide) (by decide)
    obtain ⟨bp, gq92⟩ : ∃ z, z = h49.size := ⟨_, rfl⟩
    rw [← gq92] at A92 st92
    have ne_bq_bp : bq ≠ bp := Nat.ne_of_lt (Nat.lt_of_lt_of_le Vq.lt (Nat.le_of_eq gq92.symm))
    have sz_bp : h0.size ≤ bp := Nat.le_trans K_49.1 (Nat.le_of_eq gq92.symm)
    have g_bp : h0.size ≤ bp := Nat.le_trans (Nat.le_refl _) sz_bp
    have K_92 := K_49.ext E92
    have V_bq_92 := Vq.ext E92
    have V_bp : own_Ar Z h92 bp k92 .byte 4 (fun _ => (.int (0 : Int32))) := A92
    refine own_go st92 ?_
    show own_Ends _ _ _ _ _ _ _ T92 (mkF m 127 #[.val (.int p0), .val (.int p1), .val (.int p2), .val (.int p3), .val (.int p4), .val (.int (4 : Int32)), .val (.ref bq), .unset, .unset] [(.ref bp)])
    refine own_go (fun _ k => XS.astore X92.here hx rfl (hb hby at_127) rfl rfl (l' := #[.val (.int p0), .val (.int p1), .val (.int p2), .val (.int p3), .val (.int p4), .val (.int (4 : Int32)), .val (.ref bq), .val (.ref bp), .unset]) rfl k) ?_
    show own_Ends _ _ _ _ _ _ _ T92 (mkF m 129 #[.val (.int p0), .val (.int p1), .val (.int p2), .val (.int p3), .val (.int p4), .val (.int (4 : Int32)), .val (.ref bq), .val (.ref bp), .unset] [])
    refine own_go (fun _ k => XS.iload X92.here hx rfl (hb hby at_129) rfl k) ?_
    show own_Ends _ _ _ _ _ _ _ T92 (mkF m 131 #[.val (.int p0), .val (.int p1), .val (.int p2), .val (.int p3), .val (.int p4), .val (.int (4 : Int32)), .val (.ref bq), .val (.ref bp), .unset] [(.int (4 : Int32))])
    refine own_go (fun _ k => XS.ifNo X92.here hx rfl (hb hby at_131) rfl ((if0 _ _).trans (tlt (by decide)).2.2.2) k) ?_
    show own_Ends _ _ _ _ _ _ _ T92 (mkF m 134 #[.val (.int p0), .val (.int p1), .val (.int p2), .val (.int p3), .val (.int p4), .val (.int (4 : Int32)), .val (.ref bq), .val (.ref bp), .unset] [])
    refine own_go (fun _ k => XS.aload X92.here hx rfl (hb hby at_134) rfl rfl k) ?_
    show own_Ends _ _ _ _ _ _ _ T92 (mkF m 136 #[.val (.int p0), .val (.int p1), .val (.int p2), .val (.int p3), .val (.int p4), .val (.int (4 : Int32)), .val (.ref bq), .val (.ref bp), .unset] [(.ref bp)])
    refine own_go (fun _ k => XS.iconst X92.here hx rfl (hb hby at_136) k) ?_
    show own_Ends _ _ _ _ _ _ _ T92 (mkF m 137 #[.val (.int p0), .val (.int p1), .val (.int p2), .val (.int p3), .val (.int p4), .val (.int (4 : Int32)), .val (.ref bq), .val (.ref bp), .unset] [(.int (0 : Int32)), (.ref bp)])
    refine own_go (fun _ k => XS.aload X92.here hx rfl (hb hby at_137) rfl rfl k) ?_
    show own_Ends _ _ _ _ _ _ _ T92 (mkF m 139 #[.val (.int p0), .val (.int p1), .val (.int p2), .val (.int p3), .val (.int p4), .val (.int (4 : Int32)), .val (.ref bq), .val (.ref bp), .unset] [(.ref bq), (.int (0 : Int32)), (.ref bp)])
    refine own_go (fun _ k => XS.iconst X92.here hx rfl (hb hby at_139) k) ?_
    show own_Ends _ _ _ _ _ _ _ T92 (mkF m 140 #[.val (.int p0), .val (.int p1), .val (.int p2), .val (.int p3), .val (.int p4), .val (.int (4 : Int32)), .val (.ref bq), .val (.ref bp), .unset] [(.int (0 : Int32)), (.ref bq), (.int (0 : Int32)), (.ref bp)])
    refine own_go (fun _ k => own_ldB X92 hx hZ e92 V_bq_92 (i := 0) (v := (.int (b 0))) (by decide) (by decide) (by decide) rfl (g := (mkF m 140 #[.val (.int p0), .val (.int p1), .val (.int p2), .val (.int p3), .val (.int p4), .val (.int (4 : Int32)), .val (.ref bq), .val (.ref bp), .unset] [(.int (0 : Int32)), (.ref bq), (.int (0 : Int32)), (.ref bp)])) rfl rfl (hb hby at_140) _ k) ?_
    show own_Ends _ _ _ _ _ _ _ T92 (mkF m 141 #[.val (.int p0), .val (.int p1), .val (.int p2), .val (.int p3), .val (.int p4), .val (.int (4 : Int32)), .val (.ref bq), .val (.ref bp), .unset] [(.int (b 0)), (.int (0 : Int32)), (.ref bp)])
    obtain ⟨T93, h93, X93, e93, W93, V93, st93⟩ := own_stB X92 hx hZ e92 V_bp (i := 0) (by decide) (by decide) (by decide) (g := (mkF m 141 #[.val (.int p0), .val (.int p1), .val (.int p2), .val (.int p3), .val (.int p4), .val (.int (4 : Int32)), .val (.ref bq), .val (.ref bp), .unset] [(.int (b 0)), (.int (0 : Int32)), (.ref bp)])) rfl rfl (hb hby at_141)
    have N93 := Fr.snoc X93 N49 g_bp
    have K_93 := K_92.wr W93 (Or.inr sz_bp)
    have V_bq_93 := V_bq_92.other W93 ne_bq_bp
    refine own_go st93 ?_
    show own_Ends _ _ _ _ _ _ _ T93 (mkF m 142 #[.val (.int p0), .val (.int p1), .val (.int p2), .val (.int p3), .val (.int p4), .val (.int (4 : Int32)), .val (.ref bq), .val (.ref bp), .unset] [])
    refine own_go (fun _ k => XS.iload X93.here hx rfl (hb hby at_142) rfl k) ?_
    show own_Ends _ _ _ _ _ _ _ T93 (mkF m 144 #[.val (.int p0), .val (.int p1), .val (.int p2), .val (.int p3), .val (.int p4), .val (.int (4 : Int32)), .val (.ref bq), .val (.ref bp), .unset] [(.int (4 : Int32))])
    refine own_go (fun _ k => XS.iconst X93.here hx rfl (hb hby at_144) k) ?_
    show own_Ends _ _ _ _ _ _ _ T93 (mkF m 145 #[.val (.int p0), .val (.int p1), .val (.int p2), .val (.int p3), .val (.int p4), .val (.int (4 : Int32)), .val (.ref bq), .val (.ref bp), .unset] [(.int (1 : Int32)), (.int (4 : Int32))])
    refine own_go (fun _ k => XS.icmpNo X93.here hx rfl (hb hby at_145) rfl (tlt (by decide)).2.2.2 k) ?_
    show own_Ends _ _ _ _ _ _ _ T93 (mkF m 148 #[.val (.int p0), .val (.int p1), .val (.int p2), .val (.int p3), .val (.int p4), .val (.int (4 : Int32)), .val (.ref bq), .val (.ref bp), .unset] [])
    refine own_go (fun _ k => XS.aload X93.here hx rfl (hb hby at_148) rfl rfl k) ?_
    show own_Ends _ _ _ _ _ _ _ T93 (mkF m 150 #[.val (.int p0), .val (.int p1), .val (.int p2), .val (.int p3), .val (.int p4), .val (.int (4 : Int32)), .val (.ref bq), .val (.ref bp), .unset] [(.ref bp)])
    refine own_go (fun _ k => XS.iconst X93.here hx rfl (hb hby at_150) k) ?_
    show own_Ends _ _ _ _ _ _ _ T93 (mkF m 151 #[.val (.int p0), .val (.int p1), .val (.int p2), .val (.int p3), .val (.int p4), .val (.int (4 : Int32)), .val (.ref bq), .val (.ref bp), .unset] [(.int (1 : Int32)), (.ref bp)])
    refine own_go (fun _ k => XS.aload X93.here hx rfl (hb hby at_151) rfl rfl k) ?_
    show own_Ends _ _ _ _ _ _ _ T93 (mkF m 153 #[.val (.int p0), .val (.int p1), .val (.int p2), .val (.int p3), .val (.int p4), .val (.int (4 : Int32)), .val (.ref bq), .val (.ref bp), .unset] [(.ref bq), (.int (1 : Int32)), (.ref bp)])
    refine own_go (fun _ k => XS.iconst X93.here hx rfl (hb hby at_153) k) ?_
    show own_Ends _ _ _ _ _ _ _ T93 (mkF m 154 #[.val (.int p0), .val (.int p1), .val (.int p2), .val (.int p3), .val (.int p4), .val (.int (4 : Int32)), .val (.ref bq), .val (.ref bp), .unset] [(.int (1 : Int32)), (.ref bq), (.int (1 : Int32)), (.ref bp)])
    refine own_go (fun _ k => own_ldB X93 hx hZ e93 V_bq_93 (i := 1) (v := (.int (b 1))) (by decide) (by decide) (by decide) rfl (g := (mkF m 154 #[.val (.int p0), .val (.int p1), .val (.int p2), .val (.int p3), .val (.int p4), .val (.int (4 : Int32)), .val (.ref bq), .val (.ref bp), .unset] [(.int (1 : Int32)), (.ref bq), (.int (1 : Int32)), (.ref bp)])) rfl rfl (hb hby at_154) _ k) ?_
    show own_Ends _ _ _ _ _ _ _ T93 (mkF m 155 #[.val (.int p0), .val (.int p1), .val (.int p2), .val (.int p3), .val (.int p4), .val (.int (4 : Int32)), .val (.ref bq), .val (.ref bp), .unset] [(.int (b 1)), (.int (1 : Int32)), (.ref bp)])
    obtain ⟨T94, h94, X94, e94, W94, V94, st94⟩ := own_stB X93 hx hZ e93 V93 (i := 1) (by decide) (by decide) (by decide) (g := (mkF m 155 #[.val (.int p0), .val (.int p1), .val (.int p2), .val (.int p3), .val (.int p4), .val (.int (4 : Int32)), .val (.ref bq), .val (.ref bp), .unset] [(.int (b 1)), (.int (1 : Int32)), (.ref bp)])) rfl rfl (hb hby at_155)
    have N94 := Fr.snoc X94 N93 g_bp
    have K_94 := K_93.wr W94 (Or.inr sz_bp)
    have V_bq_94 := V_bq_93.other W94 ne_bq_bp
    refine own_go st94 ?_
    show own_Ends _ _ _ _ _ _ _ T94 (mkF m 156 #[.val (.int p0), .val (.int p1), .val (.int p2), .val (.int p3), .val (.int p4), .val (.int (4 : Int32)), .val (.ref bq), .val (.ref bp), .unset] [])
    refine own_go (fun _ k => XS.iload X94.here hx rfl (hb hby at_156) rfl k) ?_
    show own_Ends _ _ _ _ _ _ _ T94 (mkF m 158 #[.val (.int p0), .val (.int p1), .val (.int p2), .val (.int p3), .val (.int p4), .val (.int (4 : Int32)), .val (.ref bq), .val (.ref bp), .unset] [(.int (4 : Int32))])
    refine own_go (fun _ k => XS.iconst X94.here hx rfl (hb hby at_158) k) ?_
    show own_Ends _ _ _ _ _ _ _ T94 (mkF m 159 #[.val (.int p0), .val (.int p1), .val (.int p2), .val (.int p3), .val (.int p4), .val (.int (4 : Int32)), .val (.ref bq), .val (.ref bp), .unset] [(.int (2 : Int32)), (.int (4 : Int32))])
    refine own_go (fun _ k => XS.icmpNo X94.here hx rfl (hb hby at_159) rfl (tlt (by decide)).2.2.2 k) ?_
    show own_Ends _ _ _ _ _ _ _ T94 (mkF m 162 #[.val (.int p0), .val (.int p1), .val (.int p2), .val (.int p3), .val (.int p4), .val (.int (4 : Int32)), .val (.ref bq), .val (.ref bp), .unset] [])
    refine own_go (fun _ k => XS.aload X94.here hx rfl (hb hby at_162) rfl rfl k) ?_
    show own_Ends _ _ _ _ _ _ _ T94 (mkF m 164 #[.val (.int p0), .val (.int p1), .val (.int p2), .val (.int p3), .val (.int p4), .val (.int (4 : Int32)), .val (.ref bq), .val (.ref bp), .unset] [(.ref bp)])
    refine own_go (fun _ k => XS.iconst X94.here hx rfl (hb hby at_164) k) ?_
    show own_Ends _ _ _ _ _ _ _ T94 (mkF m 165 #[.val (.int p0), .val (.int p1), .val (.int p2), .val (.int p3), .val (.int p4), .val (.int (4 : Int32)), .val (.ref bq), .val (.ref bp), .unset] [(.int (2 : Int32)), (.ref bp)])
    refine own_go (fun _ k => XS.aload X94.here hx rfl (hb hby at_165) rfl rfl k) ?_
    show own_Ends _ _ _ _ _ _ _ T94 (mkF m 167 #[.val (.int p0), .val (.int p1), .val (.int p2), .val (.int p3), .val (.int p4), .val (.int (4 : Int32)), .val (.ref bq), .val (.ref bp), .unset] [(.ref bq), (.int (2 : Int32)), (.ref bp)])
    refine own_go (fun _ k => XS.iconst X94.here hx rfl (hb hby at_167) k) ?_
    show own_Ends _ _ _ _ _ _ _ T94 (mkF m 168 #[.val (.int p0), .val (.int p1), .val (.int p2), .val (.int p3), .val (.int p4), .val (.int (4 : Int32)), .val (.ref bq), .val (.ref bp), .unset] [(.int (2 : Int32)), (.ref bq), (.int (2 : Int32)), (.ref bp)])
    refine own_go (fun _ k => own_ldB X94 hx hZ e94 V_bq_94 (i := 2) (v := (.int (b 2))) (by decide) (by decide) (by decide) rfl (g := (mkF m 168 #[.val (.int p0), .val (.int p1), .val (.int p2), .val (.int p3), .val (.int p4), .val (.int (4 : Int32)), .val (.ref bq), .val (.ref bp), .unset] [(.int (2 : Int32)), (.ref bq), (.int (2 : Int32)), (.ref bp)])) rfl rfl (hb hby at_168) _ k) ?_
    show own_Ends _ _ _ _ _ _ _ T94 (mkF m 169 #[.val (.int p0), .val (.int p1), .val (.int p2), .val (.int p3), .val (.int p4), .val (.int (4 : Int32)), .val (.ref bq), .val (.ref bp), .unset] [(.int (b 2)), (.int (2 : Int32)), (.ref bp)])
    obtain ⟨T95, h95, X95, e95, W95, V95, st95⟩ := own_stB X94 hx hZ e94 V94 (i := 2) (by decide) (by decide) (by decide) (g := (mkF m 169 #[.val (.int p0), .val (.int p1), .val (.int p2), .val (.int p3), .val (.int p4), .val (.int (4 : Int32)), .val (.ref bq), .val (.ref bp), .unset] [(.int (b 2)), (.int (2 : Int32)), (.ref bp)])) rfl rfl (hb hby at_169)
    have N95 := Fr.snoc X95 N94 g_bp
    have K_95 := K_94.wr W95 (Or.inr sz_bp)
    have V_bq_95 := V_bq_94.other W95 ne_bq_bp
    refine own_go st95 ?_
    show own_Ends _ _ _ _ _ _ _ T95 (mkF m 170 #[.val (.int p0), .val (.int p1), .val (.int p2), .val (.int p3), .val (.int p4), .val (.int (4 : Int32)), .val (.ref bq), .val (.ref bp), .unset] [])
    refine own_go (fun _ k => XS.iload X95.here hx rfl (hb hby at_170) rfl k) ?_
    show own_Ends _ _ _ _ _ _ _ T95 (mkF m 172 #[.val (.int p0), .val (.int p1), .val (.int p2), .val (.int p3), .val (.int p4), .val (.int (4 : Int32)), .val (.ref bq), .val (.ref bp), .unset] [(.int (4 : Int32))])
    refine own_go (fun _ k => XS.iconst X95.here hx rfl (hb hby at_172) k) ?_
    show own_Ends _ _ _ _ _ _ _ T95 (mkF m 173 #[.val (.int p0), .val (.int p1), .val (.int p2), .val (.int p3), .val (.int p4), .val (.int (4 : Int32)), .val (.ref bq), .val (.ref bp), .unset] [(.int (3 : Int32)), (.int (4 : Int32))])
    refine own_go (fun _ k => XS.icmpNo X95.here hx rfl (hb hby at_173) rfl (tlt (by decide)).2.2.2 k) ?_
    show own_Ends _ _ _ _ _ _ _ T95 (mkF m 176 #[.val (.int p0), .val (.int p1), .val (.int p2), .val (.int p3), .val (.int p4), .val (.int (4 : Int32)), .val (.ref bq), .val (.ref bp), .unset] [])
    refine own_go (fun _ k => XS.aload X95.here hx rfl (hb hby at_176) rfl rfl k) ?_
    show own_Ends _ _ _ _ _ _ _ T95 (mkF m 178 #[.val (.int p0), .val (.int p1), .val (.int p2), .val (.int p3), .val (.int p4), .val (.int (4 : Int32)), .val (.ref bq), .val (.ref bp), .unset] [(.ref bp)])
    refine own_go (fun _ k => XS.iconst X95.here hx rfl (hb hby at_178) k) ?_
    show own_Ends _ _ _ _ _ _ _ T95 (mkF m 179 #[.val (.int p0), .val (.int p1), .val (.int p2), .val (.int p3), .val (.int p4), .val (.int (4 : Int32)), .val (.ref bq), .val (.ref bp), .unset] [(.int (3 : Int32)), (.ref bp)])
    refine own_go (fun _ k => XS.aload X95.here hx rfl (hb hby at_179) rfl rfl k) ?_
    show own_Ends _ _ _ _ _ _ _ T95 (mkF m 181 #[.val (.int p0), .val (.int p1), .val (.int p2), .val (.int p3), .val (.int p4), .val (.int (4 : Int32)), .val (.ref bq), .val (.ref bp), .unset] [(.ref bq), (.int (3 : Int32)), (.ref bp)])
    refine own_go (fun _ k => XS.iconst X95.here hx rfl (hb hby at_181) k) ?_
    show own_Ends _ _ _ _ _ _ _ T95 (mkF m 182 #[.val (.int p0), .val (.int p1), .val (.int p2), .val (.int p3), .val (.int p4), .val (.int (4 : Int32)), .val (.ref bq), .val (.ref bp), .unset] [(.int (3 : Int32)), (.ref bq), (.int (3 : Int32)), (.ref bp)])
    refine own_go (fun _ k => own_ldB X95 hx hZ e95 V_bq_95 (i := 3) (v := (.int (b 3))) (by decide) (by decide) (by decide) rfl (g := (mkF m 182 #[.val (.int p0), .val (.int p1), .val (.int p2), .val (.int p3), .val (.int p4), .val (.int (4 : Int32)), .val (.ref bq), .val (.ref bp), .unset] [(.int (3 : Int32)), (.ref bq), (.int (3 : Int32)), (.ref bp)])) rfl rfl (hb hby at_182) _ k) ?_
    show own_Ends _ _ _ _ _ _ _ T95 (mkF m 183 #[.val (.int p0), .val (.int p1), .val (.int p2), .val (.int p3), .val (.int p4), .val (.int (4 : Int32)), .val (.ref bq), .val (.ref bp), .unset] [(.int (b 3)), (.int (3 : Int32)), (.ref bp)])
    obtain ⟨T96, h96, X96, e96, W96, V96, st96⟩ := own_stB X95 hx hZ e95 V95 (i := 3) (by decide) (by decide) (by decide) (g := (mkF m 183 #[.val (.int p0), .val (.int p1), .val (.int p2), .val (.int p3), .val (.int p4), .val (.int (4 : Int32)), .val (.ref bq), .val (.ref bp), .unset] [(.int (b 3)), (.int (3 : Int32)), (.ref bp)])) rfl rfl (hb hby at_183)
    have N96 := Fr.snoc X96 N95 g_bp
    have K_96 := K_95.wr W96 (Or.inr sz_bp)
    have V_bq_96 := V_bq_95.other W96 ne_bq_bp
    refine own_go st96 ?_
    show own_Ends _ _ _ _ _ _ _ T96 (mkF m 184 #[.val (.int p0), .val (.int p1), .val (.int p2), .val (.int p3), .val (.int p4), .val (.int (4 : Int32)), .val (.ref bq), .val (.ref bp), .unset] [])
    refine own_go (fun _ k => XS.iload X96.here hx rfl (hb hby at_184) rfl k) ?_
    show own_Ends _ _ _ _ _ _ _ T96 (mkF m 186 #[.val (.int p0), .val (.int p1), .val (.int p2), .val (.int p3), .val (.int p4), .val (.int (4 : Int32)), .val (.ref bq), .val (.ref bp), .unset] [(.int (4 : Int32))])
    refine own_go (fun _ k => XS.iconst X96.here hx rfl (hb hby at_186) k) ?_
    show own_Ends _ _ _ _ _ _ _ T96 (mkF m 187 #[.val (.int p0), .val (.int p1), .val (.int p2), .val (.int p3), .val (.int p4), .val (.int (4 : Int32)), .val (.ref bq), .val (.ref bp), .unset] [(.int (4 : Int32)), (.int (4 : Int32))])
    refine own_go (fun _ k => XS.icmpYes X96.here hx rfl (pc0 := 187) (pc' := 198) rfl (hb hby at_187) rfl (flt (by decide)).2.2.2 (by decide) (by decide) k) ?_
    show own_Ends _ _ _ _ _ _ _ T96 (mkF m 198 #[.val (.int p0), .val (.int p1), .val (.int p2), .val (.int p3), .val (.int p4), .val (.int (4 : Int32)), .val (.ref bq), .val (.ref bp), .unset] [])
    refine own_go (fun _ k => XS.iload X96.here hx rfl (hb hby at_198) rfl k) ?_
    show own_Ends _ _ _ _ _ _ _ T96 (mkF m 200 #[.val (.int p0), .val (.int p1), .val (.int p2), .val (.int p3), .val (.int p4), .val (.int (4 : Int32)), .val (.ref bq), .val (.ref bp), .unset] [(.int (4 : Int32))])
    refine own_go (fun _ k => XS.iconst X96.here hx rfl (hb hby at_200) k) ?_
    show own_Ends _ _ _ _ _ _ _ T96 (mkF m 201 #[.val (.int p0), .val (.int p1), .val (.int p2), .val (.int p3), .val (.int p4), .val (.int (4 : Int32)), .val (.ref bq), .val (.ref bp), .unset] [(.int (5 : Int32)), (.int (4 : Int32))])
    refine own_go (fun _ k => XS.icmpYes X96.here hx rfl (pc0 := 201) (pc' := 212) rfl (hb hby at_201) rfl (flt (by decide)).2.2.2 (by decide) (by decide) k) ?_
    show own_Ends _ _ _ _ _ _ _ T96 (mkF m 212 #[.val (.int p0), .val (.int p1), .val (.int p2), .val (.int p3), .val (.int p4), .val (.int (4 : Int32)), .val (.ref bq), .val (.ref bp), .unset] [])
    refine own_go (fun _ k => XS.iload X96.here hx rfl (hb hby at_212) rfl k) ?_
    show own_Ends _ _ _ _ _ _ _ T96 (mkF m 214 #[.val (.int p0), .val (.int p1), .val (.int p2), .val (.int p3), .val (.int p4), .val (.int (4 : Int32)), .val (.ref bq), .val (.ref bp), .unset] [(.int (4 : Int32))])
    refine own_go (fun _ k => XS.bipush X96.here hx rfl (hb hby at_214) k) ?_
    show own_Ends _ _ _ _ _ _ _ T96 (mkF m 216 #[.val (.int p0), .val (.int p1), .val (.int p2), .val (.int p3), .val (.int p4), .val (.int (4 : Int32)), .val (.ref bq), .val (.ref bp), .unset] [(.int (6 : Int32)), (.int (4 : Int32))])
    refine own_go (fun _ k => XS.icmpYes X96.here hx rfl (pc0 := 216) (pc' := 229) rfl (hb hby at_216) rfl (flt (by decide)).2.2.2 (by decide) (by decide) k) ?_
    show own_Ends _ _ _ _ _ _ _ T96 (mkF m 229 #[.val (.int p0), .val (.int p1), .val (.int p2), .val (.int p3), .val (.int p4), .val (.int (4 : Int32)), .val (.ref bq), .val (.ref bp), .unset] [])
    refine own_go (fun _ k => XS.aload X96.here hx rfl (hb hby at_229) rfl rfl k) ?_
    show own_Ends _ _ _ _ _ _ _ T96 (mkF m 231 #[.val (.int p0), .val (.int p1), .val (.int p2), .val (.int p3), .val (.int p4), .val (.int (4 : Int32)), .val (.ref bq), .val (.ref bp), .unset] [(.ref bp)])
    have Vp : own_Ar Z h96 bp k92 .byte 4 (fun j => .int (b j)) := V96.cong (fun j hj => by
      have seg : j = 0 ∨ j = 1 ∨ j = 2 ∨ j = 3 := by omega
      rcases seg with rfl | rfl | rfl | rfl
      · exact congrArg Value.int (hbn 0 (by decide))
      · exact congrArg Value.int (hbn 1 (by decide))
      · exact congrArg Value.int (hbn 2 (by decide))
      · exact congrArg Value.int (hbn 3 (by decide)))
    obtain ⟨v97, T97, L97, X97, hQ97, st97⟩ := own_callS X96 hx hZ hown (hw _ (List.mem_of_getElem? (i := 5) rfl)) (hw _ (List.mem_of_getElem? (i := 6) rfl)) (hw _ (List.mem_of_getElem? (i := 7) rfl)) (hw _ (List.mem_of_getElem? (i := 8) rfl)) (rm2 l Z a0 hw bp h96 h0.size 4 k92 b K_96.1 Vp (by decide)) e96 (g := (mkF m 231 #[.val (.int p0), .val (.int p1), .val (.int p2), .val (.int p3), .val (.int p4), .val (.int (4 : Int32)), .val (.ref bq), .val (.ref bp), .unset] [(.ref bp)])) rfl (by rw [hml]; rfl) (argsL := [(.ref bp)]) (rest := []) (lenOf pd_4 rfl) rfl rfl (W := 0) (by show 2 * 0 + _ ≤ _; exact Nat.le_of_eq rfl) (hb hby at_231) (by decide) (by decide) (by decide) (by decide) (by decide)
    obtain ⟨t, kt, g, rfl, N97q, K97, V97, s97, hG97⟩ := hQ97
    refine own_go st97 ?_
    have N97 := Fr.app N96 N97q
    have K_97 := K_96.trans K97 all0
    have V_bq_97 := V_bq_96.keep K97 nin0
    have V_bp_97 := Vp.keep K97 nin0
    show own_Ends _ _ _ _ _ _ _ T97 (mkF m 234 #[.val (.int p0), .val (.int p1), .val (.int p2), .val (.int p3), .val (.int p4), .val (.int (4 : Int32)), .val (.ref bq), .val (.ref bp), .unset] [(.ref t)])
    refine own_go (fun _ k => XS.astore X97.here hx rfl (hb hby at_234) rfl rfl (l' := #[.val (.int p0), .val (.int p1), .val (.int p2), .val (.int p3), .val (.int p4), .val (.int (4 : Int32)), .val (.ref bq), .val (.ref bp), .val (.ref t)]) rfl k) ?_
    show own_Ends _ _ _ _ _ _ _ T97 (mkF m 236 #[.val (.int p0), .val (.int p1), .val (.int p2), .val (.int p3), .val (.int p4), .val (.int (4 : Int32)), .val (.ref bq), .val (.ref bp), .val (.ref t)] [])
    refine own_go (fun _ k => XS.aload X97.here hx rfl (hb hby at_236) rfl rfl k) ?_
    show own_Ends _ _ _ _ _ _ _ T97 (mkF m 238 #[.val (.int p0), .val (.int p1), .val (.int p2), .val (.int p3), .val (.int p4), .val (.int (4 : Int32)), .val (.ref bq), .val (.ref bp), .val (.ref t)] [(.ref t)])
    refine own_go (fun _ k => XS.ifnullNo X97.here hx rfl (hb hby at_238) rfl k) ?_
    show own_Ends _ _ _ _ _ _ _ T97 (mkF m 241 #[.val (.int p0), .val (.int p1), .val (.int p2), .val (.int p3), .val (.int p4), .val (.int (4 : Int32)), .val (.ref bq), .val (.ref bp), .val (.ref t)] [])
    refine own_go (fun _ k => XS.aload X97.here hx rfl (hb hby at_241) rfl rfl k) ?_
    show own_Ends _ _ _ _ _ _ _ T97 (mkF m 243 #[.val (.int p0), .val (.int p1), .val (.int p2), .val (.int p3), .val (.int p4), .val (.int (4 : Int32)), .val (.ref bq), .val (.ref bp), .val (.ref t)] [(.ref t)])
    refine own_go (fun _ k => own_len X97 hx hZ rfl V97 (z := (4 : Int32)) rfl (g := (mkF m 243 #[.val (.int p0), .val (.int p1), .val (.int p2), .val (.int p3), .val (.int p4), .val (.int (4 : Int32)), .val (.ref bq), .val (.ref bp), .val (.ref t)] [(.ref t)])) rfl rfl (hb hby at_243) _ k) ?_
    show own_Ends _ _ _ _ _ _ _ T97 (mkF m 244 #[.val (.int p0), .val (.int p1), .val (.int p2), .val (.int p3), .val (.int p4), .val (.int (4 : Int32)), .val (.ref bq), .val (.ref bp), .val (.ref t)] [(.int (4 : Int32))])
    refine own_go (fun _ k => XS.iload X97.here hx rfl (hb hby at_244) rfl k) ?_
    show own_Ends _ _ _ _ _ _ _ T97 (mkF m 246 #[.val (.int p0), .val (.int p1), .val (.int p2), .val (.int p3), .val (.int p4), .val (.int (4 : Int32)), .val (.ref bq), .val (.ref bp), .val (.ref t)] [(.int (4 : Int32)), (.int (4 : Int32))])
    refine own_go (fun _ k => XS.icmpYes X97.here hx rfl (pc0 := 246) (pc' := 251) rfl (hb hby at_246) rfl (teq (rfl)).1 (by decide) (by decide) k) ?_
    show own_Ends _ _ _ _ _ _ _ T97 (mkF m 251 #[.val (.int p0), .val (.int p1), .val (.int p2), .val (.int p3), .val (.int p4), .val (.int (4 : Int32)), .val (.ref bq), .val (.ref bp), .val (.ref t)] [])
    refine own_go (fun _ k => XS.aload X97.here hx rfl (hb hby at_251) rfl rfl k) ?_
    show own_Ends _ _ _ _ _ _ _ T97 (mkF m 253 #[.val (.int p0), .val (.int p1), .val (.int p2), .val (.int p3), .val (.int p4), .val (.int (4 : Int32)), .val (.ref bq), .val (.ref bp), .val (.ref t)] [(.ref t)])
    refine own_go (fun _ k => XS.aload X97.here hx rfl (hb hby at_253) rfl rfl k) ?_
    show own_Ends _ _ _ _ _ _ _ T97 (mkF m 255 #[.val (.int p0), .val (.int p1), .val (.int p2), .val (.int p3), .val (.int p4), .val (.int (4 : Int32)), .val (.ref bq), .val (.ref bp), .val (.ref t)] [(.ref bp), (.ref t)])
    refine own_go (fun _ k => XS.aload X97.here hx rfl (hb hby at_255) rfl rfl k) ?_
    show own_Ends _ _ _ _ _ _ _ T97 (mkF m 257 #[.val (.int p0), .val (.int p1), .val (.int p2), .val (.int p3), .val (.int p4), .val (.int (4 : Int32)), .val (.ref bq), .val (.ref bp), .val (.ref t)] [(.ref bq), (.ref bp), (.ref t)])
    refine own_go (fun _ k => XS.iload X97.here hx rfl (hb hby at_257) rfl k) ?_
    show own_Ends _ _ _ _ _ _ _ T97 (mkF m 259 #[.val (.int p0), .val (.int p1), .val (.int p2), .val (.int p3), .val (.int p4), .val (.int (4 : Int32)), .val (.ref bq), .val (.ref bp), .val (.ref t)] [(.int (4 : Int32)), (.ref bq), (.ref bp), (.ref t)])
    refine own_go (fun _ k => XS.iconst X97.here hx rfl (hb hby at_259) k) ?_
    show own_Ends _ _ _ _ _ _ _ T97 (mkF m 260 #[.val (.int p0), .val (.int p1), .val (.int p2), .val (.int p3), .val (.int p4), .val (.int (4 : Int32)), .val (.ref bq), .val (.ref bp), .val (.ref t)] [(.int (0 : Int32)), (.int (4 : Int32)), (.ref bq), (.ref bp), (.ref t)])
    obtain ⟨q0, g0, hB0⟩ := hG97 0 (by decide)
    obtain ⟨v98, T98, L98, X98, hQ98, st98⟩ := own_callS X97 hx hZ hown (hw _ (List.mem_of_getElem? (i := 17) rfl)) (hw _ (List.mem_of_getElem? (i := 18) rfl)) (hw _ (List.mem_of_getElem? (i := 3) rfl)) (hw _ (List.mem_of_getElem? (i := 19) rfl)) (rm4_0 l Z a0 hw t bp bq (4 : Int32) (0 : Int32) T97.heap 4 kt k92 k35 g b q0 V97 V_bp_97 V_bq_97 (by decide) (by decide) g0 hB0 rfl) rfl (g := (mkF m 260 #[.val (.int p0), .val (.int p1), .val (.int p2), .val (.int p3), .val (.int p4), .val (.int (4 : Int32)), .val (.ref bq), .val (.ref bp), .val (.ref t)] [(.int (0 : Int32)), (.int (4 : Int32)), (.ref bq), (.ref bp), (.ref t)])) rfl (by rw [hml]; rfl) (argsL := [(.ref t), (.ref bp), (.ref bq), (.int (4 : Int32)), (.int (0 : Int32))]) (rest := []) (lenOf pd_5 rfl) rfl rfl (W := 0) (by show 2 * 0 + _ ≤ _; exact Nat.le_of_eq rfl) (hb hby at_260) (by decide) (by decide) (by decide) (by decide) (by decide)
    obtain ⟨rfl, rfl, e98⟩ := hQ98
    refine own_go st98 ?_
    have N98 := Fr.app N97 (Fr.nil _)
    show own_Ends _ _ _ _ _ _ _ T98 (mkF m 263 #[.val (.int p0), .val (.int p1), .val (.int p2), .val (.int p3), .val (.int p4), .val (.int (4 : Int32)), .val (.ref bq), .val (.ref bp), .val (.ref t)] [(.int (1 : Int32))])
    refine own_go (fun _ k => XS.ifNo X98.here hx rfl (hb hby at_263) rfl ((if0 _ _).trans (feq (by decide)).1) k) ?_
    show own_Ends _ _ _ _ _ _ _ T98 (mkF m 266 #[.val (.int p0), .val (.int p1), .val (.int p2), .val (.int p3), .val (.int p4), .val (.int (4 : Int32)), .val (.ref bq), .val (.ref bp), .val (.ref t)] [])
    refine own_go (fun _ k => XS.aload X98.here hx rfl (hb hby at_266) rfl rfl k) ?_
    show own_Ends _ _ _ _ _ _ _ T98 (mkF m 268 #[.val (.int p0), .val (.int p1), .val (.int p2), .val (.int p3), .val (.int p4), .val (.int (4 : Int32)), .val (.ref bq), .val (.ref bp), .val (.ref t)] [(.ref t)])
    refine own_go (fun _ k => XS.aload X98.here hx rfl (hb hby at_268) rfl rfl k) ?_
    show own_Ends _ _ _ _ _ _ _ T98 (mkF m 270 #[.val (.int p0), .val (.int p1), .val (.int p2), .val (.int p3), .val (.int p4), .val (.int (4 : Int32)), .val (.ref bq), .val (.ref bp), .val (.ref t)] [(.ref bp), (.ref t)])
    refine own_go (fun _ k => XS.aload X98.here hx rfl (hb hby at_270) rfl rfl k) ?_
    show own_Ends _ _ _ _ _ _ _ T98 (mkF m 272 #[.val (.int p0), .val (.int p1), .val (.int p2), .val (.int p3), .val (.int p4), .val (.int (4 : Int32)), .val (.ref bq), .val (.ref bp), .val (.ref t)] [(.ref bq), (.ref bp), (.ref t)])
    refine own_go (fun _ k => XS.iload X98.here hx rfl (hb hby at_272) rfl k) ?_
    show own_Ends _ _ _ _ _ _ _ T98 (mkF m 274 #[.val (.int p0), .val (.int p1), .val (.int p2), .val (.int p3), .val (.int p4), .val (.int (4 : Int32)), .val (.ref bq), .val (.ref bp), .val (.ref t)] [(.int (4 : Int32)), (.ref bq), (.ref bp), (.ref t)])
    refine own_go (fun _ k => XS.iconst X98.here hx rfl (hb hby at_274) k) ?_
    show own_Ends _ _ _ _ _ _ _ T98 (mkF m 275 #[.val (.int p0), .val (.int p1), .val (.int p2), .val (.int p3), .val (.int p4), .val (.int (4 : Int32)), .val (.ref bq), .val (.ref bp), .val (.ref t)] [(.int (1 : Int32)), (.int (4 : Int32)), (.ref bq), (.ref bp), (.ref t)])
    obtain ⟨q1, g1, hB1⟩ := hG97 1 (by decide)
    obtain ⟨v99, T99, L99, X99, hQ99, st99⟩ := own_callS X98 hx hZ hown (hw _ (List.mem_of_getElem? (i := 17) rfl)) (hw _ (List.mem_of_getElem? (i := 18) rfl)) (hw _ (List.mem_of_getElem? (i := 3) rfl)) (hw _ (List.mem_of_getElem? (i := 19) rfl)) (rm4_1 l Z a0 hw t bp bq (4 : Int32) (1 : Int32) T97.heap 4 kt k92 k35 g b q1 V97 V_bp_97 V_bq_97 (by decide) (by decide) g1 hB1 rfl) e98 (g := (mkF m 275 #[.val (.int p0), .val (.int p1), .val (.int p2), .val (.int p3), .val (.int p4), .val (.int (4 : Int32)), .val (.ref bq), .val (.ref bp), .val (.ref t)] [(.int (1 : Int32)), (.int (4 : Int32)), (.ref bq), (.ref bp), (.ref t)])) rfl (by rw [hml]; rfl) (argsL := [(.ref t), (.ref bp), (.ref bq), (.int (4 : Int32)), (.int (1 : Int32))]) (rest := []) (lenOf pd_5 rfl) rfl rfl (W := 0) (by show 2 * 0 + _ ≤ _; exact Nat.le_of_eq rfl) (hb hby at_275) (by decide) (by decide) (by decide) (by decide) (by decide)
    obtain ⟨rfl, rfl, e99⟩ := hQ99
    refine own_go st99 ?_
    have N99 := Fr.app N98 (Fr.nil _)
    show own_Ends _ _ _ _ _ _ _ T99 (mkF m 278 #[.val (.int p0), .val (.int p1), .val (.int p2), .val (.int p3), .val (.int p4), .val (.int (4 : Int32)), .val (.ref bq), .val (.ref bp), .val (.ref t)] [(.int (1 : Int32))])
    refine own_go (fun _ k => XS.ifNo X99.here hx rfl (hb hby at_278) rfl ((if0 _ _).trans (feq (by decide)).1) k) ?_
    show own_Ends _ _ _ _ _ _ _ T99 (mkF m 281 #[.val (.int p0), .val (.int p1), .val (.int p2), .val (.int p3), .val (.int p4), .val (.int (4 : Int32)), .val (.ref bq), .val (.ref bp), .val (.ref t)] [])
    refine own_go (fun _ k => XS.aload X99.here hx rfl (hb hby at_281) rfl rfl k) ?_
    show own_Ends _ _ _ _ _ _ _ T99 (mkF m 283 #[.val (.int p0), .val (.int p1), .val (.int p2), .val (.int p3), .val (.int p4), .val (.int (4 : Int32)), .val (.ref bq), .val (.ref bp), .val (.ref t)] [(.ref t)])
    refine own_go (fun _ k => XS.aload X99.here hx rfl (hb hby at_283) rfl rfl k) ?_
    show own_Ends _ _ _ _ _ _ _ T99 (mkF m 285 #[.val (.int p0), .val (.int p1), .val (.int p2), .val (.int p3), .val (.int p4), .val (.int (4 : Int32)), .val (.ref bq), .val (.ref bp), .val (.ref t)] [(.ref bp), (.ref t)])
    refine own_go (fun _ k => XS.aload X99.here hx rfl (hb hby at_285) rfl rfl k) ?_
    show own_Ends _ _ _ _ _ _ _ T99 (mkF m 287 #[.val (.int p0), .val (.int p1), .val (.int p2), .val (.int p3), .val (.int p4), .val (.int (4 : Int32)), .val (.ref bq), .val (.ref bp), .val (.ref t)] [(.ref bq), (.ref bp), (.ref t)])
    refine own_go (fun _ k => XS.iload X99.here hx rfl (hb hby at_287) rfl k) ?_
    show own_Ends _ _ _ _ _ _ _ T99 (mkF m 289 #[.val (.int p0), .val (.int p1), .val (.int p2), .val (.int p3), .val (.int p4), .val (.int (4 : Int32)), .val (.ref bq), .val (.ref bp), .val (.ref t)] [(.int (4 : Int32)), (.ref bq), (.ref bp), (.ref t)])
    refine own_go (fun _ k => XS.iconst X99.here hx rfl (hb hby at_289) k) ?_
    show own_Ends _ _ _ _ _ _ _ T99 (mkF m 290 #[.val (.int p0), .val (.int p1), .val (.int p2), .val (.int p3), .val (.int p4), .val (.int (4 : Int32)), .val (.ref bq), .val (.ref bp), .val (.ref t)] [(.int (2 : Int32)), (.int (4 : Int32)), (.ref bq), (.ref bp), (.ref t)])
    obtain ⟨q2, g2, hB2⟩ := hG97 2 (by decide)
    obtain ⟨v100, T100, L100, X100, hQ100, st100⟩ := own_callS X99 hx hZ hown (hw _ (List.mem_of_getElem? (i := 17) rfl)) (hw _ (List.mem_of_getElem? (i := 18) rfl)) (hw _ (List.mem_of_getElem? (i := 3) rfl)) (hw _ (List.mem_of_getElem? (i := 19) rfl)) (rm4_2 l Z a0 hw t bp bq (4 : Int32) (2 : Int32) T97.heap 4 kt k92 k35 g b q2 V97 V_bp_97 V_bq_97 (by decide) (by decide) g2 hB2 rfl) e99 (g := (mkF m 290 #[.val (.int p0), .val (.int p1), .val (.int p2), .val (.int p3), .val (.int p4), .val (.int (4 : Int32)), .val (.ref bq), .val (.ref bp), .val (.ref t)] [(.int (2 : Int32)), (.int (4 : Int32)), (.ref bq), (.ref bp), (.ref t)])) rfl (by rw [hml]; rfl) (argsL := [(.ref t), (.ref bp), (.ref bq), (.int (4 : Int32)), (.int (2 : Int32))]) (rest := []) (lenOf pd_5 rfl) rfl rfl (W := 0) (by show 2 * 0 + _ ≤ _; exact Nat.le_of_eq rfl) (hb hby at_290) (by decide) (by decide) (by decide) (by decide) (by decide)
    obtain ⟨rfl, rfl, e100⟩ := hQ100
    refine own_go st100 ?_
    have N100 := Fr.app N99 (Fr.nil _)
    show own_Ends _ _ _ _ _ _ _ T100 (mkF m 293 #[.val (.int p0), .val (.int p1), .val (.int p2), .val (.int p3), .val (.int p4), .val (.int (4 : Int32)), .val (.ref bq), .val (.ref bp), .val (.ref t)] [(.int (1 : Int32))])
    refine own_go (fun _ k => XS.ifNo X100.here hx rfl (hb hby at_293) rfl ((if0 _ _).trans (feq (by decide)).1) k) ?_
    show own_Ends _ _ _ _ _ _ _ T100 (mkF m 296 #[.val (.int p0), .val (.int p1), .val (.int p2), .val (.int p3), .val (.int p4), .val (.int (4 : Int32)), .val (.ref bq), .val (.ref bp), .val (.ref t)] [])
    refine own_go (fun _ k => XS.aload X100.here hx rfl (hb hby at_296) rfl rfl k) ?_
    show own_Ends _ _ _ _ _ _ _ T100 (mkF m 298 #[.val (.int p0), .val (.int p1), .val (.int p2), .val (.int p3), .val (.int p4), .val (.int (4 : Int32)), .val (.ref bq), .val (.ref bp), .val (.ref t)] [(.ref t)])
    refine own_go (fun _ k => XS.aload X100.here hx rfl (hb hby at_298) rfl rfl k) ?_
    show own_Ends _ _ _ _ _ _ _ T100 (mkF m 300 #[.val (.int p0), .val (.int p1), .val (.int p2), .val (.int p3), .val (.int p4), .val (.int (4 : Int32)), .val (.ref bq), .val (.ref bp), .val (.ref t)] [(.ref bp), (.ref t)])
    refine own_go (fun _ k => XS.aload X100.here hx rfl (hb hby at_300) rfl rfl k) ?_
    show own_Ends _ _ _ _ _ _ _ T100 (mkF m 302 #[.val (.int p0), .val (.int p1), .val (.int p2), .val (.int p3), .val (.int p4), .val (.int (4 : Int32)), .val (.ref bq), .val (.ref bp), .val (.ref t)] [(.ref bq), (.ref bp), (.ref t)])
    refine own_go (fun _ k => XS.iload X100.here hx rfl (hb hby at_302) rfl k) ?_
    show own_Ends _ _ _ _ _ _ _ T100 (mkF m 304 #[.val (.int p0), .val (.int p1), .val (.int p2), .val (.int p3), .val (.int p4), .val (.int (4 : Int32)), .val (.ref bq), .val (.ref bp), .val (.ref t)] [(.int (4 : Int32)), (.ref bq), (.ref bp), (.ref t)])
    refine own_go (fun _ k => XS.iconst X100.here hx rfl (hb hby at_304) k) ?_
    show own_Ends _ _ _ _ _ _ _ T100 (mkF m 305 #[.val (.int p0), .val (.int p1), .val (.int p2), .val (.int p3), .val (.int p4), .val (.int (4 : Int32)), .val (.ref bq), .val (.ref bp), .val (.ref t)] [(.int (3 : Int32)), (.int (4 : Int32)), (.ref bq), (.ref bp), (.ref t)])
    obtain ⟨q3, g3, hB3⟩ := hG97 3 (by decide)
    obtain ⟨v101, T101, L101, X101, hQ101, st101⟩ := own_callS X100 hx hZ hown (hw _ (List.mem_of_getElem? (i := 17) rfl)) (hw _ (List.mem_of_getElem? (i := 18) rfl)) (hw _ (List.mem_of_getElem? (i := 3) rfl)) (hw _ (List.mem_of_getElem? (i := 19) rfl)) (rm4_3 l Z a0 hw t bp bq (4 : Int32) (3 : Int32) T97.heap 4 kt k92 k35 g b q3 V97 V_bp_97 V_bq_97 (by decide) (by decide) g3 hB3 rfl) e100 (g := (mkF m 305 #[.val (.int p0), .val (.int p1), .val (.int p2), .val (.int p3), .val (.int p4), .val (.int (4 : Int32)), .val (.ref bq), .val (.ref bp), .val (.ref t)] [(.int (3 : Int32)), (.int (4 : Int32)), (.ref bq), (.ref bp), (.ref t)])) rfl (by rw [hml]; rfl) (argsL := [(.ref t), (.ref bp), (.ref bq), (.int (4 : Int32)), (.int (3 : Int32))]) (rest := []) (lenOf pd_5 rfl) rfl rfl (W := 0) (by show 2 * 0 + _ ≤ _; exact Nat.le_of_eq rfl) (hb hby at_305) (by decide) (by decide) (by decide) (by decide) (by decide)
    obtain ⟨rfl, rfl, e101⟩ := hQ101
    refine own_go st101 ?_
    have N101 := Fr.app N100 (Fr.nil _)
    show own_Ends _ _ _ _ _ _ _ T101 (mkF m 308 #[.val (.int p0), .val (.int p1), .val (.int p2), .val (.int p3), .val (.int p4), .val (.int (4 : Int32)), .val (.ref bq), .val (.ref bp), .val (.ref t)] [(.int (1 : Int32))])
    refine own_go (fun _ k => XS.ifNo X101.here hx rfl (hb hby at_308) rfl ((if0 _ _).trans (feq (by decide)).1) k) ?_
    show own_Ends _ _ _ _ _ _ _ T101 (mkF m 311 #[.val (.int p0), .val (.int p1), .val (.int p2), .val (.int p3), .val (.int p4), .val (.int (4 : Int32)), .val (.ref bq), .val (.ref bp), .val (.ref t)] [])
    refine own_go (fun _ k => XS.aload X101.here hx rfl (hb hby at_311) rfl rfl k) ?_
    show own_Ends _ _ _ _ _ _ _ T101 (mkF m 313 #[.val (.int p0), .val (.int p1), .val (.int p2), .val (.int p3), .val (.int p4), .val (.int (4 : Int32)), .val (.ref bq), .val (.ref bp), .val (.ref t)] [(.ref t)])
    refine own_go (fun _ k => XS.aload X101.here hx rfl (hb hby at_313) rfl rfl k) ?_
    show own_Ends _ _ _ _ _ _ _ T101 (mkF m 315 #[.val (.int p0), .val (.int p1), .val (.int p2), .val (.int p3), .val (.int p4), .val (.int (4 : Int32)), .val (.ref bq), .val (.ref bp), .val (.ref t)] [(.ref bp), (.ref t)])
    refine own_go (fun _ k => XS.aload X101.here hx rfl (hb hby at_315) rfl rfl k) ?_
    show own_Ends _ _ _ _ _ _ _ T101 (mkF m 317 #[.val (.int p0), .val (.int p1), .val (.int p2), .val (.int p3), .val (.int p4), .val (.int (4 : Int32)), .val (.ref bq), .val (.ref bp), .val (.ref t)] [(.ref bq), (.ref bp), (.ref t)])
    refine own_go (fun _ k => XS.iload X101.here hx rfl (hb hby at_317) rfl k) ?_
    show own_Ends _ _ _ _ _ _ _ T101 (mkF m 319 #[.val (.int p0), .val (.int p1), .val (.int p2), .val (.int p3), .val (.int p4), .val (.int (4 : Int32)), .val (.ref bq), .val (.ref bp), .val (.ref t)] [(.int (4 : Int32)), (.ref bq), (.ref bp), (.ref t)])
    refine own_go (fun _ k => XS.iconst X101.here hx rfl (hb hby at_319) k) ?_
    show own_Ends _ _ _ _ _ _ _ T101 (mkF m 320 #[.val (.int p0), .val (.int p1), .val (.int p2), .val (.int p3), .val (.int p4), .val (.int (4 : Int32)), .val (.ref bq), .val (.ref bp), .val (.ref t)] [(.int (4 : Int32)), (.int (4 : Int32)), (.ref bq), (.ref bp), (.ref t)])
    obtain ⟨v102, T102, L102, X102, hQ102, st102⟩ := own_callS X101 hx hZ hown (hw _ (List.mem_of_getElem? (i := 17) rfl)) (hw _ (List.mem_of_getElem? (i := 18) rfl)) (hw _ (List.mem_of_getElem? (i := 3) rfl)) (hw _ (List.mem_of_getElem? (i := 19) rfl)) (rm4_hi l Z a0 hw t bp bq (4 : Int32) (4 : Int32) T97.heap (by decide)) e101 (g := (mkF m 320 #[.val (.int p0), .val (.int p1), .val (.int p2), .val (.int p3), .val (.int p4), .val (.int (4 : Int32)), .val (.ref bq), .val (.ref bp), .val (.ref t)] [(.int (4 : Int32)), (.int (4 : Int32)), (.ref bq), (.ref bp), (.ref t)])) rfl (by rw [hml]; rfl) (argsL := [(.ref t), (.ref bp), (.ref bq), (.int (4 : Int32)), (.int (4 : Int32))]) (rest := []) (lenOf pd_5 rfl) rfl rfl (W := 0) (by show 2 * 0 + _ ≤ _; exact Nat.le_of_eq rfl) (hb hby at_320) (by decide) (by decide) (by decide) (by decide) (by decide)
    obtain ⟨rfl, rfl, e102⟩ := hQ102
    refine own_go st102 ?_
    have N102 := Fr.app N101 (Fr.nil _)
    show own_Ends _ _ _ _ _ _ _ T102 (mkF m 323 #[.val (.int p0), .val (.int p1), .val (.int p2), .val (.int p3), .val (.int p4), .val (.int (4 : Int32)), .val (.ref bq), .val (.ref bp), .val (.ref t)] [(.int (1 : Int32))])
    refine own_go (fun _ k => XS.ifNo X102.here hx rfl (hb hby at_323) rfl ((if0 _ _).trans (feq (by decide)).1) k) ?_
    show own_Ends _ _ _ _ _ _ _ T102 (mkF m 326 #[.val (.int p0), .val (.int p1), .val (.int p2), .val (.int p3), .val (.int p4), .val (.int (4 : Int32)), .val (.ref bq), .val (.ref bp), .val (.ref t)] [])
    refine own_go (fun _ k => XS.aload X102.here hx rfl (hb hby at_326) rfl rfl k) ?_
    show own_Ends _ _ _ _ _ _ _ T102 (mkF m 328 #[.val (.int p0), .val (.int p1), .val (.int p2), .val (.int p3), .val (.int p4), .val (.int (4 : Int32)), .val (.ref bq), .val (.ref bp), .val (.ref t)] [(.ref t)])
    refine own_go (fun _ k => XS.aload X102.here hx rfl (hb hby at_328) rfl rfl k) ?_
    show own_Ends _ _ _ _ _ _ _ T102 (mkF m 330 #[.val (.int p0), .val (.int p1), .val (.int p2), .val (.int p3), .val (.int p4), .val (.int (4 : Int32)), .val (.ref bq), .val (.ref bp), .val (.ref t)] [(.ref bp), (.ref t)])
    refine own_go (fun _ k => XS.aload X102.here hx rfl (hb hby at_330) rfl rfl k) ?_
    show own_Ends _ _ _ _ _ _ _ T102 (mkF m 332 #[.val (.int p0), .val (.int p1), .val (.int p2), .val (.int p3), .val (.int p4), .val (.int (4 : Int32)), .val (.ref bq), .val (.ref bp), .val (.ref t)] [(.ref bq), (.ref bp), (.ref t)])
    refine own_go (fun _ k => XS.iload X102.here hx rfl (hb hby at_332) rfl k) ?_
    show own_Ends _ _ _ _ _ _ _ T102 (mkF m 334 #[.val (.int p0), .val (.int p1), .val (.int p2), .val (.int p3), .val (.int p4), .val (.int (4 : Int32)), .val (.ref bq), .val (.ref bp), .val (.ref t)] [(.int (4 : Int32)), (.ref bq), (.ref bp), (.ref t)])
    refine own_go (fun _ k => XS.iconst X102.here hx rfl (hb hby at_334) k) ?_
    show own_Ends _ _ _ _ _ _ _ T102 (mkF m 335 #[.val (.int p0), .val (.int p1), .val (.int p2), .val (.int p3), .val (.int p4), .val (.int (4 : Int32)), .val (.ref bq), .val (.ref bp), .val (.ref t)] [(.int (5 : Int32)), (.int (4 : Int32)), (.ref bq), (.ref bp), (.ref t)])
    obtain ⟨v103, T103, L103, X103, hQ103, st103⟩ := own_callS X102 hx hZ hown (hw _ (List.mem_of_getElem? (i := 17) rfl)) (hw _ (List.mem_of_getElem? (i := 18) rfl)) (hw _ (List.mem_of_getElem? (i := 3) rfl)) (hw _ (List.mem_of_getElem? (i := 19) rfl)) (rm4_hi l Z a0 hw t bp bq (4 : Int32) (5 : Int32) T97.heap (by decide)) e102 (g := (mkF m 335 #[.val (.int p0), .val (.int p1), .val (.int p2), .val (.int p3), .val (.int p4), .val (.int (4 : Int32)), .val (.ref bq), .val (.ref bp), .val (.ref t)] [(.int (5 : Int32)), (.int (4 : Int32)), (.ref bq), (.ref bp), (.ref t)])) rfl (by rw [hml]; rfl) (argsL := [(.ref t), (.ref bp), (.ref bq), (.int (4 : Int32)), (.int (5 : Int32))]) (rest := []) (lenOf pd_5 rfl) rfl rfl (W := 0) (by show 2 * 0 + _ ≤ _; exact Nat.le_of_eq rfl) (hb hby at_335) (by decide) (by decide) (by decide) (by decide) (by decide)
    obtain ⟨rfl, rfl, e103⟩ := hQ103
    refine own_go st103 ?_
    have N103 := Fr.app N102 (Fr.nil _)
    show own_Ends _ _ _ _ _ _ _ T103 (mkF m 338 #[.val (.int p0), .val (.int p1), .val (.int p2), .val (.int p3), .val (.int p4), .val (.int (4 : Int32)), .val (.ref bq), .val (.ref bp), .val (.ref t)] [(.int (1 : Int32))])
    refine own_go (fun _ k => XS.ifNo X103.here hx rfl (hb hby at_338) rfl ((if0 _ _).trans (feq (by decide)).1) k) ?_
    show own_Ends _ _ _ _ _ _ _ T103 (mkF m 341 #[.val (.int p0), .val (.int p1), .val (.int p2), .val (.int p3), .val (.int p4), .val (.int (4 : Int32)), .val (.ref bq), .val (.ref bp), .val (.ref t)] [])
    refine own_go (fun _ k => XS.aload X103.here hx rfl (hb hby at_341) rfl rfl k) ?_
    show own_Ends _ _ _ _ _ _ _ T103 (mkF m 343 #[.val (.int p0), .val (.int p1), .val (.int p2), .val (.int p3), .val (.int p4), .val (.int (4 : Int32)), .val (.ref bq), .val (.ref bp), .val (.ref t)] [(.ref t)])
    refine own_go (fun _ k => XS.aload X103.here hx rfl (hb hby at_343) rfl rfl k) ?_
    show own_Ends _ _ _ _ _ _ _ T103 (mkF m 345 #[.val (.int p0), .val (.int p1), .val (.int p2), .val (.int p3), .val (.int p4), .val (.int (4 : Int32)), .val (.ref bq), .val (.ref bp), .val (.ref t)] [(.ref bp), (.ref t)])
    refine own_go (fun _ k => XS.aload X103.here hx rfl (hb hby at_345) rfl rfl k) ?_
    show own_Ends _ _ _ _ _ _ _ T103 (mkF m 347 #[.val (.int p0), .val (.int p1), .val (.int p2), .val (.int p3), .val (.int p4), .val (.int (4 : Int32)), .val (.ref bq), .val (.ref bp), .val (.ref t)] [(.ref bq), (.ref bp), (.ref t)])
    refine own_go (fun _ k => XS.iload X103.here hx rfl (hb hby at_347) rfl k) ?_
    show own_Ends _ _ _ _ _ _ _ T103 (mkF m 349 #[.val (.int p0), .val (.int p1), .val (.int p2), .val (.int p3), .val (.int p4), .val (.int (4 : Int32)), .val (.ref bq), .val (.ref bp), .val (.ref t)] [(.int (4 : Int32)), (.ref bq), (.ref bp), (.ref t)])
    refine own_go (fun _ k => XS.bipush X103.here hx rfl (hb hby at_349) k) ?_
    show own_Ends _ _ _ _ _ _ _ T103 (mkF m 351 #[.val (.int p0), .val (.int p1), .val (.int p2), .val (.int p3), .val (.int p4), .val (.int (4 : Int32)), .val (.ref bq), .val (.ref bp), .val (.ref t)] [(.int (6 : Int32)), (.int (4 : Int32)), (.ref bq), (.ref bp), (.ref t)])
    obtain ⟨v104, T104, L104, X104, hQ104, st104⟩ := own_callS X103 hx hZ hown (hw _ (List.mem_of_getElem? (i := 17) rfl)) (hw _ (List.mem_of_getElem? (i := 18) rfl)) (hw _ (List.mem_of_getElem? (i := 3) rfl)) (hw _ (List.mem_of_getElem? (i := 19) rfl)) (rm4_hi l Z a0 hw t bp bq (4 : Int32) (6 : Int32) T97.heap (by decide)) e103 (g := (mkF m 351 #[.val (.int p0), .val (.int p1), .val (.int p2), .val (.int p3), .val (.int p4), .val (.int (4 : Int32)), .val (.ref bq), .val (.ref bp), .val (.ref t)] [(.int (6 : Int32)), (.int (4 : Int32)), (.ref bq), (.ref bp), (.ref t)])) rfl (by rw [hml]; rfl) (argsL := [(.ref t), (.ref bp), (.ref bq), (.int (4 : Int32)), (.int (6 : Int32))]) (rest := []) (lenOf pd_5 rfl) rfl rfl (W := 0) (by show 2 * 0 + _ ≤ _; exact Nat.le_of_eq rfl) (hb hby at_351) (by decide) (by decide) (by decide) (by decide) (by decide)
    obtain ⟨rfl, rfl, e104⟩ := hQ104
    refine own_go st104 ?_
    have N104 := Fr.app N103 (Fr.nil _)
    show own_Ends _ _ _ _ _ _ _ T104 (mkF m 354 #[.val (.int p0), .val (.int p1), .val (.int p2), .val (.int p3), .val (.int p4), .val (.int (4 : Int32)), .val (.ref bq), .val (.ref bp), .val (.ref t)] [(.int (1 : Int32))])
    refine own_go (fun _ k => XS.ifNo X104.here hx rfl (hb hby at_354) rfl ((if0 _ _).trans (feq (by decide)).1) k) ?_
    show own_Ends _ _ _ _ _ _ _ T104 (mkF m 357 #[.val (.int p0), .val (.int p1), .val (.int p2), .val (.int p3), .val (.int p4), .val (.int (4 : Int32)), .val (.ref bq), .val (.ref bp), .val (.ref t)] [])
    refine own_go (fun _ k => XS.iconst X104.here hx rfl (hb hby at_357) k) ?_
    show own_Ends _ _ _ _ _ _ _ T104 (mkF m 358 #[.val (.int p0), .val (.int p1), .val (.int p2), .val (.int p3), .val (.int p4), .val (.int (4 : Int32)), .val (.ref bq), .val (.ref bp), .val (.ref t)] [(.int (1 : Int32))])
    refine own_go (fun _ k => XS.goto X104.here hx rfl (pc0 := 358) (pc' := 362) rfl (hb hby at_358) (by decide) (by decide) k) ?_
    show own_Ends _ _ _ _ _ _ _ T104 (mkF m 362 #[.val (.int p0), .val (.int p1), .val (.int p2), .val (.int p3), .val (.int p4), .val (.int (4 : Int32)), .val (.ref bq), .val (.ref bp), .val (.ref t)] [(.int (1 : Int32))])
    exact own_retZ X104 hx hlk hret (by decide) (hb hby at_362) (by decide) (by decide) ⟨rfl, N104⟩
  · rw [show (p0 &&& (7 : Int32)) = (5 : Int32) from hn]
    show own_Ends _ _ _ _ _ _ _ T49 (mkF m 125 #[.val (.int p0), .val (.int p1), .val (.int p2), .val (.int p3), .val (.int p4), .val (.int (5 : Int32)), .val (.ref bq), .unset, .unset] [(.int (5 : Int32))])
    obtain ⟨T105, h105, k105, X105, e105, E105, A105, st105⟩ := own_newP X49 hx hZ (aty := .byte) (hw _ (List.mem_of_getElem? (i := 0) rfl)) e49 (g := (mkF m 125 #[.val (.int p0), .val (.int p1), .val (.int p2), .val (.int p3), .val (.int p4), .val (.int (5 : Int32)), .val (.ref bq), .unset, .unset] [(.int (5 : Int32))])) rfl (hb hby at_125) rfl (by decide) (n := 5) (by decide) (cap := 5) (by decide) (by decide) (by decide) (by decide)
    obtain ⟨bp, gq105⟩ : ∃ z, z = h49.size := ⟨_, rfl⟩
    rw [← gq105] at A105 st105
    have ne_bq_bp : bq ≠ bp := Nat.ne_of_lt (Nat.lt_of_lt_of_le Vq.lt (Nat.le_of_eq gq105.symm))
    have sz_bp : h0.size ≤ bp := Nat.le_trans K_49.1 (Nat.le_of_eq gq105.symm)
    have g_bp : h0.size ≤ bp := Nat.le_trans (Nat.le_refl _) sz_bp
    have K_105 := K_49.ext E105
    have V_bq_105 := Vq.ext E105
    have V_bp : own_Ar Z h105 bp k105 .byte 5 (fun _ => (.int (0 : Int32))) := A105
    refine own_go st105 ?_
    show own_Ends _ _ _ _ _ _ _ T105 (mkF m 127 #[.val (.int p0), .val (.int p1), .val (.int p2), .val (.int p3), .val (.int p4), .val (.int (5 : Int32)), .val (.ref bq), .unset, .unset] [(.ref bp)])
    refine own_go (fun _ k => XS.astore X105.here hx rfl (hb hby at_127) rfl rfl (l' := #[.val (.int p0), .val (.int p1), .val (.int p2), .val (.int p3), .val (.int p4), .val (.int (5 : Int32)), .val (.ref bq), .val (.ref bp), .unset]) rfl k) ?_
    show own_Ends _ _ _ _ _ _ _ T105 (mkF m 129 #[.val (.int p0), .val (.int p1), .val (.int p2), .val (.int p3), .val (.int p4), .val (.int (5 : Int32)), .val (.ref bq), .val (.ref bp), .unset] [])
    refine own_go (fun _ k => XS.iload X105.here hx rfl (hb hby at_129) rfl k) ?_
    show own_Ends _ _ _ _ _ _ _ T105 (mkF m 131 #[.val (.int p0), .val (.int p1), .val (.int p2), .val (.int p3), .val (.int p4), .val (.int (5 : Int32)), .val (.ref bq), .val (.ref bp), .unset] [(.int (5 : Int32))])
    refine own_go (fun _ k => XS.ifNo X105.here hx rfl (hb hby at_131) rfl ((if0 _ _).trans (tlt (by decide)).2.2.2) k) ?_
    show own_Ends _ _ _ _ _ _ _ T105 (mkF m 134 #[.val (.int p0), .val (.int p1), .val (.int p2), .val (.int p3), .val (.int p4), .val (.int (5 : Int32)), .val (.ref bq), .val (.ref bp), .unset] [])
    refine own_go (fun _ k => XS.aload X105.here hx rfl (hb hby at_134) rfl rfl k) ?_
    show own_Ends _ _ _ _ _ _ _ T105 (mkF m 136 #[.val (.int p0), .val (.int p1), .val (.int p2), .val (.int p3), .val (.int p4), .val (.int (5 : Int32)), .val (.ref bq), .val (.ref bp), .unset] [(.ref bp)])
    refine own_go (fun _ k => XS.iconst X105.here hx rfl (hb hby at_136) k) ?_
    show own_Ends _ _ _ _ _ _ _ T105 (mkF m 137 #[.val (.int p0), .val (.int p1), .val (.int p2), .val (.int p3), .val (.int p4), .val (.int (5 : Int32)), .val (.ref bq), .val (.ref bp), .unset] [(.int (0 : Int32)), (.ref bp)])
    refine own_go (fun _ k => XS.aload X105.here hx rfl (hb hby at_137) rfl rfl k) ?_
    show own_Ends _ _ _ _ _ _ _ T105 (mkF m 139 #[.val (.int p0), .val (.int p1), .val (.int p2), .val (.int p3), .val (.int p4), .val (.int (5 : Int32)), .val (.ref bq), .val (.ref bp), .unset] [(.ref bq), (.int (0 : Int32)), (.ref bp)])
    refine own_go (fun _ k => XS.iconst X105.here hx rfl (hb hby at_139) k) ?_
    show own_Ends _ _ _ _ _ _ _ T105 (mkF m 140 #[.val (.int p0), .val (.int p1), .val (.int p2), .val (.int p3), .val (.int p4), .val (.int (5 : Int32)), .val (.ref bq), .val (.ref bp), .unset] [(.int (0 : Int32)), (.ref bq), (.int (0 : Int32)), (.ref bp)])
    refine own_go (fun _ k => own_ldB X105 hx hZ e105 V_bq_105 (i := 0) (v := (.int (b 0))) (by decide) (by decide) (by decide) rfl (g := (mkF m 140 #[.val (.int p0), .val (.int p1), .val (.int p2), .val (.int p3), .val (.int p4), .val (.int (5 : Int32)), .val (.ref bq), .val (.ref bp), .unset] [(.int (0 : Int32)), (.ref bq), (.int (0 : Int32)), (.ref bp)])) rfl rfl (hb hby at_140) _ k) ?_
    show own_Ends _ _ _ _ _ _ _ T105 (mkF m 141 #[.val (.int p0), .val (.int p1), .val (.int p2), .val (.int p3), .val (.int p4), .val (.int (5 : Int32)), .val (.ref bq), .val (.ref bp), .unset] [(.int (b 0)), (.int (0 : Int32)), (.ref bp)])
    obtain ⟨T106, h106, X106, e106, W106, V106, st106⟩ := own_stB X105 hx hZ e105 V_bp (i := 0) (by decide) (by decide) (by decide) (g := (mkF m 141 #[.val (.int p0), .val (.int p1), .val (.int p2), .val (.int p3), .val (.int p4), .val (.int (5 : Int32)), .val (.ref bq), .val (.ref bp), .unset] [(.int (b 0)), (.int (0 : Int32)), (.ref bp)])) rfl rfl (hb hby at_141)
    have N106 := Fr.snoc X106 N49 g_bp
    have K_106 := K_105.wr W106 (Or.inr sz_bp)
    have V_bq_106 := V_bq_105.other W106 ne_bq_bp
    refine own_go st106 ?_
    show own_Ends _ _ _ _ _ _ _ T106 (mkF m 142 #[.val (.int p0), .val (.int p1), .val (.int p2), .val (.int p3), .val (.int p4), .val (.int (5 : Int32)), .val (.ref bq), .val (.ref bp), .unset] [])
    refine own_go (fun _ k => XS.iload X106.here hx rfl (hb hby at_142) rfl k) ?_
    show own_Ends _ _ _ _ _ _ _ T106 (mkF m 144 #[.val (.int p0), .val (.int p1), .val (.int p2), .val (.int p3), .val (.int p4), .val (.int (5 : Int32)), .val (.ref bq), .val (.ref bp), .unset] [(.int (5 : Int32))])
    refine own_go (fun _ k => XS.iconst X106.here hx rfl (hb hby at_144) k) ?_
    show own_Ends _ _ _ _ _ _ _ T106 (mkF m 145 #[.val (.int p0), .val (.int p1), .val (.int p2), .val (.int p3), .val (.int p4), .val (.int (5 : Int32)), .val (.ref bq), .val (.ref bp), .unset] [(.int (1 : Int32)), (.int (5 : Int32))])
    refine own_go (fun _ k => XS.icmpNo X106.here hx rfl (hb hby at_145) rfl (tlt (by decide)).2.2.2 k) ?_
    show own_Ends _ _ _ _ _ _ _ T106 (mkF m 148 #[.val (.int p0), .val (.int p1), .val (.int p2), .val (.int p3), .val (.int p4), .val (.int (5 : Int32)), .val (.ref bq), .val (.ref bp), .unset] [])
    refine own_go (fun _ k => XS.aload X106.here hx rfl (hb hby at_148) rfl rfl k) ?_
    show own_Ends _ _ _ _ _ _ _ T106 (mkF m 150 #[.val (.int p0), .val (.int p1), .val (.int p2), .val (.int p3), .val (.int p4), .val (.int (5 : Int32)), .val (.ref bq), .val (.ref bp), .unset] [(.ref bp)])
    refine own_go (fun _ k => XS.iconst X106.here hx rfl (hb hby at_150) k) ?_
    show own_Ends _ _ _ _ _ _ _ T106 (mkF m 151 #[.val (.int p0), .val (.int p1), .val (.int p2), .val (.int p3), .val (.int p4), .val (.int (5 : Int32)), .val (.ref bq), .val (.ref bp), .unset] [(.int (1 : Int32)), (.ref bp)])
    refine own_go (fun _ k => XS.aload X106.here hx rfl (hb hby at_151) rfl rfl k) ?_
    show own_Ends _ _ _ _ _ _ _ T106 (mkF m 153 #[.val (.int p0), .val (.int p1), .val (.int p2), .val (.int p3), .val (.int p4), .val (.int (5 : Int32)), .val (.ref bq), .val (.ref bp), .unset] [(.ref bq), (.int (1 : Int32)), (.ref bp)])
    refine own_go (fun _ k => XS.iconst X106.here hx rfl (hb hby at_153) k) ?_
    show own_Ends _ _ _ _ _ _ _ T106 (mkF m 154 #[.val (.int p0), .val (.int p1), .val (.int p2), .val (.int p3), .val (.int p4), .val (.int (5 : Int32)), .val (.ref bq), .val (.ref bp), .unset] [(.int (1 : Int32)), (.ref bq), (.int (1 : Int32)), (.ref bp)])
    refine own_go (fun _ k => own_ldB X106 hx hZ e106 V_bq_106 (i := 1) (v := (.int (b 1))) (by decide) (by decide) (by decide) rfl (g := (mkF m 154 #[.val (.int p0), .val (.int p1), .val (.int p2), .val (.int p3), .val (.int p4), .val (.int (5 : Int32)), .val (.ref bq), .val (.ref bp), .unset] [(.int (1 : Int32)), (.ref bq), (.int (1 : Int32)), (.ref bp)])) rfl rfl (hb hby at_154) _ k) ?_
    show own_Ends _ _ _ _ _ _ _ T106 (mkF m 155 #[.val (.int p0), .val (.int p1), .val (.int p2), .val (.int p3), .val (.int p4), .val (.int (5 : Int32)), .val (.ref bq), .val (.ref bp), .unset] [(.int (b 1)), (.int (1 : Int32)), (.ref bp)])
    obtain ⟨T107, h107, X107, e107, W107, V107, st107⟩ := own_stB X106 hx hZ e106 V106 (i := 1) (by decide) (by decide) (by decide) (g := (mkF m 155 #[.val (.int p0), .val (.int p1), .val (.int p2), .val (.int p3), .val (.int p4), .val (.int (5 : Int32)), .val (.ref bq), .val (.ref bp), .unset] [(.int (b 1)), (.int (1 : Int32)), (.ref bp)])) rfl rfl (hb hby at_155)
    have N107 := Fr.snoc X107 N106 g_bp
    have K_107 := K_106.wr W107 (Or.inr sz_bp)
    have V_bq_107 := V_bq_106.other W107 ne_bq_bp
    refine own_go st107 ?_
    show own_Ends _ _ _ _ _ _ _ T107 (mkF m 156 #[.val (.int p0), .val (.int p1), .val (.int p2), .val (.int p3), .val (.int p4), .val (.int (5 : Int32)), .val (.ref bq), .val (.ref bp), .unset] [])
    refine own_go (fun _ k => XS.iload X107.here hx rfl (hb hby at_156) rfl k) ?_
    show own_Ends _ _ _ _ _ _ _ T107 (mkF m 158 #[.val (.int p0), .val (.int p1), .val (.int p2), .val (.int p3), .val (.int p4), .val (.int (5 : Int32)), .val (.ref bq), .val (.ref bp), .unset] [(.int (5 : Int32))])
    refine own_go (fun _ k => XS.iconst X107.here hx rfl (hb hby at_158) k) ?_
    show own_Ends _ _ _ _ _ _ _ T107 (mkF m 159 #[.val (.int p0), .val (.int p1), .val (.int p2), .val (.int p3), .val (.int p4), .val (.int (5 : Int32)), .val (.ref bq), .val (.ref bp), .unset] [(.int (2 : Int32)), (.int (5 : Int32))])
    refine own_go (fun _ k => XS.icmpNo X107.here hx rfl (hb hby at_159) rfl (tlt (by decide)).2.2.2 k) ?_
    show own_Ends _ _ _ _ _ _ _ T107 (mkF m 162 #[.val (.int p0), .val (.int p1), .val (.int p2), .val (.int p3), .val (.int p4), .val (.int (5 : Int32)), .val (.ref bq), .val (.ref bp), .unset] [])
    refine own_go (fun _ k => XS.aload X107.here hx rfl (hb hby at_162) rfl rfl k) ?_
    show own_Ends _ _ _ _ _ _ _ T107 (mkF m 164 #[.val (.int p0), .val (.int p1), .val (.int p2), .val (.int p3), .val (.int p4), .val (.int (5 : Int32)), .val (.ref bq), .val (.ref bp), .unset] [(.ref bp)])
    refine own_go (fun _ k => XS.iconst X107.here hx rfl (hb hby at_164) k) ?_
    show own_Ends _ _ _ _ _ _ _ T107 (mkF m 165 #[.val (.int p0), .val (.int p1), .val (.int p2), .val (.int p3), .val (.int p4), .val (.int (5 : Int32)), .val (.ref bq), .val (.ref bp), .unset] [(.int (2 : Int32)), (.ref bp)])
    refine own_go (fun _ k => XS.aload X107.here hx rfl (hb hby at_165) rfl rfl k) ?_
    show own_Ends _ _ _ _ _ _ _ T107 (mkF m 167 #[.val (.int p0), .val (.int p1), .val (.int p2), .val (.int p3), .val (.int p4), .val (.int (5 : Int32)), .val (.ref bq), .val (.ref bp), .unset] [(.ref bq), (.int (2 : Int32)), (.ref bp)])
    refine own_go (fun _ k => XS.iconst X107.here hx rfl (hb hby at_167) k) ?_
    show own_Ends _ _ _ _ _ _ _ T107 (mkF m 168 #[.val (.int p0), .val (.int p1), .val (.int p2), .val (.int p3), .val (.int p4), .val (.int (5 : Int32)), .val (.ref bq), .val (.ref bp), .unset] [(.int (2 : Int32)), (.ref bq), (.int (2 : Int32)), (.ref bp)])
    refine own_go (fun _ k => own_ldB X107 hx hZ e107 V_bq_107 (i := 2) (v := (.int (b 2))) (by decide) (by decide) (by decide) rfl (g := (mkF m 168 #[.val (.int p0), .val (.int p1), .val (.int p2), .val (.int p3), .val (.int p4), .val (.int (5 : Int32)), .val (.ref bq), .val (.ref bp), .unset] [(.int (2 : Int32)), (.ref bq), (.int (2 : Int32)), (.ref bp)])) rfl rfl (hb hby at_168) _ k) ?_
    show own_Ends _ _ _ _ _ _ _ T107 (mkF m 169 #[.val (.int p0), .val (.int p1), .val (.int p2), .val (.int p3), .val (.int p4), .val (.int (5 : Int32)), .val (.ref bq), .val (.ref bp), .unset] [(.int (b 2)), (.int (2 : Int32)), (.ref bp)])
    obtain ⟨T108, h108, X108, e108, W108, V108, st108⟩ := own_stB X107 hx hZ e107 V107 (i := 2) (by decide) (by decide) (by decide) (g := (mkF m 169 #[.val (.int p0), .val (.int p1), .val (.int p2), .val (.int p3), .val (.int p4), .val (.int (5 : Int32)), .val (.ref bq), .val (.ref bp), .unset] [(.int (b 2)), (.int (2 : Int32)), (.ref bp)])) rfl rfl (hb hby at_169)
    have N108 := Fr.snoc X108 N107 g_bp
    have K_108 := K_107.wr W108 (Or.inr sz_bp)
    have V_bq_108 := V_bq_107.other W108 ne_bq_bp
    refine own_go st108 ?_
    show own_Ends _ _ _ _ _ _ _ T108 (mkF m 170 #[.val (.int p0), .val (.int p1), .val (.int p2), .val (.int p3), .val (.int p4), .val (.int (5 : Int32)), .val (.ref bq), .val (.ref bp), .unset] [])
    refine own_go (fun _ k => XS.iload X108.here hx rfl (hb hby at_170) rfl k) ?_
    show own_Ends _ _ _ _ _ _ _ T108 (mkF m 172 #[.val (.int p0), .val (.int p1), .val (.int p2), .val (.int p3), .val (.int p4), .val (.int (5 : Int32)), .val (.ref bq), .val (.ref bp), .unset] [(.int (5 : Int32))])
    refine own_go (fun _ k => XS.iconst X108.here hx rfl (hb hby at_172) k) ?_
    show own_Ends _ _ _ _ _ _ _ T108 (mkF m 173 #[.val (.int p0), .val (.int p1), .val (.int p2), .val (.int p3), .val (.int p4), .val (.int (5 : Int32)), .val (.ref bq), .val (.ref bp), .unset] [(.int (3 : Int32)), (.int (5 : Int32))])
    refine own_go (fun _ k => XS.icmpNo X108.here hx rfl (hb hby at_173) rfl (tlt (by decide)).2.2.2 k) ?_
    show own_Ends _ _ _ _ _ _ _ T108 (mkF m 176 #[.val (.int p0), .val (.int p1), .val (.int p2), .val (.int p3), .val (.int p4), .val (.int (5 : Int32)), .val (.ref bq), .val (.ref bp), .unset] [])
    refine own_go (fun _ k => XS.aload X108.here hx rfl (hb hby at_176) rfl rfl k) ?_
    show own_Ends _ _ _ _ _ _ _ T108 (mkF m 178 #[.val (.int p0), .val (.int p1), .val (.int p2), .val (.int p3), .val (.int p4), .val (.int (5 : Int32)), .val (.ref bq), .val (.ref bp), .unset] [(.ref bp)])
    refine own_go (fun _ k => XS.iconst X108.here hx rfl (hb hby at_178) k) ?_
    show own_Ends _ _ _ _ _ _ _ T108 (mkF m 179 #[.val (.int p0), .val (.int p1), .val (.int p2), .val (.int p3), .val (.int p4), .val (.int (5 : Int32)), .val (.ref bq), .val (.ref bp), .unset] [(.int (3 : Int32)), (.ref bp)])
    refine own_go (fun _ k => XS.aload X108.here hx rfl (hb hby at_179) rfl rfl k) ?_
    show own_Ends _ _ _ _ _ _ _ T108 (mkF m 181 #[.val (.int p0), .val (.int p1), .val (.int p2), .val (.int p3), .val (.int p4), .val (.int (5 : Int32)), .val (.ref bq), .val (.ref bp), .unset] [(.ref bq), (.int (3 : Int32)), (.ref bp)])
    refine own_go (fun _ k => XS.iconst X108.here hx rfl (hb hby at_181) k) ?_
    show own_Ends _ _ _ _ _ _ _ T108 (mkF m 182 #[.val (.int p0), .val (.int p1), .val (.int p2), .val (.int p3), .val (.int p4), .val (.int (5 : Int32)), .val (.ref bq), .val (.ref bp), .unset] [(.int (3 : Int32)), (.ref bq), (.int (3 : Int32)), (.ref bp)])
    refine own_go (fun _ k => own_ldB X108 hx hZ e108 V_bq_108 (i := 3) (v := (.int (b 3))) (by decide) (by decide) (by decide) rfl (g := (mkF m 182 #[.val (.int p0), .val (.int p1), .val (.int p2), .val (.int p3), .val (.int p4), .val (.int (5 : Int32)), .val (.ref bq), .val (.ref bp), .unset] [(.int (3 : Int32)), (.ref bq), (.int (3 : Int32)), (.ref bp)])) rfl rfl (hb hby at_182) _ k) ?_
    show own_Ends _ _ _ _ _ _ _ T108 (mkF m 183 #[.val (.int p0), .val (.int p1), .val (.int p2), .val (.int p3), .val (.int p4), .val (.int (5 : Int32)), .val (.ref bq), .val (.ref bp), .unset] [(.int (b 3)), (.int (3 : Int32)), (.ref bp)])
    obtain ⟨T109, h109, X109, e109, W109, V109, st109⟩ := own_stB X108 hx hZ e108 V108 (i := 3) (by decide) (by decide) (by decide) (g := (mkF m 183 #[.val (.int p0), .val (.int p1), .val (.int p2), .val (.int p3), .val (.int p4), .val (.int (5 : Int32)), .val (.ref bq), .val (.ref bp), .unset] [(.int (b 3)), (.int (3 : Int32)), (.ref bp)])) rfl rfl (hb hby at_183)
    have N109 := Fr.snoc X109 N108 g_bp
    have K_109 := K_108.wr W109 (Or.inr sz_bp)
    have V_bq_109 := V_bq_108.other W109 ne_bq_bp
    refine own_go st109 ?_
    show own_Ends _ _ _ _ _ _ _ T109 (mkF m 184 #[.val (.int p0), .val (.int p1), .val (.int p2), .val (.int p3), .val (.int p4), .val (.int (5 : Int32)), .val (.ref bq), .val (.ref bp), .unset] [])
    refine own_go (fun _ k => XS.iload X109.here hx rfl (hb hby at_184) rfl k) ?_
    show own_Ends _ _ _ _ _ _ _ T109 (mkF m 186 #[.val (.int p0), .val (.int p1), .val (.int p2), .val (.int p3), .val (.int p4), .val (.int (5 : Int32)), .val (.ref bq), .val (.ref bp), .unset] [(.int (5 : Int32))])
    refine own_go (fun _ k => XS.iconst X109.here hx rfl (hb hby at_186) k) ?_
    show own_Ends _ _ _ _ _ _ _ T109 (mkF m 187 #[.val (.int p0), .val (.int p1), .val (.int p2), .val (.int p3), .val (.int p4), .val (.int (5 : Int32)), .val (.ref bq), .val (.ref bp), .unset] [(.int (4 : Int32)), (.int (5 : Int32))])
    refine own_go (fun _ k => XS.icmpNo X109.here hx rfl (hb hby at_187) rfl (tlt (by decide)).2.2.2 k) ?_
    show own_Ends _ _ _ _ _ _ _ T109 (mkF m 190 #[.val (.int p0), .val (.int p1), .val (.int p2), .val (.int p3), .val (.int p4), .val (.int (5 : Int32)), .val (.ref bq), .val (.ref bp), .unset] [])
    refine own_go (fun _ k => XS.aload X109.here hx rfl (hb hby at_190) rfl rfl k) ?_
    show own_Ends _ _ _ _ _ _ _ T109 (mkF m 192 #[.val (.int p0), .val (.int p1), .val (.int p2), .val (.int p3), .val (.int p4), .val (.int (5 : Int32)), .val (.ref bq), .val (.ref bp), .unset] [(.ref bp)])
    refine own_go (fun _ k => XS.iconst X109.here hx rfl (hb hby at_192) k) ?_
    show own_Ends _ _ _ _ _ _ _ T109 (mkF m 193 #[.val (.int p0), .val (.int p1), .val (.int p2), .val (.int p3), .val (.int p4), .val (.int (5 : Int32)), .val (.ref bq), .val (.ref bp), .unset] [(.int (4 : Int32)), (.ref bp)])
    refine own_go (fun _ k => XS.aload X109.here hx rfl (hb hby at_193) rfl rfl k) ?_
    show own_Ends _ _ _ _ _ _ _ T109 (mkF m 195 #[.val (.int p0), .val (.int p1), .val (.int p2), .val (.int p3), .val (.int p4), .val (.int (5 : Int32)), .val (.ref bq), .val (.ref bp), .unset] [(.ref bq), (.int (4 : Int32)), (.ref bp)])
    refine own_go (fun _ k => XS.iconst X109.here hx rfl (hb hby at_195) k) ?_
    show own_Ends _ _ _ _ _ _ _ T109 (mkF m 196 #[.val (.int p0), .val (.int p1), .val (.int p2), .val (.int p3), .val (.int p4), .val (.int (5 : Int32)), .val (.ref bq), .val (.ref bp), .unset] [(.int (4 : Int32)), (.ref bq), (.int (4 : Int32)), (.ref bp)])
    refine own_go (fun _ k => own_ldB X109 hx hZ e109 V_bq_109 (i := 4) (v := (.int (b 4))) (by decide) (by decide) (by decide) rfl (g := (mkF m 196 #[.val (.int p0), .val (.int p1), .val (.int p2), .val (.int p3), .val (.int p4), .val (.int (5 : Int32)), .val (.ref bq), .val (.ref bp), .unset] [(.int (4 : Int32)), (.ref bq), (.int (4 : Int32)), (.ref bp)])) rfl rfl (hb hby at_196) _ k) ?_
    show own_Ends _ _ _ _ _ _ _ T109 (mkF m 197 #[.val (.int p0), .val (.int p1), .val (.int p2), .val (.int p3), .val (.int p4), .val (.int (5 : Int32)), .val (.ref bq), .val (.ref bp), .unset] [(.int (b 4)), (.int (4 : Int32)), (.ref bp)])
    obtain ⟨T110, h110, X110, e110, W110, V110, st110⟩ := own_stB X109 hx hZ e109 V109 (i := 4) (by decide) (by decide) (by decide) (g := (mkF m 197 #[.val (.int p0), .val (.int p1), .val (.int p2), .val (.int p3), .val (.int p4), .val (.int (5 : Int32)), .val (.ref bq), .val (.ref bp), .unset] [(.int (b 4)), (.int (4 : Int32)), (.ref bp)])) rfl rfl (hb hby at_197)
    have N110 := Fr.snoc X110 N109 g_bp
    have K_110 := K_109.wr W110 (Or.inr sz_bp)
    have V_bq_110 := V_bq_109.other W110 ne_bq_bp
    refine own_go st110 ?_
    show own_Ends _ _ _ _ _ _ _ T110 (mkF m 198 #[.val (.int p0), .val (.int p1), .val (.int p2), .val (.int p3), .val (.int p4), .val (.int (5 : Int32)), .val (.ref bq), .val (.ref bp), .unset] [])
    refine own_go (fun _ k => XS.iload X110.here hx rfl (hb hby at_198) rfl k) ?_
    show own_Ends _ _ _ _ _ _ _ T110 (mkF m 200 #[.val (.int p0), .val (.int p1), .val (.int p2), .val (.int p3), .val (.int p4), .val (.int (5 : Int32)), .val (.ref bq), .val (.ref bp), .unset] [(.int (5 : Int32))])
    refine own_go (fun _ k => XS.iconst X110.here hx rfl (hb hby at_200) k) ?_
    show own_Ends _ _ _ _ _ _ _ T110 (mkF m 201 #[.val (.int p0), .val (.int p1), .val (.int p2), .val (.int p3), .val (.int p4), .val (.int (5 : Int32)), .val (.ref bq), .val (.ref bp), .unset] [(.int (5 : Int32)), (.int (5 : Int32))])
    refine own_go (fun _ k => XS.icmpYes X110.here hx rfl (pc0 := 201) (pc' := 212) rfl (hb hby at_201) rfl (flt (by decide)).2.2.2 (by decide) (by decide) k) ?_
    show own_Ends _ _ _ _ _ _ _ T110 (mkF m 212 #[.val (.int p0), .val (.int p1), .val (.int p2), .val (.int p3), .val (.int p4), .val (.int (5 : Int32)), .val (.ref bq), .val (.ref bp), .unset] [])
    refine own_go (fun _ k => XS.iload X110.here hx rfl (hb hby at_212) rfl k) ?_
    show own_Ends _ _ _ _ _ _ _ T110 (mkF m 214 #[.val (.int p0), .val (.int p1), .val (.int p2), .val (.int p3), .val (.int p4), .val (.int (5 : Int32)), .val (.ref bq), .val (.ref bp), .unset] [(.int (5 : Int32))])
    refine own_go (fun _ k => XS.bipush X110.here hx rfl (hb hby at_214) k) ?_
    show own_Ends _ _ _ _ _ _ _ T110 (mkF m 216 #[.val (.int p0), .val (.int p1), .val (.int p2), .val (.int p3), .val (.int p4), .val (.int (5 : Int32)), .val (.ref bq), .val (.ref bp), .unset] [(.int (6 : Int32)), (.int (5 : Int32))])
    refine own_go (fun _ k => XS.icmpYes X110.here hx rfl (pc0 := 216) (pc' := 229) rfl (hb hby at_216) rfl (flt (by decide)).2.2.2 (by decide) (by decide) k) ?_
    show own_Ends _ _ _ _ _ _ _ T110 (mkF m 229 #[.val (.int p0), .val (.int p1), .val (.int p2), .val (.int p3), .val (.int p4), .val (.int (5 : Int32)), .val (.ref bq), .val (.ref bp), .unset] [])
    refine own_go (fun _ k => XS.aload X110.here hx rfl (hb hby at_229) rfl rfl k) ?_
    show own_Ends _ _ _ _ _ _ _ T110 (mkF m 231 #[.val (.int p0), .val (.int p1), .val (.int p2), .val (.int p3), .val (.int p4), .val (.int (5 : Int32)), .val (.ref bq), .val (.ref bp), .unset] [(.ref bp)])
    have Vp : own_Ar Z h110 bp k105 .byte 5 (fun j => .int (b j)) := V110.cong (fun j hj => by
      have seg : j = 0 ∨ j = 1 ∨ j = 2 ∨ j = 3 ∨ j = 4 := by omega
      rcases seg with rfl | rfl | rfl | rfl | rfl
      · exact congrArg Value.int (hbn 0 (by decide))
      · exact congrArg Value.int (hbn 1 (by decide))
      · exact congrArg Value.int (hbn 2 (by decide))
      · exact congrArg Value.int (hbn 3 (by decide))
      · exact congrArg Value.int (hbn 4 (by decide)))
    obtain ⟨v111, T111, L111, X111, hQ111, st111⟩ := own_callS X110 hx hZ hown (hw _ (List.mem_of_getElem? (i := 5) rfl)) (hw _ (List.mem_of_getElem? (i := 6) rfl)) (hw _ (List.mem_of_getElem? (i := 7) rfl)) (hw _ (List.mem_of_getElem? (i := 8) rfl)) (rm2 l Z a0 hw bp h110 h0.size 5 k105 b K_110.1 Vp (by decide)) e110 (g := (mkF m 231 #[.val (.int p0), .val (.int p1), .val (.int p2), .val (.int p3), .val (.int p4), .val (.int (5 : Int32)), .val (.ref bq), .val (.ref bp), .unset] [(.ref bp)])) rfl (by rw [hml]; rfl) (argsL := [(.ref bp)]) (rest := []) (lenOf pd_4 rfl) rfl rfl (W := 0) (by show 2 * 0 + _ ≤ _; exact Nat.le_of_eq rfl) (hb hby at_231) (by decide) (by decide) (by decide) (by decide) (by decide)
    obtain ⟨t, kt, g, rfl, N111q, K111, V111, s111, hG111⟩ := hQ111
    refine own_go st111 ?_
    have N111 := Fr.app N110 N111q
    have K_111 := K_110.trans K111 all0
    have V_bq_111 := V_bq_110.keep K111 nin0
    have V_bp_111 := Vp.keep K111 nin0
    show own_Ends _ _ _ _ _ _ _ T111 (mkF m 234 #[.val (.int p0), .val (.int p1), .val (.int p2), .val (.int p3), .val (.int p4), .val (.int (5 : Int32)), .val (.ref bq), .val (.ref bp), .unset] [(.ref t)])
    refine own_go (fun _ k => XS.astore X111.here hx rfl (hb hby at_234) rfl rfl (l' := #[.val (.int p0), .val (.int p1), .val (.int p2), .val (.int p3), .val (.int p4), .val (.int (5 : Int32)), .val (.ref bq), .val (.ref bp), .val (.ref t)]) rfl k) ?_
    show own_Ends _ _ _ _ _ _ _ T111 (mkF m 236 #[.val (.int p0), .val (.int p1), .val (.int p2), .val (.int p3), .val (.int p4), .val (.int (5 : Int32)), .val (.ref bq), .val (.ref bp), .val (.ref t)] [])
    refine own_go (fun _ k => XS.aload X111.here hx rfl (hb hby at_236) rfl rfl k) ?_
    show own_Ends _ _ _ _ _ _ _ T111 (mkF m 238 #[.val (.int p0), .val (.int p1), .val (.int p2), .val (.int p3), .val (.int p4), .val (.int (5 : Int32)), .val (.ref bq), .val (.ref bp), .val (.ref t)] [(.ref t)])
    refine own_go (fun _ k => XS.ifnullNo X111.here hx rfl (hb hby at_238) rfl k) ?_
    show own_Ends _ _ _ _ _ _ _ T111 (mkF m 241 #[.val (.int p0), .val (.int p1), .val (.int p2), .val (.int p3), .val (.int p4), .val (.int (5 : Int32)), .val (.ref bq), .val (.ref bp), .val (.ref t)] [])
    refine own_go (fun _ k => XS.aload X111.here hx rfl (hb hby at_241) rfl rfl k) ?_
    show own_Ends _ _ _ _ _ _ _ T111 (mkF m 243 #[.val (.int p0), .val (.int p1), .val (.int p2), .val (.int p3), .val (.int p4), .val (.int (5 : Int32)), .val (.ref bq), .val (.ref bp), .val (.ref t)] [(.ref t)])
    refine own_go (fun _ k => own_len X111 hx hZ rfl V111 (z := (5 : Int32)) rfl (g := (mkF m 243 #[.val (.int p0), .val (.int p1), .val (.int p2), .val (.int p3), .val (.int p4), .val (.int (5 : Int32)), .val (.ref bq), .val (.ref bp), .val (.ref t)] [(.ref t)])) rfl rfl (hb hby at_243) _ k) ?_
    show own_Ends _ _ _ _ _ _ _ T111 (mkF m 244 #[.val (.int p0), .val (.int p1), .val (.int p2), .val (.int p3), .val (.int p4), .val (.int (5 : Int32)), .val (.ref bq), .val (.ref bp), .val (.ref t)] [(.int (5 : Int32))])
    refine own_go (fun _ k => XS.iload X111.here hx rfl (hb hby at_244) rfl k) ?_
    show own_Ends _ _ _ _ _ _ _ T111 (mkF m 246 #[.val (.int p0), .val (.int p1), .val (.int p2), .val (.int p3), .val (.int p4), .val (.int (5 : Int32)), .val (.ref bq), .val (.ref bp), .val (.ref t)] [(.int (5 : Int32)), (.int (5 : Int32))])
    refine own_go (fun _ k => XS.icmpYes X111.here hx rfl (pc0 := 246) (pc' := 251) rfl (hb hby at_246) rfl (teq (rfl)).1 (by decide) (by decide) k) ?_
    show own_Ends _ _ _ _ _ _ _ T111 (mkF m 251 #[.val (.int p0), .val (.int p1), .val (.int p2), .val (.int p3), .val (.int p4), .val (.int (5 : Int32)), .val (.ref bq), .val (.ref bp), .val (.ref t)] [])
    refine own_go (fun _ k => XS.aload X111.here hx rfl (hb hby at_251) rfl rfl k) ?_
    show own_Ends _ _ _ _ _ _ _ T111 (mkF m 253 #[.val (.int p0), .val (.int p1), .val (.int p2), .val (.int p3), .val (.int p4), .val (.int (5 : Int32)), .val (.ref bq), .val (.ref bp), .val (.ref t)] [(.ref t)])
    refine own_go (fun _ k => XS.aload X111.here hx rfl (hb hby at_253) rfl rfl k) ?_
    show own_Ends _ _ _ _ _ _ _ T111 (mkF m 255 #[.val (.int p0), .val (.int p1), .val (.int p2), .val (.int p3), .val (.int p4), .val (.int (5 : Int32)), .val (.ref bq), .val (.ref bp), .val (.ref t)] [(.ref bp), (.ref t)])
    refine own_go (fun _ k => XS.aload X111.here hx rfl (hb hby at_255) rfl rfl k) ?_
    show own_Ends _ _ _ _ _ _ _ T111 (mkF m 257 #[.val (.int p0), .val (.int p1), .val (.int p2), .val (.int p3), .val (.int p4), .val (.int (5 : Int32)), .val (.ref bq), .val (.ref bp), .val (.ref t)] [(.ref bq), (.ref bp), (.ref t)])
    refine own_go (fun _ k => XS.iload X111.here hx rfl (hb hby at_257) rfl k) ?_
    show own_Ends _ _ _ _ _ _ _ T111 (mkF m 259 #[.val (.int p0), .val (.int p1), .val (.int p2), .val (.int p3), .val (.int p4), .val (.int (5 : Int32)), .val (.ref bq), .val (.ref bp), .val (.ref t)] [(.int (5 : Int32)), (.ref bq), (.ref bp), (.ref t)])
    refine own_go (fun _ k => XS.iconst X111.here hx rfl (hb hby at_259) k) ?_
    show own_Ends _ _ _ _ _ _ _ T111 (mkF m 260 #[.val (.int p0), .val (.int p1), .val (.int p2), .val (.int p3), .val (.int p4), .val (.int (5 : Int32)), .val (.ref bq), .val (.ref bp), .val (.ref t)] [(.int (0 : Int32)), (.int (5 : Int32)), (.ref bq), (.ref bp), (.ref t)])
    obtain ⟨q0, g0, hB0⟩ := hG111 0 (by decide)
    obtain ⟨v112, T112, L112, X112, hQ112, st112⟩ := own_callS X111 hx hZ hown (hw _ (List.mem_of_getElem? (i := 17) rfl)) (hw _ (List.mem_of_getElem? (i := 18) rfl)) (hw _ (List.mem_of_getElem? (i := 3) rfl)) (hw _ (List.mem_of_getElem? (i := 19) rfl)) (rm4_0 l Z a0 hw t bp bq (5 : Int32) (0 : Int32) T111.heap 5 kt k105 k35 g b q0 V111 V_bp_111 V_bq_111 (by decide) (by decide) g0 hB0 rfl) rfl (g := (mkF m 260 #[.val (.int p0), .val (.int p1), .val (.int p2), .val (.int p3), .val (.int p4), .val (.int (5 : Int32)), .val (.ref bq), .val (.ref bp), .val (.ref t)] [(.int (0 : Int32)), (.int (5 : Int32)), (.ref bq), (.ref bp), (.ref t)])) rfl (by rw [hml]; rfl) (argsL := [(.ref t), (.ref bp), (.ref bq), (.int (5 : Int32)), (.int (0 : Int32))]) (rest := []) (lenOf pd_5 rfl) rfl rfl (W := 0) (by show 2 * 0 + _ ≤ _; exact Nat.le_of_eq rfl) (hb hby at_260) (by decide) (by decide) (by decide) (by decide) (by decide)
    obtain ⟨rfl, rfl, e112⟩ := hQ112
    refine own_go st112 ?_
    have N112 := Fr.app N111 (Fr.nil _)
    show own_Ends _ _ _ _ _ _ _ T112 (mkF m 263 #[.val (.int p0), .val (.int p1), .val (.int p2), .val (.int p3), .val (.int p4), .val (.int (5 : Int32)), .val (.ref bq), .val (.ref bp), .val (.ref t)] [(.int (1 : Int32))])
    refine own_go (fun _ k => XS.ifNo X112.here hx rfl (hb hby at_263) rfl ((if0 _ _).trans (feq (by decide)).1) k) ?_
    show own_Ends _ _ _ _ _ _ _ T112 (mkF m 266 #[.val (.int p0), .val (.int p1), .val (.int p2), .val (.int p3), .val (.int p4), .val (.int (5 : Int32)), .val (.ref bq), .val (.ref bp), .val (.ref t)] [])
    refine own_go (fun _ k => XS.aload X112.here hx rfl (hb hby at_266) rfl rfl k) ?_
    show own_Ends _ _ _ _ _ _ _ T112 (mkF m 268 #[.val (.int p0), .val (.int p1), .val (.int p2), .val (.int p3), .val (.int p4), .val (.int (5 : Int32)), .val (.ref bq), .val (.ref bp), .val (.ref t)] [(.ref t)])
    refine own_go (fun _ k => XS.aload X112.here hx rfl (hb hby at_268) rfl rfl k) ?_
    show own_Ends _ _ _ _ _ _ _ T112 (mkF m 270 #[.val (.int p0), .val (.int p1), .val (.int p2), .val (.int p3), .val (.int p4), .val (.int (5 : Int32)), .val (.ref bq), .val (.ref bp), .val (.ref t)] [(.ref bp), (.ref t)])
    refine own_go (fun _ k => XS.aload X112.here hx rfl (hb hby at_270) rfl rfl k) ?_
    show own_Ends _ _ _ _ _ _ _ T112 (mkF m 272 #[.val (.int p0), .val (.int p1), .val (.int p2), .val (.int p3), .val (.int p4), .val (.int (5 : Int32)), .val (.ref bq), .val (.ref bp), .val (.ref t)] [(.ref bq), (.ref bp), (.ref t)])
    refine own_go (fun _ k => XS.iload X112.here hx rfl (hb hby at_272) rfl k) ?_
    show own_Ends _ _ _ _ _ _ _ T112 (mkF m 274 #[.val (.int p0), .val (.int p1), .val (.int p2), .val (.int p3), .val (.int p4), .val (.int (5 : Int32)), .val (.ref bq), .val (.ref bp), .val (.ref t)] [(.int (5 : Int32)), (.ref bq), (.ref bp), (.ref t)])
    refine own_go (fun _ k => XS.iconst X112.here hx rfl (hb hby at_274) k) ?_
    show own_Ends _ _ _ _ _ _ _ T112 (mkF m 275 #[.val (.int p0), .val (.int p1), .val (.int p2), .val (.int p3), .val (.int p4), .val (.int (5 : Int32)), .val (.ref bq), .val (.ref bp), .val (.ref t)] [(.int (1 : Int32)), (.int (5 : Int32)), (.ref bq), (.ref bp), (.ref t)])
    obtain ⟨q1, g1, hB1⟩ := hG111 1 (by decide)
    obtain ⟨v113, T113, L113, X113, hQ113, st113⟩ := own_callS X112 hx hZ hown (hw _ (List.mem_of_getElem? (i := 17) rfl)) (hw _ (List.mem_of_getElem? (i := 18) rfl)) (hw _ (List.mem_of_getElem? (i := 3) rfl)) (hw _ (List.mem_of_getElem? (i := 19) rfl)) (rm4_1 l Z a0 hw t bp bq (5 : Int32) (1 : Int32) T111.heap 5 kt k105 k35 g b q1 V111 V_bp_111 V_bq_111 (by decide) (by decide) g1 hB1 rfl) e112 (g := (mkF m 275 #[.val (.int p0), .val (.int p1), .val (.int p2), .val (.int p3), .val (.int p4), .val (.int (5 : Int32)), .val (.ref bq), .val (.ref bp), .val (.ref t)] [(.int (1 : Int32)), (.int (5 : Int32)), (.ref bq), (.ref bp), (.ref t)])) rfl (by rw [hml]; rfl) (argsL := [(.ref t), (.ref bp), (.ref bq), (.int (5 : Int32)), (.int (1 : Int32))]) (rest := []) (lenOf pd_5 rfl) rfl rfl (W := 0) (by show 2 * 0 + _ ≤ _; exact Nat.le_of_eq rfl) (hb hby at_275) (by decide) (by decide) (by decide) (by decide) (by decide)
    obtain ⟨rfl, rfl, e113⟩ := hQ113
    refine own_go st113 ?_
    have N113 := Fr.app N112 (Fr.nil _)
    show own_Ends _ _ _ _ _ _ _ T113 (mkF m 278 #[.val (.int p0), .val (.int p1), .val (.int p2), .val (.int p3), .val (.int p4), .val (.int (5 : Int32)), .val (.ref bq), .val (.ref bp), .val (.ref t)] [(.int (1 : Int32))])
    refine own_go (fun _ k => XS.ifNo X113.here hx rfl (hb hby at_278) rfl ((if0 _ _).trans (feq (by decide)).1) k) ?_
    show own_Ends _ _ _ _ _ _ _ T113 (mkF m 281 #[.val (.int p0), .val (.int p1), .val (.int p2), .val (.int p3), .val (.int p4), .val (.int (5 : Int32)), .val (.ref bq), .val (.ref bp), .val (.ref t)] [])
    refine own_go (fun _ k => XS.aload X113.here hx rfl (hb hby at_281) rfl rfl k) ?_
    show own_Ends _ _ _ _ _ _ _ T113 (mkF m 283 #[.val (.int p0), .val (.int p1), .val (.int p2), .val (.int p3), .val (.int p4), .val (.int (5 : Int32)), .val (.ref bq), .val (.ref bp), .val (.ref t)] [(.ref t)])
    refine own_go (fun _ k => XS.aload X113.here hx rfl (hb hby at_283) rfl rfl k) ?_
    show own_Ends _ _ _ _ _ _ _ T113 (mkF m 285 #[.val (.int p0), .val (.int p1), .val (.int p2), .val (.int p3), .val (.int p4), .val (.int (5 : Int32)), .val (.ref bq), .val (.ref bp), .val (.ref t)] [(.ref bp), (.ref t)])
    refine own_go (fun _ k => XS.aload X113.here hx rfl (hb hby at_285) rfl rfl k) ?_
    show own_Ends _ _ _ _ _ _ _ T113 (mkF m 287 #[.val (.int p0), .val (.int p1), .val (.int p2), .val (.int p3), .val (.int p4), .val (.int (5 : Int32)), .val (.ref bq), .val (.ref bp), .val (.ref t)] [(.ref bq), (.ref bp), (.ref t)])
    refine own_go (fun _ k => XS.iload X113.here hx rfl (hb hby at_287) rfl k) ?_
    show own_Ends _ _ _ _ _ _ _ T113 (mkF m 289 #[.val (.int p0), .val (.int p1), .val (.int p2), .val (.int p3), .val (.int p4), .val (.int (5 : Int32)), .val (.ref bq), .val (.ref bp), .val (.ref t)] [(.int (5 : Int32)), (.ref bq), (.ref bp), (.ref t)])
    refine own_go (fun _ k => XS.iconst X113.here hx rfl (hb hby at_289) k) ?_
    show own_Ends _ _ _ _ _ _ _ T113 (mkF m 290 #[.val (.int p0), .val (.int p1), .val (.int p2), .val (.int p3), .val (.int p4), .val (.int (5 : Int32)), .val (.ref bq), .val (.ref bp), .val (.ref t)] [(.int (2 : Int32)), (.int (5 : Int32)), (.ref bq), (.ref bp), (.ref t)])
    obtain ⟨q2, g2, hB2⟩ := hG111 2 (by decide)
    obtain ⟨v114, T114, L114, X114, hQ114, st114⟩ := own_callS X113 hx hZ hown (hw _ (List.mem_of_getElem? (i := 17) rfl)) (hw _ (List.mem_of_getElem? (i := 18) rfl)) (hw _ (List.mem_of_getElem? (i := 3) rfl)) (hw _ (List.mem_of_getElem? (i := 19) rfl)) (rm4_2 l Z a0 hw t bp bq (5 : Int32) (2 : Int32) T111.heap 5 kt k105 k35 g b q2 V111 V_bp_111 V_bq_111 (by decide) (by decide) g2 hB2 rfl) e113 (g := (mkF m 290 #[.val (.int p0), .val (.int p1), .val (.int p2), .val (.int p3), .val (.int p4), .val (.int (5 : Int32)), .val (.ref bq), .val (.ref bp), .val (.ref t)] [(.int (2 : Int32)), (.int (5 : Int32)), (.ref bq), (.ref bp), (.ref t)])) rfl (by rw [hml]; rfl) (argsL := [(.ref t), (.ref bp), (.ref bq), (.int (5 : Int32)), (.int (2 : Int32))]) (rest := []) (lenOf pd_5 rfl) rfl rfl (W := 0) (by show 2 * 0 + _ ≤ _; exact Nat.le_of_eq rfl) (hb hby at_290) (by decide) (by decide) (by decide) (by decide) (by decide)
    obtain ⟨rfl, rfl, e114⟩ := hQ114
    refine own_go st114 ?_
    have N114 := Fr.app N113 (Fr.nil _)
    show own_Ends _ _ _ _ _ _ _ T114 (mkF m 293 #[.val (.int p0), .val (.int p1), .val (.int p2), .val (.int p3), .val (.int p4), .val (.int (5 : Int32)), .val (.ref bq), .val (.ref bp), .val (.ref t)] [(.int (1 : Int32))])
    refine own_go (fun _ k => XS.ifNo X114.here hx rfl (hb hby at_293) rfl ((if0 _ _).trans (feq (by decide)).1) k) ?_
    show own_Ends _ _ _ _ _ _ _ T114 (mkF m 296 #[.val (.int p0), .val (.int p1), .val (.int p2), .val (.int p3), .val (.int p4), .val (.int (5 : Int32)), .val (.ref bq), .val (.ref bp), .val (.ref t)] [])
    refine own_go (fun _ k => XS.aload X114.here hx rfl (hb hby at_296) rfl rfl k) ?_
    show own_Ends _ _ _ _ _ _ _ T114 (mkF m 298 #[.val (.int p0), .val (.int p1), .val (.int p2), .val (.int p3), .val (.int p4), .val (.int (5 : Int32)), .val (.ref bq), .val (.ref bp), .val (.ref t)] [(.ref t)])
    refine own_go (fun _ k => XS.aload X114.here hx rfl (hb hby at_298) rfl rfl k) ?_
    show own_Ends _ _ _ _ _ _ _ T114 (mkF m 300 #[.val (.int p0), .val (.int p1), .val (.int p2), .val (.int p3), .val (.int p4), .val (.int (5 : Int32)), .val (.ref bq), .val (.ref bp), .val (.ref t)] [(.ref bp), (.ref t)])
    refine own_go (fun _ k => XS.aload X114.here hx rfl (hb hby at_300) rfl rfl k) ?_
    show own_Ends _ _ _ _ _ _ _ T114 (mkF m 302 #[.val (.int p0), .val (.int p1), .val (.int p2), .val (.int p3), .val (.int p4), .val (.int (5 : Int32)), .val (.ref bq), .val (.ref bp), .val (.ref t)] [(.ref bq), (.ref bp), (.ref t)])
    refine own_go (fun _ k => XS.iload X114.here hx rfl (hb hby at_302) rfl k) ?_
    show own_Ends _ _ _ _ _ _ _ T114 (mkF m 304 #[.val (.int p0), .val (.int p1), .val (.int p2), .val (.int p3), .val (.int p4), .val (.int (5 : Int32)), .val (.ref bq), .val (.ref bp), .val (.ref t)] [(.int (5 : Int32)), (.ref bq), (.ref bp), (.ref t)])
    refine own_go (fun _ k => XS.iconst X114.here hx rfl (hb hby at_304) k) ?_
    show own_Ends _ _ _ _ _ _ _ T114 (mkF m 305 #[.val (.int p0), .val (.int p1), .val (.int p2), .val (.int p3), .val (.int p4), .val (.int (5 : Int32)), .val (.ref bq), .val (.ref bp), .val (.ref t)] [(.int (3 : Int32)), (.int (5 : Int32)), (.ref bq), (.ref bp), (.ref t)])
    obtain ⟨q3, g3, hB3⟩ := hG111 3 (by decide)
    obtain ⟨v115, T115, L115, X115, hQ115, st115⟩ := own_callS X114 hx hZ hown (hw _ (List.mem_of_getElem? (i := 17) rfl)) (hw _ (List.mem_of_getElem? (i := 18) rfl)) (hw _ (List.mem_of_getElem? (i := 3) rfl)) (hw _ (List.mem_of_getElem? (i := 19) rfl)) (rm4_3 l Z a0 hw t bp bq (5 : Int32) (3 : Int32) T111.heap 5 kt k105 k35 g b q3 V111 V_bp_111 V_bq_111 (by decide) (by decide) g3 hB3 rfl) e114 (g := (mkF m 305 #[.val (.int p0), .val (.int p1), .val (.int p2), .val (.int p3), .val (.int p4), .val (.int (5 : Int32)), .val (.ref bq), .val (.ref bp), .val (.ref t)] [(.int (3 : Int32)), (.int (5 : Int32)), (.ref bq), (.ref bp), (.ref t)])) rfl (by rw [hml]; rfl) (argsL := [(.ref t), (.ref bp), (.ref bq), (.int (5 : Int32)), (.int (3 : Int32))]) (rest := []) (lenOf pd_5 rfl) rfl rfl (W := 0) (by show 2 * 0 + _ ≤ _; exact Nat.le_of_eq rfl) (hb hby at_305) (by decide) (by decide) (by decide) (by decide) (by decide)
    obtain ⟨rfl, rfl, e115⟩ := hQ115
    refine own_go st115 ?_
    have N115 := Fr.app N114 (Fr.nil _)
    show own_Ends _ _ _ _ _ _ _ T115 (mkF m 308 #[.val (.int p0), .val (.int p1), .val (.int p2), .val (.int p3), .val (.int p4), .val (.int (5 : Int32)), .val (.ref bq), .val (.ref bp), .val (.ref t)] [(.int (1 : Int32))])
    refine own_go (fun _ k => XS.ifNo X115.here hx rfl (hb hby at_308) rfl ((if0 _ _).trans (feq (by decide)).1) k) ?_
    show own_Ends _ _ _ _ _ _ _ T115 (mkF m 311 #[.val (.int p0), .val (.int p1), .val (.int p2), .val (.int p3), .val (.int p4), .val (.int (5 : Int32)), .val (.ref bq), .val (.ref bp), .val (.ref t)] [])
    refine own_go (fun _ k => XS.aload X115.here hx rfl (hb hby at_311) rfl rfl k) ?_
    show own_Ends _ _ _ _ _ _ _ T115 (mkF m 313 #[.val (.int p0), .val (.int p1), .val (.int p2), .val (.int p3), .val (.int p4), .val (.int (5 : Int32)), .val (.ref bq), .val (.ref bp), .val (.ref t)] [(.ref t)])
    refine own_go (fun _ k => XS.aload X115.here hx rfl (hb hby at_313) rfl rfl k) ?_
    show own_Ends _ _ _ _ _ _ _ T115 (mkF m 315 #[.val (.int p0), .val (.int p1), .val (.int p2), .val (.int p3), .val (.int p4), .val (.int (5 : Int32)), .val (.ref bq), .val (.ref bp), .val (.ref t)] [(.ref bp), (.ref t)])
    refine own_go (fun _ k => XS.aload X115.here hx rfl (hb hby at_315) rfl rfl k) ?_
    show own_Ends _ _ _ _ _ _ _ T115 (mkF m 317 #[.val (.int p0), .val (.int p1), .val (.int p2), .val (.int p3), .val (.int p4), .val (.int (5 : Int32)), .val (.ref bq), .val (.ref bp), .val (.ref t)] [(.ref bq), (.ref bp), (.ref t)])
    refine own_go (fun _ k => XS.iload X115.here hx rfl (hb hby at_317) rfl k) ?_
    show own_Ends _ _ _ _ _ _ _ T115 (mkF m 319 #[.val (.int p0), .val (.int p1), .val (.int p2), .val (.int p3), .val (.int p4), .val (.int (5 : Int32)), .val (.ref bq), .val (.ref bp), .val (.ref t)] [(.int (5 : Int32)), (.ref bq), (.ref bp), (.ref t)])
    refine own_go (fun _ k => XS.iconst X115.here hx rfl (hb hby at_319) k) ?_
    show own_Ends _ _ _ _ _ _ _ T115 (mkF m 320 #[.val (.int p0), .val (.int p1), .val (.int p2), .val (.int p3), .val (.int p4), .val (.int (5 : Int32)), .val (.ref bq), .val (.ref bp), .val (.ref t)] [(.int (4 : Int32)), (.int (5 : Int32)), (.ref bq), (.ref bp), (.ref t)])
    obtain ⟨q4, g4, hB4⟩ := hG111 4 (by decide)
    obtain ⟨v116, T116, L116, X116, hQ116, st116⟩ := own_callS X115 hx hZ hown (hw _ (List.mem_of_getElem? (i := 17) rfl)) (hw _ (List.mem_of_getElem? (i := 18) rfl)) (hw _ (List.mem_of_getElem? (i := 3) rfl)) (hw _ (List.mem_of_getElem? (i := 19) rfl)) (rm4_4 l Z a0 hw t bp bq (5 : Int32) (4 : Int32) T111.heap 5 kt k105 k35 g b q4 V111 V_bp_111 V_bq_111 (by decide) (by decide) g4 hB4 rfl) e115 (g := (mkF m 320 #[.val (.int p0), .val (.int p1), .val (.int p2), .val (.int p3), .val (.int p4), .val (.int (5 : Int32)), .val (.ref bq), .val (.ref bp), .val (.ref t)] [(.int (4 : Int32)), (.int (5 : Int32)), (.ref bq), (.ref bp), (.ref t)])) rfl (by rw [hml]; rfl) (argsL := [(.ref t), (.ref bp), (.ref bq), (.int (5 : Int32)), (.int (4 : Int32))]) (rest := []) (lenOf pd_5 rfl) rfl rfl (W := 0) (by show 2 * 0 + _ ≤ _; exact Nat.le_of_eq rfl) (hb hby at_320) (by decide) (by decide) (by decide) (by decide) (by decide)
    obtain ⟨rfl, rfl, e116⟩ := hQ116
    refine own_go st116 ?_
    have N116 := Fr.app N115 (Fr.nil _)
    show own_Ends _ _ _ _ _ _ _ T116 (mkF m 323 #[.val (.int p0), .val (.int p1), .val (.int p2), .val (.int p3), .val (.int p4), .val (.int (5 : Int32)), .val (.ref bq), .val (.ref bp), .val (.ref t)] [(.int (1 : Int32))])
    refine own_go (fun _ k => XS.ifNo X116.here hx rfl (hb hby at_323) rfl ((if0 _ _).trans (feq (by decide)).1) k) ?_
    show own_Ends _ _ _ _ _ _ _ T116 (mkF m 326 #[.val (.int p0), .val (.int p1), .val (.int p2), .val (.int p3), .val (.int p4), .val (.int (5 : Int32)), .val (.ref bq), .val (.ref bp), .val (.ref t)] [])
    refine own_go (fun _ k => XS.aload X116.here hx rfl (hb hby at_326) rfl rfl k) ?_
    show own_Ends _ _ _ _ _ _ _ T116 (mkF m 328 #[.val (.int p0), .val (.int p1), .val (.int p2), .val (.int p3), .val (.int p4), .val (.int (5 : Int32)), .val (.ref bq), .val (.ref bp), .val (.ref t)] [(.ref t)])
    refine own_go (fun _ k => XS.aload X116.here hx rfl (hb hby at_328) rfl rfl k) ?_
    show own_Ends _ _ _ _ _ _ _ T116 (mkF m 330 #[.val (.int p0), .val (.int p1), .val (.int p2), .val (.int p3), .val (.int p4), .val (.int (5 : Int32)), .val (.ref bq), .val (.ref bp), .val (.ref t)] [(.ref bp), (.ref t)])
    refine own_go (fun _ k => XS.aload X116.here hx rfl (hb hby at_330) rfl rfl k) ?_
    show own_Ends _ _ _ _ _ _ _ T116 (mkF m 332 #[.val (.int p0), .val (.int p1), .val (.int p2), .val (.int p3), .val (.int p4), .val (.int (5 : Int32)), .val (.ref bq), .val (.ref bp), .val (.ref t)] [(.ref bq), (.ref bp), (.ref t)])
    refine own_go (fun _ k => XS.iload X116.here hx rfl (hb hby at_332) rfl k) ?_
    show own_Ends _ _ _ _ _ _ _ T116 (mkF m 334 #[.val (.int p0), .val (.int p1), .val (.int p2), .val (.int p3), .val (.int p4), .val (.int (5 : Int32)), .val (.ref bq), .val (.ref bp), .val (.ref t)] [(.int (5 : Int32)), (.ref bq), (.ref bp), (.ref t)])
    refine own_go (fun _ k => XS.iconst X116.here hx rfl (hb hby at_334) k) ?_
    show own_Ends _ _ _ _ _ _ _ T116 (mkF m 335 #[.val (.int p0), .val (.int p1), .val (.int p2), .val (.int p3), .val (.int p4), .val (.int (5 : Int32)), .val (.ref bq), .val (.ref bp), .val (.ref t)] [(.int (5 : Int32)), (.int (5 : Int32)), (.ref bq), (.ref bp), (.ref t)])
    obtain ⟨v117, T117, L117, X117, hQ117, st117⟩ := own_callS X116 hx hZ hown (hw _ (List.mem_of_getElem? (i := 17) rfl)) (hw _ (List.mem_of_getElem? (i := 18) rfl)) (hw _ (List.mem_of_getElem? (i := 3) rfl)) (hw _ (List.mem_of_getElem? (i := 19) rfl)) (rm4_hi l Z a0 hw t bp bq (5 : Int32) (5 : Int32) T111.heap (by decide)) e116 (g := (mkF m 335 #[.val (.int p0), .val (.int p1), .val (.int p2), .val (.int p3), .val (.int p4), .val (.int (5 : Int32)), .val (.ref bq), .val (.ref bp), .val (.ref t)] [(.int (5 : Int32)), (.int (5 : Int32)), (.ref bq), (.ref bp), (.ref t)])) rfl (by rw [hml]; rfl) (argsL := [(.ref t), (.ref bp), (.ref bq), (.int (5 : Int32)), (.int (5 : Int32))]) (rest := []) (lenOf pd_5 rfl) rfl rfl (W := 0) (by show 2 * 0 + _ ≤ _; exact Nat.le_of_eq rfl) (hb hby at_335) (by decide) (by decide) (by decide) (by decide) (by decide)
    obtain ⟨rfl, rfl, e117⟩ := hQ117
    refine own_go st117 ?_
    have N117 := Fr.app N116 (Fr.nil _)
    show own_Ends _ _ _ _ _ _ _ T117 (mkF m 338 #[.val (.int p0), .val (.int p1), .val (.int p2), .val (.int p3), .val (.int p4), .val (.int (5 : Int32)), .val (.ref bq), .val (.ref bp), .val (.ref t)] [(.int (1 : Int32))])
    refine own_go (fun _ k => XS.ifNo X117.here hx rfl (hb hby at_338) rfl ((if0 _ _).trans (feq (by decide)).1) k) ?_
    show own_Ends _ _ _ _ _ _ _ T117 (mkF m 341 #[.val (.int p0), .val (.int p1), .val (.int p2), .val (.int p3), .val (.int p4), .val (.int (5 : Int32)), .val (.ref bq), .val (.ref bp), .val (.ref t)] [])
    refine own_go (fun _ k => XS.aload X117.here hx rfl (hb hby at_341) rfl rfl k) ?_
    show own_Ends _ _ _ _ _ _ _ T117 (mkF m 343 #[.val (.int p0), .val (.int p1), .val (.int p2), .val (.int p3), .val (.int p4), .val (.int (5 : Int32)), .val (.ref bq), .val (.ref bp), .val (.ref t)] [(.ref t)])
    refine own_go (fun _ k => XS.aload X117.here hx rfl (hb hby at_343) rfl rfl k) ?_
    show own_Ends _ _ _ _ _ _ _ T117 (mkF m 345 #[.val (.int p0), .val (.int p1), .val (.int p2), .val (.int p3), .val (.int p4), .val (.int (5 : Int32)), .val (.ref bq), .val (.ref bp), .val (.ref t)] [(.ref bp), (.ref t)])
    refine own_go (fun _ k => XS.aload X117.here hx rfl (hb hby at_345) rfl rfl k) ?_
    show own_Ends _ _ _ _ _ _ _ T117 (mkF m 347 #[.val (.int p0), .val (.int p1), .val (.int p2), .val (.int p3), .val (.int p4), .val (.int (5 : Int32)), .val (.ref bq), .val (.ref bp), .val (.ref t)] [(.ref bq), (.ref bp), (.ref t)])
    refine own_go (fun _ k => XS.iload X117.here hx rfl (hb hby at_347) rfl k) ?_
    show own_Ends _ _ _ _ _ _ _ T117 (mkF m 349 #[.val (.int p0), .val (.int p1), .val (.int p2), .val (.int p3), .val (.int p4), .val (.int (5 : Int32)), .val (.ref bq), .val (.ref bp), .val (.ref t)] [(.int (5 : Int32)), (.ref bq), (.ref bp), (.ref t)])
    refine own_go (fun _ k => XS.bipush X117.here hx rfl (hb hby at_349) k) ?_
    show own_Ends _ _ _ _ _ _ _ T117 (mkF m 351 #[.val (.int p0), .val (.int p1), .val (.int p2), .val (.int p3), .val (.int p4), .val (.int (5 : Int32)), .val (.ref bq), .val (.ref bp), .val (.ref t)] [(.int (6 : Int32)), (.int (5 : Int32)), (.ref bq), (.ref bp), (.ref t)])
    obtain ⟨v118, T118, L118, X118, hQ118, st118⟩ := own_callS X117 hx hZ hown (hw _ (List.mem_of_getElem? (i := 17) rfl)) (hw _ (List.mem_of_getElem? (i := 18) rfl)) (hw _ (List.mem_of_getElem? (i := 3) rfl)) (hw _ (List.mem_of_getElem? (i := 19) rfl)) (rm4_hi l Z a0 hw t bp bq (5 : Int32) (6 : Int32) T111.heap (by decide)) e117 (g := (mkF m 351 #[.val (.int p0), .val (.int p1), .val (.int p2), .val (.int p3), .val (.int p4), .val (.int (5 : Int32)), .val (.ref bq), .val (.ref bp), .val (.ref t)] [(.int (6 : Int32)), (.int (5 : Int32)), (.ref bq), (.ref bp), (.ref t)])) rfl (by rw [hml]; rfl) (argsL := [(.ref t), (.ref bp), (.ref bq), (.int (5 : Int32)), (.int (6 : Int32))]) (rest := []) (lenOf pd_5 rfl) rfl rfl (W := 0) (by show 2 * 0 + _ ≤ _; exact Nat.le_of_eq rfl) (hb hby at_351) (by decide) (by decide) (by decide) (by decide) (by decide)
    obtain ⟨rfl, rfl, e118⟩ := hQ118
    refine own_go st118 ?_
    have N118 := Fr.app N117 (Fr.nil _)
    show own_Ends _ _ _ _ _ _ _ T118 (mkF m 354 #[.val (.int p0), .val (.int p1), .val (.int p2), .val (.int p3), .val (.int p4), .val (.int (5 : Int32)), .val (.ref bq), .val (.ref bp), .val (.ref t)] [(.int (1 : Int32))])
    refine own_go (fun _ k => XS.ifNo X118.here hx rfl (hb hby at_354) rfl ((if0 _ _).trans (feq (by decide)).1) k) ?_
    show own_Ends _ _ _ _ _ _ _ T118 (mkF m 357 #[.val (.int p0), .val (.int p1), .val (.int p2), .val (.int p3), .val (.int p4), .val (.int (5 : Int32)), .val (.ref bq), .val (.ref bp), .val (.ref t)] [])
    refine own_go (fun _ k => XS.iconst X118.here hx rfl (hb hby at_357) k) ?_
    show own_Ends _ _ _ _ _ _ _ T118 (mkF m 358 #[.val (.int p0), .val (.int p1), .val (.int p2), .val (.int p3), .val (.int p4), .val (.int (5 : Int32)), .val (.ref bq), .val (.ref bp), .val (.ref t)] [(.int (1 : Int32))])
    refine own_go (fun _ k => XS.goto X118.here hx rfl (pc0 := 358) (pc' := 362) rfl (hb hby at_358) (by decide) (by decide) k) ?_
    show own_Ends _ _ _ _ _ _ _ T118 (mkF m 362 #[.val (.int p0), .val (.int p1), .val (.int p2), .val (.int p3), .val (.int p4), .val (.int (5 : Int32)), .val (.ref bq), .val (.ref bp), .val (.ref t)] [(.int (1 : Int32))])
    exact own_retZ X118 hx hlk hret (by decide) (hb hby at_362) (by decide) (by decide) ⟨rfl, N118⟩
  · rw [show (p0 &&& (7 : Int32)) = (6 : Int32) from hn]
    show own_Ends _ _ _ _ _ _ _ T49 (mkF m 125 #[.val (.int p0), .val (.int p1), .val (.int p2), .val (.int p3), .val (.int p4), .val (.int (6 : Int32)), .val (.ref bq), .unset, .unset] [(.int (6 : Int32))])
    obtain ⟨T119, h119, k119, X119, e119, E119, A119, st119⟩ := own_newP X49 hx hZ (aty := .byte) (hw _ (List.mem_of_getElem? (i := 0) rfl)) e49 (g := (mkF m 125 #[.val (.int p0), .val (.int p1), .val (.int p2), .val (.int p3), .val (.int p4), .val (.int (6 : Int32)), .val (.ref bq), .unset, .unset] [(.int (6 : Int32))])) rfl (hb hby at_125) rfl (by decide) (n := 6) (by decide) (cap := 6) (by decide) (by decide) (by decide) (by decide)
    obtain ⟨bp, gq119⟩ : ∃ z, z = h49.size := ⟨_, rfl⟩
    rw [← gq119] at A119 st119
    have ne_bq_bp : bq ≠ bp := Nat.ne_of_lt (Nat.lt_of_lt_of_le Vq.lt (Nat.le_of_eq gq119.symm))
    have sz_bp : h0.size ≤ bp := Nat.le_trans K_49.1 (Nat.le_of_eq gq119.symm)
    have g_bp : h0.size ≤ bp := Nat.le_trans (Nat.le_refl _) sz_bp
    have K_119 := K_49.ext E119
    have V_bq_119 := Vq.ext E119
    have V_bp : own_Ar Z h119 bp k119 .byte 6 (fun _ => (.int (0 : Int32))) := A119
    refine own_go st119 ?_
    show own_Ends _ _ _ _ _ _ _ T119 (mkF m 127 #[.val (.int p0), .val (.int p1), .val (.int p2), .val (.int p3), .val (.int p4), .val (.int (6 : Int32)), .val (.ref bq), .unset, .unset] [(.ref bp)])
    refine own_go (fun _ k => XS.astore X119.here hx rfl (hb hby at_127) rfl rfl (l' := #[.val (.int p0), .val (.int p1), .val (.int p2), .val (.int p3), .val (.int p4), .val (.int (6 : Int32)), .val (.ref bq), .val (.ref bp), .unset]) rfl k) ?_
    show own_Ends _ _ _ _ _ _ _ T119 (mkF m 129 #[.val (.int p0), .val (.int p1), .val (.int p2), .val (.int p3), .val (.int p4), .val (.int (6 : Int32)), .val (.ref bq), .val (.ref bp), .unset] [])
    refine own_go (fun _ k => XS.iload X119.here hx rfl (hb hby at_129) rfl k) ?_
    show own_Ends _ _ _ _ _ _ _ T119 (mkF m 131 #[.val (.int p0), .val (.int p1), .val (.int p2), .val (.int p3), .val (.int p4), .val (.int (6 : Int32)), .val (.ref bq), .val (.ref bp), .unset] [(.int (6 : Int32))])
    refine own_go (fun _ k => XS.ifNo X119.here hx rfl (hb hby at_131) rfl ((if0 _ _).trans (tlt (by decide)).2.2.2) k) ?_
    show own_Ends _ _ _ _ _ _ _ T119 (mkF m 134 #[.val (.int p0), .val (.int p1), .val (.int p2), .val (.int p3), .val (.int p4), .val (.int (6 : Int32)), .val (.ref bq), .val (.ref bp), .unset] [])
    refine own_go (fun _ k => XS.aload X119.here hx rfl (hb hby at_134) rfl rfl k) ?_
    show own_Ends _ _ _ _ _ _ _ T119 (mkF m 136 #[.val (.int p0), .val (.int p1), .val (.int p2), .val (.int p3), .val (.int p4), .val (.int (6 : Int32)), .val (.ref bq), .val (.ref bp), .unset] [(.ref bp)])
    refine own_go (fun _ k => XS.iconst X119.here hx rfl (hb hby at_136) k) ?_
    show own_Ends _ _ _ _ _ _ _ T119 (mkF m 137 #[.val (.int p0), .val (.int p1), .val (.int p2), .val (.int p3), .val (.int p4), .val (.int (6 : Int32)), .val (.ref bq), .val (.ref bp), .unset] [(.int (0 : Int32)), (.ref bp)])
    refine own_go (fun _ k => XS.aload X119.here hx rfl (hb hby at_137) rfl rfl k) ?_
    show own_Ends _ _ _ _ _ _ _ T119 (mkF m 139 #[.val (.int p0), .val (.int p1), .val (.int p2), .val (.int p3), .val (.int p4), .val (.int (6 : Int32)), .val (.ref bq), .val (.ref bp), .unset] [(.ref bq), (.int (0 : Int32)), (.ref bp)])
    refine own_go (fun _ k => XS.iconst X119.here hx rfl (hb hby at_139) k) ?_
    show own_Ends _ _ _ _ _ _ _ T119 (mkF m 140 #[.val (.int p0), .val (.int p1), .val (.int p2), .val (.int p3), .val (.int p4), .val (.int (6 : Int32)), .val (.ref bq), .val (.ref bp), .unset] [(.int (0 : Int32)), (.ref bq), (.int (0 : Int32)), (.ref bp)])
    refine own_go (fun _ k => own_ldB X119 hx hZ e119 V_bq_119 (i := 0) (v := (.int (b 0))) (by decide) (by decide) (by decide) rfl (g := (mkF m 140 #[.val (.int p0), .val (.int p1), .val (.int p2), .val (.int p3), .val (.int p4), .val (.int (6 : Int32)), .val (.ref bq), .val (.ref bp), .unset] [(.int (0 : Int32)), (.ref bq), (.int (0 : Int32)), (.ref bp)])) rfl rfl (hb hby at_140) _ k) ?_
    show own_Ends _ _ _ _ _ _ _ T119 (mkF m 141 #[.val (.int p0), .val (.int p1), .val (.int p2), .val (.int p3), .val (.int p4), .val (.int (6 : Int32)), .val (.ref bq), .val (.ref bp), .unset] [(.int (b 0)), (.int (0 : Int32)), (.ref bp)])
    obtain ⟨T120, h120, X120, e120, W120, V120, st120⟩ := own_stB X119 hx hZ e119 V_bp (i := 0) (by decide) (by decide) (by decide) (g := (mkF m 141 #[.val (.int p0), .val (.int p1), .val (.int p2), .val (.int p3), .val (.int p4), .val (.int (6 : Int32)), .val (.ref bq), .val (.ref bp), .unset] [(.int (b 0)), (.int (0 : Int32)), (.ref bp)])) rfl rfl (hb hby at_141)
    have N120 := Fr.snoc X120 N49 g_bp
    have K_120 := K_119.wr W120 (Or.inr sz_bp)
    have V_bq_120 := V_bq_119.other W120 ne_bq_bp
    refine own_go st120 ?_
    show own_Ends _ _ _ _ _ _ _ T120 (mkF m 142 #[.val (.int p0), .val (.int p1), .val (.int p2), .val (.int p3), .val (.int p4), .val (.int (6 : Int32)), .val (.ref bq), .val (.ref bp), .unset] [])
    refine own_go (fun _ k => XS.iload X120.here hx rfl (hb hby at_142) rfl k) ?_
    show own_Ends _ _ _ _ _ _ _ T120 (mkF m 144 #[.val (.int p0), .val (.int p1), .val (.int p2), .val (.int p3), .val (.int p4), .val (.int (6 : Int32)), .val (.ref bq), .val (.ref bp), .unset] [(.int (6 : Int32))])
    refine own_go (fun _ k => XS.iconst X120.here hx rfl (hb hby at_144) k) ?_
    show own_Ends _ _ _ _ _ _ _ T120 (mkF m 145 #[.val (.int p0), .val (.int p1), .val (.int p2), .val (.int p3), .val (.int p4), .val (.int (6 : Int32)), .val (.ref bq), .val (.ref bp), .unset] [(.int (1 : Int32)), (.int (6 : Int32))])
    refine own_go (fun _ k => XS.icmpNo X120.here hx rfl (hb hby at_145) rfl (tlt (by decide)).2.2.2 k) ?_
    show own_Ends _ _ _ _ _ _ _ T120 (mkF m 148 #[.val (.int p0), .val (.int p1), .val (.int p2), .val (.int p3), .val (.int p4), .val (.int (6 : Int32)), .val (.ref bq), .val (.ref bp), .unset] [])
    refine own_go (fun _ k => XS.aload X120.here hx rfl (hb hby at_148) rfl rfl k) ?_
    show own_Ends _ _ _ _ _ _ _ T120 (mkF m 150 #[.val (.int p0), .val (.int p1), .val (.int p2), .val (.int p3), .val (.int p4), .val (.int (6 : Int32)), .val (.ref bq), .val (.ref bp), .unset] [(.ref bp)])
    refine own_go (fun _ k => XS.iconst X120.here hx rfl (hb hby at_150) k) ?_
    show own_Ends _ _ _ _ _ _ _ T120 (mkF m 151 #[.val (.int p0), .val (.int p1), .val (.int p2), .val (.int p3), .val (.int p4), .val (.int (6 : Int32)), .val (.ref bq), .val (.ref bp), .unset] [(.int (1 : Int32)), (.ref bp)])
    refine own_go (fun _ k => XS.aload X120.here hx rfl (hb hby at_151) rfl rfl k) ?_
    show own_Ends _ _ _ _ _ _ _ T120 (mkF m 153 #[.val (.int p0), .val (.int p1), .val (.int p2), .val (.int p3), .val (.int p4), .val (.int (6 : Int32)), .val (.ref bq), .val (.ref bp), .unset] [(.ref bq), (.int (1 : Int32)), (.ref bp)])
    refine own_go (fun _ k => XS.iconst X120.here hx rfl (hb hby at_153) k) ?_
    show own_Ends _ _ _ _ _ _ _ T120 (mkF m 154 #[.val (.int p0), .val (.int p1), .val (.int p2), .val (.int p3), .val (.int p4), .val (.int (6 : Int32)), .val (.ref bq), .val (.ref bp), .unset] [(.int (1 : Int32)), (.ref bq), (.int (1 : Int32)), (.ref bp)])
    refine own_go (fun _ k => own_ldB X120 hx hZ e120 V_bq_120 (i := 1) (v := (.int (b 1))) (by decide) (by decide) (by decide) rfl (g := (mkF m 154 #[.val (.int p0), .val (.int p1), .val (.int p2), .val (.int p3), .val (.int p4), .val (.int (6 : Int32)), .val (.ref bq), .val (.ref bp), .unset] [(.int (1 : Int32)), (.ref bq), (.int (1 : Int32)), (.ref bp)])) rfl rfl (hb hby at_154) _ k) ?_
    show own_Ends _ _ _ _ _ _ _ T120 (mkF m 155 #[.val (.int p0), .val (.int p1), .val (.int p2), .val (.int p3), .val (.int p4), .val (.int (6 : Int32)), .val (.ref bq), .val (.ref bp), .unset] [(.int (b 1)), (.int (1 : Int32)), (.ref bp)])
    obtain ⟨T121, h121, X121, e121, W121, V121, st121⟩ := own_stB X120 hx hZ e120 V120 (i := 1) (by decide) (by decide) (by decide) (g := (mkF m 155 #[.val (.int p0), .val (.int p1), .val (.int p2), .val (.int p3), .val (.int p4), .val (.int (6 : Int32)), .val (.ref bq), .val (.ref bp), .unset] [(.int (b 1)), (.int (1 : Int32)), (.ref bp)])) rfl rfl (hb hby at_155)
    have N121 := Fr.snoc X121 N120 g_bp
    have K_121 := K_120.wr W121 (Or.inr sz_bp)
    have V_bq_121 := V_bq_120.other W121 ne_bq_bp
    refine own_go st121 ?_
    show own_Ends _ _ _ _ _ _ _ T121 (mkF m 156 #[.val (.int p0), .val (.int p1), .val (.int p2), .val (.int p3), .val (.int p4), .val (.int (6 : Int32)), .val (.ref bq), .val (.ref bp), .unset] [])
    refine own_go (fun _ k => XS.iload X121.here hx rfl (hb hby at_156) rfl k) ?_
    show own_Ends _ _ _ _ _ _ _ T121 (mkF m 158 #[.val (.int p0), .val (.int p1), .val (.int p2), .val (.int p3), .val (.int p4), .val (.int (6 : Int32)), .val (.ref bq), .val (.ref bp), .unset] [(.int (6 : Int32))])
    refine own_go (fun _ k => XS.iconst X121.here hx rfl (hb hby at_158) k) ?_
    show own_Ends _ _ _ _ _ _ _ T121 (mkF m 159 #[.val (.int p0), .val (.int p1), .val (.int p2), .val (.int p3), .val (.int p4), .val (.int (6 : Int32)), .val (.ref bq), .val (.ref bp), .unset] [(.int (2 : Int32)), (.int (6 : Int32))])
    refine own_go (fun _ k => XS.icmpNo X121.here hx rfl (hb hby at_159) rfl (tlt (by decide)).2.2.2 k) ?_
    show own_Ends _ _ _ _ _ _ _ T121 (mkF m 162 #[.val (.int p0), .val (.int p1), .val (.int p2), .val (.int p3), .val (.int p4), .val (.int (6 : Int32)), .val (.ref bq), .val (.ref bp), .unset] [])
    refine own_go (fun _ k => XS.aload X121.here hx rfl (hb hby at_162) rfl rfl k) ?_
    show own_Ends _ _ _ _ _ _ _ T121 (mkF m 164 #[.val (.int p0), .val (.int p1), .val (.int p2), .val (.int p3), .val (.int p4), .val (.int (6 : Int32)), .val (.ref bq), .val (.ref bp), .unset] [(.ref bp)])
    refine own_go (fun _ k => XS.iconst X121.here hx rfl (hb hby at_164) k) ?_
    show own_Ends _ _ _ _ _ _ _ T121 (mkF m 165 #[.val (.int p0), .val (.int p1), .val (.int p2), .val (.int p3), .val (.int p4), .val (.int (6 : Int32)), .val (.ref bq), .val (.ref bp), .unset] [(.int (2 : Int32)), (.ref bp)])
    refine own_go (fun _ k => XS.aload X121.here hx rfl (hb hby at_165) rfl rfl k) ?_
    show own_Ends _ _ _ _ _ _ _ T121 (mkF m 167 #[.val (.int p0), .val (.int p1), .val (.int p2), .val (.int p3), .val (.int p4), .val (.int (6 : Int32)), .val (.ref bq), .val (.ref bp), .unset] [(.ref bq), (.int (2 : Int32)), (.ref bp)])
    refine own_go (fun _ k => XS.iconst X121.here hx rfl (hb hby at_167) k) ?_
    show own_Ends _ _ _ _ _ _ _ T121 (mkF m 168 #[.val (.int p0), .val (.int p1), .val (.int p2), .val (.int p3), .val (.int p4), .val (.int (6 : Int32)), .val (.ref bq), .val (.ref bp), .unset] [(.int (2 : Int32)), (.ref bq), (.int (2 : Int32)), (.ref bp)])
    refine own_go (fun _ k => own_ldB X121 hx hZ e121 V_bq_121 (i := 2) (v := (.int (b 2))) (by decide) (by decide) (by decide) rfl (g := (mkF m 168 #[.val (.int p0), .val (.int p1), .val (.int p2), .val (.int p3), .val (.int p4), .val (.int (6 : Int32)), .val (.ref bq), .val (.ref bp), .unset] [(.int (2 : Int32)), (.ref bq), (.int (2 : Int32)), (.ref bp)])) rfl rfl (hb hby at_168) _ k) ?_
    show own_Ends _ _ _ _ _ _ _ T121 (mkF m 169 #[.val (.int p0), .val (.int p1), .val (.int p2), .val (.int p3), .val (.int p4), .val (.int (6 : Int32)), .val (.ref bq), .val (.ref bp), .unset] [(.int (b 2)), (.int (2 : Int32)), (.ref bp)])
    obtain ⟨T122, h122, X122, e122, W122, V122, st122⟩ := own_stB X121 hx hZ e121 V121 (i := 2) (by decide) (by decide) (by decide) (g := (mkF m 169 #[.val (.int p0), .val (.int p1), .val (.int p2), .val (.int p3), .val (.int p4), .val (.int (6 : Int32)), .val (.ref bq), .val (.ref bp), .unset] [(.int (b 2)), (.int (2 : Int32)), (.ref bp)])) rfl rfl (hb hby at_169)
    have N122 := Fr.snoc X122 N121 g_bp
    have K_122 := K_121.wr W122 (Or.inr sz_bp)
    have V_bq_122 := V_bq_121.other W122 ne_bq_bp
    refine own_go st122 ?_
    show own_Ends _ _ _ _ _ _ _ T122 (mkF m 170 #[.val (.int p0), .val (.int p1), .val (.int p2), .val (.int p3), .val (.int p4), .val (.int (6 : Int32)), .val (.ref bq), .val (.ref bp), .unset] [])
    refine own_go (fun _ k => XS.iload X122.here hx rfl (hb hby at_170) rfl k) ?_
    show own_Ends _ _ _ _ _ _ _ T122 (mkF m 172 #[.val (.int p0), .val (.int p1), .val (.int p2), .val (.int p3), .val (.int p4), .val (.int (6 : Int32)), .val (.ref bq), .val (.ref bp), .unset] [(.int (6 : Int32))])
    refine own_go (fun _ k => XS.iconst X122.here hx rfl (hb hby at_172) k) ?_
    show own_Ends _ _ _ _ _ _ _ T122 (mkF m 173 #[.val (.int p0), .val (.int p1), .val (.int p2), .val (.int p3), .val (.int p4), .val (.int (6 : Int32)), .val (.ref bq), .val (.ref bp), .unset] [(.int (3 : Int32)), (.int (6 : Int32))])
    refine own_go (fun _ k => XS.icmpNo X122.here hx rfl (hb hby at_173) rfl (tlt (by decide)).2.2.2 k) ?_
    show own_Ends _ _ _ _ _ _ _ T122 (mkF m 176 #[.val (.int p0), .val (.int p1), .val (.int p2), .val (.int p3), .val (.int p4), .val (.int (6 : Int32)), .val (.ref bq), .val (.ref bp), .unset] [])
    refine own_go (fun _ k => XS.aload X122.here hx rfl (hb hby at_176) rfl rfl k) ?_
    show own_Ends _ _ _ _ _ _ _ T122 (mkF m 178 #[.val (.int p0), .val (.int p1), .val (.int p2), .val (.int p3), .val (.int p4), .val (.int (6 : Int32)), .val (.ref bq), .val (.ref bp), .unset] [(.ref bp)])
    refine own_go (fun _ k => XS.iconst X122.here hx rfl (hb hby at_178) k) ?_
    show own_Ends _ _ _ _ _ _ _ T122 (mkF m 179 #[.val (.int p0), .val (.int p1), .val (.int p2), .val (.int p3), .val (.int p4), .val (.int (6 : Int32)), .val (.ref bq), .val (.ref bp), .unset] [(.int (3 : Int32)), (.ref bp)])
    refine own_go (fun _ k => XS.aload X122.here hx rfl (hb hby at_179) rfl rfl k) ?_
    show own_Ends _ _ _ _ _ _ _ T122 (mkF m 181 #[.val (.int p0), .val (.int p1), .val (.int p2), .val (.int p3), .val (.int p4), .val (.int (6 : Int32)), .val (.ref bq), .val (.ref bp), .unset] [(.ref bq), (.int (3 : Int32)), (.ref bp)])
    refine own_go (fun _ k => XS.iconst X122.here hx rfl (hb hby at_181) k) ?_
    show own_Ends _ _ _ _ _ _ _ T122 (mkF m 182 #[.val (.int p0), .val (.int p1), .val (.int p2), .val (.int p3), .val (.int p4), .val (.int (6 : Int32)), .val (.ref bq), .val (.ref bp), .unset] [(.int (3 : Int32)), (.ref bq), (.int (3 : Int32)), (.ref bp)])
    refine own_go (fun _ k => own_ldB X122 hx hZ e122 V_bq_122 (i := 3) (v := (.int (b 3))) (by decide) (by decide) (by decide) rfl (g := (mkF m 182 #[.val (.int p0), .val (.int p1), .val (.int p2), .val (.int p3), .val (.int p4), .val (.int (6 : Int32)), .val (.ref bq), .val (.ref bp), .unset] [(.int (3 : Int32)), (.ref bq), (.int (3 : Int32)), (.ref bp)])) rfl rfl (hb hby at_182) _ k) ?_
    show own_Ends _ _ _ _ _ _ _ T122 (mkF m 183 #[.val (.int p0), .val (.int p1), .val (.int p2), .val (.int p3), .val (.int p4), .val (.int (6 : Int32)), .val (.ref bq), .val (.ref bp), .unset] [(.int (b 3)), (.int (3 : Int32)), (.ref bp)])
    obtain ⟨T123, h123, X123, e123, W123, V123, st123⟩ := own_stB X122 hx hZ e122 V122 (i := 3) (by decide) (by decide) (by decide) (g := (mkF m 183 #[.val (.int p0), .val (.int p1), .val (.int p2), .val (.int p3), .val (.int p4), .val (.int (6 : Int32)), .val (.ref bq), .val (.ref bp), .unset] [(.int (b 3)), (.int (3 : Int32)), (.ref bp)])) rfl rfl (hb hby at_183)
    have N123 := Fr.snoc X123 N122 g_bp
    have K_123 := K_122.wr W123 (Or.inr sz_bp)
    have V_bq_123 := V_bq_122.other W123 ne_bq_bp
    refine own_go st123 ?_
    show own_Ends _ _ _ _ _ _ _ T123 (mkF m 184 #[.val (.int p0), .val (.int p1), .val (.int p2), .val (.int p3), .val (.int p4), .val (.int (6 : Int32)), .val (.ref bq), .val (.ref bp), .unset] [])
    refine own_go (fun _ k => XS.iload X123.here hx rfl (hb hby at_184) rfl k) ?_
    show own_Ends _ _ _ _ _ _ _ T123 (mkF m 186 #[.val (.int p0), .val (.int p1), .val (.int p2), .val (.int p3), .val (.int p4), .val (.int (6 : Int32)), .val (.ref bq), .val (.ref bp), .unset] [(.int (6 : Int32))])
    refine own_go (fun _ k => XS.iconst X123.here hx rfl (hb hby at_186) k) ?_
    show own_Ends _ _ _ _ _ _ _ T123 (mkF m 187 #[.val (.int p0), .val (.int p1), .val (.int p2), .val (.int p3), .val (.int p4), .val (.int (6 : Int32)), .val (.ref bq), .val (.ref bp), .unset] [(.int (4 : Int32)), (.int (6 : Int32))])
    refine own_go (fun _ k => XS.icmpNo X123.here hx rfl (hb hby at_187) rfl (tlt (by decide)).2.2.2 k) ?_
    show own_Ends _ _ _ _ _ _ _ T123 (mkF m 190 #[.val (.int p0), .val (.int p1), .val (.int p2), .val (.int p3), .val (.int p4), .val (.int (6 : Int32)), .val (.ref bq), .val (.ref bp), .unset] [])
    refine own_go (fun _ k => XS.aload X123.here hx rfl (hb hby at_190) rfl rfl k) ?_
    show own_Ends _ _ _ _ _ _ _ T123 (mkF m 192 #[.val (.int p0), .val (.int p1), .val (.int p2), .val (.int p3), .val (.int p4), .val (.int (6 : Int32)), .val (.ref bq), .val (.ref bp), .unset] [(.ref bp)])
    refine own_go (fun _ k => XS.iconst X123.here hx rfl (hb hby at_192) k) ?_
    show own_Ends _ _ _ _ _ _ _ T123 (mkF m 193 #[.val (.int p0), .val (.int p1), .val (.int p2), .val (.int p3), .val (.int p4), .val (.int (6 : Int32)), .val (.ref bq), .val (.ref bp), .unset] [(.int (4 : Int32)), (.ref bp)])
    refine own_go (fun _ k => XS.aload X123.here hx rfl (hb hby at_193) rfl rfl k) ?_
    show own_Ends _ _ _ _ _ _ _ T123 (mkF m 195 #[.val (.int p0), .val (.int p1), .val (.int p2), .val (.int p3), .val (.int p4), .val (.int (6 : Int32)), .val (.ref bq), .val (.ref bp), .unset] [(.ref bq), (.int (4 : Int32)), (.ref bp)])
    refine own_go (fun _ k => XS.iconst X123.here hx rfl (hb hby at_195) k) ?_
    show own_Ends _ _ _ _ _ _ _ T123 (mkF m 196 #[.val (.int p0), .val (.int p1), .val (.int p2), .val (.int p3), .val (.int p4), .val (.int (6 : Int32)), .val (.ref bq), .val (.ref bp), .unset] [(.int (4 : Int32)), (.ref bq), (.int (4 : Int32)), (.ref bp)])
    refine own_go (fun _ k => own_ldB X123 hx hZ e123 V_bq_123 (i := 4) (v := (.int (b 4))) (by decide) (by decide) (by decide) rfl (g := (mkF m 196 #[.val (.int p0), .val (.int p1), .val (.int p2), .val (.int p3), .val (.int p4), .val (.int (6 : Int32)), .val (.ref bq), .val (.ref bp), .unset] [(.int (4 : Int32)), (.ref bq), (.int (4 : Int32)), (.ref bp)])) rfl rfl (hb hby at_196) _ k) ?_
    show own_Ends _ _ _ _ _ _ _ T123 (mkF m 197 #[.val (.int p0), .val (.int p1), .val (.int p2), .val (.int p3), .val (.int p4), .val (.int (6 : Int32)), .val (.ref bq), .val (.ref bp), .unset] [(.int (b 4)), (.int (4 : Int32)), (.ref bp)])
    obtain ⟨T124, h124, X124, e124, W124, V124, st124⟩ := own_stB X123 hx hZ e123 V123 (i := 4) (by decide) (by decide) (by decide) (g := (mkF m 197 #[.val (.int p0), .val (.int p1), .val (.int p2), .val (.int p3), .val (.int p4), .val (.int (6 : Int32)), .val (.ref bq), .val (.ref bp), .unset] [(.int (b 4)), (.int (4 : Int32)), (.ref bp)])) rfl rfl (hb hby at_197)
    have N124 := Fr.snoc X124 N123 g_bp
    have K_124 := K_123.wr W124 (Or.inr sz_bp)
    have V_bq_124 := V_bq_123.other W124 ne_bq_bp
    refine own_go st124 ?_
    show own_Ends _ _ _ _ _ _ _ T124 (mkF m 198 #[.val (.int p0), .val (.int p1), .val (.int p2), .val (.int p3), .val (.int p4), .val (.int (6 : Int32)), .val (.ref bq), .val (.ref bp), .unset] [])
    refine own_go (fun _ k => XS.iload X124.here hx rfl (hb hby at_198) rfl k) ?_
    show own_Ends _ _ _ _ _ _ _ T124 (mkF m 200 #[.val (.int p0), .val (.int p1), .val (.int p2), .val (.int p3), .val (.int p4), .val (.int (6 : Int32)), .val (.ref bq), .val (.ref bp), .unset] [(.int (6 : Int32))])
    refine own_go (fun _ k => XS.iconst X124.here hx rfl (hb hby at_200) k) ?_
    show own_Ends _ _ _ _ _ _ _ T124 (mkF m 201 #[.val (.int p0), .val (.int p1), .val (.int p2), .val (.int p3), .val (.int p4), .val (.int (6 : Int32)), .val (.ref bq), .val (.ref bp), .unset] [(.int (5 : Int32)), (.int (6 : Int32))])
    refine own_go (fun _ k => XS.icmpNo X124.here hx rfl (hb hby at_201) rfl (tlt (by decide)).2.2.2 k) ?_
    show own_Ends _ _ _ _ _ _ _ T124 (mkF m 204 #[.val (.int p0), .val (.int p1), .val (.int p2), .val (.int p3), .val (.int p4), .val (.int (6 : Int32)), .val (.ref bq), .val (.ref bp), .unset] [])
    refine own_go (fun _ k => XS.aload X124.here hx rfl (hb hby at_204) rfl rfl k) ?_
    show own_Ends _ _ _ _ _ _ _ T124 (mkF m 206 #[.val (.int p0), .val (.int p1), .val (.int p2), .val (.int p3), .val (.int p4), .val (.int (6 : Int32)), .val (.ref bq), .val (.ref bp), .unset] [(.ref bp)])
    refine own_go (fun _ k => XS.iconst X124.here hx rfl (hb hby at_206) k) ?_
    show own_Ends _ _ _ _ _ _ _ T124 (mkF m 207 #[.val (.int p0), .val (.int p1), .val (.int p2), .val (.int p3), .val (.int p4), .val (.int (6 : Int32)), .val (.ref bq), .val (.ref bp), .unset] [(.int (5 : Int32)), (.ref bp)])
    refine own_go (fun _ k => XS.aload X124.here hx rfl (hb hby at_207) rfl rfl k) ?_
    show own_Ends _ _ _ _ _ _ _ T124 (mkF m 209 #[.val (.int p0), .val (.int p1), .val (.int p2), .val (.int p3), .val (.int p4), .val (.int (6 : Int32)), .val (.ref bq), .val (.ref bp), .unset] [(.ref bq), (.int (5 : Int32)), (.ref bp)])
    refine own_go (fun _ k => XS.iconst X124.here hx rfl (hb hby at_209) k) ?_
    show own_Ends _ _ _ _ _ _ _ T124 (mkF m 210 #[.val (.int p0), .val (.int p1), .val (.int p2), .val (.int p3), .val (.int p4), .val (.int (6 : Int32)), .val (.ref bq), .val (.ref bp), .unset] [(.int (5 : Int32)), (.ref bq), (.int (5 : Int32)), (.ref bp)])
    refine own_go (fun _ k => own_ldB X124 hx hZ e124 V_bq_124 (i := 5) (v := (.int (b 5))) (by decide) (by decide) (by decide) rfl (g := (mkF m 210 #[.val (.int p0), .val (.int p1), .val (.int p2), .val (.int p3), .val (.int p4), .val (.int (6 : Int32)), .val (.ref bq), .val (.ref bp), .unset] [(.int (5 : Int32)), (.ref bq), (.int (5 : Int32)), (.ref bp)])) rfl rfl (hb hby at_210) _ k) ?_
    show own_Ends _ _ _ _ _ _ _ T124 (mkF m 211 #[.val (.int p0), .val (.int p1), .val (.int p2), .val (.int p3), .val (.int p4), .val (.int (6 : Int32)), .val (.ref bq), .val (.ref bp), .unset] [(.int (b 5)), (.int (5 : Int32)), (.ref bp)])
    obtain ⟨T125, h125, X125, e125, W125, V125, st125⟩ := own_stB X124 hx hZ e124 V124 (i := 5) (by decide) (by decide) (by decide) (g := (mkF m 211 #[.val (.int p0), .val (.int p1), .val (.int p2), .val (.int p3), .val (.int p4), .val (.int (6 : Int32)), .val (.ref bq), .val (.ref bp), .unset] [(.int (b 5)), (.int (5 : Int32)), (.ref bp)])) rfl rfl (hb hby at_211)
    have N125 := Fr.snoc X125 N124 g_bp
    have K_125 := K_124.wr W125 (Or.inr sz_bp)
    have V_bq_125 := V_bq_124.other W125 ne_bq_bp
    refine own_go st125 ?_
    show own_Ends _ _ _ _ _ _ _ T125 (mkF m 212 #[.val (.int p0), .val (.int p1), .val (.int p2), .val (.int p3), .val (.int p4), .val (.int (6 : Int32)), .val (.ref bq), .val (.ref bp), .unset] [])
    refine own_go (fun _ k => XS.iload X125.here hx rfl (hb hby at_212) rfl k) ?_
    show own_Ends _ _ _ _ _ _ _ T125 (mkF m 214 #[.val (.int p0), .val (.int p1), .val (.int p2), .val (.int p3), .val (.int p4), .val (.int (6 : Int32)), .val (.ref bq), .val (.ref bp), .unset] [(.int (6 : Int32))])
    refine own_go (fun _ k => XS.bipush X125.here hx rfl (hb hby at_214) k) ?_
    show own_Ends _ _ _ _ _ _ _ T125 (mkF m 216 #[.val (.int p0), .val (.int p1), .val (.int p2), .val (.int p3), .val (.int p4), .val (.int (6 : Int32)), .val (.ref bq), .val (.ref bp), .unset] [(.int (6 : Int32)), (.int (6 : Int32))])
    refine own_go (fun _ k => XS.icmpYes X125.here hx rfl (pc0 := 216) (pc' := 229) rfl (hb hby at_216) rfl (flt (by decide)).2.2.2 (by decide) (by decide) k) ?_
    show own_Ends _ _ _ _ _ _ _ T125 (mkF m 229 #[.val (.int p0), .val (.int p1), .val (.int p2), .val (.int p3), .val (.int p4), .val (.int (6 : Int32)), .val (.ref bq), .val (.ref bp), .unset] [])
    refine own_go (fun _ k => XS.aload X125.here hx rfl (hb hby at_229) rfl rfl k) ?_
    show own_Ends _ _ _ _ _ _ _ T125 (mkF m 231 #[.val (.int p0), .val (.int p1), .val (.int p2), .val (.int p3), .val (.int p4), .val (.int (6 : Int32)), .val (.ref bq), .val (.ref bp), .unset] [(.ref bp)])
    have Vp : own_Ar Z h125 bp k119 .byte 6 (fun j => .int (b j)) := V125.cong (fun j hj => by
      have seg : j = 0 ∨ j = 1 ∨ j = 2 ∨ j = 3 ∨ j = 4 ∨ j = 5 := by omega
      rcases seg with rfl | rfl | rfl | rfl | rfl | rfl
      · exact congrArg Value.int (hbn 0 (by decide))
      · exact congrArg Value.int (hbn 1 (by decide))
      · exact congrArg Value.int (hbn 2 (by decide))
      · exact congrArg Value.int (hbn 3 (by decide))
      · exact congrArg Value.int (hbn 4 (by decide))
      · exact congrArg Value.int (hbn 5 (by decide)))
    obtain ⟨v126, T126, L126, X126, hQ126, st126⟩ := own_callS X125 hx hZ hown (hw _ (List.mem_of_getElem? (i := 5) rfl)) (hw _ (List.mem_of_getElem? (i := 6) rfl)) (hw _ (List.mem_of_getElem? (i := 7) rfl)) (hw _ (List.mem_of_getElem? (i := 8) rfl)) (rm2 l Z a0 hw bp h125 h0.size 6 k119 b K_125.1 Vp (by decide)) e125 (g := (mkF m 231 #[.val (.int p0), .val (.int p1), .val (.int p2), .val (.int p3), .val (.int p4), .val (.int (6 : Int32)), .val (.ref bq), .val (.ref bp), .unset] [(.ref bp)])) rfl (by rw [hml]; rfl) (argsL := [(.ref bp)]) (rest := []) (lenOf pd_4 rfl) rfl rfl (W := 0) (by show 2 * 0 + _ ≤ _; exact Nat.le_of_eq rfl) (hb hby at_231) (by decide) (by decide) (by decide) (by decide) (by decide)
    obtain ⟨t, kt, g, rfl, N126q, K126, V126, s126, hG126⟩ := hQ126
    refine own_go st126 ?_
    have N126 := Fr.app N125 N126q
    have K_126 := K_125.trans K126 all0
    have V_bq_126 := V_bq_125.keep K126 nin0
    have V_bp_126 := Vp.keep K126 nin0
    show own_Ends _ _ _ _ _ _ _ T126 (mkF m 234 #[.val (.int p0), .val (.int p1), .val (.int p2), .val (.int p3), .val (.int p4), .val (.int (6 : Int32)), .val (.ref bq), .val (.ref bp), .unset] [(.ref t)])
    refine own_go (fun _ k => XS.astore X126.here hx rfl (hb hby at_234) rfl rfl (l' := #[.val (.int p0), .val (.int p1), .val (.int p2), .val (.int p3), .val (.int p4), .val (.int (6 : Int32)), .val (.ref bq), .val (.ref bp), .val (.ref t)]) rfl k) ?_
    show own_Ends _ _ _ _ _ _ _ T126 (mkF m 236 #[.val (.int p0), .val (.int p1), .val (.int p2), .val (.int p3), .val (.int p4), .val (.int (6 : Int32)), .val (.ref bq), .val (.ref bp), .val (.ref t)] [])
    refine own_go (fun _ k => XS.aload X126.here hx rfl (hb hby at_236) rfl rfl k) ?_
    show own_Ends _ _ _ _ _ _ _ T126 (mkF m 238 #[.val (.int p0), .val (.int p1), .val (.int p2), .val (.int p3), .val (.int p4), .val (.int (6 : Int32)), .val (.ref bq), .val (.ref bp), .val (.ref t)] [(.ref t)])
    refine own_go (fun _ k => XS.ifnullNo X126.here hx rfl (hb hby at_238) rfl k) ?_
    show own_Ends _ _ _ _ _ _ _ T126 (mkF m 241 #[.val (.int p0), .val (.int p1), .val (.int p2), .val (.int p3), .val (.int p4), .val (.int (6 : Int32)), .val (.ref bq), .val (.ref bp), .val (.ref t)] [])
    refine own_go (fun _ k => XS.aload X126.here hx rfl (hb hby at_241) rfl rfl k) ?_
    show own_Ends _ _ _ _ _ _ _ T126 (mkF m 243 #[.val (.int p0), .val (.int p1), .val (.int p2), .val (.int p3), .val (.int p4), .val (.int (6 : Int32)), .val (.ref bq), .val (.ref bp), .val (.ref t)] [(.ref t)])
    refine own_go (fun _ k => own_len X126 hx hZ rfl V126 (z := (6 : Int32)) rfl (g := (mkF m 243 #[.val (.int p0), .val (.int p1), .val (.int p2), .val (.int p3), .val (.int p4), .val (.int (6 : Int32)), .val (.ref bq), .val (.ref bp), .val (.ref t)] [(.ref t)])) rfl rfl (hb hby at_243) _ k) ?_
    show own_Ends _ _ _ _ _ _ _ T126 (mkF m 244 #[.val (.int p0), .val (.int p1), .val (.int p2), .val (.int p3), .val (.int p4), .val (.int (6 : Int32)), .val (.ref bq), .val (.ref bp), .val (.ref t)] [(.int (6 : Int32))])
    refine own_go (fun _ k => XS.iload X126.here hx rfl (hb hby at_244) rfl k) ?_
    show own_Ends _ _ _ _ _ _ _ T126 (mkF m 246 #[.val (.int p0), .val (.int p1), .val (.int p2), .val (.int p3), .val (.int p4), .val (.int (6 : Int32)), .val (.ref bq), .val (.ref bp), .val (.ref t)] [(.int (6 : Int32)), (.int (6 : Int32))])
    refine own_go (fun _ k => XS.icmpYes X126.here hx rfl (pc0 := 246) (pc' := 251) rfl (hb hby at_246) rfl (teq (rfl)).1 (by decide) (by decide) k) ?_
    show own_Ends _ _ _ _ _ _ _ T126 (mkF m 251 #[.val (.int p0), .val (.int p1), .val (.int p2), .val (.int p3), .val (.int p4), .val (.int (6 : Int32)), .val (.ref bq), .val (.ref bp), .val (.ref t)] [])
    refine own_go (fun _ k => XS.aload X126.here hx rfl (hb hby at_251) rfl rfl k) ?_
    show own_Ends _ _ _ _ _ _ _ T126 (mkF m 253 #[.val (.int p0), .val (.int p1), .val (.int p2), .val (.int p3), .val (.int p4), .val (.int (6 : Int32)), .val (.ref bq), .val (.ref bp), .val (.ref t)] [(.ref t)])
    refine own_go (fun _ k => XS.aload X126.here hx rfl (hb hby at_253) rfl rfl k) ?_
    show own_Ends _ _ _ _ _ _ _ T126 (mkF m 255 #[.val (.int p0), .val (.int p1), .val (.int p2), .val (.int p3), .val (.int p4), .val (.int (6 : Int32)), .val (.ref bq), .val (.ref bp), .val (.ref t)] [(.ref bp), (.ref t)])
    refine own_go (fun _ k => XS.aload X126.here hx rfl (hb hby at_255) rfl rfl k) ?_
    show own_Ends _ _ _ _ _ _ _ T126 (mkF m 257 #[.val (.int p0), .val (.int p1), .val (.int p2), .val (.int p3), .val (.int p4), .val (.int (6 : Int32)), .val (.ref bq), .val (.ref bp), .val (.ref t)] [(.ref bq), (.ref bp), (.ref t)])
    refine own_go (fun _ k => XS.iload X126.here hx rfl (hb hby at_257) rfl k) ?_
    show own_Ends _ _ _ _ _ _ _ T126 (mkF m 259 #[.val (.int p0), .val (.int p1), .val (.int p2), .val (.int p3), .val (.int p4), .val (.int (6 : Int32)), .val (.ref bq), .val (.ref bp), .val (.ref t)] [(.int (6 : Int32)), (.ref bq), (.ref bp), (.ref t)])
    refine own_go (fun _ k => XS.iconst X126.here hx rfl (hb hby at_259) k) ?_
    show own_Ends _ _ _ _ _ _ _ T126 (mkF m 260 #[.val (.int p0), .val (.int p1), .val (.int p2), .val (.int p3), .val (.int p4), .val (.int (6 : Int32)), .val (.ref bq), .val (.ref bp), .val (.ref t)] [(.int (0 : Int32)), (.int (6 : Int32)), (.ref bq), (.ref bp), (.ref t)])
    obtain ⟨q0, g0, hB0⟩ := hG126 0 (by decide)
    obtain ⟨v127, T127, L127, X127, hQ127, st127⟩ := own_callS X126 hx hZ hown (hw _ (List.mem_of_getElem? (i := 17) rfl)) (hw _ (List.mem_of_getElem? (i := 18) rfl)) (hw _ (List.mem_of_getElem? (i := 3) rfl)) (hw _ (List.mem_of_getElem? (i := 19) rfl)) (rm4_0 l Z a0 hw t bp bq (6 : Int32) (0 : Int32) T126.heap 6 kt k119 k35 g b q0 V126 V_bp_126 V_bq_126 (by decide) (by decide) g0 hB0 rfl) rfl (g := (mkF m 260 #[.val (.int p0), .val (.int p1), .val (.int p2), .val (.int p3), .val (.int p4), .val (.int (6 : Int32)), .val (.ref bq), .val (.ref bp), .val (.ref t)] [(.int (0 : Int32)), (.int (6 : Int32)), (.ref bq), (.ref bp), (.ref t)])) rfl (by rw [hml]; rfl) (argsL := [(.ref t), (.ref bp), (.ref bq), (.int (6 : Int32)), (.int (0 : Int32))]) (rest := []) (lenOf pd_5 rfl) rfl rfl (W := 0) (by show 2 * 0 + _ ≤ _; exact Nat.le_of_eq rfl) (hb hby at_260) (by decide) (by decide) (by decide) (by decide) (by decide)
    obtain ⟨rfl, rfl, e127⟩ := hQ127
    refine own_go st127 ?_
    have N127 := Fr.app N126 (Fr.nil _)
    show own_Ends _ _ _ _ _ _ _ T127 (mkF m 263 #[.val (.int p0), .val (.int p1), .val (.int p2), .val (.int p3), .val (.int p4), .val (.int (6 : Int32)), .val (.ref bq), .val (.ref bp), .val (.ref t)] [(.int (1 : Int32))])
    refine own_go (fun _ k => XS.ifNo X127.here hx rfl (hb hby at_263) rfl ((if0 _ _).trans (feq (by decide)).1) k) ?_
    show own_Ends _ _ _ _ _ _ _ T127 (mkF m 266 #[.val (.int p0), .val (.int p1), .val (.int p2), .val (.int p3), .val (.int p4), .val (.int (6 : Int32)), .val (.ref bq), .val (.ref bp), .val (.ref t)] [])
    refine own_go (fun _ k => XS.aload X127.here hx rfl (hb hby at_266) rfl rfl k) ?_
    show own_Ends _ _ _ _ _ _ _ T127 (mkF m 268 #[.val (.int p0), .val (.int p1), .val (.int p2), .val (.int p3), .val (.int p4), .val (.int (6 : Int32)), .val (.ref bq), .val (.ref bp), .val (.ref t)] [(.ref t)])
    refine own_go (fun _ k => XS.aload X127.here hx rfl (hb hby at_268) rfl rfl k) ?_
    show own_Ends _ _ _ _ _ _ _ T127 (mkF m 270 #[.val (.int p0), .val (.int p1), .val (.int p2), .val (.int p3), .val (.int p4), .val (.int (6 : Int32)), .val (.ref bq), .val (.ref bp), .val (.ref t)] [(.ref bp), (.ref t)])
    refine own_go (fun _ k => XS.aload X127.here hx rfl (hb hby at_270) rfl rfl k) ?_
    show own_Ends _ _ _ _ _ _ _ T127 (mkF m 272 #[.val (.int p0), .val (.int p1), .val (.int p2), .val (.int p3), .val (.int p4), .val (.int (6 : Int32)), .val (.ref bq), .val (.ref bp), .val (.ref t)] [(.ref bq), (.ref bp), (.ref t)])
    refine own_go (fun _ k => XS.iload X127.here hx rfl (hb hby at_272) rfl k) ?_
    show own_Ends _ _ _ _ _ _ _ T127 (mkF m 274 #[.val (.int p0), .val (.int p1), .val (.int p2), .val (.int p3), .val (.int p4), .val (.int (6 : Int32)), .val (.ref bq), .val (.ref bp), .val (.ref t)] [(.int (6 : Int32)), (.ref bq), (.ref bp), (.ref t)])
    refine own_go (fun _ k => XS.iconst X127.here hx rfl (hb hby at_274) k) ?_
    show own_Ends _ _ _ _ _ _ _ T127 (mkF m 275 #[.val (.int p0), .val (.int p1), .val (.int p2), .val (.int p3), .val (.int p4), .val (.int (6 : Int32)), .val (.ref bq), .val (.ref bp), .val (.ref t)] [(.int (1 : Int32)), (.int (6 : Int32)), (.ref bq), (.ref bp), (.ref t)])
    obtain ⟨q1, g1, hB1⟩ := hG126 1 (by decide)
    obtain ⟨v128, T128, L128, X128, hQ128, st128⟩ := own_callS X127 hx hZ hown (hw _ (List.mem_of_getElem? (i := 17) rfl)) (hw _ (List.mem_of_getElem? (i := 18) rfl)) (hw _ (List.mem_of_getElem? (i := 3) rfl)) (hw _ (List.mem_of_getElem? (i := 19) rfl)) (rm4_1 l Z a0 hw t bp bq (6 : Int32) (1 : Int32) T126.heap 6 kt k119 k35 g b q1 V126 V_bp_126 V_bq_126 (by decide) (by decide) g1 hB1 rfl) e127 (g := (mkF m 275 #[.val (.int p0), .val (.int p1), .val (.int p2), .val (.int p3), .val (.int p4), .val (.int (6 : Int32)), .val (.ref bq), .val (.ref bp), .val (.ref t)] [(.int (1 : Int32)), (.int (6 : Int32)), (.ref bq), (.ref bp), (.ref t)])) rfl (by rw [hml]; rfl) (argsL := [(.ref t), (.ref bp), (.ref bq), (.int (6 : Int32)), (.int (1 : Int32))]) (rest := []) (lenOf pd_5 rfl) rfl rfl (W := 0) (by show 2 * 0 + _ ≤ _; exact Nat.le_of_eq rfl) (hb hby at_275) (by decide) (by decide) (by decide) (by decide) (by decide)
    obtain ⟨rfl, rfl, e128⟩ := hQ128
    refine own_go st128 ?_
    have N128 := Fr.app N127 (Fr.nil _)
    show own_Ends _ _ _ _ _ _ _ T128 (mkF m 278 #[.val (.int p0), .val (.int p1), .val (.int p2), .val (.int p3), .val (.int p4), .val (.int (6 : Int32)), .val (.ref bq), .val (.ref bp), .val (.ref t)] [(.int (1 : Int32))])
    refine own_go (fun _ k => XS.ifNo X128.here hx rfl (hb hby at_278) rfl ((if0 _ _).trans (feq (by decide)).1) k) ?_
    show own_Ends _ _ _ _ _ _ _ T128 (mkF m 281 #[.val (.int p0), .val (.int p1), .val (.int p2), .val (.int p3), .val (.int p4), .val (.int (6 : Int32)), .val (.ref bq), .val (.ref bp), .val (.ref t)] [])
    refine own_go (fun _ k => XS.aload X128.here hx rfl (hb hby at_281) rfl rfl k) ?_
    show own_Ends _ _ _ _ _ _ _ T128 (mkF m 283 #[.val (.int p0), .val (.int p1), .val (.int p2), .val (.int p3), .val (.int p4), .val (.int (6 : Int32)), .val (.ref bq), .val (.ref bp), .val (.ref t)] [(.ref t)])
    refine own_go (fun _ k => XS.aload X128.here hx rfl (hb hby at_283) rfl rfl k) ?_
    show own_Ends _ _ _ _ _ _ _ T128 (mkF m 285 #[.val (.int p0), .val (.int p1), .val (.int p2), .val (.int p3), .val (.int p4), .val (.int (6 : Int32)), .val (.ref bq), .val (.ref bp), .val (.ref t)] [(.ref bp), (.ref t)])
    refine own_go (fun _ k => XS.aload X128.here hx rfl (hb hby at_285) rfl rfl k) ?_
    show own_Ends _ _ _ _ _ _ _ T128 (mkF m 287 #[.val (.int p0), .val (.int p1), .val (.int p2), .val (.int p3), .val (.int p4), .val (.int (6 : Int32)), .val (.ref bq), .val (.ref bp), .val (.ref t)] [(.ref bq), (.ref bp), (.ref t)])
    refine own_go (fun _ k => XS.iload X128.here hx rfl (hb hby at_287) rfl k) ?_
    show own_Ends _ _ _ _ _ _ _ T128 (mkF m 289 #[.val (.int p0), .val (.int p1), .val (.int p2), .val (.int p3), .val (.int p4), .val (.int (6 : Int32)), .val (.ref bq), .val (.ref bp), .val (.ref t)] [(.int (6 : Int32)), (.ref bq), (.ref bp), (.ref t)])
    refine own_go (fun _ k => XS.iconst X128.here hx rfl (hb hby at_289) k) ?_
    show own_Ends _ _ _ _ _ _ _ T128 (mkF m 290 #[.val (.int p0), .val (.int p1), .val (.int p2), .val (.int p3), .val (.int p4), .val (.int (6 : Int32)), .val (.ref bq), .val (.ref bp), .val (.ref t)] [(.int (2 : Int32)), (.int (6 : Int32)), (.ref bq), (.ref bp), (.ref t)])
    obtain ⟨q2, g2, hB2⟩ := hG126 2 (by decide)
    obtain ⟨v129, T129, L129, X129, hQ129, st129⟩ := own_callS X128 hx hZ hown (hw _ (List.mem_of_getElem? (i := 17) rfl)) (hw _ (List.mem_of_getElem? (i := 18) rfl)) (hw _ (List.mem_of_getElem? (i := 3) rfl)) (hw _ (List.mem_of_getElem? (i := 19) rfl)) (rm4_2 l Z a0 hw t bp bq (6 : Int32) (2 : Int32) T126.heap 6 kt k119 k35 g b q2 V126 V_bp_126 V_bq_126 (by decide) (by decide) g2 hB2 rfl) e128 (g := (mkF m 290 #[.val (.int p0), .val (.int p1), .val (.int p2), .val (.int p3), .val (.int p4), .val (.int (6 : Int32)), .val (.ref bq), .val (.ref bp), .val (.ref t)] [(.int (2 : Int32)), (.int (6 : Int32)), (.ref bq), (.ref bp), (.ref t)])) rfl (by rw [hml]; rfl) (argsL := [(.ref t), (.ref bp), (.ref bq), (.int (6 : Int32)), (.int (2 : Int32))]) (rest := []) (lenOf pd_5 rfl) rfl rfl (W := 0) (by show 2 * 0 + _ ≤ _; exact Nat.le_of_eq rfl) (hb hby at_290) (by decide) (by decide) (by decide) (by decide) (by decide)
    obtain ⟨rfl, rfl, e129⟩ := hQ129
    refine own_go st129 ?_
    have N129 := Fr.app N128 (Fr.nil _)
    show own_Ends _ _ _ _ _ _ _ T129 (mkF m 293 #[.val (.int p0), .val (.int p1), .val (.int p2), .val (.int p3), .val (.int p4), .val (.int (6 : Int32)), .val (.ref bq), .val (.ref bp), .val (.ref t)] [(.int (1 : Int32))])
    refine own_go (fun _ k => XS.ifNo X129.here hx rfl (hb hby at_293) rfl ((if0 _ _).trans (feq (by decide)).1) k) ?_
    show own_Ends _ _ _ _ _ _ _ T129 (mkF m 296 #[.val (.int p0), .val (.int p1), .val (.int p2), .val (.int p3), .val (.int p4), .val (.int (6 : Int32)), .val (.ref bq), .val (.ref bp), .val (.ref t)] [])
    refine own_go (fun _ k => XS.aload X129.here hx rfl (hb hby at_296) rfl rfl k) ?_
    show own_Ends _ _ _ _ _ _ _ T129 (mkF m 298 #[.val (.int p0), .val (.int p1), .val (.int p2), .val (.int p3), .val (.int p4), .val (.int (6 : Int32)), .val (.ref bq), .val (.ref bp), .val (.ref t)] [(.ref t)])
    refine own_go (fun _ k => XS.aload X129.here hx rfl (hb hby at_298) rfl rfl k) ?_
    show own_Ends _ _ _ _ _ _ _ T129 (mkF m 300 #[.val (.int p0), .val (.int p1), .val (.int p2), .val (.int p3), .val (.int p4), .val (.int (6 : Int32)), .val (.ref bq), .val (.ref bp), .val (.ref t)] [(.ref bp), (.ref t)])
    refine own_go (fun _ k => XS.aload X129.here hx rfl (hb hby at_300) rfl rfl k) ?_
    show own_Ends _ _ _ _ _ _ _ T129 (mkF m 302 #[.val (.int p0), .val (.int p1), .val (.int p2), .val (.int p3), .val (.int p4), .val (.int (6 : Int32)), .val (.ref bq), .val (.ref bp), .val (.ref t)] [(.ref bq), (.ref bp), (.ref t)])
    refine own_go (fun _ k => XS.iload X129.here hx rfl (hb hby at_302) rfl k) ?_
    show own_Ends _ _ _ _ _ _ _ T129 (mkF m 304 #[.val (.int p0), .val (.int p1), .val (.int p2), .val (.int p3), .val (.int p4), .val (.int (6 : Int32)), .val (.ref bq), .val (.ref bp), .val (.ref t)] [(.int (6 : Int32)), (.ref bq), (.ref bp), (.ref t)])
    refine own_go (fun _ k => XS.iconst X129.here hx rfl (hb hby at_304) k) ?_
    show own_Ends _ _ _ _ _ _ _ T129 (mkF m 305 #[.val (.int p0), .val (.int p1), .val (.int p2), .val (.int p3), .val (.int p4), .val (.int (6 : Int32)), .val (.ref bq), .val (.ref bp), .val (.ref t)] [(.int (3 : Int32)), (.int (6 : Int32)), (.ref bq), (.ref bp), (.ref t)])
    obtain ⟨q3, g3, hB3⟩ := hG126 3 (by decide)
    obtain ⟨v130, T130, L130, X130, hQ130, st130⟩ := own_callS X129 hx hZ hown (hw _ (List.mem_of_getElem? (i := 17) rfl)) (hw _ (List.mem_of_getElem? (i := 18) rfl)) (hw _ (List.mem_of_getElem? (i := 3) rfl)) (hw _ (List.mem_of_getElem? (i := 19) rfl)) (rm4_3 l Z a0 hw t bp bq (6 : Int32) (3 : Int32) T126.heap 6 kt k119 k35 g b q3 V126 V_bp_126 V_bq_126 (by decide) (by decide) g3 hB3 rfl) e129 (g := (mkF m 305 #[.val (.int p0), .val (.int p1), .val (.int p2), .val (.int p3), .val (.int p4), .val (.int (6 : Int32)), .val (.ref bq), .val (.ref bp), .val (.ref t)] [(.int (3 : Int32)), (.int (6 : Int32)), (.ref bq), (.ref bp), (.ref t)])) rfl (by rw [hml]; rfl) (argsL := [(.ref t), (.ref bp), (.ref bq), (.int (6 : Int32)), (.int (3 : Int32))]) (rest := []) (lenOf pd_5 rfl) rfl rfl (W := 0) (by show 2 * 0 + _ ≤ _; exact Nat.le_of_eq rfl) (hb hby at_305) (by decide) (by decide) (by decide) (by decide) (by decide)
    obtain ⟨rfl, rfl, e130⟩ := hQ130
    refine own_go st130 ?_
    have N130 := Fr.app N129 (Fr.nil _)
    show own_Ends _ _ _ _ _ _ _ T130 (mkF m 308 #[.val (.int p0), .val (.int p1), .val (.int p2), .val (.int p3), .val (.int p4), .val (.int (6 : Int32)), .val (.ref bq), .val (.ref bp), .val (.ref t)] [(.int (1 : Int32))])
    refine own_go (fun _ k => XS.ifNo X130.here hx rfl (hb hby at_308) rfl ((if0 _ _).trans (feq (by decide)).1) k) ?_
    show own_Ends _ _ _ _ _ _ _ T130 (mkF m 311 #[.val (.int p0), .val (.int p1), .val (.int p2), .val (.int p3), .val (.int p4), .val (.int (6 : Int32)), .val (.ref bq), .val (.ref bp), .val (.ref t)] [])
    refine own_go (fun _ k => XS.aload X130.here hx rfl (hb hby at_311) rfl rfl k) ?_
    show own_Ends _ _ _ _ _ _ _ T130 (mkF m 313 #[.val (.int p0), .val (.int p1), .val (.int p2), .val (.int p3), .val (.int p4), .val (.int (6 : Int32)), .val (.ref bq), .val (.ref bp), .val (.ref t)] [(.ref t)])
    refine own_go (fun _ k => XS.aload X130.here hx rfl (hb hby at_313) rfl rfl k) ?_
    show own_Ends _ _ _ _ _ _ _ T130 (mkF m 315 #[.val (.int p0), .val (.int p1), .val (.int p2), .val (.int p3), .val (.int p4), .val (.int (6 : Int32)), .val (.ref bq), .val (.ref bp), .val (.ref t)] [(.ref bp), (.ref t)])
    refine own_go (fun _ k => XS.aload X130.here hx rfl (hb hby at_315) rfl rfl k) ?_
    show own_Ends _ _ _ _ _ _ _ T130 (mkF m 317 #[.val (.int p0), .val (.int p1), .val (.int p2), .val (.int p3), .val (.int p4), .val (.int (6 : Int32)), .val (.ref bq), .val (.ref bp), .val (.ref t)] [(.ref bq), (.ref bp), (.ref t)])
    refine own_go (fun _ k => XS.iload X130.here hx rfl (hb hby at_317) rfl k) ?_
    show own_Ends _ _ _ _ _ _ _ T130 (mkF m 319 #[.val (.int p0), .val (.int p1), .val (.int p2), .val (.int p3), .val (.int p4), .val (.int (6 : Int32)), .val (.ref bq), .val (.ref bp), .val (.ref t)] [(.int (6 : Int32)), (.ref bq), (.ref bp), (.ref t)])
    refine own_go (fun _ k => XS.iconst X130.here hx rfl (hb hby at_319) k) ?_
    show own_Ends _ _ _ _ _ _ _ T130 (mkF m 320 #[.val (.int p0), .val (.int p1), .val (.int p2), .val (.int p3), .val (.int p4), .val (.int (6 : Int32)), .val (.ref bq), .val (.ref bp), .val (.ref t)] [(.int (4 : Int32)), (.int (6 : Int32)), (.ref bq), (.ref bp), (.ref t)])
    obtain ⟨q4, g4, hB4⟩ := hG126 4 (by decide)
    obtain ⟨v131, T131, L131, X131, hQ131, st131⟩ := own_callS X130 hx hZ hown (hw _ (List.mem_of_getElem? (i := 17) rfl)) (hw _ (List.mem_of_getElem? (i := 18) rfl)) (hw _ (List.mem_of_getElem? (i := 3) rfl)) (hw _ (List.mem_of_getElem? (i := 19) rfl)) (rm4_4 l Z a0 hw t bp bq (6 : Int32) (4 : Int32) T126.heap 6 kt k119 k35 g b q4 V126 V_bp_126 V_bq_126 (by decide) (by decide) g4 hB4 rfl) e130 (g := (mkF m 320 #[.val (.int p0), .val (.int p1), .val (.int p2), .val (.int p3), .val (.int p4), .val (.int (6 : Int32)), .val (.ref bq), .val (.ref bp), .val (.ref t)] [(.int (4 : Int32)), (.int (6 : Int32)), (.ref bq), (.ref bp), (.ref t)])) rfl (by rw [hml]; rfl) (argsL := [(.ref t), (.ref bp), (.ref bq), (.int (6 : Int32)), (.int (4 : Int32))]) (rest := []) (lenOf pd_5 rfl) rfl rfl (W := 0) (by show 2 * 0 + _ ≤ _; exact Nat.le_of_eq rfl) (hb hby at_320) (by decide) (by decide) (by decide) (by decide) (by decide)
    obtain ⟨rfl, rfl, e131⟩ := hQ131
    refine own_go st131 ?_
    have N131 := Fr.app N130 (Fr.nil _)
    show own_Ends _ _ _ _ _ _ _ T131 (mkF m 323 #[.val (.int p0), .val (.int p1), .val (.int p2), .val (.int p3), .val (.int p4), .val (.int (6 : Int32)), .val (.ref bq), .val (.ref bp), .val (.ref t)] [(.int (1 : Int32))])
    refine own_go (fun _ k => XS.ifNo X131.here hx rfl (hb hby at_323) rfl ((if0 _ _).trans (feq (by decide)).1) k) ?_
    show own_Ends _ _ _ _ _ _ _ T131 (mkF m 326 #[.val (.int p0), .val (.int p1), .val (.int p2), .val (.int p3), .val (.int p4), .val (.int (6 : Int32)), .val (.ref bq), .val (.ref bp), .val (.ref t)] [])
    refine own_go (fun _ k => XS.aload X131.here hx rfl (hb hby at_326) rfl rfl k) ?_
    show own_Ends _ _ _ _ _ _ _ T131 (mkF m 328 #[.val (.int p0), .val (.int p1), .val (.int p2), .val (.int p3), .val (.int p4), .val (.int (6 : Int32)), .val (.ref bq), .val (.ref bp), .val (.ref t)] [(.ref t)])
    refine own_go (fun _ k => XS.aload X131.here hx rfl (hb hby at_328) rfl rfl k) ?_
    show own_Ends _ _ _ _ _ _ _ T131 (mkF m 330 #[.val (.int p0), .val (.int p1), .val (.int p2), .val (.int p3), .val (.int p4), .val (.int (6 : Int32)), .val (.ref bq), .val (.ref bp), .val (.ref t)] [(.ref bp), (.ref t)])
    refine own_go (fun _ k => XS.aload X131.here hx rfl (hb hby at_330) rfl rfl k) ?_
    show own_Ends _ _ _ _ _ _ _ T131 (mkF m 332 #[.val (.int p0), .val (.int p1), .val (.int p2), .val (.int p3), .val (.int p4), .val (.int (6 : Int32)), .val (.ref bq), .val (.ref bp), .val (.ref t)] [(.ref bq), (.ref bp), (.ref t)])
    refine own_go (fun _ k => XS.iload X131.here hx rfl (hb hby at_332) rfl k) ?_
    show own_Ends _ _ _ _ _ _ _ T131 (mkF m 334 #[.val (.int p0), .val (.int p1), .val (.int p2), .val (.int p3), .val (.int p4), .val (.int (6 : Int32)), .val (.ref bq), .val (.ref bp), .val (.ref t)] [(.int (6 : Int32)), (.ref bq), (.ref bp), (.ref t)])
    refine own_go (fun _ k => XS.iconst X131.here hx rfl (hb hby at_334) k) ?_
    show own_Ends _ _ _ _ _ _ _ T131 (mkF m 335 #[.val (.int p0), .val (.int p1), .val (.int p2), .val (.int p3), .val (.int p4), .val (.int (6 : Int32)), .val (.ref bq), .val (.ref bp), .val (.ref t)] [(.int (5 : Int32)), (.int (6 : Int32)), (.ref bq), (.ref bp), (.ref t)])
    obtain ⟨q5, g5, hB5⟩ := hG126 5 (by decide)
    obtain ⟨v132, T132, L132, X132, hQ132, st132⟩ := own_callS X131 hx hZ hown (hw _ (List.mem_of_getElem? (i := 17) rfl)) (hw _ (List.mem_of_getElem? (i := 18) rfl)) (hw _ (List.mem_of_getElem? (i := 3) rfl)) (hw _ (List.mem_of_getElem? (i := 19) rfl)) (rm4_5 l Z a0 hw t bp bq (6 : Int32) (5 : Int32) T126.heap 6 kt k119 k35 g b q5 V126 V_bp_126 V_bq_126 (by decide) (by decide) g5 hB5 rfl) e131 (g := (mkF m 335 #[.val (.int p0), .val (.int p1), .val (.int p2), .val (.int p3), .val (.int p4), .val (.int (6 : Int32)), .val (.ref bq), .val (.ref bp), .val (.ref t)] [(.int (5 : Int32)), (.int (6 : Int32)), (.ref bq), (.ref bp), (.ref t)])) rfl (by rw [hml]; rfl) (argsL := [(.ref t), (.ref bp), (.ref bq), (.int (6 : Int32)), (.int (5 : Int32))]) (rest := []) (lenOf pd_5 rfl) rfl rfl (W := 0) (by show 2 * 0 + _ ≤ _; exact Nat.le_of_eq rfl) (hb hby at_335) (by decide) (by decide) (by decide) (by decide) (by decide)
    obtain ⟨rfl, rfl, e132⟩ := hQ132
    refine own_go st132 ?_
    have N132 := Fr.app N131 (Fr.nil _)
    show own_Ends _ _ _ _ _ _ _ T132 (mkF m 338 #[.val (.int p0), .val (.int p1), .val (.int p2), .val (.int p3), .val (.int p4), .val (.int (6 : Int32)), .val (.ref bq), .val (.ref bp), .val (.ref t)] [(.int (1 : Int32))])
    refine own_go (fun _ k => XS.ifNo X132.here hx rfl (hb hby at_338) rfl ((if0 _ _).trans (feq (by decide)).1) k) ?_
    show own_Ends _ _ _ _ _ _ _ T132 (mkF m 341 #[.val (.int p0), .val (.int p1), .val (.int p2), .val (.int p3), .val (.int p4), .val (.int (6 : Int32)), .val (.ref bq), .val (.ref bp), .val (.ref t)] [])
    refine own_go (fun _ k => XS.aload X132.here hx rfl (hb hby at_341) rfl rfl k) ?_
    show own_Ends _ _ _ _ _ _ _ T132 (mkF m 343 #[.val (.int p0), .val (.int p1), .val (.int p2), .val (.int p3), .val (.int p4), .val (.int (6 : Int32)), .val (.ref bq), .val (.ref bp), .val (.ref t)] [(.ref t)])
    refine own_go (fun _ k => XS.aload X132.here hx rfl (hb hby at_343) rfl rfl k) ?_
    show own_Ends _ _ _ _ _ _ _ T132 (mkF m 345 #[.val (.int p0), .val (.int p1), .val (.int p2), .val (.int p3), .val (.int p4), .val (.int (6 : Int32)), .val (.ref bq), .val (.ref bp), .val (.ref t)] [(.ref bp), (.ref t)])
    refine own_go (fun _ k => XS.aload X132.here hx rfl (hb hby at_345) rfl rfl k) ?_
    show own_Ends _ _ _ _ _ _ _ T132 (mkF m 347 #[.val (.int p0), .val (.int p1), .val (.int p2), .val (.int p3), .val (.int p4), .val (.int (6 : Int32)), .val (.ref bq), .val (.ref bp), .val (.ref t)] [(.ref bq), (.ref bp), (.ref t)])
    refine own_go (fun _ k => XS.iload X132.here hx rfl (hb hby at_347) rfl k) ?_
    show own_Ends _ _ _ _ _ _ _ T132 (mkF m 349 #[.val (.int p0), .val (.int p1), .val (.int p2), .val (.int p3), .val (.int p4), .val (.int (6 : Int32)), .val (.ref bq), .val (.ref bp), .val (.ref t)] [(.int (6 : Int32)), (.ref bq), (.ref bp), (.ref t)])
    refine own_go (fun _ k => XS.bipush X132.here hx rfl (hb hby at_349) k) ?_
    show own_Ends _ _ _ _ _ _ _ T132 (mkF m 351 #[.val (.int p0), .val (.int p1), .val (.int p2), .val (.int p3), .val (.int p4), .val (.int (6 : Int32)), .val (.ref bq), .val (.ref bp), .val (.ref t)] [(.int (6 : Int32)), (.int (6 : Int32)), (.ref bq), (.ref bp), (.ref t)])
    obtain ⟨v133, T133, L133, X133, hQ133, st133⟩ := own_callS X132 hx hZ hown (hw _ (List.mem_of_getElem? (i := 17) rfl)) (hw _ (List.mem_of_getElem? (i := 18) rfl)) (hw _ (List.mem_of_getElem? (i := 3) rfl)) (hw _ (List.mem_of_getElem? (i := 19) rfl)) (rm4_hi l Z a0 hw t bp bq (6 : Int32) (6 : Int32) T126.heap (by decide)) e132 (g := (mkF m 351 #[.val (.int p0), .val (.int p1), .val (.int p2), .val (.int p3), .val (.int p4), .val (.int (6 : Int32)), .val (.ref bq), .val (.ref bp), .val (.ref t)] [(.int (6 : Int32)), (.int (6 : Int32)), (.ref bq), (.ref bp), (.ref t)])) rfl (by rw [hml]; rfl) (argsL := [(.ref t), (.ref bp), (.ref bq), (.int (6 : Int32)), (.int (6 : Int32))]) (rest := []) (lenOf pd_5 rfl) rfl rfl (W := 0) (by show 2 * 0 + _ ≤ _; exact Nat.le_of_eq rfl) (hb hby at_351) (by decide) (by decide) (by decide) (by decide) (by decide)
    obtain ⟨rfl, rfl, e133⟩ := hQ133
    refine own_go st133 ?_
    have N133 := Fr.app N132 (Fr.nil _)
    show own_Ends _ _ _ _ _ _ _ T133 (mkF m 354 #[.val (.int p0), .val (.int p1), .val (.int p2), .val (.int p3), .val (.int p4), .val (.int (6 : Int32)), .val (.ref bq), .val (.ref bp), .val (.ref t)] [(.int (1 : Int32))])
    refine own_go (fun _ k => XS.ifNo X133.here hx rfl (hb hby at_354) rfl ((if0 _ _).trans (feq (by decide)).1) k) ?_
    show own_Ends _ _ _ _ _ _ _ T133 (mkF m 357 #[.val (.int p0), .val (.int p1), .val (.int p2), .val (.int p3), .val (.int p4), .val (.int (6 : Int32)), .val (.ref bq), .val (.ref bp), .val (.ref t)] [])
    refine own_go (fun _ k => XS.iconst X133.here hx rfl (hb hby at_357) k) ?_
    show own_Ends _ _ _ _ _ _ _ T133 (mkF m 358 #[.val (.int p0), .val (.int p1), .val (.int p2), .val (.int p3), .val (.int p4), .val (.int (6 : Int32)), .val (.ref bq), .val (.ref bp), .val (.ref t)] [(.int (1 : Int32))])
    refine own_go (fun _ k => XS.goto X133.here hx rfl (pc0 := 358) (pc' := 362) rfl (hb hby at_358) (by decide) (by decide) k) ?_
    show own_Ends _ _ _ _ _ _ _ T133 (mkF m 362 #[.val (.int p0), .val (.int p1), .val (.int p2), .val (.int p3), .val (.int p4), .val (.int (6 : Int32)), .val (.ref bq), .val (.ref bp), .val (.ref t)] [(.int (1 : Int32))])
    exact own_retZ X133 hx hlk hret (by decide) (hb hby at_362) (by decide) (by decide) ⟨rfl, N133⟩
  · rw [show (p0 &&& (7 : Int32)) = (7 : Int32) from hn]
    show own_Ends _ _ _ _ _ _ _ T49 (mkF m 125 #[.val (.int p0), .val (.int p1), .val (.int p2), .val (.int p3), .val (.int p4), .val (.int (7 : Int32)), .val (.ref bq), .unset, .unset] [(.int (7 : Int32))])
    obtain ⟨T134, h134, k134, X134, e134, E134, A134, st134⟩ := own_newP X49 hx hZ (aty := .byte) (hw _ (List.mem_of_getElem? (i := 0) rfl)) e49 (g := (mkF m 125 #[.val (.int p0), .val (.int p1), .val (.int p2), .val (.int p3), .val (.int p4), .val (.int (7 : Int32)), .val (.ref bq), .unset, .unset] [(.int (7 : Int32))])) rfl (hb hby at_125) rfl (by decide) (n := 7) (by decide) (cap := 7) (by decide) (by decide) (by decide) (by decide)
    obtain ⟨bp, gq134⟩ : ∃ z, z = h49.size := ⟨_, rfl⟩
    rw [← gq134] at A134 st134
    have ne_bq_bp : bq ≠ bp := Nat.ne_of_lt (Nat.lt_of_lt_of_le Vq.lt (Nat.le_of_eq gq134.symm))
    have sz_bp : h0.size ≤ bp := Nat.le_trans K_49.1 (Nat.le_of_eq gq134.symm)
    have g_bp : h0.size ≤ bp := Nat.le_trans (Nat.le_refl _) sz_bp
    have K_134 := K_49.ext E134
    have V_bq_134 := Vq.ext E134
    have V_bp : own_Ar Z h134 bp k134 .byte 7 (fun _ => (.int (0 : Int32))) := A134
    refine own_go st134 ?_
    show own_Ends _ _ _ _ _ _ _ T134 (mkF m 127 #[.val (.int p0), .val (.int p1), .val (.int p2), .val (.int p3), .val (.int p4), .val (.int (7 : Int32)), .val (.ref bq), .unset, .unset] [(.ref bp)])
    refine own_go (fun _ k => XS.astore X134.here hx rfl (hb hby at_127) rfl rfl (l' := #[.val (.int p0), .val (.int p1), .val (.int p2), .val (.int p3), .val (.int p4), .val (.int (7 : Int32)), .val (.ref bq), .val (.ref bp), .unset]) rfl k) ?_
    show own_Ends _ _ _ _ _ _ _ T134 (mkF m 129 #[.val (.int p0), .val (.int p1), .val (.int p2), .val (.int p3), .val (.int p4), .val (.int (7 : Int32)), .val (.ref bq), .val (.ref bp), .unset] [])
    refine own_go (fun _ k => XS.iload X134.here hx rfl (hb hby at_129) rfl k) ?_
    show own_Ends _ _ _ _ _ _ _ T134 (mkF m 131 #[.val (.int p0), .val (.int p1), .val (.int p2), .val (.int p3), .val (.int p4), .val (.int (7 : Int32)), .val (.ref bq), .val (.ref bp), .unset] [(.int (7 : Int32))])
    refine own_go (fun _ k => XS.ifNo X134.here hx rfl (hb hby at_131) rfl ((if0 _ _).trans (tlt (by decide)).2.2.2) k) ?_
    show own_Ends _ _ _ _ _ _ _ T134 (mkF m 134 #[.val (.int p0), .val (.int p1), .val (.int p2), .val (.int p3), .val (.int p4), .val (.int (7 : Int32)), .val (.ref bq), .val (.ref bp), .unset] [])
    refine own_go (fun _ k => XS.aload X134.here hx rfl (hb hby at_134) rfl rfl k) ?_
    show own_Ends _ _ _ _ _ _ _ T134 (mkF m 136 #[.val (.int p0), .val (.int p1), .val (.int p2), .val (.int p3), .val (.int p4), .val (.int (7 : Int32)), .val (.ref bq), .val (.ref bp), .unset] [(.ref bp)])
    refine own_go (fun _ k => XS.iconst X134.here hx rfl (hb hby at_136) k) ?_
    show own_Ends _ _ _ _ _ _ _ T134 (mkF m 137 #[.val (.int p0), .val (.int p1), .val (.int p2), .val (.int p3), .val (.int p4), .val (.int (7 : Int32)), .val (.ref bq), .val (.ref bp), .unset] [(.int (0 : Int32)), (.ref bp)])
    refine own_go (fun _ k => XS.aload X134.here hx rfl (hb hby at_137) rfl rfl k) ?_
    show own_Ends _ _ _ _ _ _ _ T134 (mkF m 139 #[.val (.int p0), .val (.int p1), .val (.int p2), .val (.int p3), .val (.int p4), .val (.int (7 : Int32)), .val (.ref bq), .val (.ref bp), .unset] [(.ref bq), (.int (0 : Int32)), (.ref bp)])
    refine own_go (fun _ k => XS.iconst X134.here hx rfl (hb hby at_139) k) ?_
    show own_Ends _ _ _ _ _ _ _ T134 (mkF m 140 #[.val (.int p0), .val (.int p1), .val (.int p2), .val (.int p3), .val (.int p4), .val (.int (7 : Int32)), .val (.ref bq), .val (.ref bp), .unset] [(.int (0 : Int32)), (.ref bq), (.int (0 : Int32)), (.ref bp)])
    refine own_go (fun _ k => own_ldB X134 hx hZ e134 V_bq_134 (i := 0) (v := (.int (b 0))) (by decide) (by decide) (by decide) rfl (g := (mkF m 140 #[.val (.int p0), .val (.int p1), .val (.int p2), .val (.int p3), .val (.int p4), .val (.int (7 : Int32)), .val (.ref bq), .val (.ref bp), .unset] [(.int (0 : Int32)), (.ref bq), (.int (0 : Int32)), (.ref bp)])) rfl rfl (hb hby at_140) _ k) ?_
    show own_Ends _ _ _ _ _ _ _ T134 (mkF m 141 #[.val (.int p0), .val (.int p1), .val (.int p2), .val (.int p3), .val (.int p4), .val (.int (7 : Int32)), .val (.ref bq), .val (.ref bp), .unset] [(.int (b 0)), (.int (0 : Int32)), (.ref bp)])
    obtain ⟨T135, h135, X135, e135, W135, V135, st135⟩ := own_stB X134 hx hZ e134 V_bp (i := 0) (by decide) (by decide) (by decide) (g := (mkF m 141 #[.val (.int p0), .val (.int p1), .val (.int p2), .val (.int p3), .val (.int p4), .val (.int (7 : Int32)), .val (.ref bq), .val (.ref bp), .unset] [(.int (b 0)), (.int (0 : Int32)), (.ref bp)])) rfl rfl (hb hby at_141)
    have N135 := Fr.snoc X135 N49 g_bp
    have K_135 := K_134.wr W135 (Or.inr sz_bp)
    have V_bq_135 := V_bq_134.other W135 ne_bq_bp
    refine own_go st135 ?_
    show own_Ends _ _ _ _ _ _ _ T135 (mkF m 142 #[.val (.int p0), .val (.int p1), .val (.int p2), .val (.int p3), .val (.int p4), .val (.int (7 : Int32)), .val (.ref bq), .val (.ref bp), .unset] [])
    refine own_go (fun _ k => XS.iload X135.here hx rfl (hb hby at_142) rfl k) ?_
    show own_Ends _ _ _ _ _ _ _ T135 (mkF m 144 #[.val (.int p0), .val (.int p1), .val (.int p2), .val (.int p3), .val (.int p4), .val (.int (7 : Int32)), .val (.ref bq), .val (.ref bp), .unset] [(.int (7 : Int32))])
    refine own_go (fun _ k => XS.iconst X135.here hx rfl (hb hby at_144) k) ?_
    show own_Ends _ _ _ _ _ _ _ T135 (mkF m 145 #[.val (.int p0), .val (.int p1), .val (.int p2), .val (.int p3), .val (.int p4), .val (.int (7 : Int32)), .val (.ref bq), .val (.ref bp), .unset] [(.int (1 : Int32)), (.int (7 : Int32))])
    refine own_go (fun _ k => XS.icmpNo X135.here hx rfl (hb hby at_145) rfl (tlt (by decide)).2.2.2 k) ?_
    show own_Ends _ _ _ _ _ _ _ T135 (mkF m 148 #[.val (.int p0), .val (.int p1), .val (.int p2), .val (.int p3), .val (.int p4), .val (.int (7 : Int32)), .val (.ref bq), .val (.ref bp), .unset] [])
    refine own_go (fun _ k => XS.aload X135.here hx rfl (hb hby at_148) rfl rfl k) ?_
    show own_Ends _ _ _ _ _ _ _ T135 (mkF m 150 #[.val (.int p0), .val (.int p1), .val (.int p2), .val (.int p3), .val (.int p4), .val (.int (7 : Int32)), .val (.ref bq), .val (.ref bp), .unset] [(.ref bp)])
    refine own_go (fun _ k => XS.iconst X135.here hx rfl (hb hby at_150) k) ?_
    show own_Ends _ _ _ _ _ _ _ T135 (mkF m 151 #[.val (.int p0), .val (.int p1), .val (.int p2), .val (.int p3), .val (.int p4), .val (.int (7 : Int32)), .val (.ref bq), .val (.ref bp), .unset] [(.int (1 : Int32)), (.ref bp)])
    refine own_go (fun _ k => XS.aload X135.here hx rfl (hb hby at_151) rfl rfl k) ?_
    show own_Ends _ _ _ _ _ _ _ T135 (mkF m 153 #[.val (.int p0), .val (.int p1), .val (.int p2), .val (.int p3), .val (.int p4), .val (.int (7 : Int32)), .val (.ref bq), .val (.ref bp), .unset] [(.ref bq), (.int (1 : Int32)), (.ref bp)])
    refine own_go (fun _ k => XS.iconst X135.here hx rfl (hb hby at_153) k) ?_
    show own_Ends _ _ _ _ _ _ _ T135 (mkF m 154 #[.val (.int p0), .val (.int p1), .val (.int p2), .val (.int p3), .val (.int p4), .val (.int (7 : Int32)), .val (.ref bq), .val (.ref bp), .unset] [(.int (1 : Int32)), (.ref bq), (.int (1 : Int32)), (.ref bp)])
    refine own_go (fun _ k => own_ldB X135 hx hZ e135 V_bq_135 (i := 1) (v := (.int (b 1))) (by decide) (by decide) (by decide) rfl (g := (mkF m 154 #[.val (.int p0), .val (.int p1), .val (.int p2), .val (.int p3), .val (.int p4), .val (.int (7 : Int32)), .val (.ref bq), .val (.ref bp), .unset] [(.int (1 : Int32)), (.ref bq), (.int (1 : Int32)), (.ref bp)])) rfl rfl (hb hby at_154) _ k) ?_
    show own_Ends _ _ _ _ _ _ _ T135 (mkF m 155 #[.val (.int p0), .val (.int p1), .val (.int p2), .val (.int p3), .val (.int p4), .val (.int (7 : Int32)), .val (.ref bq), .val (.ref bp), .unset] [(.int (b 1)), (.int (1 : Int32)), (.ref bp)])
    obtain ⟨T136, h136, X136, e136, W136, V136, st136⟩ := own_stB X135 hx hZ e135 V135 (i := 1) (by decide) (by decide) (by decide) (g := (mkF m 155 #[.val (.int p0), .val (.int p1), .val (.int p2), .val (.int p3), .val (.int p4), .val (.int (7 : Int32)), .val (.ref bq), .val (.ref bp), .unset] [(.int (b 1)), (.int (1 : Int32)), (.ref bp)])) rfl rfl (hb hby at_155)
    have N136 := Fr.snoc X136 N135 g_bp
    have K_136 := K_135.wr W136 (Or.inr sz_bp)
    have V_bq_136 := V_bq_135.other W136 ne_bq_bp
    refine own_go st136 ?_
    show own_Ends _ _ _ _ _ _ _ T136 (mkF m 156 #[.val (.int p0), .val (.int p1), .val (.int p2), .val (.int p3), .val (.int p4), .val (.int (7 : Int32)), .val (.ref bq), .val (.ref bp), .unset] [])
    refine own_go (fun _ k => XS.iload X136.here hx rfl (hb hby at_156) rfl k) ?_
    show own_Ends _ _ _ _ _ _ _ T136 (mkF m 158 #[.val (.int p0), .val (.int p1), .val (.int p2), .val (.int p3), .val (.int p4), .val (.int (7 : Int32)), .val (.ref bq), .val (.ref bp), .unset] [(.int (7 : Int32))])
    refine own_go (fun _ k => XS.iconst X136.here hx rfl (hb hby at_158) k) ?_
    show own_Ends _ _ _ _ _ _ _ T136 (mkF m 159 #[.val (.int p0), .val (.int p1), .val (.int p2), .val (.int p3), .val (.int p4), .val (.int (7 : Int32)), .val (.ref bq), .val (.ref bp), .unset] [(.int (2 : Int32)), (.int (7 : Int32))])
    refine own_go (fun _ k => XS.icmpNo X136.here hx rfl (hb hby at_159) rfl (tlt (by decide)).2.2.2 k) ?_
    show own_Ends _ _ _ _ _ _ _ T136 (mkF m 162 #[.val (.int p0), .val (.int p1), .val (.int p2), .val (.int p3), .val (.int p4), .val (.int (7 : Int32)), .val (.ref bq), .val (.ref bp), .unset] [])
    refine own_go (fun _ k => XS.aload X136.here hx rfl (hb hby at_162) rfl rfl k) ?_
    show own_Ends _ _ _ _ _ _ _ T136 (mkF m 164 #[.val (.int p0), .val (.int p1), .val (.int p2), .val (.int p3), .val (.int p4), .val (.int (7 : Int32)), .val (.ref bq), .val (.ref bp), .unset] [(.ref bp)])
    refine own_go (fun _ k => XS.iconst X136.here hx rfl (hb hby at_164) k) ?_
    show own_Ends _ _ _ _ _ _ _ T136 (mkF m 165 #[.val (.int p0), .val (.int p1), .val (.int p2), .val (.int p3), .val (.int p4), .val (.int (7 : Int32)), .val (.ref bq), .val (.ref bp), .unset] [(.int (2 : Int32)), (.ref bp)])
    refine own_go (fun _ k => XS.aload X136.here hx rfl (hb hby at_165) rfl rfl k) ?_
    show own_Ends _ _ _ _ _ _ _ T136 (mkF m 167 #[.val (.int p0), .val (.int p1), .val (.int p2), .val (.int p3), .val (.int p4), .val (.int (7 : Int32)), .val (.ref bq), .val (.ref bp), .unset] [(.ref bq), (.int (2 : Int32)), (.ref bp)])
    refine own_go (fun _ k => XS.iconst X136.here hx rfl (hb hby at_167) k) ?_
    show own_Ends _ _ _ _ _ _ _ T136 (mkF m 168 #[.val (.int p0), .val (.int p1), .val (.int p2), .val (.int p3), .val (.int p4), .val (.int (7 : Int32)), .val (.ref bq), .val (.ref bp), .unset] [(.int (2 : Int32)), (.ref bq), (.int (2 : Int32)), (.ref bp)])
    refine own_go (fun _ k => own_ldB X136 hx hZ e136 V_bq_136 (i := 2) (v := (.int (b 2))) (by decide) (by decide) (by decide) rfl (g := (mkF m 168 #[.val (.int p0), .val (.int p1), .val (.int p2), .val (.int p3), .val (.int p4), .val (.int (7 : Int32)), .val (.ref bq), .val (.ref bp), .unset] [(.int (2 : Int32)), (.ref bq), (.int (2 : Int32)), (.ref bp)])) rfl rfl (hb hby at_168) _ k) ?_
    show own_Ends _ _ _ _ _ _ _ T136 (mkF m 169 #[.val (.int p0), .val (.int p1), .val (.int p2), .val (.int p3), .val (.int p4), .val (.int (7 : Int32)), .val (.ref bq), .val (.ref bp), .unset] [(.int (b 2)), (.int (2 : Int32)), (.ref bp)])
    obtain ⟨T137, h137, X137, e137, W137, V137, st137⟩ := own_stB X136 hx hZ e136 V136 (i := 2) (by decide) (by decide) (by decide) (g := (mkF m 169 #[.val (.int p0), .val (.int p1), .val (.int p2), .val (.int p3), .val (.int p4), .val (.int (7 : Int32)), .val (.ref bq), .val (.ref bp), .unset] [(.int (b 2)), (.int (2 : Int32)), (.ref bp)])) rfl rfl (hb hby at_169)
    have N137 := Fr.snoc X137 N136 g_bp
    have K_137 := K_136.wr W137 (Or.inr sz_bp)
    have V_bq_137 := V_bq_136.other W137 ne_bq_bp
    refine own_go st137 ?_
    show own_Ends _ _ _ _ _ _ _ T137 (mkF m 170 #[.val (.int p0), .val (.int p1), .val (.int p2), .val (.int p3), .val (.int p4), .val (.int (7 : Int32)), .val (.ref bq), .val (.ref bp), .unset] [])
    refine own_go (fun _ k => XS.iload X137.here hx rfl (hb hby at_170) rfl k) ?_
    show own_Ends _ _ _ _ _ _ _ T137 (mkF m 172 #[.val (.int p0), .val (.int p1), .val (.int p2), .val (.int p3), .val (.int p4), .val (.int (7 : Int32)), .val (.ref bq), .val (.ref bp), .unset] [(.int (7 : Int32))])
    refine own_go (fun _ k => XS.iconst X137.here hx rfl (hb hby at_172) k) ?_
    show own_Ends _ _ _ _ _ _ _ T137 (mkF m 173 #[.val (.int p0), .val (.int p1), .val (.int p2), .val (.int p3), .val (.int p4), .val (.int (7 : Int32)), .val (.ref bq), .val (.ref bp), .unset] [(.int (3 : Int32)), (.int (7 : Int32))])
    refine own_go (fun _ k => XS.icmpNo X137.here hx rfl (hb hby at_173) rfl (tlt (by decide)).2.2.2 k) ?_
    show own_Ends _ _ _ _ _ _ _ T137 (mkF m 176 #[.val (.int p0), .val (.int p1), .val (.int p2), .val (.int p3), .val (.int p4), .val (.int (7 : Int32)), .val (.ref bq), .val (.ref bp), .unset] [])
    refine own_go (fun _ k => XS.aload X137.here hx rfl (hb hby at_176) rfl rfl k) ?_
    show own_Ends _ _ _ _ _ _ _ T137 (mkF m 178 #[.val (.int p0), .val (.int p1), .val (.int p2), .val (.int p3), .val (.int p4), .val (.int (7 : Int32)), .val (.ref bq), .val (.ref bp), .unset] [(.ref bp)])
    refine own_go (fun _ k => XS.iconst X137.here hx rfl (hb hby at_178) k) ?_
    show own_Ends _ _ _ _ _ _ _ T137 (mkF m 179 #[.val (.int p0), .val (.int p1), .val (.int p2), .val (.int p3), .val (.int p4), .val (.int (7 : Int32)), .val (.ref bq), .val (.ref bp), .unset] [(.int (3 : Int32)), (.ref bp)])
    refine own_go (fun _ k => XS.aload X137.here hx rfl (hb hby at_179) rfl rfl k) ?_
    show own_Ends _ _ _ _ _ _ _ T137 (mkF m 181 #[.val (.int p0), .val (.int p1), .val (.int p2), .val (.int p3), .val (.int p4), .val (.int (7 : Int32)), .val (.ref bq), .val (.ref bp), .unset] [(.ref bq), (.int (3 : Int32)), (.ref bp)])
    refine own_go (fun _ k => XS.iconst X137.here hx rfl (hb hby at_181) k) ?_
    show own_Ends _ _ _ _ _ _ _ T137 (mkF m 182 #[.val (.int p0), .val (.int p1), .val (.int p2), .val (.int p3), .val (.int p4), .val (.int (7 : Int32)), .val (.ref bq), .val (.ref bp), .unset] [(.int (3 : Int32)), (.ref bq), (.int (3 : Int32)), (.ref bp)])
    refine own_go (fun _ k => own_ldB X137 hx hZ e137 V_bq_137 (i := 3) (v := (.int (b 3))) (by decide) (by decide) (by decide) rfl (g := (mkF m 182 #[.val (.int p0), .val (.int p1), .val (.int p2), .val (.int p3), .val (.int p4), .val (.int (7 : Int32)), .val (.ref bq), .val (.ref bp), .unset] [(.int (3 : Int32)), (.ref bq), (.int (3 : Int32)), (.ref bp)])) rfl rfl (hb hby at_182) _ k) ?_
    show own_Ends _ _ _ _ _ _ _ T137 (mkF m 183 #[.val (.int p0), .val (.int p1), .val (.int p2), .val (.int p3), .val (.int p4), .val (.int (7 : Int32)), .val (.ref bq), .val (.ref bp), .unset] [(.int (b 3)), (.int (3 : Int32)), (.ref bp)])
    obtain ⟨T138, h138, X138, e138, W138, V138, st138⟩ := own_stB X137 hx hZ e137 V137 (i := 3) (by decide) (by decide) (by decide) (g := (mkF m 183 #[.val (.int p0), .val (.int p1), .val (.int p2), .val (.int p3), .val (.int p4), .val (.int (7 : Int32)), .val (.ref bq), .val (.ref bp), .unset] [(.int (b 3)), (.int (3 : Int32)), (.ref bp)])) rfl rfl (hb hby at_183)
    have N138 := Fr.snoc X138 N137 g_bp
    have K_138 := K_137.wr W138 (Or.inr sz_bp)
    have V_bq_138 := V_bq_137.other W138 ne_bq_bp
    refine own_go st138 ?_
    show own_Ends _ _ _ _ _ _ _ T138 (mkF m 184 #[.val (.int p0), .val (.int p1), .val (.int p2), .val (.int p3), .val (.int p4), .val (.int (7 : Int32)), .val (.ref bq), .val (.ref bp), .unset] [])
    refine own_go (fun _ k => XS.iload X138.here hx rfl (hb hby at_184) rfl k) ?_
    show own_Ends _ _ _ _ _ _ _ T138 (mkF m 186 #[.val (.int p0), .val (.int p1), .val (.int p2), .val (.int p3), .val (.int p4), .val (.int (7 : Int32)), .val (.ref bq), .val (.ref bp), .unset] [(.int (7 : Int32))])
    refine own_go (fun _ k => XS.iconst X138.here hx rfl (hb hby at_186) k) ?_
    show own_Ends _ _ _ _ _ _ _ T138 (mkF m 187 #[.val (.int p0), .val (.int p1), .val (.int p2), .val (.int p3), .val (.int p4), .val (.int (7 : Int32)), .val (.ref bq), .val (.ref bp), .unset] [(.int (4 : Int32)), (.int (7 : Int32))])
    refine own_go (fun _ k => XS.icmpNo X138.here hx rfl (hb hby at_187) rfl (tlt (by decide)).2.2.2 k) ?_
    show own_Ends _ _ _ _ _ _ _ T138 (mkF m 190 #[.val (.int p0), .val (.int p1), .val (.int p2), .val (.int p3), .val (.int p4), .val (.int (7 : Int32)), .val (.ref bq), .val (.ref bp), .unset] [])
    refine own_go (fun _ k => XS.aload X138.here hx rfl (hb hby at_190) rfl rfl k) ?_
    show own_Ends _ _ _ _ _ _ _ T138 (mkF m 192 #[.val (.int p0), .val (.int p1), .val (.int p2), .val (.int p3), .val (.int p4), .val (.int (7 : Int32)), .val (.ref bq), .val (.ref bp), .unset] [(.ref bp)])
    refine own_go (fun _ k => XS.iconst X138.here hx rfl (hb hby at_192) k) ?_
    show own_Ends _ _ _ _ _ _ _ T138 (mkF m 193 #[.val (.int p0), .val (.int p1), .val (.int p2), .val (.int p3), .val (.int p4), .val (.int (7 : Int32)), .val (.ref bq), .val (.ref bp), .unset] [(.int (4 : Int32)), (.ref bp)])
    refine own_go (fun _ k => XS.aload X138.here hx rfl (hb hby at_193) rfl rfl k) ?_
    show own_Ends _ _ _ _ _ _ _ T138 (mkF m 195 #[.val (.int p0), .val (.int p1), .val (.int p2), .val (.int p3), .val (.int p4), .val (.int (7 : Int32)), .val (.ref bq), .val (.ref bp), .unset] [(.ref bq), (.int (4 : Int32)), (.ref bp)])
    refine own_go (fun _ k => XS.iconst X138.here hx rfl (hb hby at_195) k) ?_
    show own_Ends _ _ _ _ _ _ _ T138 (mkF m 196 #[.val (.int p0), .val (.int p1), .val (.int p2), .val (.int p3), .val (.int p4), .val (.int (7 : Int32)), .val (.ref bq), .val (.ref bp), .unset] [(.int (4 : Int32)), (.ref bq), (.int (4 : Int32)), (.ref bp)])
    refine own_go (fun _ k => own_ldB X138 hx hZ e138 V_bq_138 (i := 4) (v := (.int (b 4))) (by decide) (by decide) (by decide) rfl (g := (mkF m 196 #[.val (.int p0), .val (.int p1), .val (.int p2), .val (.int p3), .val (.int p4), .val (.int (7 : Int32)), .val (.ref bq), .val (.ref bp), .unset] [(.int (4 : Int32)), (.ref bq), (.int (4 : Int32)), (.ref bp)])) rfl rfl (hb hby at_196) _ k) ?_
    show own_Ends _ _ _ _ _ _ _ T138 (mkF m 197 #[.val (.int p0), .val (.int p1), .val (.int p2), .val (.int p3), .val (.int p4), .val (.int (7 : Int32)), .val (.ref bq), .val (.ref bp), .unset] [(.int (b 4)), (.int (4 : Int32)), (.ref bp)])
    obtain ⟨T139, h139, X139, e139, W139, V139, st139⟩ := own_stB X138 hx hZ e138 V138 (i := 4) (by decide) (by decide) (by decide) (g := (mkF m 197 #[.val (.int p0), .val (.int p1), .val (.int p2), .val (.int p3), .val (.int p4), .val (.int (7 : Int32)), .val (.ref bq), .val (.ref bp), .unset] [(.int (b 4)), (.int (4 : Int32)), (.ref bp)])) rfl rfl (hb hby at_197)
    have N139 := Fr.snoc X139 N138 g_bp
    have K_139 := K_138.wr W139 (Or.inr sz_bp)
    have V_bq_139 := V_bq_138.other W139 ne_bq_bp
    refine own_go st139 ?_
    show own_Ends _ _ _ _ _ _ _ T139 (mkF m 198 #[.val (.int p0), .val (.int p1), .val (.int p2), .val (.int p3), .val (.int p4), .val (.int (7 : Int32)), .val (.ref bq), .val (.ref bp), .unset] [])
    refine own_go (fun _ k => XS.iload X139.here hx rfl (hb hby at_198) rfl k) ?_
    show own_Ends _ _ _ _ _ _ _ T139 (mkF m 200 #[.val (.int p0), .val (.int p1), .val (.int p2), .val (.int p3), .val (.int p4), .val (.int (7 : Int32)), .val (.ref bq), .val (.ref bp), .unset] [(.int (7 : Int32))])
    refine own_go (fun _ k => XS.iconst X139.here hx rfl (hb hby at_200) k) ?_
    show own_Ends _ _ _ _ _ _ _ T139 (mkF m 201 #[.val (.int p0), .val (.int p1), .val (.int p2), .val (.int p3), .val (.int p4), .val (.int (7 : Int32)), .val (.ref bq), .val (.ref bp), .unset] [(.int (5 : Int32)), (.int (7 : Int32))])
    refine own_go (fun _ k => XS.icmpNo X139.here hx rfl (hb hby at_201) rfl (tlt (by decide)).2.2.2 k) ?_
    show own_Ends _ _ _ _ _ _ _ T139 (mkF m 204 #[.val (.int p0), .val (.int p1), .val (.int p2), .val (.int p3), .val (.int p4), .val (.int (7 : Int32)), .val (.ref bq), .val (.ref bp), .unset] [])
    refine own_go (fun _ k => XS.aload X139.here hx rfl (hb hby at_204) rfl rfl k) ?_
    show own_Ends _ _ _ _ _ _ _ T139 (mkF m 206 #[.val (.int p0), .val (.int p1), .val (.int p2), .val (.int p3), .val (.int p4), .val (.int (7 : Int32)), .val (.ref bq), .val (.ref bp), .unset] [(.ref bp)])
    refine own_go (fun _ k => XS.iconst X139.here hx rfl (hb hby at_206) k) ?_
    show own_Ends _ _ _ _ _ _ _ T139 (mkF m 207 #[.val (.int p0), .val (.int p1), .val (.int p2), .val (.int p3), .val (.int p4), .val (.int (7 : Int32)), .val (.ref bq), .val (.ref bp), .unset] [(.int (5 : Int32)), (.ref bp)])
    refine own_go (fun _ k => XS.aload X139.here hx rfl (hb hby at_207) rfl rfl k) ?_
    show own_Ends _ _ _ _ _ _ _ T139 (mkF m 209 #[.val (.int p0), .val (.int p1), .val (.int p2), .val (.int p3), .val (.int p4), .val (.int (7 : Int32)), .val (.ref bq), .val (.ref bp), .unset] [(.ref bq), (.int (5 : Int32)), (.ref bp)])
    refine own_go (fun _ k => XS.iconst X139.here hx rfl (hb hby at_209) k) ?_
    show own_Ends _ _ _ _ _ _ _ T139 (mkF m 210 #[.val (.int p0), .val (.int p1), .val (.int p2), .val (.int p3), .val (.int p4), .val (.int (7 : Int32)), .val (.ref bq), .val (.ref bp), .unset] [(.int (5 : Int32)), (.ref bq), (.int (5 : Int32)), (.ref bp)])
    refine own_go (fun _ k => own_ldB X139 hx hZ e139 V_bq_139 (i := 5) (v := (.int (b 5))) (by decide) (by decide) (by decide) rfl (g := (mkF m 210 #[.val (.int p0), .val (.int p1), .val (.int p2), .val (.int p3), .val (.int p4), .val (.int (7 : Int32)), .val (.ref bq), .val (.ref bp), .unset] [(.int (5 : Int32)), (.ref bq), (.int (5 : Int32)), (.ref bp)])) rfl rfl (hb hby at_210) _ k) ?_
    show own_Ends _ _ _ _ _ _ _ T139 (mkF m 211 #[.val (.int p0), .val (.int p1), .val (.int p2), .val (.int p3), .val (.int p4), .val (.int (7 : Int32)), .val (.ref bq), .val (.ref bp), .unset] [(.int (b 5)), (.int (5 : Int32)), (.ref bp)])
    obtain ⟨T140, h140, X140, e140, W140, V140, st140⟩ := own_stB X139 hx hZ e139 V139 (i := 5) (by decide) (by decide) (by decide) (g := (mkF m 211 #[.val (.int p0), .val (.int p1), .val (.int p2), .val (.int p3), .val (.int p4), .val (.int (7 : Int32)), .val (.ref bq), .val (.ref bp), .unset] [(.int (b 5)), (.int (5 : Int32)), (.ref bp)])) rfl rfl (hb hby at_211)
    have N140 := Fr.snoc X140 N139 g_bp
    have K_140 := K_139.wr W140 (Or.inr sz_bp)
    have V_bq_140 := V_bq_139.other W140 ne_bq_bp
    refine own_go st140 ?_
    show own_Ends _ _ _ _ _ _ _ T140 (mkF m 212 #[.val (.int p0), .val (.int p1), .val (.int p2), .val (.int p3), .val (.int p4), .val (.int (7 : Int32)), .val (.ref bq), .val (.ref bp), .unset] [])
    refine own_go (fun _ k => XS.iload X140.here hx rfl (hb hby at_212) rfl k) ?_
    show own_Ends _ _ _ _ _ _ _ T140 (mkF m 214 #[.val (.int p0), .val (.int p1), .val (.int p2), .val (.int p3), .val (.int p4), .val (.int (7 : Int32)), .val (.ref bq), .val (.ref bp), .unset] [(.int (7 : Int32))])
    refine own_go (fun _ k => XS.bipush X140.here hx rfl (hb hby at_214) k) ?_
    show own_Ends _ _ _ _ _ _ _ T140 (mkF m 216 #[.val (.int p0), .val (.int p1), .val (.int p2), .val (.int p3), .val (.int p4), .val (.int (7 : Int32)), .val (.ref bq), .val (.ref bp), .unset] [(.int (6 : Int32)), (.int (7 : Int32))])
    refine own_go (fun _ k => XS.icmpNo X140.here hx rfl (hb hby at_216) rfl (tlt (by decide)).2.2.2 k) ?_
    show own_Ends _ _ _ _ _ _ _ T140 (mkF m 219 #[.val (.int p0), .val (.int p1), .val (.int p2), .val (.int p3), .val (.int p4), .val (.int (7 : Int32)), .val (.ref bq), .val (.ref bp), .unset] [])
    refine own_go (fun _ k => XS.aload X140.here hx rfl (hb hby at_219) rfl rfl k) ?_
    show own_Ends _ _ _ _ _ _ _ T140 (mkF m 221 #[.val (.int p0), .val (.int p1), .val (.int p2), .val (.int p3), .val (.int p4), .val (.int (7 : Int32)), .val (.ref bq), .val (.ref bp), .unset] [(.ref bp)])
    refine own_go (fun _ k => XS.bipush X140.here hx rfl (hb hby at_221) k) ?_
    show own_Ends _ _ _ _ _ _ _ T140 (mkF m 223 #[.val (.int p0), .val (.int p1), .val (.int p2), .val (.int p3), .val (.int p4), .val (.int (7 : Int32)), .val (.ref bq), .val (.ref bp), .unset] [(.int (6 : Int32)), (.ref bp)])
    refine own_go (fun _ k => XS.aload X140.here hx rfl (hb hby at_223) rfl rfl k) ?_
    show own_Ends _ _ _ _ _ _ _ T140 (mkF m 225 #[.val (.int p0), .val (.int p1), .val (.int p2), .val (.int p3), .val (.int p4), .val (.int (7 : Int32)), .val (.ref bq), .val (.ref bp), .unset] [(.ref bq), (.int (6 : Int32)), (.ref bp)])
    refine own_go (fun _ k => XS.bipush X140.here hx rfl (hb hby at_225) k) ?_
    show own_Ends _ _ _ _ _ _ _ T140 (mkF m 227 #[.val (.int p0), .val (.int p1), .val (.int p2), .val (.int p3), .val (.int p4), .val (.int (7 : Int32)), .val (.ref bq), .val (.ref bp), .unset] [(.int (6 : Int32)), (.ref bq), (.int (6 : Int32)), (.ref bp)])
    refine own_go (fun _ k => own_ldB X140 hx hZ e140 V_bq_140 (i := 6) (v := (.int (b 6))) (by decide) (by decide) (by decide) rfl (g := (mkF m 227 #[.val (.int p0), .val (.int p1), .val (.int p2), .val (.int p3), .val (.int p4), .val (.int (7 : Int32)), .val (.ref bq), .val (.ref bp), .unset] [(.int (6 : Int32)), (.ref bq), (.int (6 : Int32)), (.ref bp)])) rfl rfl (hb hby at_227) _ k) ?_
    show own_Ends _ _ _ _ _ _ _ T140 (mkF m 228 #[.val (.int p0), .val (.int p1), .val (.int p2), .val (.int p3), .val (.int p4), .val (.int (7 : Int32)), .val (.ref bq), .val (.ref bp), .unset] [(.int (b 6)), (.int (6 : Int32)), (.ref bp)])
    obtain ⟨T141, h141, X141, e141, W141, V141, st141⟩ := own_stB X140 hx hZ e140 V140 (i := 6) (by decide) (by decide) (by decide) (g := (mkF m 228 #[.val (.int p0), .val (.int p1), .val (.int p2), .val (.int p3), .val (.int p4), .val (.int (7 : Int32)), .val (.ref bq), .val (.ref bp), .unset] [(.int (b 6)), (.int (6 : Int32)), (.ref bp)])) rfl rfl (hb hby at_228)
    have N141 := Fr.snoc X141 N140 g_bp
    have K_141 := K_140.wr W141 (Or.inr sz_bp)
    have V_bq_141 := V_bq_140.other W141 ne_bq_bp
    refine own_go st141 ?_
    show own_Ends _ _ _ _ _ _ _ T141 (mkF m 229 #[.val (.int p0), .val (.int p1), .val (.int p2), .val (.int p3), .val (.int p4), .val (.int (7 : Int32)), .val (.ref bq), .val (.ref bp), .unset] [])
    refine own_go (fun _ k => XS.aload X141.here hx rfl (hb hby at_229) rfl rfl k) ?_
    show own_Ends _ _ _ _ _ _ _ T141 (mkF m 231 #[.val (.int p0), .val (.int p1), .val (.int p2), .val (.int p3), .val (.int p4), .val (.int (7 : Int32)), .val (.ref bq), .val (.ref bp), .unset] [(.ref bp)])
    have Vp : own_Ar Z h141 bp k134 .byte 7 (fun j => .int (b j)) := V141.cong (fun j hj => by
      have seg : j = 0 ∨ j = 1 ∨ j = 2 ∨ j = 3 ∨ j = 4 ∨ j = 5 ∨ j = 6 := by omega
      rcases seg with rfl | rfl | rfl | rfl | rfl | rfl | rfl
      · exact congrArg Value.int (hbn 0 (by decide))
      · exact congrArg Value.int (hbn 1 (by decide))
      · exact congrArg Value.int (hbn 2 (by decide))
      · exact congrArg Value.int (hbn 3 (by decide))
      · exact congrArg Value.int (hbn 4 (by decide))
      · exact congrArg Value.int (hbn 5 (by decide))
      · exact congrArg Value.int (hbn 6 (by decide)))
    obtain ⟨v142, T142, L142, X142, hQ142, st142⟩ := own_callS X141 hx hZ hown (hw _ (List.mem_of_getElem? (i := 5) rfl)) (hw _ (List.mem_of_getElem? (i := 6) rfl)) (hw _ (List.mem_of_getElem? (i := 7) rfl)) (hw _ (List.mem_of_getElem? (i := 8) rfl)) (rm2 l Z a0 hw bp h141 h0.size 7 k134 b K_141.1 Vp (by decide)) e141 (g := (mkF m 231 #[.val (.int p0), .val (.int p1), .val (.int p2), .val (.int p3), .val (.int p4), .val (.int (7 : Int32)), .val (.ref bq), .val (.ref bp), .unset] [(.ref bp)])) rfl (by rw [hml]; rfl) (argsL := [(.ref bp)]) (rest := []) (lenOf pd_4 rfl) rfl rfl (W := 0) (by show 2 * 0 + _ ≤ _; exact Nat.le_of_eq rfl) (hb hby at_231) (by decide) (by decide) (by decide) (by decide) (by decide)
    obtain ⟨t, kt, g, rfl, N142q, K142, V142, s142, hG142⟩ := hQ142
    refine own_go st142 ?_
    have N142 := Fr.app N141 N142q
    have K_142 := K_141.trans K142 all0
    have V_bq_142 := V_bq_141.keep K142 nin0
    have V_bp_142 := Vp.keep K142 nin0
    show own_Ends _ _ _ _ _ _ _ T142 (mkF m 234 #[.val (.int p0), .val (.int p1), .val (.int p2), .val (.int p3), .val (.int p4), .val (.int (7 : Int32)), .val (.ref bq), .val (.ref bp), .unset] [(.ref t)])
    refine own_go (fun _ k => XS.astore X142.here hx rfl (hb hby at_234) rfl rfl (l' := #[.val (.int p0), .val (.int p1), .val (.int p2), .val (.int p3), .val (.int p4), .val (.int (7 : Int32)), .val (.ref bq), .val (.ref bp), .val (.ref t)]) rfl k) ?_
    show own_Ends _ _ _ _ _ _ _ T142 (mkF m 236 #[.val (.int p0), .val (.int p1), .val (.int p2), .val (.int p3), .val (.int p4), .val (.int (7 : Int32)), .val (.ref bq), .val (.ref bp), .val (.ref t)] [])
    refine own_go (fun _ k => XS.aload X142.here hx rfl (hb hby at_236) rfl rfl k) ?_
    show own_Ends _ _ _ _ _ _ _ T142 (mkF m 238 #[.val (.int p0), .val (.int p1), .val (.int p2), .val (.int p3), .val (.int p4), .val (.int (7 : Int32)), .val (.ref bq), .val (.ref bp), .val (.ref t)] [(.ref t)])
    refine own_go (fun _ k => XS.ifnullNo X142.here hx rfl (hb hby at_238) rfl k) ?_
    show own_Ends _ _ _ _ _ _ _ T142 (mkF m 241 #[.val (.int p0), .val (.int p1), .val (.int p2), .val (.int p3), .val (.int p4), .val (.int (7 : Int32)), .val (.ref bq), .val (.ref bp), .val (.ref t)] [])
    refine own_go (fun _ k => XS.aload X142.here hx rfl (hb hby at_241) rfl rfl k) ?_
    show own_Ends _ _ _ _ _ _ _ T142 (mkF m 243 #[.val (.int p0), .val (.int p1), .val (.int p2), .val (.int p3), .val (.int p4), .val (.int (7 : Int32)), .val (.ref bq), .val (.ref bp), .val (.ref t)] [(.ref t)])
    refine own_go (fun _ k => own_len X142 hx hZ rfl V142 (z := (7 : Int32)) rfl (g := (mkF m 243 #[.val (.int p0), .val (.int p1), .val (.int p2), .val (.int p3), .val (.int p4), .val (.int (7 : Int32)), .val (.ref bq), .val (.ref bp), .val (.ref t)] [(.ref t)])) rfl rfl (hb hby at_243) _ k) ?_
    show own_Ends _ _ _ _ _ _ _ T142 (mkF m 244 #[.val (.int p0), .val (.int p1), .val (.int p2), .val (.int p3), .val (.int p4), .val (.int (7 : Int32)), .val (.ref bq), .val (.ref bp), .val (.ref t)] [(.int (7 : Int32))])
    refine own_go (fun _ k => XS.iload X142.here hx rfl (hb hby at_244) rfl k) ?_
    show own_Ends _ _ _ _ _ _ _ T142 (mkF m 246 #[.val (.int p0), .val (.int p1), .val (.int p2), .val (.int p3), .val (.int p4), .val (.int (7 : Int32)), .val (.ref bq), .val (.ref bp), .val (.ref t)] [(.int (7 : Int32)), (.int (7 : Int32))])
    refine own_go (fun _ k => XS.icmpYes X142.here hx rfl (pc0 := 246) (pc' := 251) rfl (hb hby at_246) rfl (teq (rfl)).1 (by decide) (by decide) k) ?_
    show own_Ends _ _ _ _ _ _ _ T142 (mkF m 251 #[.val (.int p0), .val (.int p1), .val (.int p2), .val (.int p3), .val (.int p4), .val (.int (7 : Int32)), .val (.ref bq), .val (.ref bp), .val (.ref t)] [])
    refine own_go (fun _ k => XS.aload X142.here hx rfl (hb hby at_251) rfl rfl k) ?_
    show own_Ends _ _ _ _ _ _ _ T142 (mkF m 253 #[.val (.int p0), .val (.int p1), .val (.int p2), .val (.int p3), .val (.int p4), .val (.int (7 : Int32)), .val (.ref bq), .val (.ref bp), .val (.ref t)] [(.ref t)])
    refine own_go (fun _ k => XS.aload X142.here hx rfl (hb hby at_253) rfl rfl k) ?_
    show own_Ends _ _ _ _ _ _ _ T142 (mkF m 255 #[.val (.int p0), .val (.int p1), .val (.int p2), .val (.int p3), .val (.int p4), .val (.int (7 : Int32)), .val (.ref bq), .val (.ref bp), .val (.ref t)] [(.ref bp), (.ref t)])
    refine own_go (fun _ k => XS.aload X142.here hx rfl (hb hby at_255) rfl rfl k) ?_
    show own_Ends _ _ _ _ _ _ _ T142 (mkF m 257 #[.val (.int p0), .val (.int p1), .val (.int p2), .val (.int p3), .val (.int p4), .val (.int (7 : Int32)), .val (.ref bq), .val (.ref bp), .val (.ref t)] [(.ref bq), (.ref bp), (.ref t)])
    refine own_go (fun _ k => XS.iload X142.here hx rfl (hb hby at_257) rfl k) ?_
    show own_Ends _ _ _ _ _ _ _ T142 (mkF m 259 #[.val (.int p0), .val (.int p1), .val (.int p2), .val (.int p3), .val (.int p4), .val (.int (7 : Int32)), .val (.ref bq), .val (.ref bp), .val (.ref t)] [(.int (7 : Int32)), (.ref bq), (.ref bp), (.ref t)])
    refine own_go (fun _ k => XS.iconst X142.here hx rfl (hb hby at_259) k) ?_
    show own_Ends _ _ _ _ _ _ _ T142 (mkF m 260 #[.val (.int p0), .val (.int p1), .val (.int p2), .val (.int p3), .val (.int p4), .val (.int (7 : Int32)), .val (.ref bq), .val (.ref bp), .val (.ref t)] [(.int (0 : Int32)), (.int (7 : Int32)), (.ref bq), (.ref bp), (.ref t)])
    obtain ⟨q0, g0, hB0⟩ := hG142 0 (by decide)
    obtain ⟨v143, T143, L143, X143, hQ143, st143⟩ := own_callS X142 hx hZ hown (hw _ (List.mem_of_getElem? (i := 17) rfl)) (hw _ (List.mem_of_getElem? (i := 18) rfl)) (hw _ (List.mem_of_getElem? (i := 3) rfl)) (hw _ (List.mem_of_getElem? (i := 19) rfl)) (rm4_0 l Z a0 hw t bp bq (7 : Int32) (0 : Int32) T142.heap 7 kt k134 k35 g b q0 V142 V_bp_142 V_bq_142 (by decide) (by decide) g0 hB0 rfl) rfl (g := (mkF m 260 #[.val (.int p0), .val (.int p1), .val (.int p2), .val (.int p3), .val (.int p4), .val (.int (7 : Int32)), .val (.ref bq), .val (.ref bp), .val (.ref t)] [(.int (0 : Int32)), (.int (7 : Int32)), (.ref bq), (.ref bp), (.ref t)])) rfl (by rw [hml]; rfl) (argsL := [(.ref t), (.ref bp), (.ref bq), (.int (7 : Int32)), (.int (0 : Int32))]) (rest := []) (lenOf pd_5 rfl) rfl rfl (W := 0) (by show 2 * 0 + _ ≤ _; exact Nat.le_of_eq rfl) (hb hby at_260) (by decide) (by decide) (by decide) (by decide) (by decide)
    obtain ⟨rfl, rfl, e143⟩ := hQ143
    refine own_go st143 ?_
    have N143 := Fr.app N142 (Fr.nil _)
    show own_Ends _ _ _ _ _ _ _ T143 (mkF m 263 #[.val (.int p0), .val (.int p1), .val (.int p2), .val (.int p3), .val (.int p4), .val (.int (7 : Int32)), .val (.ref bq), .val (.ref bp), .val (.ref t)] [(.int (1 : Int32))])
    refine own_go (fun _ k => XS.ifNo X143.here hx rfl (hb hby at_263) rfl ((if0 _ _).trans (feq (by decide)).1) k) ?_
    show own_Ends _ _ _ _ _ _ _ T143 (mkF m 266 #[.val (.int p0), .val (.int p1), .val (.int p2), .val (.int p3), .val (.int p4), .val (.int (7 : Int32)), .val (.ref bq), .val (.ref bp), .val (.ref t)] [])
    refine own_go (fun _ k => XS.aload X143.here hx rfl (hb hby at_266) rfl rfl k) ?_
    show own_Ends _ _ _ _ _ _ _ T143 (mkF m 268 #[.val (.int p0), .val (.int p1), .val (.int p2), .val (.int p3), .val (.int p4), .val (.int (7 : Int32)), .val (.ref bq), .val (.ref bp), .val (.ref t)] [(.ref t)])
    refine own_go (fun _ k => XS.aload X143.here hx rfl (hb hby at_268) rfl rfl k) ?_
    show own_Ends _ _ _ _ _ _ _ T143 (mkF m 270 #[.val (.int p0), .val (.int p1), .val (.int p2), .val (.int p3), .val (.int p4), .val (.int (7 : Int32)), .val (.ref bq), .val (.ref bp), .val (.ref t)] [(.ref bp), (.ref t)])
    refine own_go (fun _ k => XS.aload X143.here hx rfl (hb hby at_270) rfl rfl k) ?_
    show own_Ends _ _ _ _ _ _ _ T143 (mkF m 272 #[.val (.int p0), .val (.int p1), .val (.int p2), .val (.int p3), .val (.int p4), .val (.int (7 : Int32)), .val (.ref bq), .val (.ref bp), .val (.ref t)] [(.ref bq), (.ref bp), (.ref t)])
    refine own_go (fun _ k => XS.iload X143.here hx rfl (hb hby at_272) rfl k) ?_
    show own_Ends _ _ _ _ _ _ _ T143 (mkF m 274 #[.val (.int p0), .val (.int p1), .val (.int p2), .val (.int p3), .val (.int p4), .val (.int (7 : Int32)), .val (.ref bq), .val (.ref bp), .val (.ref t)] [(.int (7 : Int32)), (.ref bq), (.ref bp), (.ref t)])
    refine own_go (fun _ k => XS.iconst X143.here hx rfl (hb hby at_274) k) ?_
    show own_Ends _ _ _ _ _ _ _ T143 (mkF m 275 #[.val (.int p0), .val (.int p1), .val (.int p2), .val (.int p3), .val (.int p4), .val (.int (7 : Int32)), .val (.ref bq), .val (.ref bp), .val (.ref t)] [(.int (1 : Int32)), (.int (7 : Int32)), (.ref bq), (.ref bp), (.ref t)])
    obtain ⟨q1, g1, hB1⟩ := hG142 1 (by decide)
    obtain ⟨v144, T144, L144, X144, hQ144, st144⟩ := own_callS X143 hx hZ hown (hw _ (List.mem_of_getElem? (i := 17) rfl)) (hw _ (List.mem_of_getElem? (i := 18) rfl)) (hw _ (List.mem_of_getElem? (i := 3) rfl)) (hw _ (List.mem_of_getElem? (i := 19) rfl)) (rm4_1 l Z a0 hw t bp bq (7 : Int32) (1 : Int32) T142.heap 7 kt k134 k35 g b q1 V142 V_bp_142 V_bq_142 (by decide) (by decide) g1 hB1 rfl) e143 (g := (mkF m 275 #[.val (.int p0), .val (.int p1), .val (.int p2), .val (.int p3), .val (.int p4), .val (.int (7 : Int32)), .val (.ref bq), .val (.ref bp), .val (.ref t)] [(.int (1 : Int32)), (.int (7 : Int32)), (.ref bq), (.ref bp), (.ref t)])) rfl (by rw [hml]; rfl) (argsL := [(.ref t), (.ref bp), (.ref bq), (.int (7 : Int32)), (.int (1 : Int32))]) (rest := []) (lenOf pd_5 rfl) rfl rfl (W := 0) (by show 2 * 0 + _ ≤ _; exact Nat.le_of_eq rfl) (hb hby at_275) (by decide) (by decide) (by decide) (by decide) (by decide)
    obtain ⟨rfl, rfl, e144⟩ := hQ144
    refine own_go st144 ?_
    have N144 := Fr.app N143 (Fr.nil _)
    show own_Ends _ _ _ _ _ _ _ T144 (mkF m 278 #[.val (.int p0), .val (.int p1), .val (.int p2), .val (.int p3), .val (.int p4), .val (.int (7 : Int32)), .val (.ref bq), .val (.ref bp), .val (.ref t)] [(.int (1 : Int32))])
    refine own_go (fun _ k => XS.ifNo X144.here hx rfl (hb hby at_278) rfl ((if0 _ _).trans (feq (by decide)).1) k) ?_
    show own_Ends _ _ _ _ _ _ _ T144 (mkF m 281 #[.val (.int p0), .val (.int p1), .val (.int p2), .val (.int p3), .val (.int p4), .val (.int (7 : Int32)), .val (.ref bq), .val (.ref bp), .val (.ref t)] [])
    refine own_go (fun _ k => XS.aload X144.here hx rfl (hb hby at_281) rfl rfl k) ?_
    show own_Ends _ _ _ _ _ _ _ T144 (mkF m 283 #[.val (.int p0), .val (.int p1), .val (.int p2), .val (.int p3), .val (.int p4), .val (.int (7 : Int32)), .val (.ref bq), .val (.ref bp), .val (.ref t)] [(.ref t)])
    refine own_go (fun _ k => XS.aload X144.here hx rfl (hb hby at_283) rfl rfl k) ?_
    show own_Ends _ _ _ _ _ _ _ T144 (mkF m 285 #[.val (.int p0), .val (.int p1), .val (.int p2), .val (.int p3), .val (.int p4), .val (.int (7 : Int32)), .val (.ref bq), .val (.ref bp), .val (.ref t)] [(.ref bp), (.ref t)])
    refine own_go (fun _ k => XS.aload X144.here hx rfl (hb hby at_285) rfl rfl k) ?_
    show own_Ends _ _ _ _ _ _ _ T144 (mkF m 287 #[.val (.int p0), .val (.int p1), .val (.int p2), .val (.int p3), .val (.int p4), .val (.int (7 : Int32)), .val (.ref bq), .val (.ref bp), .val (.ref t)] [(.ref bq), (.ref bp), (.ref t)])
    refine own_go (fun _ k => XS.iload X144.here hx rfl (hb hby at_287) rfl k) ?_
    show own_Ends _ _ _ _ _ _ _ T144 (mkF m 289 #[.val (.int p0), .val (.int p1), .val (.int p2), .val (.int p3), .val (.int p4), .val (.int (7 : Int32)), .val (.ref bq), .val (.ref bp), .val (.ref t)] [(.int (7 : Int32)), (.ref bq), (.ref bp), (.ref t)])
    refine own_go (fun _ k => XS.iconst X144.here hx rfl (hb hby at_289) k) ?_
    show own_Ends _ _ _ _ _ _ _ T144 (mkF m 290 #[.val (.int p0), .val (.int p1), .val (.int p2), .val (.int p3), .val (.int p4), .val (.int (7 : Int32)), .val (.ref bq), .val (.ref bp), .val (.ref t)] [(.int (2 : Int32)), (.int (7 : Int32)), (.ref bq), (.ref bp), (.ref t)])
    obtain ⟨q2, g2, hB2⟩ := hG142 2 (by decide)
    obtain ⟨v145, T145, L145, X145, hQ145, st145⟩ := own_callS X144 hx hZ hown (hw _ (List.mem_of_getElem? (i := 17) rfl)) (hw _ (List.mem_of_getElem? (i := 18) rfl)) (hw _ (List.mem_of_getElem? (i := 3) rfl)) (hw _ (List.mem_of_getElem? (i := 19) rfl)) (rm4_2 l Z a0 hw t bp bq (7 : Int32) (2 : Int32) T142.heap 7 kt k134 k35 g b q2 V142 V_bp_142 V_bq_142 (by decide) (by decide) g2 hB2 rfl) e144 (g := (mkF m 290 #[.val (.int p0), .val (.int p1), .val (.int p2), .val (.int p3), .val (.int p4), .val (.int (7 : Int32)), .val (.ref bq), .val (.ref bp), .val (.ref t)] [(.int (2 : Int32)), (.int (7 : Int32)), (.ref bq), (.ref bp), (.ref t)])) rfl (by rw [hml]; rfl) (argsL := [(.ref t), (.ref bp), (.ref bq), (.int (7 : Int32)), (.int (2 : Int32))]) (rest := []) (lenOf pd_5 rfl) rfl rfl (W := 0) (by show 2 * 0 + _ ≤ _; exact Nat.le_of_eq rfl) (hb hby at_290) (by decide) (by decide) (by decide) (by decide) (by decide)
    obtain ⟨rfl, rfl, e145⟩ := hQ145
    refine own_go st145 ?_
    have N145 := Fr.app N144 (Fr.nil _)
    show own_Ends _ _ _ _ _ _ _ T145 (mkF m 293 #[.val (.int p0), .val (.int p1), .val (.int p2), .val (.int p3), .val (.int p4), .val (.int (7 : Int32)), .val (.ref bq), .val (.ref bp), .val (.ref t)] [(.int (1 : Int32))])
    refine own_go (fun _ k => XS.ifNo X145.here hx rfl (hb hby at_293) rfl ((if0 _ _).trans (feq (by decide)).1) k) ?_
    show own_Ends _ _ _ _ _ _ _ T145 (mkF m 296 #[.val (.int p0), .val (.int p1), .val (.int p2), .val (.int p3), .val (.int p4), .val (.int (7 : Int32)), .val (.ref bq), .val (.ref bp), .val (.ref t)] [])
    refine own_go (fun _ k => XS.aload X145.here hx rfl (hb hby at_296) rfl rfl k) ?_
    show own_Ends _ _ _ _ _ _ _ T145 (mkF m 298 #[.val (.int p0), .val (.int p1), .val (.int p2), .val (.int p3), .val (.int p4), .val (.int (7 : Int32)), .val (.ref bq), .val (.ref bp), .val (.ref t)] [(.ref t)])
    refine own_go (fun _ k => XS.aload X145.here hx rfl (hb hby at_298) rfl rfl k) ?_
    show own_Ends _ _ _ _ _ _ _ T145 (mkF m 300 #[.val (.int p0), .val (.int p1), .val (.int p2), .val (.int p3), .val (.int p4), .val (.int (7 : Int32)), .val (.ref bq), .val (.ref bp), .val (.ref t)] [(.ref bp), (.ref t)])
    refine own_go (fun _ k => XS.aload X145.here hx rfl (hb hby at_300) rfl rfl k) ?_
    show own_Ends _ _ _ _ _ _ _ T145 (mkF m 302 #[.val (.int p0), .val (.int p1), .val (.int p2), .val (.int p3), .val (.int p4), .val (.int (7 : Int32)), .val (.ref bq), .val (.ref bp), .val (.ref t)] [(.ref bq), (.ref bp), (.ref t)])
    refine own_go (fun _ k => XS.iload X145.here hx rfl (hb hby at_302) rfl k) ?_
    show own_Ends _ _ _ _ _ _ _ T145 (mkF m 304 #[.val (.int p0), .val (.int p1), .val (.int p2), .val (.int p3), .val (.int p4), .val (.int (7 : Int32)), .val (.ref bq), .val (.ref bp), .val (.ref t)] [(.int (7 : Int32)), (.ref bq), (.ref bp), (.ref t)])
    refine own_go (fun _ k => XS.iconst X145.here hx rfl (hb hby at_304) k) ?_
    show own_Ends _ _ _ _ _ _ _ T145 (mkF m 305 #[.val (.int p0), .val (.int p1), .val (.int p2), .val (.int p3), .val (.int p4), .val (.int (7 : Int32)), .val (.ref bq), .val (.ref bp), .val (.ref t)] [(.int (3 : Int32)), (.int (7 : Int32)), (.ref bq), (.ref bp), (.ref t)])
    obtain ⟨q3, g3, hB3⟩ := hG142 3 (by decide)
    obtain ⟨v146, T146, L146, X146, hQ146, st146⟩ := own_callS X145 hx hZ hown (hw _ (List.mem_of_getElem? (i := 17) rfl)) (hw _ (List.mem_of_getElem? (i := 18) rfl)) (hw _ (List.mem_of_getElem? (i := 3) rfl)) (hw _ (List.mem_of_getElem? (i := 19) rfl)) (rm4_3 l Z a0 hw t bp bq (7 : Int32) (3 : Int32) T142.heap 7 kt k134 k35 g b q3 V142 V_bp_142 V_bq_142 (by decide) (by decide) g3 hB3 rfl) e145 (g := (mkF m 305 #[.val (.int p0), .val (.int p1), .val (.int p2), .val (.int p3), .val (.int p4), .val (.int (7 : Int32)), .val (.ref bq), .val (.ref bp), .val (.ref t)] [(.int (3 : Int32)), (.int (7 : Int32)), (.ref bq), (.ref bp), (.ref t)])) rfl (by rw [hml]; rfl) (argsL := [(.ref t), (.ref bp), (.ref bq), (.int (7 : Int32)), (.int (3 : Int32))]) (rest := []) (lenOf pd_5 rfl) rfl rfl (W := 0) (by show 2 * 0 + _ ≤ _; exact Nat.le_of_eq rfl) (hb hby at_305) (by decide) (by decide) (by decide) (by decide) (by decide)
    obtain ⟨rfl, rfl, e146⟩ := hQ146
    refine own_go st146 ?_
    have N146 := Fr.app N145 (Fr.nil _)
    show own_Ends _ _ _ _ _ _ _ T146 (mkF m 308 #[.val (.int p0), .val (.int p1), .val (.int p2), .val (.int p3), .val (.int p4), .val (.int (7 : Int32)), .val (.ref bq), .val (.ref bp), .val (.ref t)] [(.int (1 : Int32))])
    refine own_go (fun _ k => XS.ifNo X146.here hx rfl (hb hby at_308) rfl ((if0 _ _).trans (feq (by decide)).1) k) ?_
    show own_Ends _ _ _ _ _ _ _ T146 (mkF m 311 #[.val (.int p0), .val (.int p1), .val (.int p2), .val (.int p3), .val (.int p4), .val (.int (7 : Int32)), .val (.ref bq), .val (.ref bp), .val (.ref t)] [])
    refine own_go (fun _ k => XS.aload X146.here hx rfl (hb hby at_311) rfl rfl k) ?_
    show own_Ends _ _ _ _ _ _ _ T146 (mkF m 313 #[.val (.int p0), .val (.int p1), .val (.int p2), .val (.int p3), .val (.int p4), .val (.int (7 : Int32)), .val (.ref bq), .val (.ref bp), .val (.ref t)] [(.ref t)])
    refine own_go (fun _ k => XS.aload X146.here hx rfl (hb hby at_313) rfl rfl k) ?_
    show own_Ends _ _ _ _ _ _ _ T146 (mkF m 315 #[.val (.int p0), .val (.int p1), .val (.int p2), .val (.int p3), .val (.int p4), .val (.int (7 : Int32)), .val (.ref bq), .val (.ref bp), .val (.ref t)] [(.ref bp), (.ref t)])
    refine own_go (fun _ k => XS.aload X146.here hx rfl (hb hby at_315) rfl rfl k) ?_
    show own_Ends _ _ _ _ _ _ _ T146 (mkF m 317 #[.val (.int p0), .val (.int p1), .val (.int p2), .val (.int p3), .val (.int p4), .val (.int (7 : Int32)), .val (.ref bq), .val (.ref bp), .val (.ref t)] [(.ref bq), (.ref bp), (.ref t)])
    refine own_go (fun _ k => XS.iload X146.here hx rfl (hb hby at_317) rfl k) ?_
    show own_Ends _ _ _ _ _ _ _ T146 (mkF m 319 #[.val (.int p0), .val (.int p1), .val (.int p2), .val (.int p3), .val (.int p4), .val (.int (7 : Int32)), .val (.ref bq), .val (.ref bp), .val (.ref t)] [(.int (7 : Int32)), (.ref bq), (.ref bp), (.ref t)])
    refine own_go (fun _ k => XS.iconst X146.here hx rfl (hb hby at_319) k) ?_
    show own_Ends _ _ _ _ _ _ _ T146 (mkF m 320 #[.val (.int p0), .val (.int p1), .val (.int p2), .val (.int p3), .val (.int p4), .val (.int (7 : Int32)), .val (.ref bq), .val (.ref bp), .val (.ref t)] [(.int (4 : Int32)), (.int (7 : Int32)), (.ref bq), (.ref bp), (.ref t)])
    obtain ⟨q4, g4, hB4⟩ := hG142 4 (by decide)
    obtain ⟨v147, T147, L147, X147, hQ147, st147⟩ := own_callS X146 hx hZ hown (hw _ (List.mem_of_getElem? (i := 17) rfl)) (hw _ (List.mem_of_getElem? (i := 18) rfl)) (hw _ (List.mem_of_getElem? (i := 3) rfl)) (hw _ (List.mem_of_getElem? (i := 19) rfl)) (rm4_4 l Z a0 hw t bp bq (7 : Int32) (4 : Int32) T142.heap 7 kt k134 k35 g b q4 V142 V_bp_142 V_bq_142 (by decide) (by decide) g4 hB4 rfl) e146 (g := (mkF m 320 #[.val (.int p0), .val (.int p1), .val (.int p2), .val (.int p3), .val (.int p4), .val (.int (7 : Int32)), .val (.ref bq), .val (.ref bp), .val (.ref t)] [(.int (4 : Int32)), (.int (7 : Int32)), (.ref bq), (.ref bp), (.ref t)])) rfl (by rw [hml]; rfl) (argsL := [(.ref t), (.ref bp), (.ref bq), (.int (7 : Int32)), (.int (4 : Int32))]) (rest := []) (lenOf pd_5 rfl) rfl rfl (W := 0) (by show 2 * 0 + _ ≤ _; exact Nat.le_of_eq rfl) (hb hby at_320) (by decide) (by decide) (by decide) (by decide) (by decide)
    obtain ⟨rfl, rfl, e147⟩ := hQ147
    refine own_go st147 ?_
    have N147 := Fr.app N146 (Fr.nil _)
    show own_Ends _ _ _ _ _ _ _ T147 (mkF m 323 #[.val (.int p0), .val (.int p1), .val (.int p2), .val (.int p3), .val (.int p4), .val (.int (7 : Int32)), .val (.ref bq), .val (.ref bp), .val (.ref t)] [(.int (1 : Int32))])
    refine own_go (fun _ k => XS.ifNo X147.here hx rfl (hb hby at_323) rfl ((if0 _ _).trans (feq (by decide)).1) k) ?_
    show own_Ends _ _ _ _ _ _ _ T147 (mkF m 326 #[.val (.int p0), .val (.int p1), .val (.int p2), .val (.int p3), .val (.int p4), .val (.int (7 : Int32)), .val (.ref bq), .val (.ref bp), .val (.ref t)] [])
    refine own_go (fun _ k => XS.aload X147.here hx rfl (hb hby at_326) rfl rfl k) ?_
    show own_Ends _ _ _ _ _ _ _ T147 (mkF m 328 #[.val (.int p0), .val (.int p1), .val (.int p2), .val (.int p3), .val (.int p4), .val (.int (7 : Int32)), .val (.ref bq), .val (.ref bp), .val (.ref t)] [(.ref t)])
    refine own_go (fun _ k => XS.aload X147.here hx rfl (hb hby at_328) rfl rfl k) ?_
    show own_Ends _ _ _ _ _ _ _ T147 (mkF m 330 #[.val (.int p0), .val (.int p1), .val (.int p2), .val (.int p3), .val (.int p4), .val (.int (7 : Int32)), .val (.ref bq), .val (.ref bp), .val (.ref t)] [(.ref bp), (.ref t)])
    refine own_go (fun _ k => XS.aload X147.here hx rfl (hb hby at_330) rfl rfl k) ?_
    show own_Ends _ _ _ _ _ _ _ T147 (mkF m 332 #[.val (.int p0), .val (.int p1), .val (.int p2), .val (.int p3), .val (.int p4), .val (.int (7 : Int32)), .val (.ref bq), .val (.ref bp), .val (.ref t)] [(.ref bq), (.ref bp), (.ref t)])
    refine own_go (fun _ k => XS.iload X147.here hx rfl (hb hby at_332) rfl k) ?_
    show own_Ends _ _ _ _ _ _ _ T147 (mkF m 334 #[.val (.int p0), .val (.int p1), .val (.int p2), .val (.int p3), .val (.int p4), .val (.int (7 : Int32)), .val (.ref bq), .val (.ref bp), .val (.ref t)] [(.int (7 : Int32)), (.ref bq), (.ref bp), (.ref t)])
    refine own_go (fun _ k => XS.iconst X147.here hx rfl (hb hby at_334) k) ?_
    show own_Ends _ _ _ _ _ _ _ T147 (mkF m 335 #[.val (.int p0), .val (.int p1), .val (.int p2), .val (.int p3), .val (.int p4), .val (.int (7 : Int32)), .val (.ref bq), .val (.ref bp), .val (.ref t)] [(.int (5 : Int32)), (.int (7 : Int32)), (.ref bq), (.ref bp), (.ref t)])
    obtain ⟨q5, g5, hB5⟩ := hG142 5 (by decide)
    obtain ⟨v148, T148, L148, X148, hQ148, st148⟩ := own_callS X147 hx hZ hown (hw _ (List.mem_of_getElem? (i := 17) rfl)) (hw _ (List.mem_of_getElem? (i := 18) rfl)) (hw _ (List.mem_of_getElem? (i := 3) rfl)) (hw _ (List.mem_of_getElem? (i := 19) rfl)) (rm4_5 l Z a0 hw t bp bq (7 : Int32) (5 : Int32) T142.heap 7 kt k134 k35 g b q5 V142 V_bp_142 V_bq_142 (by decide) (by decide) g5 hB5 rfl) e147 (g := (mkF m 335 #[.val (.int p0), .val (.int p1), .val (.int p2), .val (.int p3), .val (.int p4), .val (.int (7 : Int32)), .val (.ref bq), .val (.ref bp), .val (.ref t)] [(.int (5 : Int32)), (.int (7 : Int32)), (.ref bq), (.ref bp), (.ref t)])) rfl (by rw [hml]; rfl) (argsL := [(.ref t), (.ref bp), (.ref bq), (.int (7 : Int32)), (.int (5 : Int32))]) (rest := []) (lenOf pd_5 rfl) rfl rfl (W := 0) (by show 2 * 0 + _ ≤ _; exact Nat.le_of_eq rfl) (hb hby at_335) (by decide) (by decide) (by decide) (by decide) (by decide)
    obtain ⟨rfl, rfl, e148⟩ := hQ148
    refine own_go st148 ?_
    have N148 := Fr.app N147 (Fr.nil _)
    show own_Ends _ _ _ _ _ _ _ T148 (mkF m 338 #[.val (.int p0), .val (.int p1), .val (.int p2), .val (.int p3), .val (.int p4), .val (.int (7 : Int32)), .val (.ref bq), .val (.ref bp), .val (.ref t)] [(.int (1 : Int32))])
    refine own_go (fun _ k => XS.ifNo X148.here hx rfl (hb hby at_338) rfl ((if0 _ _).trans (feq (by decide)).1) k) ?_
    show own_Ends _ _ _ _ _ _ _ T148 (mkF m 341 #[.val (.int p0), .val (.int p1), .val (.int p2), .val (.int p3), .val (.int p4), .val (.int (7 : Int32)), .val (.ref bq), .val (.ref bp), .val (.ref t)] [])
    refine own_go (fun _ k => XS.aload X148.here hx rfl (hb hby at_341) rfl rfl k) ?_
    show own_Ends _ _ _ _ _ _ _ T148 (mkF m 343 #[.val (.int p0), .val (.int p1), .val (.int p2), .val (.int p3), .val (.int p4), .val (.int (7 : Int32)), .val (.ref bq), .val (.ref bp), .val (.ref t)] [(.ref t)])
    refine own_go (fun _ k => XS.aload X148.here hx rfl (hb hby at_343) rfl rfl k) ?_
    show own_Ends _ _ _ _ _ _ _ T148 (mkF m 345 #[.val (.int p0), .val (.int p1), .val (.int p2), .val (.int p3), .val (.int p4), .val (.int (7 : Int32)), .val (.ref bq), .val (.ref bp), .val (.ref t)] [(.ref bp), (.ref t)])
    refine own_go (fun _ k => XS.aload X148.here hx rfl (hb hby at_345) rfl rfl k) ?_
    show own_Ends _ _ _ _ _ _ _ T148 (mkF m 347 #[.val (.int p0), .val (.int p1), .val (.int p2), .val (.int p3), .val (.int p4), .val (.int (7 : Int32)), .val (.ref bq), .val (.ref bp), .val (.ref t)] [(.ref bq), (.ref bp), (.ref t)])
    refine own_go (fun _ k => XS.iload X148.here hx rfl (hb hby at_347) rfl k) ?_
    show own_Ends _ _ _ _ _ _ _ T148 (mkF m 349 #[.val (.int p0), .val (.int p1), .val (.int p2), .val (.int p3), .val (.int p4), .val (.int (7 : Int32)), .val (.ref bq), .val (.ref bp), .val (.ref t)] [(.int (7 : Int32)), (.ref bq), (.ref bp), (.ref t)])
    refine own_go (fun _ k => XS.bipush X148.here hx rfl (hb hby at_349) k) ?_
    show own_Ends _ _ _ _ _ _ _ T148 (mkF m 351 #[.val (.int p0), .val (.int p1), .val (.int p2), .val (.int p3), .val (.int p4), .val (.int (7 : Int32)), .val (.ref bq), .val (.ref bp), .val (.ref t)] [(.int (6 : Int32)), (.int (7 : Int32)), (.ref bq), (.ref bp), (.ref t)])
    obtain ⟨q6, g6, hB6⟩ := hG142 6 (by decide)
    obtain ⟨v149, T149, L149, X149, hQ149, st149⟩ := own_callS X148 hx hZ hown (hw _ (List.mem_of_getElem? (i := 17) rfl)) (hw _ (List.mem_of_getElem? (i := 18) rfl)) (hw _ (List.mem_of_getElem? (i := 3) rfl)) (hw _ (List.mem_of_getElem? (i := 19) rfl)) (rm4_6 l Z a0 hw t bp bq (7 : Int32) (6 : Int32) T142.heap 7 kt k134 k35 g b q6 V142 V_bp_142 V_bq_142 (by decide) (by decide) g6 hB6 rfl) e148 (g := (mkF m 351 #[.val (.int p0), .val (.int p1), .val (.int p2), .val (.int p3), .val (.int p4), .val (.int (7 : Int32)), .val (.ref bq), .val (.ref bp), .val (.ref t)] [(.int (6 : Int32)), (.int (7 : Int32)), (.ref bq), (.ref bp), (.ref t)])) rfl (by rw [hml]; rfl) (argsL := [(.ref t), (.ref bp), (.ref bq), (.int (7 : Int32)), (.int (6 : Int32))]) (rest := []) (lenOf pd_5 rfl) rfl rfl (W := 0) (by show 2 * 0 + _ ≤ _; exact Nat.le_of_eq rfl) (hb hby at_351) (by decide) (by decide) (by decide) (by decide) (by decide)
    obtain ⟨rfl, rfl, e149⟩ := hQ149
    refine own_go st149 ?_
    have N149 := Fr.app N148 (Fr.nil _)
    show own_Ends _ _ _ _ _ _ _ T149 (mkF m 354 #[.val (.int p0), .val (.int p1), .val (.int p2), .val (.int p3), .val (.int p4), .val (.int (7 : Int32)), .val (.ref bq), .val (.ref bp), .val (.ref t)] [(.int (1 : Int32))])
    refine own_go (fun _ k => XS.ifNo X149.here hx rfl (hb hby at_354) rfl ((if0 _ _).trans (feq (by decide)).1) k) ?_
    show own_Ends _ _ _ _ _ _ _ T149 (mkF m 357 #[.val (.int p0), .val (.int p1), .val (.int p2), .val (.int p3), .val (.int p4), .val (.int (7 : Int32)), .val (.ref bq), .val (.ref bp), .val (.ref t)] [])
    refine own_go (fun _ k => XS.iconst X149.here hx rfl (hb hby at_357) k) ?_
    show own_Ends _ _ _ _ _ _ _ T149 (mkF m 358 #[.val (.int p0), .val (.int p1), .val (.int p2), .val (.int p3), .val (.int p4), .val (.int (7 : Int32)), .val (.ref bq), .val (.ref bp), .val (.ref t)] [(.int (1 : Int32))])
    refine own_go (fun _ k => XS.goto X149.here hx rfl (pc0 := 358) (pc' := 362) rfl (hb hby at_358) (by decide) (by decide) k) ?_
    show own_Ends _ _ _ _ _ _ _ T149 (mkF m 362 #[.val (.int p0), .val (.int p1), .val (.int p2), .val (.int p3), .val (.int p4), .val (.int (7 : Int32)), .val (.ref bq), .val (.ref bp), .val (.ref t)] [(.int (1 : Int32))])
    exact own_retZ X149 hx hlk hret (by decide) (hb hby at_362) (by decide) (by decide) ⟨rfl, N149⟩
set_option maxRecDepth 65536 in
set_option maxHeartbeats 40000000 in
theorem comes_1 {Post : Tables → Env → Array Value → State → Outcome → State → Prop} (hpost : ∀ tb e args s v u, (limb_1_1.after args s (.returned v) u = true ∧ limb_1_2.after args s (.returned v) u = true ∧ True) → FrameEnd s (.returned v) u (Jvm.fieldLocs frame_1_writes args s ++ Jvm.arrayLocs frame_1_arrays args s ++ Jvm.staticLocs frame_1_statics s) 16 128 → Post tb e args s (.returned v) u) :
    ArmFor flags0 classFile x code maxLocals ret World_1 tables_1 room_1 Calls_1 rest_1 Pre_1 Post := by
  intro l hfl _ _ p e ha hc hk s m args below hf hA hF happ hP
  obtain ⟨hcalls, hrest, hpre⟩ := hP
  obtain ⟨-, -, -, hnamed, -, -, -, hat⟩ := (Spec.applies_iff hf).mp happ
  obtain ⟨hg, hn⟩ := and_e (Cond.before_iff.mp (show (Jvm.Cond.and given_1 narrow_1).before args s = true from hpre))
  obtain ⟨g0, gr0⟩ := and_e hg
  obtain ⟨ga0, gr1⟩ := and_e gr0
  obtain ⟨ga1, gr2⟩ := and_e gr1
  obtain ⟨ga2, gr3⟩ := and_e gr2
  obtain ⟨ga3, gr4⟩ := and_e gr3
  have ga4 := gr4
  obtain ⟨w0, w1, w2, w3, w4, rfl⟩ : ∃ w0 w1 w2 w3 w4 : Value, args = #[w0, w1, w2, w3, w4] := by
    have hs : args.size = 5 := by simpa [Cond.value, given_1] using g0
    obtain ⟨L⟩ := args
    match L, hs with
    | [w0, w1, w2, w3, w4], _ => exact ⟨w0, w1, w2, w3, w4, rfl⟩
  have hw := fun d (hd : d ∈ tables_1) => atoms_spec (ws := Jvm.Cond.code x code maxLocals ret :: tables_1) hat d (List.mem_cons_of_mem _ hd)
  have hfit : Fit s := fun {y c} hc i hi => by
    obtain ⟨ha, rfl⟩ := Array.getElem?_eq_some_iff.mp hc
    have q := List.all_eq_true.mp ((Array.all_eq_true_iff_forall_mem.mp hF) _ (Array.getElem_mem ha)) i (List.mem_range.mpr hi)
    simpa [Array.getElem?_eq_getElem hi] using q
  obtain ⟨i0, ei0⟩ := is_v ga0
  obtain rfl : w0 = (.int i0) := Option.some.inj ei0
  obtain ⟨i1, ei1⟩ := is_v ga1
  obtain rfl : w1 = (.int i1) := Option.some.inj ei1
  obtain ⟨i2, ei2⟩ := is_v ga2
  obtain rfl : w2 = (.int i2) := Option.some.inj ei2
  obtain ⟨i3, ei3⟩ := is_v ga3
  obtain rfl : w3 = (.int i3) := Option.some.inj ei3
  obtain ⟨i4, ei4⟩ := is_v ga4
  obtain rfl : w4 = (.int i4) := Option.some.inj ei4
  obtain ⟨n, o, h1, h2, h3, _, L, rfl, ⟨rfl, N⟩, hq⟩ := rm0 l s _ hw i0 i1 i2 i3 i4 s.heap  tables_1 p e ha hc hk s m _ below hf ((Spec.applies_iff_loose hf).mp happ).1 ⟨rfl, State.WarmedH.refl s, rfl⟩ trivial
  refine ⟨n, _, h1, h2, h3, hpost _ _ _ _ _ _ ⟨Cond.after_iff.mpr rfl, Cond.after_iff.mpr (eq_i res_at (Term.int_eval (1)) rfl), trivial⟩ ⟨hq.1, hq.2.1, (hq.2.2.sift fun y hy => Or.inr (N y hy)).mono (by decide) (by decide)⟩⟩
theorem main_1_1 : Claimed_1_1 := comes_1 fun _ _ _ _ _ _ h hF => ⟨h.1, Jvm.RoadKit.wide hF⟩
theorem main_1_2 : Claimed_1_2 := comes_1 fun _ _ _ _ _ _ h hF => ⟨h.2.1, Jvm.RoadKit.wide hF⟩

end Jvm.Pilot.@@N@@
namespace Jvm.Pilot.@@N@@
open Jvm Jvm.ClassFile Sem Op Lib Jvm.Free Jvm.Stand Jvm.Pilot.@@N@@.Jvm.D
/-! MADE BY PROGRAM (witnessworld.py) out of the Statement's table words and the real class files: 11 classes; the members and pool entries that the words name. The judged class is class 1, her method 5. -/
namespace start1
open Jvm.ClassFile
def u (s : String) : CpInfo := .utf8 (stringToUtf16 s)
/-- a pool by its gaps: so many unusable entries, then the entry; so many at the end -/
def gap : Nat → List CpInfo → List CpInfo
  | 0, r => r
  | n + 1, r => .unusable :: gap n r
def poolList (es : List (Nat × CpInfo)) (last : Nat) : List CpInfo := es.foldr (fun e r => gap e.1 (e.2 :: r)) (gap last [])
def pool (es : List (Nat × CpInfo)) (last : Nat) : Array CpInfo := ⟨poolList es last⟩
def fileOf (pool : Array CpInfo) (this : Nat) (attrs : Array Attribute := #[]) (ms : Array MethodInfo := #[]) (fl : Nat := 33) (sup : Nat := 0) (ifs : Array Nat := #[]) (fds : Array FieldInfo := #[]) : ClassFile where
  minorVersion := 0
  majorVersion := 65
  constantPool := pool
  accessFlags := fl
  thisClass := this
  superClass := sup
  interfaces := ifs
  fields := fds
  methods := ms
  attributes := attrs
def plain (name : String) (sup : Option ClassId) : Class where
  name := name
  kind := .ordinary
  loader := none
  accessFlags := 33
  super := sup
  interfaces := #[]
  cf := none
  fields := #[]
  methods := #[]
  instanceTypes := #[]
  staticTypes := #[]
  resolved := #[]
  callSites := []
  init := .initialized
  statics := none
  mirror := none

def pool0 : Array CpInfo := pool [(5, u "<init>"), (0, u "()V"), (1, .class_ 10), (1, u "java/lang/Object")] 113

def k0m0 : Method := { name := "<init>", desc := "()V", sig := { parameters := [], returnType := none }, accessFlags := 1, code := none }
/-- java/lang/Object -/
def k0 : Class := { plain "java/lang/Object" none with
  accessFlags := 33
  interfaces := #[]
  cf := some (fileOf pool0 8 #[] #[{ accessFlags := 1, nameIndex := 5, descriptorIndex := 6, attributes := #[] }] 33 0 #[] #[])
  fields := #[]
  methods := #[k0m0]
  instanceTypes := #[]
  staticTypes := #[]
  resolved := Array.replicate 124 none
  statics := none }

def pool1 : Array CpInfo := pool [(2, .class_ 4), (1, u "java/lang/Object"), (0, u "<init>"), (0, u "()V"), (0, .methodref 8 9), (0, .class_ 10), (0, .nameAndType 11 12), (0, u "com/example/prefixleap/prefixleap/core/PrefixTableOfPinLaw"), (0, u "match"), (0, u "([BII)Z"), (0, .methodref 8 14), (0, .nameAndType 15 16), (0, u "border"), (0, u "([BI)I"), (0, .methodref 8 18), (0, .nameAndType 19 20), (0, u "letter"), (0, u "(IIIII)B"), (0, .methodref 22 23), (0, .class_ 24), (0, .nameAndType 25 26), (0, u "com/example/prefixleap/prefixleap/core/PrefixTable"), (0, u "of"), (0, u "([B)[I"), (0, .methodref 8 28), (0, .nameAndType 29 30), (0, u "check"), (0, u "([I[B[BII)Z"), (3, u "law"), (0, u "(IIIII)Z")] 6

def k1m0 : Method := { name := "<init>", desc := "()V", sig := { parameters := [], returnType := none }, accessFlags := 2, code := none }
def k1c1 : Code := { maxStack := 2, maxLocals := 6, code := method_2_code, exceptionTable := #[], attributes := #[] }
def k1m1 : Method := { name := "letter", desc := "(IIIII)B", sig := { parameters := [.int, .int, .int, .int, .int], returnType := some .byte }, accessFlags := 10, code := some k1c1 }
def k1c2 : Code := { maxStack := 4, maxLocals := 3, code := method_3_code, exceptionTable := #[], attributes := #[] }
def k1m2 : Method := { name := "match", desc := "([BII)Z", sig := { parameters := [(.array .byte), .int, .int], returnType := some .boolean }, accessFlags := 10, code := some k1c2 }
def k1c3 : Code := { maxStack := 3, maxLocals := 2, code := method_4_code, exceptionTable := #[], attributes := #[] }
def k1m3 : Method := { name := "border", desc := "([BI)I", sig := { parameters := [(.array .byte), .int], returnType := some .int }, accessFlags := 10, code := some k1c3 }
def k1c4 : Code := { maxStack := 3, maxLocals := 5, code := method_5_code, exceptionTable := #[], attributes := #[] }
def k1m4 : Method := { name := "check", desc := "([I[B[BII)Z", sig := { parameters := [(.array .int), (.array .byte), (.array .byte), .int, .int], returnType := some .boolean }, accessFlags := 10, code := some k1c4 }
def k1c5 : Code := { maxStack := 7, maxLocals := 9, code := code, exceptionTable := #[], attributes := #[] }
def k1m5 : Method := { name := "law", desc := "(IIIII)Z", sig := { parameters := [.int, .int, .int, .int, .int], returnType := some .boolean }, accessFlags := 9, code := some k1c5 }
/-- com/example/prefixleap/prefixleap/core/PrefixTableOfPinLaw -/
def k1 : Class := { plain "com/example/prefixleap/prefixleap/core/PrefixTableOfPinLaw" (some 0) with
  accessFlags := 49
  interfaces := #[]
  cf := some (fileOf pool1 8 #[] #[{ accessFlags := 2, nameIndex := 5, descriptorIndex := 6, attributes := #[] }, { accessFlags := 10, nameIndex := 19, descriptorIndex := 20, attributes := #[] }, { accessFlags := 10, nameIndex := 11, descriptorIndex := 12, attributes := #[] }, { accessFlags := 10, nameIndex := 15, descriptorIndex := 16, attributes := #[] }, { accessFlags := 10, nameIndex := 29, descriptorIndex := 30, attributes := #[] }, { accessFlags := 9, nameIndex := 34, descriptorIndex := 35, attributes := #[] }] 49 2 #[] #[])
  fields := #[]
  methods := #[k1m0, k1m1, k1m2, k1m3, k1m4, k1m5]
  instanceTypes := #[]
  staticTypes := #[]
  resolved := Array.replicate 42 none
  statics := none }

def pool2 : Array CpInfo := pool [(2, .class_ 4), (1, u "java/lang/Object"), (0, u "<init>"), (0, u "()V"), (0, .invokeDynamic 0 8), (0, .nameAndType 9 10), (0, u "at"), (0, u "([B)Lcom/example/prefixleap/prefixleap/core/PrefixTable$SameUnit;"), (0, .methodref 12 13), (0, .class_ 14), (0, .nameAndType 15 16), (0, u "com/example/prefixleap/prefixleap/core/PrefixTable"), (0, u "build"), (0, u "(ILcom/example/prefixleap/prefixleap/core/PrefixTable$SameUnit;)[I"), (15, .interfaceMethodref 33 34), (0, .class_ 35), (0, .nameAndType 9 36), (0, u "com/example/prefixleap/prefixleap/core/PrefixTable$SameUnit"), (0, u "(II)Z"), (6, u "of"), (0, u "([B)[I"), (8, u "lambda$of$0"), (0, u "([BII)Z"), (4, .methodType 36), (0, .methodHandle 6 61), (0, .methodref 12 62), (0, .nameAndType 53 54), (3, .methodHandle 6 67), (0, .methodref 68 69), (0, .class_ 70), (0, .nameAndType 71 72), (0, u "java/lang/invoke/LambdaMetafactory"), (0, u "metafactory"), (0, u "(Ljava/lang/invoke/MethodHandles$Lookup;Ljava/lang/String;Ljava/lang/invoke/MethodType;Ljava/lang/invoke/MethodType;Ljava/lang/invoke/MethodHandle;Ljava/lang/invoke/MethodType;)Ljava/lang/invoke/CallSite;")] 7

def k2m0 : Method := { name := "<init>", desc := "()V", sig := { parameters := [], returnType := none }, accessFlags := 2, code := none }
def k2c1 : Code := { maxStack := 2, maxLocals := 1, code := prog_12_method_2_code, exceptionTable := #[], attributes := #[] }
def k2m1 : Method := { name := "of", desc := "([B)[I", sig := { parameters := [(.array .byte)], returnType := some (.array .int) }, accessFlags := 9, code := some k2c1 }
def k2c2 : Code := { maxStack := 3, maxLocals := 5, code := prog_12_method_5_code, exceptionTable := #[], attributes := #[] }
def k2m2 : Method := { name := "build", desc := "(ILcom/example/prefixleap/prefixleap/core/PrefixTable$SameUnit;)[I", sig := { parameters := [.int, (.object "com/example/prefixleap/prefixleap/core/PrefixTable$SameUnit")], returnType := some (.array .int) }, accessFlags := 10, code := some k2c2 }
def k2c3 : Code := { maxStack := 3, maxLocals := 3, code := prog_12_method_7_code, exceptionTable := #[], attributes := #[] }
def k2m3 : Method := { name := "lambda$of$0", desc := "([BII)Z", sig := { parameters := [(.array .byte), .int, .int], returnType := some .boolean }, accessFlags := 4106, code := some k2c3 }
/-- com/example/prefixleap/prefixleap/core/PrefixTable -/
def k2 : Class := { plain "com/example/prefixleap/prefixleap/core/PrefixTable" (some 0) with
  accessFlags := 49
  interfaces := #[]
  cf := some (fileOf pool2 12 #[.nestMembers #[33], .bootstrapMethods #[⟨66, #[59, 60, 59]⟩, ⟨0, #[]⟩]] #[{ accessFlags := 2, nameIndex := 5, descriptorIndex := 6, attributes := #[] }, { accessFlags := 9, nameIndex := 43, descriptorIndex := 44, attributes := #[] }, { accessFlags := 10, nameIndex := 15, descriptorIndex := 16, attributes := #[] }, { accessFlags := 4106, nameIndex := 53, descriptorIndex := 54, attributes := #[] }] 49 2 #[] #[])
  fields := #[]
  methods := #[k2m0, k2m1, k2m2, k2m3]
  instanceTypes := #[]
  staticTypes := #[]
  resolved := Array.replicate 80 none
  callSites := [(1, 3, .makes 10)]
  statics := none }

def pool3 : Array CpInfo := pool [(1, .class_ 2), (0, u "com/example/prefixleap/prefixleap/core/PrefixTable$SameUnit"), (0, .class_ 4), (0, u "java/lang/Object"), (0, u "at"), (0, u "(II)Z"), (5, .class_ 13), (0, u "com/example/prefixleap/prefixleap/core/PrefixTable")] 2

def k3m0 : Method := { name := "at", desc := "(II)Z", sig := { parameters := [.int, .int], returnType := some .boolean }, accessFlags := 1025, code := none }
/-- com/example/prefixleap/prefixleap/core/PrefixTable$SameUnit -/
def k3 : Class := { plain "com/example/prefixleap/prefixleap/core/PrefixTable$SameUnit" (some 0) with
  accessFlags := 1536
  interfaces := #[]
  cf := some (fileOf pool3 1 #[.nestHost 12] #[{ accessFlags := 1025, nameIndex := 5, descriptorIndex := 6, attributes := #[] }] 1536 3 #[] #[])
  fields := #[]
  methods := #[k3m0]
  instanceTypes := #[]
  staticTypes := #[]
  resolved := Array.replicate 16 none
  statics := none }

def pool4 : Array CpInfo := pool [(1, u "java/lang/Cloneable"), (0, .class_ 1), (0, u "java/lang/Object"), (0, .class_ 3)] 3

/-- java/lang/Cloneable -/
def k4 : Class := { plain "java/lang/Cloneable" (some 0) with
  accessFlags := 1537
  interfaces := #[]
  cf := some (fileOf pool4 2 #[] #[] 1537 4 #[] #[])
  fields := #[]
  methods := #[]
  instanceTypes := #[]
  staticTypes := #[]
  resolved := Array.replicate 8 none
  statics := none }

def pool5 : Array CpInfo := pool [(1, u "java/io/Serializable"), (0, .class_ 1), (0, u "java/lang/Object"), (0, .class_ 3)] 3

/-- java/io/Serializable -/
def k5 : Class := { plain "java/io/Serializable" (some 0) with
  accessFlags := 1537
  interfaces := #[]
  cf := some (fileOf pool5 2 #[] #[] 1537 4 #[] #[])
  fields := #[]
  methods := #[]
  instanceTypes := #[]
  staticTypes := #[]
  resolved := Array.replicate 8 none
  statics := none }

/-- the primitive byte -/
def k6 : Class := { plain "byte" none with kind := .primitive 'B', accessFlags := 0x411 }
/-- [B -/
def k7 : Class := { plain "[B" (some 0) with kind := .array 6 .byte, interfaces := #[4, 5], accessFlags := 1041 }

/-- the primitive int -/
def k8 : Class := { plain "int" none with kind := .primitive 'I', accessFlags := 0x411 }
/-- [I -/
def k9 : Class := { plain "[I" (some 0) with kind := .array 8 .int, interfaces := #[4, 5], accessFlags := 1041 }

def classes0 : Array Class := #[k0, k1, k2, k3, k4, k5, k6, k7, k8, k9]
/-- the class that the rule has made for the site at 3 of com/example/prefixleap/prefixleap/core/PrefixTable.of -/
def k10 : Class := Jvm.LamKit.madeRec { classes := classes0 } "com/example/prefixleap/prefixleap/core/PrefixTable" (Jvm.Lambda.Shape.mk "com/example/prefixleap/prefixleap/core/PrefixTable$SameUnit" "at" (Jvm.ClassFile.MethodDescriptor.mk ([Jvm.ClassFile.FieldType.int, Jvm.ClassFile.FieldType.int] : List Jvm.ClassFile.FieldType) (Option.some Jvm.ClassFile.FieldType.boolean)) ([(Jvm.ClassFile.FieldType.array Jvm.ClassFile.FieldType.byte)] : List Jvm.ClassFile.FieldType) (6 : Nat) "com/example/prefixleap/prefixleap/core/PrefixTable" "lambda$of$0" (Jvm.ClassFile.MethodDescriptor.mk ([(Jvm.ClassFile.FieldType.array Jvm.ClassFile.FieldType.byte), Jvm.ClassFile.FieldType.int, Jvm.ClassFile.FieldType.int] : List Jvm.ClassFile.FieldType) (Option.some Jvm.ClassFile.FieldType.boolean)) false (Jvm.ClassFile.MethodDescriptor.mk ([Jvm.ClassFile.FieldType.int, Jvm.ClassFile.FieldType.int] : List Jvm.ClassFile.FieldType) (Option.some Jvm.ClassFile.FieldType.boolean))) 10

def heap : Heap := #[]
def classes : Array Class := #[k0, k1, k2, k3, k4, k5, k6, k7, k8, k9, k10]
def interned : List (Array UInt16 × Addr) := []
def slotsUsed : Nat := 0
def theMethod : MethodId := ⟨1, 5⟩
def args0 : Array Value := #[.int 0, .int 1, .int 2, .int 3, .int 4]
def aboutOver (below : List Frame) : State where
  vm := { classes := classes, interned := interned.toArray }
  heap := heap
  slotsUsed := slotsUsed
  threads := #[{ frames := .invoking theMethod args0 :: below }]
def below0 : List Frame := [.native { method := ⟨0, 0⟩, args := #[] }]
def about1 : State := aboutOver below0
def p0 : Program := .bare "" "" ""
def e0 : Env := launch0.env 0 0 0
theorem w_frames : about1.frames = Frame.invoking theMethod args0 :: below0 := rfl
set_option maxRecDepth 65536 in
theorem w_args : argsFit about1.vm theMethod args0 = true := by decide +kernel
set_option maxRecDepth 65536 in
theorem w_heap : heapFits about1 = true := by decide +kernel
set_option maxRecDepth 65536 in
theorem w_runnable : about1.curStatus? = some .runnable := by decide +kernel
set_option maxRecDepth 65536 in
theorem w_alone : about1.alone = true := by decide +kernel
set_option maxRecDepth 65536 in
theorem w_named : about1.methodNamed? x = some theMethod := by decide +kernel
set_option maxRecDepth 65536 in
theorem w_hears : about1.hears theMethod below0 = true := by decide +kernel
set_option maxRecDepth 65536 in
theorem w_ripe : about1.ripe theMethod args0 below0 = true := by decide +kernel
theorem w_running : about1.status = .running := rfl
set_option maxRecDepth 65536 in
theorem w_room : about1.hasRoom e0.platform room_1 = true :=
  launch0.hasRoom_least _ room_1 (by decide +kernel) (by decide +kernel) (by decide +kernel) (by decide +kernel) (by decide +kernel) (by decide +kernel)
theorem allAtoms_all (ts : List Jvm.Cond) (a : Array Jvm.Value) (st : Jvm.State) : (allAtoms ts).before a st = ts.all (fun c => c.before a st) := by
  induction ts with
  | nil => rfl
  | cons c t ih =>
    show (Jvm.Cond.and c (allAtoms t)).before a st = _
    rw [Jvm.Cond.before_and, ih, List.all_cons]
def words1 : List Jvm.Cond := Jvm.Cond.code x code maxLocals ret :: tables_1
/-- a 'code' word, met by the world's own term for the bytes: nothing is compared byte by byte -/
theorem code_word {y : MethodName} {bytes : ByteArray} {mx : Nat} {rt : Option FieldType} {a : Array Value} {s : State} {m : MethodId} {meth : Method} {c : Code} (h1 : s.methodNamed? y = some m) (h2 : s.vm.method? m = some meth) (h3 : meth.code = some c) (h4 : c.code = bytes)
    (h5 : (c.maxLocals == mx && c.exceptionTable.isEmpty && decide (c.maxStack ≤ mostOperands) && decide (meth.sig.returnType = rt) && !meth.locks && decide (parseMethodDescriptor y.desc = some meth.sig)) = true) : (Jvm.Cond.code y bytes mx rt).before a s = true := by
  simp only [Bool.and_eq_true, beq_iff_eq, Bool.not_eq_true', decide_eq_true_eq] at h5
  obtain ⟨⟨⟨⟨⟨g1, g2⟩, g3⟩, g4⟩, g5⟩, g6⟩ := h5
  simp [Cond.before, Cond.holds, Cond.value, h1, h2, h3, h4, g1, g2, g3, g4, g5, g6]
def isCode : Jvm.Cond → Bool
  | .code _ _ _ _ => true
  | _ => false
theorem all_split {L : List Jvm.Cond} {P : Jvm.Cond → Bool} (h1 : L.all (fun c => isCode c || P c) = true) (h2 : ∀ c ∈ L.filter isCode, P c = true) : L.all P = true := by
  refine List.all_eq_true.mpr fun c hc => ?_
  have h := List.all_eq_true.mp h1 c hc
  rcases Bool.eq_false_or_eq_true (isCode c) with hi | hi
  · exact h2 c (List.mem_filter.mpr ⟨hc, hi⟩)
  · simpa [hi] using h
set_option maxRecDepth 65536 in
theorem w_c0 : (Jvm.Cond.code x code maxLocals ret).before args0 about1 = true := code_word (m := ⟨1, 5⟩) (meth := k1m5) (c := k1c5) (by decide +kernel) rfl rfl rfl (by decide +kernel)
set_option maxRecDepth 65536 in
theorem w_c1 : (Jvm.Cond.code ({ cls := "com/example/prefixleap/prefixleap/core/PrefixTableOfPinLaw", name := "letter", desc := "(IIIII)B" } : Jvm.MethodName) method_2_code (6 : Nat) (Option.some Jvm.ClassFile.FieldType.byte)).before args0 about1 = true := code_word (m := ⟨1, 1⟩) (meth := k1m1) (c := k1c1) (by decide +kernel) rfl rfl rfl (by decide +kernel)
set_option maxRecDepth 65536 in
theorem w_c2 : (Jvm.Cond.code ({ cls := "com/example/prefixleap/prefixleap/core/PrefixTable", name := "of", desc := "([B)[I" } : Jvm.MethodName) prog_12_method_2_code (1 : Nat) (Option.some (Jvm.ClassFile.FieldType.array Jvm.ClassFile.FieldType.int))).before args0 about1 = true := code_word (m := ⟨2, 1⟩) (meth := k2m1) (c := k2c1) (by decide +kernel) rfl rfl rfl (by decide +kernel)
set_option maxRecDepth 65536 in
theorem w_c3 : (Jvm.Cond.code ({ cls := "com/example/prefixleap/prefixleap/core/PrefixTable", name := "build", desc := "(ILcom/example/prefixleap/prefixleap/core/PrefixTable$SameUnit;)[I" } : Jvm.MethodName) prog_12_method_5_code (5 : Nat) (Option.some (Jvm.ClassFile.FieldType.array Jvm.ClassFile.FieldType.int))).before args0 about1 = true := code_word (m := ⟨2, 2⟩) (meth := k2m2) (c := k2c2) (by decide +kernel) rfl rfl rfl (by decide +kernel)
set_option maxRecDepth 65536 in
theorem w_c4 : (Jvm.Cond.code ({ cls := "com/example/prefixleap/prefixleap/core/PrefixTableOfPinLaw", name := "check", desc := "([I[B[BII)Z" } : Jvm.MethodName) method_5_code (5 : Nat) (Option.some Jvm.ClassFile.FieldType.boolean)).before args0 about1 = true := code_word (m := ⟨1, 4⟩) (meth := k1m4) (c := k1c4) (by decide +kernel) rfl rfl rfl (by decide +kernel)
set_option maxRecDepth 65536 in
theorem w_c5 : (Jvm.Cond.code ({ cls := "com/example/prefixleap/prefixleap/core/PrefixTable", name := "lambda$of$0", desc := "([BII)Z" } : Jvm.MethodName) prog_12_method_7_code (3 : Nat) (Option.some Jvm.ClassFile.FieldType.boolean)).before args0 about1 = true := code_word (m := ⟨2, 3⟩) (meth := k2m3) (c := k2c3) (by decide +kernel) rfl rfl rfl (by decide +kernel)
set_option maxRecDepth 65536 in
theorem w_c6 : (Jvm.Cond.code ({ cls := "com/example/prefixleap/prefixleap/core/PrefixTableOfPinLaw", name := "border", desc := "([BI)I" } : Jvm.MethodName) method_4_code (2 : Nat) (Option.some Jvm.ClassFile.FieldType.int)).before args0 about1 = true := code_word (m := ⟨1, 3⟩) (meth := k1m3) (c := k1c3) (by decide +kernel) rfl rfl rfl (by decide +kernel)
set_option maxRecDepth 65536 in
theorem w_c7 : (Jvm.Cond.code ({ cls := "com/example/prefixleap/prefixleap/core/PrefixTableOfPinLaw", name := "match", desc := "([BII)Z" } : Jvm.MethodName) method_3_code (3 : Nat) (Option.some Jvm.ClassFile.FieldType.boolean)).before args0 about1 = true := code_word (m := ⟨1, 2⟩) (meth := k1m2) (c := k1c2) (by decide +kernel) rfl rfl rfl (by decide +kernel)
def codes1 : List Jvm.Cond := [Jvm.Cond.code x code maxLocals ret, Jvm.Cond.code ({ cls := "com/example/prefixleap/prefixleap/core/PrefixTableOfPinLaw", name := "letter", desc := "(IIIII)B" } : Jvm.MethodName) method_2_code (6 : Nat) (Option.some Jvm.ClassFile.FieldType.byte), Jvm.Cond.code ({ cls := "com/example/prefixleap/prefixleap/core/PrefixTable", name := "of", desc := "([B)[I" } : Jvm.MethodName) prog_12_method_2_code (1 : Nat) (Option.some (Jvm.ClassFile.FieldType.array Jvm.ClassFile.FieldType.int)), Jvm.Cond.code ({ cls := "com/example/prefixleap/prefixleap/core/PrefixTable", name := "build", desc := "(ILcom/example/prefixleap/prefixleap/core/PrefixTable$SameUnit;)[I" } : Jvm.MethodName) prog_12_method_5_code (5 : Nat) (Option.some (Jvm.ClassFile.FieldType.array Jvm.ClassFile.FieldType.int)), Jvm.Cond.code ({ cls := "com/example/prefixleap/prefixleap/core/PrefixTableOfPinLaw", name := "check", desc := "([I[B[BII)Z" } : Jvm.MethodName) method_5_code (5 : Nat) (Option.some Jvm.ClassFile.FieldType.boolean), Jvm.Cond.code ({ cls := "com/example/prefixleap/prefixleap/core/PrefixTable", name := "lambda$of$0", desc := "([BII)Z" } : Jvm.MethodName) prog_12_method_7_code (3 : Nat) (Option.some Jvm.ClassFile.FieldType.boolean), Jvm.Cond.code ({ cls := "com/example/prefixleap/prefixleap/core/PrefixTableOfPinLaw", name := "border", desc := "([BI)I" } : Jvm.MethodName) method_4_code (2 : Nat) (Option.some Jvm.ClassFile.FieldType.int), Jvm.Cond.code ({ cls := "com/example/prefixleap/prefixleap/core/PrefixTableOfPinLaw", name := "match", desc := "([BII)Z" } : Jvm.MethodName) method_3_code (3 : Nat) (Option.some Jvm.ClassFile.FieldType.boolean)]
set_option maxRecDepth 65536 in
theorem codes_eq : words1.filter isCode = codes1 := rfl
theorem w_codes : ∀ c ∈ words1.filter isCode, c.before args0 about1 = true := by
  rw [codes_eq]
  intro c hc
  simp only [codes1, List.mem_cons, List.not_mem_nil, or_false] at hc
  rcases hc with rfl | rfl | rfl | rfl | rfl | rfl | rfl | rfl
  · exact w_c0
  · exact w_c1
  · exact w_c2
  · exact w_c3
  · exact w_c4
  · exact w_c5
  · exact w_c6
  · exact w_c7
set_option maxRecDepth 65536 in
theorem w_t1 : (words1.take 24).all (fun c => isCode c || c.before args0 about1) = true := by decide +kernel
set_option maxRecDepth 65536 in
theorem w_t2 : (words1.drop 24).all (fun c => isCode c || c.before args0 about1) = true := by decide +kernel
theorem w_tables : (allAtoms (Jvm.Cond.code x code maxLocals ret :: tables_1)).before args0 about1 = true := by
  rw [allAtoms_all]
  show words1.all (fun c => c.before args0 about1) = true
  refine all_split ?_ w_codes
  rw [← List.take_append_drop 24 words1, List.all_append, w_t1, w_t2]
  rfl
set_option maxRecDepth 65536 in
theorem w_case : (Jvm.Cond.and given_1 narrow_1).before args0 about1 = true := by decide +kernel
theorem w_applies : (headSpec (Jvm.Cond.code x code maxLocals ret :: tables_1) room_1).applies x e0.platform about1 = true :=
  (Spec.applies_iff w_frames).mpr ⟨w_running, w_runnable, w_alone, w_named, w_hears, w_ripe, w_room, w_tables⟩
theorem atStart : AtStart classFile x code maxLocals ret World_1 tables_1 room_1 Calls_1 rest_1 Pre_1 launch0 p0 e0 about1 theMethod args0 below0 :=
  ⟨lists_1, trivial, launch0.admits_env _ _ _, launch0.least_env, fairChoices_fair.cas, fairChoices_fair.clock, w_frames, w_args, w_heap, w_applies, trivial, trivial, w_case⟩
end start1
theorem witness_1 : WitnessClaimed_1 := ⟨start1.p0, start1.e0, start1.about1, start1.theMethod, start1.args0, start1.below0, start1.atStart⟩
end Jvm.Pilot.@@N@@
