import JvmDerived
import JvmDerived.Pilot.@@N@@Statement
import JvmDerived.Pilot.@@N@@Code
set_option linter.unusedVariables false
set_option linter.unusedSimpArgs false
namespace Jvm.Pilot.@@N@@
open Jvm Jvm.ClassFile Sem Op Lib Jvm.Free Jvm.Stand Jvm.LawKit Jvm.RoadKit Bundle Jvm.Pilot.@@N@@.Jvm.D
section OwnLayer
variable {p : Program} {l : Launch} {e : Env} {R : Room} {s : State} {m : MethodId} {args : Array Value} {below : List Frame} {meth : Method} {c : Code} {T : State} {locs : List Loc} {cells slots : Nat} {Z : State} {a0 : Array Value} {h : Heap}
/-- from here the body comes to its return, and Q holds of what it returns, of the heap and of the places written -/
def own_Ends (p : Program) (e : Env) (s : State) (below : List Frame) (C S : Nat) (Q : Option Value → Heap → List Loc → Prop) (T : State) (g : JFrame) : Prop :=
  ∃ s₂ o, Steps p.tables e below (T.setTop g) s₂ ∧ s₂.status = .running ∧ Ended s₂ below o ∧ ∃ v L, o = .returned v ∧ Q v s₂.heap L ∧ FrameEnd s o s₂ L C S
theorem own_go {C S : Nat} {Q : Option Value → Heap → List Loc → Prop} {T' : State} {g g' : JFrame} (st : ∀ t, Steps p.tables e below (T'.setTop g') t → Steps p.tables e below (T.setTop g) t) (k : own_Ends p e s below C S Q T' g') : own_Ends p e s below C S Q T g := by
  obtain ⟨s₂, o, h, r⟩ := k
  exact ⟨s₂, o, st _ h, r⟩
theorem own_cast {C S : Nat} {Q : Option Value → Heap → List Loc → Prop} {g g' : JFrame} (q : g = g') (k : own_Ends p e s below C S Q T g') : own_Ends p e s below C S Q T g := q ▸ k
/-- a body's contract -/
def own_C (l : Launch) (y : MethodName) (bytes : ByteArray) (maxL : Nat) (ret : Option FieldType) (rm : Room) (Z : State) (A : Array Value) (h : Heap) (Q : Option Value → Heap → List Loc → Prop) : Prop :=
  ∀ ws : List Jvm.Cond, MetFree l y (head1 (Jvm.Cond.code y bytes maxL ret :: ws) rm) (fun a U => a = A ∧ Z.Warmed39 U.vm ∧ U.heap = h) (fun _ _ _ _ _ => True) (fun _ U o U' => ∃ v L, o = .returned v ∧ Q v U'.heap L ∧ FrameEnd U o U' L rm.cells rm.slots)
theorem own_enter {y : MethodName} {bytes : ByteArray} {maxL : Nat} {ret : Option FieldType} {rm : Room} {A : Array Value} {Q : Option Value → Heap → List Loc → Prop} (hp : plainFor y = true)
    (body : ∀ (p : Program) (e : Env) (s : State) (m : MethodId) (below : List Frame) (meth : Method) (c : Code) (s₁ : State), Stand p l e rm s m A below meth c s₁ [] 0 0 → p.tables.exec = Jvm.exec → c.code = bytes → c.maxLocals = maxL → s.vm.findClass y.cls = some m.cls → meth.name = y.name → meth.sig.returnType = ret → meth.locks = false → Z.Warmed39 s.vm → s₁.heap = h →
      own_Ends p e s below rm.cells rm.slots Q s₁ (entryFrame m A maxL)) : own_C l y bytes maxL ret rm Z A h Q := by
  intro ws
  refine MetFree.of_bodySF hp hisR ?_
  intro p e s m args below meth c s₁ Bd hml hP hK
  obtain ⟨rfl, hZ, hh⟩ := hP
  exact body p e s m below meth c s₁ (Stand.of_body Bd) Bd.exec Bd.bytes hml (findClass_of_methodNamed Bd.named) (name_of_methodNamed Bd.named Bd.method).1 Bd.returns Bd.notSynchronized hZ (by rw [← hh, Bd.state]; rfl)
theorem own_ret (X : Stand p l e R s m args below meth c T locs cells slots) (hx : p.tables.exec = Jvm.exec) (hlk : meth.locks = false) {Q : Option Value → Heap → List Loc → Prop} {C S pc : Nat} {Ls : Array Slot} {w : Value} {t : FieldType} {i : Instr} {rest : List Value} (hret : meth.sig.returnType = some t) (hn : narrow t w = w)
    (hi : (i = .ireturn ∧ (t = .int ∨ t = .boolean ∨ t = .byte ∨ t = .char ∨ t = .short) ∧ ∃ z, w = .int z) ∨ (i = .lreturn ∧ t = .long ∧ ∃ z, w = .long z) ∨ (i = .dreturn ∧ t = .double ∧ ∃ z, w = .double z) ∨ (i = .freturn ∧ t = .float ∧ ∃ z, w = .float z) ∨ (i = .areturn ∧ t.isReference = true ∧ w.isRef = true))
    (hd : decode c.code pc = .ok (i, 1)) (hc : cells ≤ C) (hs : slots ≤ S) (hq : Q (some w) T.heap locs) : own_Ends p e s below C S Q T (mkF m pc Ls (w :: rest)) := by
  obtain ⟨fs, hr, hrun, hended, hW, hsame⟩ := X.leave (v := some w) (fun h => by rw [hret] at h; cases h) hlk
  exact ⟨_, _, retOut X hx hret hn hi hd hr, hrun, hended, _, _, rfl, hq, ⟨_, rfl⟩, hW, hsame.mono hc hs⟩
theorem own_retI (X : Stand p l e R s m args below meth c T locs cells slots) (hx : p.tables.exec = Jvm.exec) (hlk : meth.locks = false) {Q : Option Value → Heap → List Loc → Prop} {C S pc : Nat} {Ls : Array Slot} {z : Int32} {rest : List Value} (hret : meth.sig.returnType = some .int)
    (hd : decode c.code pc = .ok (.ireturn, 1)) (hc : cells ≤ C) (hs : slots ≤ S) (hq : Q (some (.int z)) T.heap locs) : own_Ends p e s below C S Q T (mkF m pc Ls (.int z :: rest)) :=
  own_ret X hx hlk hret rfl (Or.inl ⟨rfl, Or.inl rfl, z, rfl⟩) hd hc hs hq
theorem own_retZ (X : Stand p l e R s m args below meth c T locs cells slots) (hx : p.tables.exec = Jvm.exec) (hlk : meth.locks = false) {Q : Option Value → Heap → List Loc → Prop} {C S pc : Nat} {Ls : Array Slot} {z : Int32} {rest : List Value} (hret : meth.sig.returnType = some .boolean) (hz : z = 0 ∨ z = 1)
    (hd : decode c.code pc = .ok (.ireturn, 1)) (hc : cells ≤ C) (hs : slots ≤ S) (hq : Q (some (.int z)) T.heap locs) : own_Ends p e s below C S Q T (mkF m pc Ls (.int z :: rest)) :=
  own_ret X hx hlk hret (by rcases hz with rfl | rfl <;> rfl) (Or.inl ⟨rfl, Or.inr (Or.inl rfl), z, rfl⟩) hd hc hs hq
theorem own_retJ (X : Stand p l e R s m args below meth c T locs cells slots) (hx : p.tables.exec = Jvm.exec) (hlk : meth.locks = false) {Q : Option Value → Heap → List Loc → Prop} {C S pc : Nat} {Ls : Array Slot} {z : Int64} {rest : List Value} (hret : meth.sig.returnType = some .long)
    (hd : decode c.code pc = .ok (.lreturn, 1)) (hc : cells ≤ C) (hs : slots ≤ S) (hq : Q (some (.long z)) T.heap locs) : own_Ends p e s below C S Q T (mkF m pc Ls (.long z :: rest)) :=
  own_ret X hx hlk hret rfl (Or.inr (Or.inl ⟨rfl, rfl, z, rfl⟩)) hd hc hs hq
theorem own_retR (X : Stand p l e R s m args below meth c T locs cells slots) (hx : p.tables.exec = Jvm.exec) (hlk : meth.locks = false) {Q : Option Value → Heap → List Loc → Prop} {C S pc : Nat} {Ls : Array Slot} {w : Value} {t : FieldType} {rest : List Value} (hret : meth.sig.returnType = some t) (ht : t.isReference = true) (hn : narrow t w = w) (hw : w.isRef = true)
    (hd : decode c.code pc = .ok (.areturn, 1)) (hc : cells ≤ C) (hs : slots ≤ S) (hq : Q (some w) T.heap locs) : own_Ends p e s below C S Q T (mkF m pc Ls (w :: rest)) :=
  own_ret X hx hlk hret hn (Or.inr (Or.inr (Or.inr (Or.inr ⟨rfl, ht, hw⟩)))) hd hc hs hq
theorem own_retV (X : Stand p l e R s m args below meth c T locs cells slots) (hx : p.tables.exec = Jvm.exec) (hlk : meth.locks = false) {Q : Option Value → Heap → List Loc → Prop} {C S pc : Nat} {Ls : Array Slot} (hret : meth.sig.returnType = none)
    (hd : decode c.code pc = .ok (.return_, 1)) (hc : cells ≤ C) (hs : slots ≤ S) (hq : Q none T.heap locs) : own_Ends p e s below C S Q T (mkF m pc Ls []) := by
  obtain ⟨fs, hr, hrun, hended, hW, hsame⟩ := X.leave (v := none) (fun _ => rfl) hlk
  exact ⟨_, _, X.returnOut hx hret hd hr, hrun, hended, _, _, rfl, hq, ⟨_, rfl⟩, hW, hsame.mono hc hs⟩
theorem own_callS (X : Stand p l e R s m args below meth c T locs cells slots) (hx : p.tables.exec = Jvm.exec) (hZ : Z.Warmed39 s.vm) {own : String} {index : Nat} {y : MethodName} {bytes : ByteArray} {maxL W : Nat} {ret : Option FieldType} {rm : Room} {A : Array Value} {Q : Option Value → Heap → List Loc → Prop}
    (hown : s.vm.findClass own = some m.cls) (wl : (Cond.methodLink own index y).before a0 Z = true) (ws : (Cond.static y).before a0 Z = true) (wz : (Cond.initialized y.cls).before a0 Z = true) (wc : (Cond.code y bytes maxL ret).before a0 Z = true)
    (hM : own_C l y bytes maxL ret rm Z A h Q) (eT : T.heap = h) {g : JFrame} (hg : g.method = m) (hsize : g.locals.size = c.maxLocals) {argsL rest : List Value} (hlen : ∀ sig, parseMethodDescriptor y.desc = some sig → argsL.length = sig.parameters.length) (hstack : g.stack = argsL.reverse ++ rest) (hA : argsL.toArray = A)
    (hW : 2 * g.monitorRoom + (rest.map fun v => v.category).sum ≤ W) (hd : decode c.code g.pc = .ok (.invokestatic index, 3)) (hy : y.cls ≠ "java/lang/invoke/MethodHandle" ∧ y.cls ≠ "java/lang/invoke/VarHandle")
    (hf : rm.frames + 1 ≤ R.frames) (hl : W + (maxL + 11) + rm.locals ≤ R.locals) (hc : cells + rm.cells ≤ R.cells) (hs : slots + rm.slots ≤ R.slots) :
    ∃ v T' L, Stand p l e R s m args below meth c T' (locs ++ L) (cells + rm.cells) (slots + rm.slots) ∧ Q v T'.heap L ∧ ∀ target, Steps p.tables e below (T'.setTop { g with pc := g.pc + 3, stack := v.toList ++ rest }) target → Steps p.tables e below (T.setTop g) target := by
  obtain ⟨v, vm₁, ⟨T', L', k', n'⟩, -, X', ⟨L, hQ, l1, l2, l3⟩, st⟩ := Jvm.LawKit.callS X hx hown (mvT hZ wl) (mvT hZ ws) (mvT hZ wz) (mvT hZ wc) hy (backOf (W := W) (hM []) hZ wc wz hf hl) hg hsize hlen hstack hW hd (fun _ _ => ⟨hA, eT, hc, hs⟩)
  dsimp only [Pt.U, Pt.locs, Pt.cells, Pt.slots] at X' l1 l2 l3 st hQ
  subst l1 l2 l3
  exact ⟨v, T', L, X', hQ, st⟩
theorem own_callI (X : Stand p l e R s m args below meth c T locs cells slots) (hx : p.tables.exec = Jvm.exec) (hZ : Z.Warmed39 s.vm) {own : String} {index : Nat} {y : MethodName} {bytes : ByteArray} {maxL W : Nat} {rm : Room} {A : Array Value} {Q : Option Value → Heap → List Loc → Prop}
    (hown : s.vm.findClass own = some m.cls) (hy1 : y.name = "<init>") (wl : (Cond.methodLink own index y).before a0 Z = true) (ws : (Cond.instanceMethod y).before a0 Z = true) (wz : (Cond.initialized y.cls).before a0 Z = true) (wc : (Cond.code y bytes maxL none).before a0 Z = true)
    (hM : own_C l y bytes maxL none rm Z A h Q) (eT : T.heap = h) {g : JFrame} (hg : g.method = m) (hsize : g.locals.size = c.maxLocals) {a : Addr} {argsL rest : List Value} (hlen : ∀ sig, parseMethodDescriptor y.desc = some sig → argsL.length = sig.parameters.length) (hstack : g.stack = argsL.reverse ++ .ref a :: rest) (hA : (.ref a :: argsL).toArray = A)
    (hW : 2 * g.monitorRoom + (rest.map fun v => v.category).sum ≤ W) (hd : decode c.code g.pc = .ok (.invokespecial index, 3)) (hy : y.cls ≠ "java/lang/invoke/MethodHandle" ∧ y.cls ≠ "java/lang/invoke/VarHandle")
    (hf : rm.frames + 1 ≤ R.frames) (hl : W + (maxL + 11) + rm.locals ≤ R.locals) (hc : cells + rm.cells ≤ R.cells) (hs : slots + rm.slots ≤ R.slots) :
    ∃ v T' L, Stand p l e R s m args below meth c T' (locs ++ L) (cells + rm.cells) (slots + rm.slots) ∧ Q v T'.heap L ∧ ∀ target, Steps p.tables e below (T'.setTop { g with pc := g.pc + 3, stack := v.toList ++ rest }) target → Steps p.tables e below (T.setTop g) target := by
  obtain ⟨v, vm₁, ⟨T', L', k', n'⟩, -, X', ⟨L, hQ, l1, l2, l3⟩, st⟩ := X.specialBack hx hy1 hown (mvT hZ wl) (mvT hZ ws) (mvT hZ wc) hy (backOf (W := W) (hM []) hZ wc wz hf hl) hg hsize (Steps.refl _) hlen hstack hW hd (fun _ _ => ⟨hA, eT, hc, hs⟩)
  dsimp only [Pt.U, Pt.locs, Pt.cells, Pt.slots] at X' l1 l2 l3 st hQ
  subst l1 l2 l3
  exact ⟨v, T', L, X', hQ, fun _ k => st.trans k⟩
theorem own_callV (X : Stand p l e R s m args below meth c T locs cells slots) (hx : p.tables.exec = Jvm.exec) (hZ : Z.Warmed39 s.vm) {own K : String} {index : Nat} {y : MethodName} {bytes : ByteArray} {maxL W : Nat} {ret : Option FieldType} {rm : Room} {A : Array Value} {Q : Option Value → Heap → List Loc → Prop}
    (hown : s.vm.findClass own = some m.cls) (wl : (Cond.methodLink own index y).before a0 Z = true) (wd : (Cond.declares y).before a0 Z = true) (wsel : (Cond.selects K y y).before a0 Z = true) (ws : (Cond.instanceMethod y).before a0 Z = true) (wz : (Cond.initialized y.cls).before a0 Z = true) (wc : (Cond.code y bytes maxL ret).before a0 Z = true)
    (hM : own_C l y bytes maxL ret rm Z A h Q) (eT : T.heap = h) {g : JFrame} (hg : g.method = m) (hsize : g.locals.size = c.maxLocals) {a : Addr} {argsL rest : List Value} (hE : Exa Z h a K) (hlen : ∀ sig, parseMethodDescriptor y.desc = some sig → argsL.length = sig.parameters.length) (hstack : g.stack = argsL.reverse ++ .ref a :: rest) (hA : (.ref a :: argsL).toArray = A)
    (hW : 2 * g.monitorRoom + (rest.map fun v => v.category).sum ≤ W) (hd : decode c.code g.pc = .ok (.invokevirtual index, 3)) (hy : y.cls ≠ "java/lang/invoke/MethodHandle" ∧ y.cls ≠ "java/lang/invoke/VarHandle")
    (hf : rm.frames + 1 ≤ R.frames) (hl : W + (maxL + 11) + rm.locals ≤ R.locals) (hc : cells + rm.cells ≤ R.cells) (hs : slots + rm.slots ≤ R.slots) :
    ∃ v T' L, Stand p l e R s m args below meth c T' (locs ++ L) (cells + rm.cells) (slots + rm.slots) ∧ Q v T'.heap L ∧ ∀ target, Steps p.tables e below (T'.setTop { g with pc := g.pc + 3, stack := v.toList ++ rest }) target → Steps p.tables e below (T.setTop g) target := by
  obtain ⟨cq, kq, qa, qb, qc⟩ := isOf hZ eT hE
  obtain ⟨v, vm₁, ⟨T', L', k', n'⟩, -, X', ⟨L, hQ, l1, l2, l3⟩, st⟩ := X.virtualBack hx hown (mvT hZ wl) (mvT hZ wd) (notFace_of_selects (args := #[]) (mvT hZ wsel)) (mvT hZ wsel) (mvT hZ ws) hy (backOf (W := W) (hM []) hZ wc wz hf hl) qa qc hg hsize (Steps.refl _) hlen hstack hW hd (fun _ _ => ⟨hA, eT, hc, hs⟩)
  dsimp only [Pt.U, Pt.locs, Pt.cells, Pt.slots] at X' l1 l2 l3 st hQ
  subst l1 l2 l3
  exact ⟨v, T', L, X', hQ, fun _ k => st.trans k⟩
theorem own_callP (X : Stand p l e R s m args below meth c T locs cells slots) (hx : p.tables.exec = Jvm.exec) (hZ : Z.Warmed39 s.vm) {own K : String} {index kk : Nat} {y : MethodName} {bytes : ByteArray} {maxL W : Nat} {ret : Option FieldType} {rm : Room} {A : Array Value} {Q : Option Value → Heap → List Loc → Prop}
    (hown : s.vm.findClass own = some m.cls) (wl : (Cond.methodLink own index y).before a0 Z = true) (wp : (Cond.privateMethod y).before a0 Z = true) (wi : (Cond.instantiable y.cls kk).before a0 Z = true) (ws : (Cond.instanceMethod y).before a0 Z = true) (wz : (Cond.initialized y.cls).before a0 Z = true) (wc : (Cond.code y bytes maxL ret).before a0 Z = true)
    (hM : own_C l y bytes maxL ret rm Z A h Q) (eT : T.heap = h) {g : JFrame} (hg : g.method = m) (hsize : g.locals.size = c.maxLocals) {a : Addr} {argsL rest : List Value} (hE : Exa Z h a K) (hlen : ∀ sig, parseMethodDescriptor y.desc = some sig → argsL.length = sig.parameters.length) (hstack : g.stack = argsL.reverse ++ .ref a :: rest) (hA : (.ref a :: argsL).toArray = A)
    (hW : 2 * g.monitorRoom + (rest.map fun v => v.category).sum ≤ W) (hd : decode c.code g.pc = .ok (.invokevirtual index, 3)) (hy : y.cls ≠ "java/lang/invoke/MethodHandle" ∧ y.cls ≠ "java/lang/invoke/VarHandle")
    (hf : rm.frames + 1 ≤ R.frames) (hl : W + (maxL + 11) + rm.locals ≤ R.locals) (hc : cells + rm.cells ≤ R.cells) (hs : slots + rm.slots ≤ R.slots) :
    ∃ v T' L, Stand p l e R s m args below meth c T' (locs ++ L) (cells + rm.cells) (slots + rm.slots) ∧ Q v T'.heap L ∧ ∀ target, Steps p.tables e below (T'.setTop { g with pc := g.pc + 3, stack := v.toList ++ rest }) target → Steps p.tables e below (T.setTop g) target := by
  obtain ⟨cq, q1, q2⟩ := hE.cell
  have hpriv : s.PrivateAt y := Cond.privateMethod_at (mvP hZ wp (args := #[]))
  obtain ⟨cc, kc, i1, i2, -, i4, -⟩ := Cond.instantiable_spec (mvT (args := #[]) hZ wi)
  have hni : kc.isInterface = false := (Bool.or_eq_false_iff.mp i4).1
  have hsel : (Cond.selects y.cls y y).before args s = true := selects_self_of_private i1 i2 hni hpriv (mvT hZ ws) hy
  obtain ⟨v, vm₁, ⟨T', L', k', n'⟩, -, X', ⟨L, hQ, l1, l2, l3⟩, st⟩ := X.privateBack hx hown (mvT hZ wl) (mvT hZ ws) hsel hpriv (mvT hZ wc) hy (backOf (W := W) (hM []) hZ wc wz hf hl) hg hsize (Steps.refl _) (by rw [eT]; exact q1) q2 hlen hstack hW hd (fun _ _ => ⟨hA, eT, hc, hs⟩)
  dsimp only [Pt.U, Pt.locs, Pt.cells, Pt.slots] at X' l1 l2 l3 st hQ
  subst l1 l2 l3
  exact ⟨v, T', L, X', hQ, fun _ k => st.trans k⟩
end OwnLayer
theorem own_lct {x y : Int64} (q : x < y) : ifCond.holds .lt (lcmpW x y) = true ∧ ifCond.holds .ge (lcmpW x y) = false := by
  have r := (lw_lt x y).mpr q
  exact ⟨(if0 _ _).trans (tlt r).1, (if0 _ _).trans (tlt r).2.1⟩
theorem own_lcf {x y : Int64} (q : ¬ x < y) : ifCond.holds .lt (lcmpW x y) = false ∧ ifCond.holds .ge (lcmpW x y) = true := by
  have r : ¬ lcmpW x y < 0 := fun z => q ((lw_lt x y).mp z)
  exact ⟨(if0 _ _).trans (flt r).1, (if0 _ _).trans (flt r).2.1⟩
theorem own_lgt {x y : Int64} (q : y < x) : ifCond.holds .gt (lcmpW x y) = true ∧ ifCond.holds .le (lcmpW x y) = false := by
  have r := (lw_gt x y).mpr q
  exact ⟨(if0 _ _).trans (tlt r).2.2.1, (if0 _ _).trans (tlt r).2.2.2⟩
theorem own_lgf {x y : Int64} (q : ¬ y < x) : ifCond.holds .gt (lcmpW x y) = false ∧ ifCond.holds .le (lcmpW x y) = true := by
  have r : ¬ 0 < lcmpW x y := fun z => q ((lw_gt x y).mp z)
  exact ⟨(if0 _ _).trans (flt r).2.2.1, (if0 _ _).trans (flt r).2.2.2⟩
theorem own_let {x y : Int64} (q : x = y) : ifCond.holds .eq (lcmpW x y) = true ∧ ifCond.holds .ne (lcmpW x y) = false := by
  have r := (lw_eq x y).mpr q
  exact ⟨(if0 _ _).trans (teq r).1, (if0 _ _).trans (teq r).2⟩
theorem own_lef {x y : Int64} (q : ¬ x = y) : ifCond.holds .eq (lcmpW x y) = false ∧ ifCond.holds .ne (lcmpW x y) = true := by
  have r : ¬ lcmpW x y = 0 := fun z => q ((lw_eq x y).mp z)
  exact ⟨(if0 _ _).trans (feq r).1, (if0 _ _).trans (feq r).2⟩
section OwnArrays
variable {p : Program} {l : Launch} {e : Env} {R : Room} {s : State} {m : MethodId} {args : Array Value} {below : List Frame} {meth : Method} {c : Code} {T : State} {locs : List Loc} {cells slots : Nat} {Z : State} {a0 : Array Value} {h h' : Heap} {a b : Addr} {k : ClassId} {ty : FieldType} {n i sl : Nat} {f : Nat → Value} {v : Value} {ws : List Addr}
/-- an array by its length and what each place holds -/
def own_Ar (Z : State) (h : Heap) (a : Addr) (k : ClassId) (ty : FieldType) (n : Nat) (f : Nat → Value) : Prop := ∃ c : Cell, Arr Z h a c ty ∧ c.cls = k ∧ c.slots.size = n ∧ n < 2 ^ 31 ∧ ∀ i, i < n → c.slots[i]? = some (f i)
theorem own_Ar.lt (F : own_Ar Z h a k ty n f) : a < h.size := by obtain ⟨c, A, -⟩ := F; exact A.lt
theorem own_Ar.ext (F : own_Ar Z h a k ty n f) (E : Ext h h') : own_Ar Z h' a k ty n f := by obtain ⟨c, A, r⟩ := F; exact ⟨c, A.ext E, r⟩
theorem own_Ar.other (F : own_Ar Z h a k ty n f) (W : Wr h h' b sl v) (q : a ≠ b) : own_Ar Z h' a k ty n f := by obtain ⟨c, A, r⟩ := F; exact ⟨c, A.other W q, r⟩
theorem own_Ar.keep (F : own_Ar Z h a k ty n f) (K : Keep h h' ws) (q : a ∉ ws) : own_Ar Z h' a k ty n f := by obtain ⟨c, A, r⟩ := F; exact ⟨c, ⟨K.2.1 a c A.1 q, A.2⟩, r⟩
theorem own_Ar.cong (F : own_Ar Z h a k ty n f) {g : Nat → Value} (q : ∀ i, i < n → f i = g i) : own_Ar Z h a k ty n g := by
  obtain ⟨c, A, r1, r2, r3, r4⟩ := F
  exact ⟨c, A, r1, r2, r3, fun i hi => by rw [r4 i hi, q i hi]⟩
theorem own_Ar.set (F : own_Ar Z h a k ty n f) (W : Wr h h' a i v) : own_Ar Z h' a k ty n (fun j => if j = i then v else f j) := by
  obtain ⟨c, A, r1, r2, r3, r4⟩ := F
  refine ⟨c.setSlot i v, A.same W, r1, by rw [sz_set]; exact r2, r3, fun j hj => ?_⟩
  show _ = some (if j = i then v else f j)
  by_cases q : j = i
  · subst q
    rw [if_pos rfl]
    show (c.slots.setIfInBounds j v)[j]? = some v
    simp [r2, hj]
  · rw [if_neg q]
    show (c.slots.setIfInBounds i v)[j]? = some (f j)
    rw [Array.getElem?_setIfInBounds_ne (fun z => q z.symm)]
    exact r4 j hj
theorem own_in {c : Cell} {j : Int32} (hj : ¬ j < 0) (hi : j.toNatClampNeg = i) (r : c.slots.size = n) (hn : i < n) : ¬ (j < 0 ∨ c.slots.size ≤ j.toNatClampNeg) := by
  rintro (q | q)
  · exact hj q
  · rw [hi, r] at q; exact absurd hn (Nat.not_lt.mpr q)
theorem own_len (X : Stand p l e R s m args below meth c T locs cells slots) (hx : p.tables.exec = Jvm.exec) (hZ : Z.Warmed39 s.vm) (eT : T.heap = h) (F : own_Ar Z h a k ty n f) {z : Int32} (hz : Int32.ofNat n = z) {g : JFrame} (hg : g.method = m) {rest : List Value} (hs : g.stack = .ref a :: rest) (hd : decode c.code g.pc = .ok (.arraylength, 1)) (target : State)
    (kt : Steps p.tables e below (T.setTop { g with pc := g.pc + 1, stack := .int z :: rest }) target) : Steps p.tables e below (T.setTop g) target := by
  obtain ⟨cl, A, -, r2, r3, -⟩ := F
  refine X.arraylength hx (by rw [eT]; exact A.1) (State.isArrayOf_alike hZ.alike A.2.1) hg hs hd _ ?_
  have q : cl.slots.size.toInt32 = z := by rw [r2]; exact hz
  rw [q]; exact kt
theorem own_ldI (X : Stand p l e R s m args below meth c T locs cells slots) (hx : p.tables.exec = Jvm.exec) (hZ : Z.Warmed39 s.vm) (eT : T.heap = h) (F : own_Ar Z h a k .int n f) {j : Int32} (hj : ¬ j < 0) (hi : j.toNatClampNeg = i) (hn : i < n) (hv : f i = v) {g : JFrame} (hg : g.method = m) {rest : List Value} (hs : g.stack = .int j :: .ref a :: rest) (hd : decode c.code g.pc = .ok (.iaload, 1)) (target : State)
    (kt : Steps p.tables e below (T.setTop { g with pc := g.pc + 1, stack := v :: rest }) target) : Steps p.tables e below (T.setTop g) target := by
  obtain ⟨cl, A, -, r2, r3, r4⟩ := F
  exact X.iaload hx (by rw [eT]; exact A.1) (State.isArrayOf_alike hZ.alike A.2.1) A.2.2 (own_in hj hi r2 hn) (by rw [hi, r4 i hn, hv]) hg hs hd _ kt
theorem own_ldJ (X : Stand p l e R s m args below meth c T locs cells slots) (hx : p.tables.exec = Jvm.exec) (hZ : Z.Warmed39 s.vm) (eT : T.heap = h) (F : own_Ar Z h a k .long n f) {j : Int32} (hj : ¬ j < 0) (hi : j.toNatClampNeg = i) (hn : i < n) (hv : f i = v) {g : JFrame} (hg : g.method = m) {rest : List Value} (hs : g.stack = .int j :: .ref a :: rest) (hd : decode c.code g.pc = .ok (.laload, 1)) (target : State)
    (kt : Steps p.tables e below (T.setTop { g with pc := g.pc + 1, stack := v :: rest }) target) : Steps p.tables e below (T.setTop g) target := by
  obtain ⟨cl, A, -, r2, r3, r4⟩ := F
  exact X.laload hx (by rw [eT]; exact A.1) (State.isArrayOf_alike hZ.alike A.2.1) A.2.2 (own_in hj hi r2 hn) (by rw [hi, r4 i hn, hv]) hg hs hd _ kt
theorem own_ldC (X : Stand p l e R s m args below meth c T locs cells slots) (hx : p.tables.exec = Jvm.exec) (hZ : Z.Warmed39 s.vm) (eT : T.heap = h) (F : own_Ar Z h a k .char n f) {j : Int32} (hj : ¬ j < 0) (hi : j.toNatClampNeg = i) (hn : i < n) (hv : f i = v) {g : JFrame} (hg : g.method = m) {rest : List Value} (hs : g.stack = .int j :: .ref a :: rest) (hd : decode c.code g.pc = .ok (.caload, 1)) (target : State)
    (kt : Steps p.tables e below (T.setTop { g with pc := g.pc + 1, stack := v :: rest }) target) : Steps p.tables e below (T.setTop g) target := by
  obtain ⟨cl, A, -, r2, r3, r4⟩ := F
  exact X.caload hx (by rw [eT]; exact A.1) (State.isArrayOf_alike hZ.alike A.2.1) A.2.2 (own_in hj hi r2 hn) (by rw [hi, r4 i hn, hv]) hg hs hd _ kt
theorem own_ldB (X : Stand p l e R s m args below meth c T locs cells slots) (hx : p.tables.exec = Jvm.exec) (hZ : Z.Warmed39 s.vm) (eT : T.heap = h) (F : own_Ar Z h a k .byte n f) {j : Int32} (hj : ¬ j < 0) (hi : j.toNatClampNeg = i) (hn : i < n) (hv : f i = v) {g : JFrame} (hg : g.method = m) {rest : List Value} (hs : g.stack = .int j :: .ref a :: rest) (hd : decode c.code g.pc = .ok (.baload, 1)) (target : State)
    (kt : Steps p.tables e below (T.setTop { g with pc := g.pc + 1, stack := v :: rest }) target) : Steps p.tables e below (T.setTop g) target := by
  obtain ⟨cl, A, -, r2, r3, r4⟩ := F
  exact X.baloadBytes hx (by rw [eT]; exact A.1) (State.isArrayOf_alike hZ.alike A.2.1) A.2.2 (own_in hj hi r2 hn) (by rw [hi, r4 i hn, hv]) hg hs hd _ kt
theorem own_ldZ (X : Stand p l e R s m args below meth c T locs cells slots) (hx : p.tables.exec = Jvm.exec) (hZ : Z.Warmed39 s.vm) (eT : T.heap = h) (F : own_Ar Z h a k .boolean n f) {j : Int32} (hj : ¬ j < 0) (hi : j.toNatClampNeg = i) (hn : i < n) (hv : f i = v) {g : JFrame} (hg : g.method = m) {rest : List Value} (hs : g.stack = .int j :: .ref a :: rest) (hd : decode c.code g.pc = .ok (.baload, 1)) (target : State)
    (kt : Steps p.tables e below (T.setTop { g with pc := g.pc + 1, stack := v :: rest }) target) : Steps p.tables e below (T.setTop g) target := by
  obtain ⟨cl, A, -, r2, r3, r4⟩ := F
  exact X.baloadBooleans hx (by rw [eT]; exact A.1) (State.isArrayOf_alike hZ.alike A.2.1) A.2.2 (own_in hj hi r2 hn) (by rw [hi, r4 i hn, hv]) hg hs hd _ kt
theorem own_ldR (X : Stand p l e R s m args below meth c T locs cells slots) (hx : p.tables.exec = Jvm.exec) (hZ : Z.Warmed39 s.vm) (eT : T.heap = h) (F : own_Ar Z h a k ty n f) (ht : ty.isReference = true) {j : Int32} (hj : ¬ j < 0) (hi : j.toNatClampNeg = i) (hn : i < n) (hv : f i = v) {g : JFrame} (hg : g.method = m) {rest : List Value} (hs : g.stack = .int j :: .ref a :: rest) (hd : decode c.code g.pc = .ok (.aaload, 1)) (target : State)
    (kt : Steps p.tables e below (T.setTop { g with pc := g.pc + 1, stack := v :: rest }) target) : Steps p.tables e below (T.setTop g) target := by
  obtain ⟨cl, A, -, r2, r3, r4⟩ := F
  exact X.aaload hx (by rw [eT]; exact A.1) (State.isArrayOf_alike hZ.alike A.2.1) ht A.2.2 (own_in hj hi r2 hn) (by rw [hi, r4 i hn, hv]) hg hs hd _ kt
theorem own_newP (X : Stand p l e R s m args below meth c T locs cells slots) (hx : p.tables.exec = Jvm.exec) (hZ : Z.Warmed39 s.vm) {aty : ArrayType} (w : (Cond.arrayClass (newarray.typeOf aty)).before a0 Z = true) (eT : T.heap = h) {g : JFrame} (hg : g.method = m) (hd : decode c.code g.pc = .ok (.newarray aty, 2)) {z : Int32} {rest : List Value} (hs : g.stack = .int z :: rest)
    (hz : ¬ z < 0) (hzn : z.toNatClampNeg = n) {cap : Nat} (hcap : n ≤ cap) (hb : cap * 8 ≤ 536870912) (hc : cells + 1 ≤ R.cells) (hl : slots + cap ≤ R.slots) :
    ∃ T' h' k, Stand p l e R s m args below meth c T' locs (cells + 1) (slots + cap) ∧ T'.heap = h' ∧ Ext h h' ∧ own_Ar Z h' h.size k (newarray.typeOf aty) n (fun _ => defaultValue (newarray.typeOf aty)) ∧
      ∀ target, Steps p.tables e below (T'.setTop { g with pc := g.pc + 2, stack := .ref h.size :: rest }) target → Steps p.tables e below (T.setTop g) target := by
  obtain ⟨T', h', cA, X', e', E, A, st⟩ := newP X hx hZ w eT hg hd hs hz (cap := cap) (by rw [hzn]; exact hcap) hb hc hl
  refine ⟨T', h', cA, X', e', E, ⟨_, A, rfl, (sz_new _ _ _).trans hzn, by omega, fun i hi => ?_⟩, st⟩
  have hs : i < z.toNatClampNeg := by rw [hzn]; exact hi
  simp [newA, hs, defaultValue]
theorem own_stI (X : Stand p l e R s m args below meth c T locs cells slots) (hx : p.tables.exec = Jvm.exec) (hZ : Z.Warmed39 s.vm) (eT : T.heap = h) (F : own_Ar Z h a k .int n f) {j x : Int32} (hj : ¬ j < 0) (hi : j.toNatClampNeg = i) (hn : i < n) {g : JFrame} (hg : g.method = m) {rest : List Value} (hs : g.stack = .int x :: .int j :: .ref a :: rest) (hd : decode c.code g.pc = .ok (.iastore, 1)) :
    ∃ T' h', Stand p l e R s m args below meth c T' (locs ++ [⟨a, i⟩]) cells slots ∧ T'.heap = h' ∧ Wr h h' a i (.int x) ∧ own_Ar Z h' a k .int n (fun j => if j = i then .int x else f j) ∧ ∀ target, Steps p.tables e below (T'.setTop { g with pc := g.pc + 1, stack := rest }) target → Steps p.tables e below (T.setTop g) target := by
  obtain ⟨cl, A, r1, r2, r3, r4⟩ := F
  obtain ⟨T', h', X', e', W, st⟩ := stI X hx hZ eT A (own_in hj hi r2 hn) hg hs hd
  rw [hi] at X' W
  exact ⟨T', h', X', e', W, own_Ar.set ⟨cl, A, r1, r2, r3, r4⟩ W, st⟩
theorem own_stJ (X : Stand p l e R s m args below meth c T locs cells slots) (hx : p.tables.exec = Jvm.exec) (hZ : Z.Warmed39 s.vm) (eT : T.heap = h) (F : own_Ar Z h a k .long n f) {j : Int32} {x : Int64} (hj : ¬ j < 0) (hi : j.toNatClampNeg = i) (hn : i < n) {g : JFrame} (hg : g.method = m) {rest : List Value} (hs : g.stack = .long x :: .int j :: .ref a :: rest) (hd : decode c.code g.pc = .ok (.lastore, 1)) :
    ∃ T' h', Stand p l e R s m args below meth c T' (locs ++ [⟨a, i⟩]) cells slots ∧ T'.heap = h' ∧ Wr h h' a i (.long x) ∧ own_Ar Z h' a k .long n (fun j => if j = i then .long x else f j) ∧ ∀ target, Steps p.tables e below (T'.setTop { g with pc := g.pc + 1, stack := rest }) target → Steps p.tables e below (T.setTop g) target := by
  obtain ⟨cl, A, r1, r2, r3, r4⟩ := F
  obtain ⟨T', h', X', e', W, st⟩ := stJ X hx hZ eT A (own_in hj hi r2 hn) hg hs hd
  rw [hi] at X' W
  exact ⟨T', h', X', e', W, own_Ar.set ⟨cl, A, r1, r2, r3, r4⟩ W, st⟩
theorem own_stB (X : Stand p l e R s m args below meth c T locs cells slots) (hx : p.tables.exec = Jvm.exec) (hZ : Z.Warmed39 s.vm) (eT : T.heap = h) (F : own_Ar Z h a k .byte n f) {j x : Int32} (hj : ¬ j < 0) (hi : j.toNatClampNeg = i) (hn : i < n) {g : JFrame} (hg : g.method = m) {rest : List Value} (hs : g.stack = .int x :: .int j :: .ref a :: rest) (hd : decode c.code g.pc = .ok (.bastore, 1)) :
    ∃ T' h', Stand p l e R s m args below meth c T' (locs ++ [⟨a, i⟩]) cells slots ∧ T'.heap = h' ∧ Wr h h' a i (.int (nar .byte x)) ∧ own_Ar Z h' a k .byte n (fun j => if j = i then .int (nar .byte x) else f j) ∧ ∀ target, Steps p.tables e below (T'.setTop { g with pc := g.pc + 1, stack := rest }) target → Steps p.tables e below (T.setTop g) target := by
  obtain ⟨cl, A, r1, r2, r3, r4⟩ := F
  obtain ⟨T', h', X', e', W, st⟩ := stB X hx hZ eT A (own_in hj hi r2 hn) hg hs hd
  rw [hi] at X' W
  exact ⟨T', h', X', e', W, own_Ar.set ⟨cl, A, r1, r2, r3, r4⟩ W, st⟩
theorem own_stZ (X : Stand p l e R s m args below meth c T locs cells slots) (hx : p.tables.exec = Jvm.exec) (hZ : Z.Warmed39 s.vm) (eT : T.heap = h) (F : own_Ar Z h a k .boolean n f) {j x : Int32} (hj : ¬ j < 0) (hi : j.toNatClampNeg = i) (hn : i < n) {g : JFrame} (hg : g.method = m) {rest : List Value} (hs : g.stack = .int x :: .int j :: .ref a :: rest) (hd : decode c.code g.pc = .ok (.bastore, 1)) :
    ∃ T' h', Stand p l e R s m args below meth c T' (locs ++ [⟨a, i⟩]) cells slots ∧ T'.heap = h' ∧ Wr h h' a i (.int (nar .boolean x)) ∧ own_Ar Z h' a k .boolean n (fun j => if j = i then .int (nar .boolean x) else f j) ∧ ∀ target, Steps p.tables e below (T'.setTop { g with pc := g.pc + 1, stack := rest }) target → Steps p.tables e below (T.setTop g) target := by
  obtain ⟨cl, A, r1, r2, r3, r4⟩ := F
  obtain ⟨T', h', X', e', W, st⟩ := stZ X hx hZ eT A (own_in hj hi r2 hn) hg hs hd
  rw [hi] at X' W
  exact ⟨T', h', X', e', W, own_Ar.set ⟨cl, A, r1, r2, r3, r4⟩ W, st⟩
theorem own_stC (X : Stand p l e R s m args below meth c T locs cells slots) (hx : p.tables.exec = Jvm.exec) (hZ : Z.Warmed39 s.vm) (eT : T.heap = h) (F : own_Ar Z h a k .char n f) {j x : Int32} (hj : ¬ j < 0) (hi : j.toNatClampNeg = i) (hn : i < n) {g : JFrame} (hg : g.method = m) {rest : List Value} (hs : g.stack = .int x :: .int j :: .ref a :: rest) (hd : decode c.code g.pc = .ok (.castore, 1)) :
    ∃ T' h', Stand p l e R s m args below meth c T' (locs ++ [⟨a, i⟩]) cells slots ∧ T'.heap = h' ∧ Wr h h' a i (.int (nar .char x)) ∧ own_Ar Z h' a k .char n (fun j => if j = i then .int (nar .char x) else f j) ∧ ∀ target, Steps p.tables e below (T'.setTop { g with pc := g.pc + 1, stack := rest }) target → Steps p.tables e below (T.setTop g) target := by
  obtain ⟨cl, A, r1, r2, r3, r4⟩ := F
  obtain ⟨T', h', X', e', W, st⟩ := stC X hx hZ eT A (own_in hj hi r2 hn) hg hs hd
  rw [hi] at X' W
  exact ⟨T', h', X', e', W, own_Ar.set ⟨cl, A, r1, r2, r3, r4⟩ W, st⟩
theorem own_stR (X : Stand p l e R s m args below meth c T locs cells slots) (hx : p.tables.exec = Jvm.exec) (hZ : Z.Warmed39 s.vm) (eT : T.heap = h) (F : own_Ar Z h a k ty n f) (ht : ty.isReference = true) {j : Int32} (S : Sto Z h a v) (hj : ¬ j < 0) (hi : j.toNatClampNeg = i) (hn : i < n) {g : JFrame} (hg : g.method = m) {rest : List Value} (hs : g.stack = v :: .int j :: .ref a :: rest) (hd : decode c.code g.pc = .ok (.aastore, 1)) :
    ∃ T' h', Stand p l e R s m args below meth c T' (locs ++ [⟨a, i⟩]) cells slots ∧ T'.heap = h' ∧ Wr h h' a i v ∧ own_Ar Z h' a k ty n (fun j => if j = i then v else f j) ∧ ∀ target, Steps p.tables e below (T'.setTop { g with pc := g.pc + 1, stack := rest }) target → Steps p.tables e below (T.setTop g) target := by
  obtain ⟨cl, A, r1, r2, r3, r4⟩ := F
  obtain ⟨T', h', X', e', W, st⟩ := stR X hx hZ eT A (own_in hj hi r2 hn) ht S hg hs hd
  rw [hi] at X' W
  exact ⟨T', h', X', e', W, own_Ar.set ⟨cl, A, r1, r2, r3, r4⟩ W, st⟩
theorem own_newR (X : Stand p l e R s m args below meth c T locs cells slots) (hx : p.tables.exec = Jvm.exec) (hZ : Z.Warmed39 s.vm) {own C : String} {index : Nat} (hown : s.vm.findClass own = some m.cls) (w1 : (Cond.classLink own index C).before a0 Z = true) (w2 : (Cond.arrayOver (.object C)).before a0 Z = true)
    (eT : T.heap = h) {g : JFrame} (hg : g.method = m) (hd : decode c.code g.pc = .ok (.anewarray index, 3)) {z : Int32} {rest : List Value} (hs : g.stack = .int z :: rest) (hz : ¬ z < 0) (hzn : z.toNatClampNeg = n) {cap : Nat} (hcap : n ≤ cap) (hb : cap * 8 ≤ 536870912) (hc : cells + 1 ≤ R.cells) (hl : slots + cap ≤ R.slots) :
    ∃ T' h' k, Stand p l e R s m args below meth c T' locs (cells + 1) (slots + cap) ∧ T'.heap = h' ∧ Ext h h' ∧ own_Ar Z h' h.size k (.object C) n (fun _ => .null) ∧ Ovr Z k C ∧
      ∀ target, Steps p.tables e below (T'.setTop { g with pc := g.pc + 3, stack := .ref h.size :: rest }) target → Steps p.tables e below (T.setTop g) target := by
  obtain ⟨T', h', cA, X', e', E, A, O, st⟩ := newR X hx hZ hown w1 w2 eT hg hd hs hz (cap := cap) (by rw [hzn]; exact hcap) hb hc hl
  refine ⟨T', h', cA, X', e', E, ⟨_, A, rfl, (sz_new _ _ _).trans hzn, by omega, fun i hi => ?_⟩, O, st⟩
  have hs : i < z.toNatClampNeg := by rw [hzn]; exact hi
  simp [newA, hs, defaultValue]
theorem own_Ar.sto {C : String} {y : Addr} (F : own_Ar Z h a k ty n f) (O : Ovr Z k C) (I : Ins Z h y C true) : Sto Z h a (.ref y) := by
  obtain ⟨cl, A, r1, -⟩ := F
  exact Sto.of A (r1 ▸ O) I
end OwnArrays
theorem pnn_1 : plainName "com/example/bestow/bestow/Catalogue" = true := by first | (simp [plainName, overriddenIn]; done) | decide +kernel
theorem pn_1 : plainFor (⟨"com/example/bestow/bestow/Catalogue", "filter", "([I)J"⟩ : MethodName) = true := plainFor_of_name pnn_1
theorem d1_0 : decode prog_1_method_7_code 0 = .ok (.lconst 0, 1) := by decide +kernel
theorem d1_1 : decode prog_1_method_7_code 1 = .ok (.lstore_n 1, 1) := by decide +kernel
theorem d1_2 : decode prog_1_method_7_code 2 = .ok (.aload_n 0, 1) := by decide +kernel
theorem d1_3 : decode prog_1_method_7_code 3 = .ok (.astore_n 3, 1) := by decide +kernel
theorem d1_4 : decode prog_1_method_7_code 4 = .ok (.aload_n 3, 1) := by decide +kernel
theorem d1_5 : decode prog_1_method_7_code 5 = .ok (.arraylength, 1) := by decide +kernel
theorem d1_6 : decode prog_1_method_7_code 6 = .ok (.istore 4, 2) := by decide +kernel
theorem d1_8 : decode prog_1_method_7_code 8 = .ok (.iconst 0, 1) := by decide +kernel
theorem d1_9 : decode prog_1_method_7_code 9 = .ok (.istore 5, 2) := by decide +kernel
theorem d1_11 : decode prog_1_method_7_code 11 = .ok (.iload 5, 2) := by decide +kernel
theorem d1_13 : decode prog_1_method_7_code 13 = .ok (.iload 4, 2) := by decide +kernel
theorem d1_15 : decode prog_1_method_7_code 15 = .ok (.if_icmp .ge 22, 3) := by decide +kernel
theorem d1_37 : decode prog_1_method_7_code 37 = .ok (.lload_n 1, 1) := by decide +kernel
theorem d1_38 : decode prog_1_method_7_code 38 = .ok (.lreturn, 1) := by decide +kernel
theorem d1_18 : decode prog_1_method_7_code 18 = .ok (.aload_n 3, 1) := by decide +kernel
theorem d1_19 : decode prog_1_method_7_code 19 = .ok (.iload 5, 2) := by decide +kernel
theorem d1_21 : decode prog_1_method_7_code 21 = .ok (.iaload, 1) := by decide +kernel
theorem d1_22 : decode prog_1_method_7_code 22 = .ok (.istore 6, 2) := by decide +kernel
theorem d1_24 : decode prog_1_method_7_code 24 = .ok (.lload_n 1, 1) := by decide +kernel
theorem d1_25 : decode prog_1_method_7_code 25 = .ok (.lconst 1, 1) := by decide +kernel
theorem d1_26 : decode prog_1_method_7_code 26 = .ok (.iload 6, 2) := by decide +kernel
theorem d1_28 : decode prog_1_method_7_code 28 = .ok (.lshl, 1) := by decide +kernel
theorem d1_29 : decode prog_1_method_7_code 29 = .ok (.lor, 1) := by decide +kernel
theorem d1_30 : decode prog_1_method_7_code 30 = .ok (.lstore_n 1, 1) := by decide +kernel
theorem d1_31 : decode prog_1_method_7_code 31 = .ok (.iinc 5 1, 3) := by decide +kernel
theorem d1_34 : decode prog_1_method_7_code 34 = .ok (.goto (-23), 3) := by decide +kernel
theorem pnn_2 : plainName "com/example/bestow/bestow/CatalogueFilterPinLaw" = true := by first | (simp [plainName, overriddenIn]; done) | decide +kernel
theorem pn_2 : plainFor (⟨"com/example/bestow/bestow/CatalogueFilterPinLaw", "bit", "(I)J"⟩ : MethodName) = true := plainFor_of_name pnn_2
theorem d2_0 : decode method_3_code 0 = .ok (.lconst 1, 1) := by decide +kernel
theorem d2_1 : decode method_3_code 1 = .ok (.iload_n 0, 1) := by decide +kernel
theorem d2_2 : decode method_3_code 2 = .ok (.bipush 63, 2) := by decide +kernel
theorem d2_4 : decode method_3_code 4 = .ok (.iand, 1) := by decide +kernel
theorem d2_5 : decode method_3_code 5 = .ok (.lshl, 1) := by decide +kernel
theorem d2_6 : decode method_3_code 6 = .ok (.lreturn, 1) := by decide +kernel
theorem pnn_0 : plainName "com/example/bestow/bestow/CatalogueFilterPinLaw" = true := by first | (simp [plainName, overriddenIn]; done) | decide +kernel
theorem pn_0 : plainFor (⟨"com/example/bestow/bestow/CatalogueFilterPinLaw", "law", "(IIII)Z"⟩ : MethodName) = true := plainFor_of_name pnn_0
theorem pd_0 : parseMethodDescriptor "([I)J" = some ⟨[(.array .int)], some .long⟩ := by decide +kernel
theorem pd_1 : parseMethodDescriptor "(I)J" = some ⟨[.int], some .long⟩ := by decide +kernel
abbrev own_s (x : Int32) : Int64 := (1 : Int64) <<< (x &&& 63).toInt64
theorem own_bit (x : Int32) : (1 : Int64) <<< ((x &&& (63 : Int32)) &&& 63).toInt64 = own_s x := by
  have q : (x &&& (63 : Int32)) &&& 63 = x &&& 63 := by
    apply Int32.toInt_inj.mp
    have e1 := c_mask (x &&& 63) 63 6 (by decide) (by decide)
    have e2 := c_mask x 63 6 (by decide) (by decide)
    rw [e1, e2]
    omega
  rw [q]
theorem own_and3 (x : Int32) : x &&& (3 : Int32) = 0 ∨ x &&& (3 : Int32) = 1 ∨ x &&& (3 : Int32) = 2 ∨ x &&& (3 : Int32) = 3 := by
  have e := c_mask x 3 2 (by decide) (by decide)
  have d0 : (0 : Int32).toInt = 0 := by decide
  have d1 : (1 : Int32).toInt = 1 := by decide
  have d2 : (2 : Int32).toInt = 2 := by decide
  have d3 : (3 : Int32).toInt = 3 := by decide
  simp only [← Int32.toInt_inj, e, d0, d1, d2, d3]
  omega
set_option maxRecDepth 65536 in
set_option maxHeartbeats 40000000 in
theorem rm1_0 (l : Launch) (Z : State) (a0 : Array Value) (hw : ∀ d ∈ tables_1, d.before a0 Z = true) (r0 : Addr) (h0 : Heap) (kc : ClassId) (f : Nat → Value) (V : own_Ar Z h0 r0 kc .int 0 f) :
    own_C l (⟨"com/example/bestow/bestow/Catalogue", "filter", "([I)J"⟩ : MethodName) prog_1_method_7_code 7 (some .long) ({ frames := 0, cells := 0, slots := 0, locals := 0 } : Room) Z #[(.ref r0)] h0 (fun v h L => v = some (.long (0 : Int64)) ∧ L = [] ∧ h = h0) := by
  refine own_enter pn_1 ?_
  intro p e s m below meth c s₁ X0 hx hby hml hown hnm hret hlk hZ e0
  replace hown : s.vm.findClass "com/example/bestow/bestow/Catalogue" = some m.cls := hown
  have ef : entryFrame m #[(.ref r0)] 7 = mkF m 0 #[.val (.ref r0), .unset, .unset, .unset, .unset, .unset, .unset] [] := by first | rfl | (simp [entryFrame, mkF, argsToLocals, Value.category, maxLocals]; done)
  refine own_cast ef ?_
  show own_Ends _ _ _ _ _ _ _ s₁ (mkF m 0 #[.val (.ref r0), .unset, .unset, .unset, .unset, .unset, .unset] [])
  refine own_go (fun _ k => XS.lconst X0.here hx rfl (hb hby d1_0) k) ?_
  show own_Ends _ _ _ _ _ _ _ s₁ (mkF m 1 #[.val (.ref r0), .unset, .unset, .unset, .unset, .unset, .unset] [(.long (0 : Int64))])
  refine own_go (fun _ k => XS.lstoreN X0.here hx rfl (hb hby d1_1) rfl (l' := #[.val (.ref r0), .val (.long (0 : Int64)), .second, .unset, .unset, .unset, .unset]) rfl k) ?_
  show own_Ends _ _ _ _ _ _ _ s₁ (mkF m 2 #[.val (.ref r0), .val (.long (0 : Int64)), .second, .unset, .unset, .unset, .unset] [])
  refine own_go (fun _ k => XS.aloadN X0.here hx rfl (hb hby d1_2) rfl rfl k) ?_
  show own_Ends _ _ _ _ _ _ _ s₁ (mkF m 3 #[.val (.ref r0), .val (.long (0 : Int64)), .second, .unset, .unset, .unset, .unset] [(.ref r0)])
  refine own_go (fun _ k => XS.astoreN X0.here hx rfl (hb hby d1_3) rfl rfl (l' := #[.val (.ref r0), .val (.long (0 : Int64)), .second, .val (.ref r0), .unset, .unset, .unset]) rfl k) ?_
  show own_Ends _ _ _ _ _ _ _ s₁ (mkF m 4 #[.val (.ref r0), .val (.long (0 : Int64)), .second, .val (.ref r0), .unset, .unset, .unset] [])
  refine own_go (fun _ k => XS.aloadN X0.here hx rfl (hb hby d1_4) rfl rfl k) ?_
  show own_Ends _ _ _ _ _ _ _ s₁ (mkF m 5 #[.val (.ref r0), .val (.long (0 : Int64)), .second, .val (.ref r0), .unset, .unset, .unset] [(.ref r0)])
  refine own_go (fun _ k => own_len X0 hx hZ e0 V (z := (0 : Int32)) rfl (g := (mkF m 5 #[.val (.ref r0), .val (.long (0 : Int64)), .second, .val (.ref r0), .unset, .unset, .unset] [(.ref r0)])) rfl rfl (hb hby d1_5) _ k) ?_
  show own_Ends _ _ _ _ _ _ _ s₁ (mkF m 6 #[.val (.ref r0), .val (.long (0 : Int64)), .second, .val (.ref r0), .unset, .unset, .unset] [(.int (0 : Int32))])
  refine own_go (fun _ k => XS.istore X0.here hx rfl (hb hby d1_6) rfl (l' := #[.val (.ref r0), .val (.long (0 : Int64)), .second, .val (.ref r0), .val (.int (0 : Int32)), .unset, .unset]) rfl k) ?_
  show own_Ends _ _ _ _ _ _ _ s₁ (mkF m 8 #[.val (.ref r0), .val (.long (0 : Int64)), .second, .val (.ref r0), .val (.int (0 : Int32)), .unset, .unset] [])
  refine own_go (fun _ k => XS.iconst X0.here hx rfl (hb hby d1_8) k) ?_
  show own_Ends _ _ _ _ _ _ _ s₁ (mkF m 9 #[.val (.ref r0), .val (.long (0 : Int64)), .second, .val (.ref r0), .val (.int (0 : Int32)), .unset, .unset] [(.int (0 : Int32))])
  refine own_go (fun _ k => XS.istore X0.here hx rfl (hb hby d1_9) rfl (l' := #[.val (.ref r0), .val (.long (0 : Int64)), .second, .val (.ref r0), .val (.int (0 : Int32)), .val (.int (0 : Int32)), .unset]) rfl k) ?_
  show own_Ends _ _ _ _ _ _ _ s₁ (mkF m 11 #[.val (.ref r0), .val (.long (0 : Int64)), .second, .val (.ref r0), .val (.int (0 : Int32)), .val (.int (0 : Int32)), .unset] [])
  refine own_go (fun _ k => XS.iload X0.here hx rfl (hb hby d1_11) rfl k) ?_
  show own_Ends _ _ _ _ _ _ _ s₁ (mkF m 13 #[.val (.ref r0), .val (.long (0 : Int64)), .second, .val (.ref r0), .val (.int (0 : Int32)), .val (.int (0 : Int32)), .unset] [(.int (0 : Int32))])
  refine own_go (fun _ k => XS.iload X0.here hx rfl (hb hby d1_13) rfl k) ?_
  show own_Ends _ _ _ _ _ _ _ s₁ (mkF m 15 #[.val (.ref r0), .val (.long (0 : Int64)), .second, .val (.ref r0), .val (.int (0 : Int32)), .val (.int (0 : Int32)), .unset] [(.int (0 : Int32)), (.int (0 : Int32))])
  refine own_go (fun _ k => XS.icmpYes X0.here hx rfl (pc0 := 15) (pc' := 37) rfl (hb hby d1_15) rfl (flt (by decide)).2.1 (by decide) (by decide) k) ?_
  show own_Ends _ _ _ _ _ _ _ s₁ (mkF m 37 #[.val (.ref r0), .val (.long (0 : Int64)), .second, .val (.ref r0), .val (.int (0 : Int32)), .val (.int (0 : Int32)), .unset] [])
  refine own_go (fun _ k => XS.lloadN X0.here hx rfl (hb hby d1_37) rfl k) ?_
  show own_Ends _ _ _ _ _ _ _ s₁ (mkF m 38 #[.val (.ref r0), .val (.long (0 : Int64)), .second, .val (.ref r0), .val (.int (0 : Int32)), .val (.int (0 : Int32)), .unset] [(.long (0 : Int64))])
  exact own_retJ X0 hx hlk hret (hb hby d1_38) (by decide) (by decide) ⟨rfl, rfl, e0⟩
set_option maxRecDepth 65536 in
set_option maxHeartbeats 40000000 in
theorem rm1_1 (l : Launch) (Z : State) (a0 : Array Value) (hw : ∀ d ∈ tables_1, d.before a0 Z = true) (r0 : Addr) (h0 : Heap) (kc : ClassId) (f : Nat → Value) (x0 : Int32) (V : own_Ar Z h0 r0 kc .int 1 f) (hv0 : f 0 = .int x0) :
    own_C l (⟨"com/example/bestow/bestow/Catalogue", "filter", "([I)J"⟩ : MethodName) prog_1_method_7_code 7 (some .long) ({ frames := 0, cells := 0, slots := 0, locals := 0 } : Room) Z #[(.ref r0)] h0 (fun v h L => v = some (.long ((0 : Int64) ||| own_s x0)) ∧ L = [] ∧ h = h0) := by
  refine own_enter pn_1 ?_
  intro p e s m below meth c s₁ X0 hx hby hml hown hnm hret hlk hZ e0
  replace hown : s.vm.findClass "com/example/bestow/bestow/Catalogue" = some m.cls := hown
  have ef : entryFrame m #[(.ref r0)] 7 = mkF m 0 #[.val (.ref r0), .unset, .unset, .unset, .unset, .unset, .unset] [] := by first | rfl | (simp [entryFrame, mkF, argsToLocals, Value.category, maxLocals]; done)
  refine own_cast ef ?_
  show own_Ends _ _ _ _ _ _ _ s₁ (mkF m 0 #[.val (.ref r0), .unset, .unset, .unset, .unset, .unset, .unset] [])
  refine own_go (fun _ k => XS.lconst X0.here hx rfl (hb hby d1_0) k) ?_
  show own_Ends _ _ _ _ _ _ _ s₁ (mkF m 1 #[.val (.ref r0), .unset, .unset, .unset, .unset, .unset, .unset] [(.long (0 : Int64))])
  refine own_go (fun _ k => XS.lstoreN X0.here hx rfl (hb hby d1_1) rfl (l' := #[.val (.ref r0), .val (.long (0 : Int64)), .second, .unset, .unset, .unset, .unset]) rfl k) ?_
  show own_Ends _ _ _ _ _ _ _ s₁ (mkF m 2 #[.val (.ref r0), .val (.long (0 : Int64)), .second, .unset, .unset, .unset, .unset] [])
  refine own_go (fun _ k => XS.aloadN X0.here hx rfl (hb hby d1_2) rfl rfl k) ?_
  show own_Ends _ _ _ _ _ _ _ s₁ (mkF m 3 #[.val (.ref r0), .val (.long (0 : Int64)), .second, .unset, .unset, .unset, .unset] [(.ref r0)])
  refine own_go (fun _ k => XS.astoreN X0.here hx rfl (hb hby d1_3) rfl rfl (l' := #[.val (.ref r0), .val (.long (0 : Int64)), .second, .val (.ref r0), .unset, .unset, .unset]) rfl k) ?_
  show own_Ends _ _ _ _ _ _ _ s₁ (mkF m 4 #[.val (.ref r0), .val (.long (0 : Int64)), .second, .val (.ref r0), .unset, .unset, .unset] [])
  refine own_go (fun _ k => XS.aloadN X0.here hx rfl (hb hby d1_4) rfl rfl k) ?_
  show own_Ends _ _ _ _ _ _ _ s₁ (mkF m 5 #[.val (.ref r0), .val (.long (0 : Int64)), .second, .val (.ref r0), .unset, .unset, .unset] [(.ref r0)])
  refine own_go (fun _ k => own_len X0 hx hZ e0 V (z := (1 : Int32)) rfl (g := (mkF m 5 #[.val (.ref r0), .val (.long (0 : Int64)), .second, .val (.ref r0), .unset, .unset, .unset] [(.ref r0)])) rfl rfl (hb hby d1_5) _ k) ?_
  show own_Ends _ _ _ _ _ _ _ s₁ (mkF m 6 #[.val (.ref r0), .val (.long (0 : Int64)), .second, .val (.ref r0), .unset, .unset, .unset] [(.int (1 : Int32))])
  refine own_go (fun _ k => XS.istore X0.here hx rfl (hb hby d1_6) rfl (l' := #[.val (.ref r0), .val (.long (0 : Int64)), .second, .val (.ref r0), .val (.int (1 : Int32)), .unset, .unset]) rfl k) ?_
  show own_Ends _ _ _ _ _ _ _ s₁ (mkF m 8 #[.val (.ref r0), .val (.long (0 : Int64)), .second, .val (.ref r0), .val (.int (1 : Int32)), .unset, .unset] [])
  refine own_go (fun _ k => XS.iconst X0.here hx rfl (hb hby d1_8) k) ?_
  show own_Ends _ _ _ _ _ _ _ s₁ (mkF m 9 #[.val (.ref r0), .val (.long (0 : Int64)), .second, .val (.ref r0), .val (.int (1 : Int32)), .unset, .unset] [(.int (0 : Int32))])
  refine own_go (fun _ k => XS.istore X0.here hx rfl (hb hby d1_9) rfl (l' := #[.val (.ref r0), .val (.long (0 : Int64)), .second, .val (.ref r0), .val (.int (1 : Int32)), .val (.int (0 : Int32)), .unset]) rfl k) ?_
  show own_Ends _ _ _ _ _ _ _ s₁ (mkF m 11 #[.val (.ref r0), .val (.long (0 : Int64)), .second, .val (.ref r0), .val (.int (1 : Int32)), .val (.int (0 : Int32)), .unset] [])
  refine own_go (fun _ k => XS.iload X0.here hx rfl (hb hby d1_11) rfl k) ?_
  show own_Ends _ _ _ _ _ _ _ s₁ (mkF m 13 #[.val (.ref r0), .val (.long (0 : Int64)), .second, .val (.ref r0), .val (.int (1 : Int32)), .val (.int (0 : Int32)), .unset] [(.int (0 : Int32))])
  refine own_go (fun _ k => XS.iload X0.here hx rfl (hb hby d1_13) rfl k) ?_
  show own_Ends _ _ _ _ _ _ _ s₁ (mkF m 15 #[.val (.ref r0), .val (.long (0 : Int64)), .second, .val (.ref r0), .val (.int (1 : Int32)), .val (.int (0 : Int32)), .unset] [(.int (1 : Int32)), (.int (0 : Int32))])
  refine own_go (fun _ k => XS.icmpNo X0.here hx rfl (hb hby d1_15) rfl (tlt (by decide)).2.1 k) ?_
  show own_Ends _ _ _ _ _ _ _ s₁ (mkF m 18 #[.val (.ref r0), .val (.long (0 : Int64)), .second, .val (.ref r0), .val (.int (1 : Int32)), .val (.int (0 : Int32)), .unset] [])
  refine own_go (fun _ k => XS.aloadN X0.here hx rfl (hb hby d1_18) rfl rfl k) ?_
  show own_Ends _ _ _ _ _ _ _ s₁ (mkF m 19 #[.val (.ref r0), .val (.long (0 : Int64)), .second, .val (.ref r0), .val (.int (1 : Int32)), .val (.int (0 : Int32)), .unset] [(.ref r0)])
  refine own_go (fun _ k => XS.iload X0.here hx rfl (hb hby d1_19) rfl k) ?_
  show own_Ends _ _ _ _ _ _ _ s₁ (mkF m 21 #[.val (.ref r0), .val (.long (0 : Int64)), .second, .val (.ref r0), .val (.int (1 : Int32)), .val (.int (0 : Int32)), .unset] [(.int (0 : Int32)), (.ref r0)])
  refine own_go (fun _ k => own_ldI X0 hx hZ e0 V (i := 0) (v := (.int x0)) (by decide) (by decide) (by decide) hv0 (g := (mkF m 21 #[.val (.ref r0), .val (.long (0 : Int64)), .second, .val (.ref r0), .val (.int (1 : Int32)), .val (.int (0 : Int32)), .unset] [(.int (0 : Int32)), (.ref r0)])) rfl rfl (hb hby d1_21) _ k) ?_
  show own_Ends _ _ _ _ _ _ _ s₁ (mkF m 22 #[.val (.ref r0), .val (.long (0 : Int64)), .second, .val (.ref r0), .val (.int (1 : Int32)), .val (.int (0 : Int32)), .unset] [(.int x0)])
  refine own_go (fun _ k => XS.istore X0.here hx rfl (hb hby d1_22) rfl (l' := #[.val (.ref r0), .val (.long (0 : Int64)), .second, .val (.ref r0), .val (.int (1 : Int32)), .val (.int (0 : Int32)), .val (.int x0)]) rfl k) ?_
  show own_Ends _ _ _ _ _ _ _ s₁ (mkF m 24 #[.val (.ref r0), .val (.long (0 : Int64)), .second, .val (.ref r0), .val (.int (1 : Int32)), .val (.int (0 : Int32)), .val (.int x0)] [])
  refine own_go (fun _ k => XS.lloadN X0.here hx rfl (hb hby d1_24) rfl k) ?_
  show own_Ends _ _ _ _ _ _ _ s₁ (mkF m 25 #[.val (.ref r0), .val (.long (0 : Int64)), .second, .val (.ref r0), .val (.int (1 : Int32)), .val (.int (0 : Int32)), .val (.int x0)] [(.long (0 : Int64))])
  refine own_go (fun _ k => XS.lconst X0.here hx rfl (hb hby d1_25) k) ?_
  show own_Ends _ _ _ _ _ _ _ s₁ (mkF m 26 #[.val (.ref r0), .val (.long (0 : Int64)), .second, .val (.ref r0), .val (.int (1 : Int32)), .val (.int (0 : Int32)), .val (.int x0)] [(.long (1 : Int64)), (.long (0 : Int64))])
  refine own_go (fun _ k => XS.iload X0.here hx rfl (hb hby d1_26) rfl k) ?_
  show own_Ends _ _ _ _ _ _ _ s₁ (mkF m 28 #[.val (.ref r0), .val (.long (0 : Int64)), .second, .val (.ref r0), .val (.int (1 : Int32)), .val (.int (0 : Int32)), .val (.int x0)] [(.int x0), (.long (1 : Int64)), (.long (0 : Int64))])
  refine own_go (fun _ k => XS.lshl X0.here hx rfl (hb hby d1_28) rfl k) ?_
  show own_Ends _ _ _ _ _ _ _ s₁ (mkF m 29 #[.val (.ref r0), .val (.long (0 : Int64)), .second, .val (.ref r0), .val (.int (1 : Int32)), .val (.int (0 : Int32)), .val (.int x0)] [(.long ((1 : Int64) <<< (x0 &&& 63).toInt64)), (.long (0 : Int64))])
  refine own_go (fun _ k => XS.lor X0.here hx rfl (hb hby d1_29) rfl k) ?_
  show own_Ends _ _ _ _ _ _ _ s₁ (mkF m 30 #[.val (.ref r0), .val (.long (0 : Int64)), .second, .val (.ref r0), .val (.int (1 : Int32)), .val (.int (0 : Int32)), .val (.int x0)] [(.long ((0 : Int64) ||| ((1 : Int64) <<< (x0 &&& 63).toInt64)))])
  refine own_go (fun _ k => XS.lstoreN X0.here hx rfl (hb hby d1_30) rfl (l' := #[.val (.ref r0), .val (.long ((0 : Int64) ||| ((1 : Int64) <<< (x0 &&& 63).toInt64))), .second, .val (.ref r0), .val (.int (1 : Int32)), .val (.int (0 : Int32)), .val (.int x0)]) rfl k) ?_
  show own_Ends _ _ _ _ _ _ _ s₁ (mkF m 31 #[.val (.ref r0), .val (.long ((0 : Int64) ||| ((1 : Int64) <<< (x0 &&& 63).toInt64))), .second, .val (.ref r0), .val (.int (1 : Int32)), .val (.int (0 : Int32)), .val (.int x0)] [])
  refine own_go (fun _ k => XS.iinc X0.here hx rfl (hb hby d1_31) rfl (l' := #[.val (.ref r0), .val (.long ((0 : Int64) ||| ((1 : Int64) <<< (x0 &&& 63).toInt64))), .second, .val (.ref r0), .val (.int (1 : Int32)), .val (.int ((0 : Int32) + (1 : Int32))), .val (.int x0)]) rfl k) ?_
  show own_Ends _ _ _ _ _ _ _ s₁ (mkF m 34 #[.val (.ref r0), .val (.long ((0 : Int64) ||| ((1 : Int64) <<< (x0 &&& 63).toInt64))), .second, .val (.ref r0), .val (.int (1 : Int32)), .val (.int ((0 : Int32) + (1 : Int32))), .val (.int x0)] [])
  refine own_go (fun _ k => XS.goto X0.here hx rfl (pc0 := 34) (pc' := 11) rfl (hb hby d1_34) (by decide) (by decide) k) ?_
  show own_Ends _ _ _ _ _ _ _ s₁ (mkF m 11 #[.val (.ref r0), .val (.long ((0 : Int64) ||| ((1 : Int64) <<< (x0 &&& 63).toInt64))), .second, .val (.ref r0), .val (.int (1 : Int32)), .val (.int ((0 : Int32) + (1 : Int32))), .val (.int x0)] [])
  refine own_go (fun _ k => XS.iload X0.here hx rfl (hb hby d1_11) rfl k) ?_
  show own_Ends _ _ _ _ _ _ _ s₁ (mkF m 13 #[.val (.ref r0), .val (.long ((0 : Int64) ||| ((1 : Int64) <<< (x0 &&& 63).toInt64))), .second, .val (.ref r0), .val (.int (1 : Int32)), .val (.int ((0 : Int32) + (1 : Int32))), .val (.int x0)] [(.int ((0 : Int32) + (1 : Int32)))])
  refine own_go (fun _ k => XS.iload X0.here hx rfl (hb hby d1_13) rfl k) ?_
  show own_Ends _ _ _ _ _ _ _ s₁ (mkF m 15 #[.val (.ref r0), .val (.long ((0 : Int64) ||| ((1 : Int64) <<< (x0 &&& 63).toInt64))), .second, .val (.ref r0), .val (.int (1 : Int32)), .val (.int ((0 : Int32) + (1 : Int32))), .val (.int x0)] [(.int (1 : Int32)), (.int ((0 : Int32) + (1 : Int32)))])
  refine own_go (fun _ k => XS.icmpYes X0.here hx rfl (pc0 := 15) (pc' := 37) rfl (hb hby d1_15) rfl (flt (by decide)).2.1 (by decide) (by decide) k) ?_
  show own_Ends _ _ _ _ _ _ _ s₁ (mkF m 37 #[.val (.ref r0), .val (.long ((0 : Int64) ||| ((1 : Int64) <<< (x0 &&& 63).toInt64))), .second, .val (.ref r0), .val (.int (1 : Int32)), .val (.int ((0 : Int32) + (1 : Int32))), .val (.int x0)] [])
  refine own_go (fun _ k => XS.lloadN X0.here hx rfl (hb hby d1_37) rfl k) ?_
  show own_Ends _ _ _ _ _ _ _ s₁ (mkF m 38 #[.val (.ref r0), .val (.long ((0 : Int64) ||| ((1 : Int64) <<< (x0 &&& 63).toInt64))), .second, .val (.ref r0), .val (.int (1 : Int32)), .val (.int ((0 : Int32) + (1 : Int32))), .val (.int x0)] [(.long ((0 : Int64) ||| ((1 : Int64) <<< (x0 &&& 63).toInt64)))])
  exact own_retJ X0 hx hlk hret (hb hby d1_38) (by decide) (by decide) ⟨rfl, rfl, e0⟩
set_option maxRecDepth 65536 in
set_option maxHeartbeats 40000000 in
theorem rm1_2 (l : Launch) (Z : State) (a0 : Array Value) (hw : ∀ d ∈ tables_1, d.before a0 Z = true) (r0 : Addr) (h0 : Heap) (kc : ClassId) (f : Nat → Value) (x0 : Int32) (x1 : Int32) (V : own_Ar Z h0 r0 kc .int 2 f) (hv0 : f 0 = .int x0) (hv1 : f 1 = .int x1) :
    own_C l (⟨"com/example/bestow/bestow/Catalogue", "filter", "([I)J"⟩ : MethodName) prog_1_method_7_code 7 (some .long) ({ frames := 0, cells := 0, slots := 0, locals := 0 } : Room) Z #[(.ref r0)] h0 (fun v h L => v = some (.long (((0 : Int64) ||| own_s x0) ||| own_s x1)) ∧ L = [] ∧ h = h0) := by
  refine own_enter pn_1 ?_
  intro p e s m below meth c s₁ X0 hx hby hml hown hnm hret hlk hZ e0
  replace hown : s.vm.findClass "com/example/bestow/bestow/Catalogue" = some m.cls := hown
  have ef : entryFrame m #[(.ref r0)] 7 = mkF m 0 #[.val (.ref r0), .unset, .unset, .unset, .unset, .unset, .unset] [] := by first | rfl | (simp [entryFrame, mkF, argsToLocals, Value.category, maxLocals]; done)
  refine own_cast ef ?_
  show own_Ends _ _ _ _ _ _ _ s₁ (mkF m 0 #[.val (.ref r0), .unset, .unset, .unset, .unset, .unset, .unset] [])
  refine own_go (fun _ k => XS.lconst X0.here hx rfl (hb hby d1_0) k) ?_
  show own_Ends _ _ _ _ _ _ _ s₁ (mkF m 1 #[.val (.ref r0), .unset, .unset, .unset, .unset, .unset, .unset] [(.long (0 : Int64))])
  refine own_go (fun _ k => XS.lstoreN X0.here hx rfl (hb hby d1_1) rfl (l' := #[.val (.ref r0), .val (.long (0 : Int64)), .second, .unset, .unset, .unset, .unset]) rfl k) ?_
  show own_Ends _ _ _ _ _ _ _ s₁ (mkF m 2 #[.val (.ref r0), .val (.long (0 : Int64)), .second, .unset, .unset, .unset, .unset] [])
  refine own_go (fun _ k => XS.aloadN X0.here hx rfl (hb hby d1_2) rfl rfl k) ?_
  show own_Ends _ _ _ _ _ _ _ s₁ (mkF m 3 #[.val (.ref r0), .val (.long (0 : Int64)), .second, .unset, .unset, .unset, .unset] [(.ref r0)])
  refine own_go (fun _ k => XS.astoreN X0.here hx rfl (hb hby d1_3) rfl rfl (l' := #[.val (.ref r0), .val (.long (0 : Int64)), .second, .val (.ref r0), .unset, .unset, .unset]) rfl k) ?_
  show own_Ends _ _ _ _ _ _ _ s₁ (mkF m 4 #[.val (.ref r0), .val (.long (0 : Int64)), .second, .val (.ref r0), .unset, .unset, .unset] [])
  refine own_go (fun _ k => XS.aloadN X0.here hx rfl (hb hby d1_4) rfl rfl k) ?_
  show own_Ends _ _ _ _ _ _ _ s₁ (mkF m 5 #[.val (.ref r0), .val (.long (0 : Int64)), .second, .val (.ref r0), .unset, .unset, .unset] [(.ref r0)])
  refine own_go (fun _ k => own_len X0 hx hZ e0 V (z := (2 : Int32)) rfl (g := (mkF m 5 #[.val (.ref r0), .val (.long (0 : Int64)), .second, .val (.ref r0), .unset, .unset, .unset] [(.ref r0)])) rfl rfl (hb hby d1_5) _ k) ?_
  show own_Ends _ _ _ _ _ _ _ s₁ (mkF m 6 #[.val (.ref r0), .val (.long (0 : Int64)), .second, .val (.ref r0), .unset, .unset, .unset] [(.int (2 : Int32))])
  refine own_go (fun _ k => XS.istore X0.here hx rfl (hb hby d1_6) rfl (l' := #[.val (.ref r0), .val (.long (0 : Int64)), .second, .val (.ref r0), .val (.int (2 : Int32)), .unset, .unset]) rfl k) ?_
  show own_Ends _ _ _ _ _ _ _ s₁ (mkF m 8 #[.val (.ref r0), .val (.long (0 : Int64)), .second, .val (.ref r0), .val (.int (2 : Int32)), .unset, .unset] [])
  refine own_go (fun _ k => XS.iconst X0.here hx rfl (hb hby d1_8) k) ?_
  show own_Ends _ _ _ _ _ _ _ s₁ (mkF m 9 #[.val (.ref r0), .val (.long (0 : Int64)), .second, .val (.ref r0), .val (.int (2 : Int32)), .unset, .unset] [(.int (0 : Int32))])
  refine own_go (fun _ k => XS.istore X0.here hx rfl (hb hby d1_9) rfl (l' := #[.val (.ref r0), .val (.long (0 : Int64)), .second, .val (.ref r0), .val (.int (2 : Int32)), .val (.int (0 : Int32)), .unset]) rfl k) ?_
  show own_Ends _ _ _ _ _ _ _ s₁ (mkF m 11 #[.val (.ref r0), .val (.long (0 : Int64)), .second, .val (.ref r0), .val (.int (2 : Int32)), .val (.int (0 : Int32)), .unset] [])
  refine own_go (fun _ k => XS.iload X0.here hx rfl (hb hby d1_11) rfl k) ?_
  show own_Ends _ _ _ _ _ _ _ s₁ (mkF m 13 #[.val (.ref r0), .val (.long (0 : Int64)), .second, .val (.ref r0), .val (.int (2 : Int32)), .val (.int (0 : Int32)), .unset] [(.int (0 : Int32))])
  refine own_go (fun _ k => XS.iload X0.here hx rfl (hb hby d1_13) rfl k) ?_
  show own_Ends _ _ _ _ _ _ _ s₁ (mkF m 15 #[.val (.ref r0), .val (.long (0 : Int64)), .second, .val (.ref r0), .val (.int (2 : Int32)), .val (.int (0 : Int32)), .unset] [(.int (2 : Int32)), (.int (0 : Int32))])
  refine own_go (fun _ k => XS.icmpNo X0.here hx rfl (hb hby d1_15) rfl (tlt (by decide)).2.1 k) ?_
  show own_Ends _ _ _ _ _ _ _ s₁ (mkF m 18 #[.val (.ref r0), .val (.long (0 : Int64)), .second, .val (.ref r0), .val (.int (2 : Int32)), .val (.int (0 : Int32)), .unset] [])
  refine own_go (fun _ k => XS.aloadN X0.here hx rfl (hb hby d1_18) rfl rfl k) ?_
  show own_Ends _ _ _ _ _ _ _ s₁ (mkF m 19 #[.val (.ref r0), .val (.long (0 : Int64)), .second, .val (.ref r0), .val (.int (2 : Int32)), .val (.int (0 : Int32)), .unset] [(.ref r0)])
  refine own_go (fun _ k => XS.iload X0.here hx rfl (hb hby d1_19) rfl k) ?_
  show own_Ends _ _ _ _ _ _ _ s₁ (mkF m 21 #[.val (.ref r0), .val (.long (0 : Int64)), .second, .val (.ref r0), .val (.int (2 : Int32)), .val (.int (0 : Int32)), .unset] [(.int (0 : Int32)), (.ref r0)])
  refine own_go (fun _ k => own_ldI X0 hx hZ e0 V (i := 0) (v := (.int x0)) (by decide) (by decide) (by decide) hv0 (g := (mkF m 21 #[.val (.ref r0), .val (.long (0 : Int64)), .second, .val (.ref r0), .val (.int (2 : Int32)), .val (.int (0 : Int32)), .unset] [(.int (0 : Int32)), (.ref r0)])) rfl rfl (hb hby d1_21) _ k) ?_
  show own_Ends _ _ _ _ _ _ _ s₁ (mkF m 22 #[.val (.ref r0), .val (.long (0 : Int64)), .second, .val (.ref r0), .val (.int (2 : Int32)), .val (.int (0 : Int32)), .unset] [(.int x0)])
  refine own_go (fun _ k => XS.istore X0.here hx rfl (hb hby d1_22) rfl (l' := #[.val (.ref r0), .val (.long (0 : Int64)), .second, .val (.ref r0), .val (.int (2 : Int32)), .val (.int (0 : Int32)), .val (.int x0)]) rfl k) ?_
  show own_Ends _ _ _ _ _ _ _ s₁ (mkF m 24 #[.val (.ref r0), .val (.long (0 : Int64)), .second, .val (.ref r0), .val (.int (2 : Int32)), .val (.int (0 : Int32)), .val (.int x0)] [])
  refine own_go (fun _ k => XS.lloadN X0.here hx rfl (hb hby d1_24) rfl k) ?_
  show own_Ends _ _ _ _ _ _ _ s₁ (mkF m 25 #[.val (.ref r0), .val (.long (0 : Int64)), .second, .val (.ref r0), .val (.int (2 : Int32)), .val (.int (0 : Int32)), .val (.int x0)] [(.long (0 : Int64))])
  refine own_go (fun _ k => XS.lconst X0.here hx rfl (hb hby d1_25) k) ?_
  show own_Ends _ _ _ _ _ _ _ s₁ (mkF m 26 #[.val (.ref r0), .val (.long (0 : Int64)), .second, .val (.ref r0), .val (.int (2 : Int32)), .val (.int (0 : Int32)), .val (.int x0)] [(.long (1 : Int64)), (.long (0 : Int64))])
  refine own_go (fun _ k => XS.iload X0.here hx rfl (hb hby d1_26) rfl k) ?_
  show own_Ends _ _ _ _ _ _ _ s₁ (mkF m 28 #[.val (.ref r0), .val (.long (0 : Int64)), .second, .val (.ref r0), .val (.int (2 : Int32)), .val (.int (0 : Int32)), .val (.int x0)] [(.int x0), (.long (1 : Int64)), (.long (0 : Int64))])
  refine own_go (fun _ k => XS.lshl X0.here hx rfl (hb hby d1_28) rfl k) ?_
  show own_Ends _ _ _ _ _ _ _ s₁ (mkF m 29 #[.val (.ref r0), .val (.long (0 : Int64)), .second, .val (.ref r0), .val (.int (2 : Int32)), .val (.int (0 : Int32)), .val (.int x0)] [(.long ((1 : Int64) <<< (x0 &&& 63).toInt64)), (.long (0 : Int64))])
  refine own_go (fun _ k => XS.lor X0.here hx rfl (hb hby d1_29) rfl k) ?_
  show own_Ends _ _ _ _ _ _ _ s₁ (mkF m 30 #[.val (.ref r0), .val (.long (0 : Int64)), .second, .val (.ref r0), .val (.int (2 : Int32)), .val (.int (0 : Int32)), .val (.int x0)] [(.long ((0 : Int64) ||| ((1 : Int64) <<< (x0 &&& 63).toInt64)))])
  refine own_go (fun _ k => XS.lstoreN X0.here hx rfl (hb hby d1_30) rfl (l' := #[.val (.ref r0), .val (.long ((0 : Int64) ||| ((1 : Int64) <<< (x0 &&& 63).toInt64))), .second, .val (.ref r0), .val (.int (2 : Int32)), .val (.int (0 : Int32)), .val (.int x0)]) rfl k) ?_
  show own_Ends _ _ _ _ _ _ _ s₁ (mkF m 31 #[.val (.ref r0), .val (.long ((0 : Int64) ||| ((1 : Int64) <<< (x0 &&& 63).toInt64))), .second, .val (.ref r0), .val (.int (2 : Int32)), .val (.int (0 : Int32)), .val (.int x0)] [])
  refine own_go (fun _ k => XS.iinc X0.here hx rfl (hb hby d1_31) rfl (l' := #[.val (.ref r0), .val (.long ((0 : Int64) ||| ((1 : Int64) <<< (x0 &&& 63).toInt64))), .second, .val (.ref r0), .val (.int (2 : Int32)), .val (.int ((0 : Int32) + (1 : Int32))), .val (.int x0)]) rfl k) ?_
  show own_Ends _ _ _ _ _ _ _ s₁ (mkF m 34 #[.val (.ref r0), .val (.long ((0 : Int64) ||| ((1 : Int64) <<< (x0 &&& 63).toInt64))), .second, .val (.ref r0), .val (.int (2 : Int32)), .val (.int ((0 : Int32) + (1 : Int32))), .val (.int x0)] [])
  refine own_go (fun _ k => XS.goto X0.here hx rfl (pc0 := 34) (pc' := 11) rfl (hb hby d1_34) (by decide) (by decide) k) ?_
  show own_Ends _ _ _ _ _ _ _ s₁ (mkF m 11 #[.val (.ref r0), .val (.long ((0 : Int64) ||| ((1 : Int64) <<< (x0 &&& 63).toInt64))), .second, .val (.ref r0), .val (.int (2 : Int32)), .val (.int ((0 : Int32) + (1 : Int32))), .val (.int x0)] [])
  refine own_go (fun _ k => XS.iload X0.here hx rfl (hb hby d1_11) rfl k) ?_
  show own_Ends _ _ _ _ _ _ _ s₁ (mkF m 13 #[.val (.ref r0), .val (.long ((0 : Int64) ||| ((1 : Int64) <<< (x0 &&& 63).toInt64))), .second, .val (.ref r0), .val (.int (2 : Int32)), .val (.int ((0 : Int32) + (1 : Int32))), .val (.int x0)] [(.int ((0 : Int32) + (1 : Int32)))])
  refine own_go (fun _ k => XS.iload X0.here hx rfl (hb hby d1_13) rfl k) ?_
  show own_Ends _ _ _ _ _ _ _ s₁ (mkF m 15 #[.val (.ref r0), .val (.long ((0 : Int64) ||| ((1 : Int64) <<< (x0 &&& 63).toInt64))), .second, .val (.ref r0), .val (.int (2 : Int32)), .val (.int ((0 : Int32) + (1 : Int32))), .val (.int x0)] [(.int (2 : Int32)), (.int ((0 : Int32) + (1 : Int32)))])
  refine own_go (fun _ k => XS.icmpNo X0.here hx rfl (hb hby d1_15) rfl (tlt (by decide)).2.1 k) ?_
  show own_Ends _ _ _ _ _ _ _ s₁ (mkF m 18 #[.val (.ref r0), .val (.long ((0 : Int64) ||| ((1 : Int64) <<< (x0 &&& 63).toInt64))), .second, .val (.ref r0), .val (.int (2 : Int32)), .val (.int ((0 : Int32) + (1 : Int32))), .val (.int x0)] [])
  refine own_go (fun _ k => XS.aloadN X0.here hx rfl (hb hby d1_18) rfl rfl k) ?_
  show own_Ends _ _ _ _ _ _ _ s₁ (mkF m 19 #[.val (.ref r0), .val (.long ((0 : Int64) ||| ((1 : Int64) <<< (x0 &&& 63).toInt64))), .second, .val (.ref r0), .val (.int (2 : Int32)), .val (.int ((0 : Int32) + (1 : Int32))), .val (.int x0)] [(.ref r0)])
  refine own_go (fun _ k => XS.iload X0.here hx rfl (hb hby d1_19) rfl k) ?_
  show own_Ends _ _ _ _ _ _ _ s₁ (mkF m 21 #[.val (.ref r0), .val (.long ((0 : Int64) ||| ((1 : Int64) <<< (x0 &&& 63).toInt64))), .second, .val (.ref r0), .val (.int (2 : Int32)), .val (.int ((0 : Int32) + (1 : Int32))), .val (.int x0)] [(.int ((0 : Int32) + (1 : Int32))), (.ref r0)])
  refine own_go (fun _ k => own_ldI X0 hx hZ e0 V (i := 1) (v := (.int x1)) (by decide) (by decide) (by decide) hv1 (g := (mkF m 21 #[.val (.ref r0), .val (.long ((0 : Int64) ||| ((1 : Int64) <<< (x0 &&& 63).toInt64))), .second, .val (.ref r0), .val (.int (2 : Int32)), .val (.int ((0 : Int32) + (1 : Int32))), .val (.int x0)] [(.int ((0 : Int32) + (1 : Int32))), (.ref r0)])) rfl rfl (hb hby d1_21) _ k) ?_
  show own_Ends _ _ _ _ _ _ _ s₁ (mkF m 22 #[.val (.ref r0), .val (.long ((0 : Int64) ||| ((1 : Int64) <<< (x0 &&& 63).toInt64))), .second, .val (.ref r0), .val (.int (2 : Int32)), .val (.int ((0 : Int32) + (1 : Int32))), .val (.int x0)] [(.int x1)])
  refine own_go (fun _ k => XS.istore X0.here hx rfl (hb hby d1_22) rfl (l' := #[.val (.ref r0), .val (.long ((0 : Int64) ||| ((1 : Int64) <<< (x0 &&& 63).toInt64))), .second, .val (.ref r0), .val (.int (2 : Int32)), .val (.int ((0 : Int32) + (1 : Int32))), .val (.int x1)]) rfl k) ?_
  show own_Ends _ _ _ _ _ _ _ s₁ (mkF m 24 #[.val (.ref r0), .val (.long ((0 : Int64) ||| ((1 : Int64) <<< (x0 &&& 63).toInt64))), .second, .val (.ref r0), .val (.int (2 : Int32)), .val (.int ((0 : Int32) + (1 : Int32))), .val (.int x1)] [])
  refine own_go (fun _ k => XS.lloadN X0.here hx rfl (hb hby d1_24) rfl k) ?_
  show own_Ends _ _ _ _ _ _ _ s₁ (mkF m 25 #[.val (.ref r0), .val (.long ((0 : Int64) ||| ((1 : Int64) <<< (x0 &&& 63).toInt64))), .second, .val (.ref r0), .val (.int (2 : Int32)), .val (.int ((0 : Int32) + (1 : Int32))), .val (.int x1)] [(.long ((0 : Int64) ||| ((1 : Int64) <<< (x0 &&& 63).toInt64)))])
  refine own_go (fun _ k => XS.lconst X0.here hx rfl (hb hby d1_25) k) ?_
  show own_Ends _ _ _ _ _ _ _ s₁ (mkF m 26 #[.val (.ref r0), .val (.long ((0 : Int64) ||| ((1 : Int64) <<< (x0 &&& 63).toInt64))), .second, .val (.ref r0), .val (.int (2 : Int32)), .val (.int ((0 : Int32) + (1 : Int32))), .val (.int x1)] [(.long (1 : Int64)), (.long ((0 : Int64) ||| ((1 : Int64) <<< (x0 &&& 63).toInt64)))])
  refine own_go (fun _ k => XS.iload X0.here hx rfl (hb hby d1_26) rfl k) ?_
  show own_Ends _ _ _ _ _ _ _ s₁ (mkF m 28 #[.val (.ref r0), .val (.long ((0 : Int64) ||| ((1 : Int64) <<< (x0 &&& 63).toInt64))), .second, .val (.ref r0), .val (.int (2 : Int32)), .val (.int ((0 : Int32) + (1 : Int32))), .val (.int x1)] [(.int x1), (.long (1 : Int64)), (.long ((0 : Int64) ||| ((1 : Int64) <<< (x0 &&& 63).toInt64)))])
  refine own_go (fun _ k => XS.lshl X0.here hx rfl (hb hby d1_28) rfl k) ?_
  show own_Ends _ _ _ _ _ _ _ s₁ (mkF m 29 #[.val (.ref r0), .val (.long ((0 : Int64) ||| ((1 : Int64) <<< (x0 &&& 63).toInt64))), .second, .val (.ref r0), .val (.int (2 : Int32)), .val (.int ((0 : Int32) + (1 : Int32))), .val (.int x1)] [(.long ((1 : Int64) <<< (x1 &&& 63).toInt64)), (.long ((0 : Int64) ||| ((1 : Int64) <<< (x0 &&& 63).toInt64)))])
  refine own_go (fun _ k => XS.lor X0.here hx rfl (hb hby d1_29) rfl k) ?_
  show own_Ends _ _ _ _ _ _ _ s₁ (mkF m 30 #[.val (.ref r0), .val (.long ((0 : Int64) ||| ((1 : Int64) <<< (x0 &&& 63).toInt64))), .second, .val (.ref r0), .val (.int (2 : Int32)), .val (.int ((0 : Int32) + (1 : Int32))), .val (.int x1)] [(.long (((0 : Int64) ||| ((1 : Int64) <<< (x0 &&& 63).toInt64)) ||| ((1 : Int64) <<< (x1 &&& 63).toInt64)))])
  refine own_go (fun _ k => XS.lstoreN X0.here hx rfl (hb hby d1_30) rfl (l' := #[.val (.ref r0), .val (.long (((0 : Int64) ||| ((1 : Int64) <<< (x0 &&& 63).toInt64)) ||| ((1 : Int64) <<< (x1 &&& 63).toInt64))), .second, .val (.ref r0), .val (.int (2 : Int32)), .val (.int ((0 : Int32) + (1 : Int32))), .val (.int x1)]) rfl k) ?_
  show own_Ends _ _ _ _ _ _ _ s₁ (mkF m 31 #[.val (.ref r0), .val (.long (((0 : Int64) ||| ((1 : Int64) <<< (x0 &&& 63).toInt64)) ||| ((1 : Int64) <<< (x1 &&& 63).toInt64))), .second, .val (.ref r0), .val (.int (2 : Int32)), .val (.int ((0 : Int32) + (1 : Int32))), .val (.int x1)] [])
  refine own_go (fun _ k => XS.iinc X0.here hx rfl (hb hby d1_31) rfl (l' := #[.val (.ref r0), .val (.long (((0 : Int64) ||| ((1 : Int64) <<< (x0 &&& 63).toInt64)) ||| ((1 : Int64) <<< (x1 &&& 63).toInt64))), .second, .val (.ref r0), .val (.int (2 : Int32)), .val (.int (((0 : Int32) + (1 : Int32)) + (1 : Int32))), .val (.int x1)]) rfl k) ?_
  show own_Ends _ _ _ _ _ _ _ s₁ (mkF m 34 #[.val (.ref r0), .val (.long (((0 : Int64) ||| ((1 : Int64) <<< (x0 &&& 63).toInt64)) ||| ((1 : Int64) <<< (x1 &&& 63).toInt64))), .second, .val (.ref r0), .val (.int (2 : Int32)), .val (.int (((0 : Int32) + (1 : Int32)) + (1 : Int32))), .val (.int x1)] [])
  refine own_go (fun _ k => XS.goto X0.here hx rfl (pc0 := 34) (pc' := 11) rfl (hb hby d1_34) (by decide) (by decide) k) ?_
  show own_Ends _ _ _ _ _ _ _ s₁ (mkF m 11 #[.val (.ref r0), .val (.long (((0 : Int64) ||| ((1 : Int64) <<< (x0 &&& 63).toInt64)) ||| ((1 : Int64) <<< (x1 &&& 63).toInt64))), .second, .val (.ref r0), .val (.int (2 : Int32)), .val (.int (((0 : Int32) + (1 : Int32)) + (1 : Int32))), .val (.int x1)] [])
  refine own_go (fun _ k => XS.iload X0.here hx rfl (hb hby d1_11) rfl k) ?_
  show own_Ends _ _ _ _ _ _ _ s₁ (mkF m 13 #[.val (.ref r0), .val (.long (((0 : Int64) ||| ((1 : Int64) <<< (x0 &&& 63).toInt64)) ||| ((1 : Int64) <<< (x1 &&& 63).toInt64))), .second, .val (.ref r0), .val (.int (2 : Int32)), .val (.int (((0 : Int32) + (1 : Int32)) + (1 : Int32))), .val (.int x1)] [(.int (((0 : Int32) + (1 : Int32)) + (1 : Int32)))])
  refine own_go (fun _ k => XS.iload X0.here hx rfl (hb hby d1_13) rfl k) ?_
  show own_Ends _ _ _ _ _ _ _ s₁ (mkF m 15 #[.val (.ref r0), .val (.long (((0 : Int64) ||| ((1 : Int64) <<< (x0 &&& 63).toInt64)) ||| ((1 : Int64) <<< (x1 &&& 63).toInt64))), .second, .val (.ref r0), .val (.int (2 : Int32)), .val (.int (((0 : Int32) + (1 : Int32)) + (1 : Int32))), .val (.int x1)] [(.int (2 : Int32)), (.int (((0 : Int32) + (1 : Int32)) + (1 : Int32)))])
  refine own_go (fun _ k => XS.icmpYes X0.here hx rfl (pc0 := 15) (pc' := 37) rfl (hb hby d1_15) rfl (flt (by decide)).2.1 (by decide) (by decide) k) ?_
  show own_Ends _ _ _ _ _ _ _ s₁ (mkF m 37 #[.val (.ref r0), .val (.long (((0 : Int64) ||| ((1 : Int64) <<< (x0 &&& 63).toInt64)) ||| ((1 : Int64) <<< (x1 &&& 63).toInt64))), .second, .val (.ref r0), .val (.int (2 : Int32)), .val (.int (((0 : Int32) + (1 : Int32)) + (1 : Int32))), .val (.int x1)] [])
  refine own_go (fun _ k => XS.lloadN X0.here hx rfl (hb hby d1_37) rfl k) ?_
  show own_Ends _ _ _ _ _ _ _ s₁ (mkF m 38 #[.val (.ref r0), .val (.long (((0 : Int64) ||| ((1 : Int64) <<< (x0 &&& 63).toInt64)) ||| ((1 : Int64) <<< (x1 &&& 63).toInt64))), .second, .val (.ref r0), .val (.int (2 : Int32)), .val (.int (((0 : Int32) + (1 : Int32)) + (1 : Int32))), .val (.int x1)] [(.long (((0 : Int64) ||| ((1 : Int64) <<< (x0 &&& 63).toInt64)) ||| ((1 : Int64) <<< (x1 &&& 63).toInt64)))])
  exact own_retJ X0 hx hlk hret (hb hby d1_38) (by decide) (by decide) ⟨rfl, rfl, e0⟩
set_option maxRecDepth 65536 in
set_option maxHeartbeats 40000000 in
theorem rm1_3 (l : Launch) (Z : State) (a0 : Array Value) (hw : ∀ d ∈ tables_1, d.before a0 Z = true) (r0 : Addr) (h0 : Heap) (kc : ClassId) (f : Nat → Value) (x0 : Int32) (x1 : Int32) (x2 : Int32) (V : own_Ar Z h0 r0 kc .int 3 f) (hv0 : f 0 = .int x0) (hv1 : f 1 = .int x1) (hv2 : f 2 = .int x2) :
    own_C l (⟨"com/example/bestow/bestow/Catalogue", "filter", "([I)J"⟩ : MethodName) prog_1_method_7_code 7 (some .long) ({ frames := 0, cells := 0, slots := 0, locals := 0 } : Room) Z #[(.ref r0)] h0 (fun v h L => v = some (.long ((((0 : Int64) ||| own_s x0) ||| own_s x1) ||| own_s x2)) ∧ L = [] ∧ h = h0) := by
  refine own_enter pn_1 ?_
  intro p e s m below meth c s₁ X0 hx hby hml hown hnm hret hlk hZ e0
  replace hown : s.vm.findClass "com/example/bestow/bestow/Catalogue" = some m.cls := hown
  have ef : entryFrame m #[(.ref r0)] 7 = mkF m 0 #[.val (.ref r0), .unset, .unset, .unset, .unset, .unset, .unset] [] := by first | rfl | (simp [entryFrame, mkF, argsToLocals, Value.category, maxLocals]; done)
  refine own_cast ef ?_
  show own_Ends _ _ _ _ _ _ _ s₁ (mkF m 0 #[.val (.ref r0), .unset, .unset, .unset, .unset, .unset, .unset] [])
  refine own_go (fun _ k => XS.lconst X0.here hx rfl (hb hby d1_0) k) ?_
  show own_Ends _ _ _ _ _ _ _ s₁ (mkF m 1 #[.val (.ref r0), .unset, .unset, .unset, .unset, .unset, .unset] [(.long (0 : Int64))])
  refine own_go (fun _ k => XS.lstoreN X0.here hx rfl (hb hby d1_1) rfl (l' := #[.val (.ref r0), .val (.long (0 : Int64)), .second, .unset, .unset, .unset, .unset]) rfl k) ?_
  show own_Ends _ _ _ _ _ _ _ s₁ (mkF m 2 #[.val (.ref r0), .val (.long (0 : Int64)), .second, .unset, .unset, .unset, .unset] [])
  refine own_go (fun _ k => XS.aloadN X0.here hx rfl (hb hby d1_2) rfl rfl k) ?_
  show own_Ends _ _ _ _ _ _ _ s₁ (mkF m 3 #[.val (.ref r0), .val (.long (0 : Int64)), .second, .unset, .unset, .unset, .unset] [(.ref r0)])
  refine own_go (fun _ k => XS.astoreN X0.here hx rfl (hb hby d1_3) rfl rfl (l' := #[.val (.ref r0), .val (.long (0 : Int64)), .second, .val (.ref r0), .unset, .unset, .unset]) rfl k) ?_
  show own_Ends _ _ _ _ _ _ _ s₁ (mkF m 4 #[.val (.ref r0), .val (.long (0 : Int64)), .second, .val (.ref r0), .unset, .unset, .unset] [])
  refine own_go (fun _ k => XS.aloadN X0.here hx rfl (hb hby d1_4) rfl rfl k) ?_
  show own_Ends _ _ _ _ _ _ _ s₁ (mkF m 5 #[.val (.ref r0), .val (.long (0 : Int64)), .second, .val (.ref r0), .unset, .unset, .unset] [(.ref r0)])
  refine own_go (fun _ k => own_len X0 hx hZ e0 V (z := (3 : Int32)) rfl (g := (mkF m 5 #[.val (.ref r0), .val (.long (0 : Int64)), .second, .val (.ref r0), .unset, .unset, .unset] [(.ref r0)])) rfl rfl (hb hby d1_5) _ k) ?_
  show own_Ends _ _ _ _ _ _ _ s₁ (mkF m 6 #[.val (.ref r0), .val (.long (0 : Int64)), .second, .val (.ref r0), .unset, .unset, .unset] [(.int (3 : Int32))])
  refine own_go (fun _ k => XS.istore X0.here hx rfl (hb hby d1_6) rfl (l' := #[.val (.ref r0), .val (.long (0 : Int64)), .second, .val (.ref r0), .val (.int (3 : Int32)), .unset, .unset]) rfl k) ?_
  show own_Ends _ _ _ _ _ _ _ s₁ (mkF m 8 #[.val (.ref r0), .val (.long (0 : Int64)), .second, .val (.ref r0), .val (.int (3 : Int32)), .unset, .unset] [])
  refine own_go (fun _ k => XS.iconst X0.here hx rfl (hb hby d1_8) k) ?_
  show own_Ends _ _ _ _ _ _ _ s₁ (mkF m 9 #[.val (.ref r0), .val (.long (0 : Int64)), .second, .val (.ref r0), .val (.int (3 : Int32)), .unset, .unset] [(.int (0 : Int32))])
  refine own_go (fun _ k => XS.istore X0.here hx rfl (hb hby d1_9) rfl (l' := #[.val (.ref r0), .val (.long (0 : Int64)), .second, .val (.ref r0), .val (.int (3 : Int32)), .val (.int (0 : Int32)), .unset]) rfl k) ?_
  show own_Ends _ _ _ _ _ _ _ s₁ (mkF m 11 #[.val (.ref r0), .val (.long (0 : Int64)), .second, .val (.ref r0), .val (.int (3 : Int32)), .val (.int (0 : Int32)), .unset] [])
  refine own_go (fun _ k => XS.iload X0.here hx rfl (hb hby d1_11) rfl k) ?_
  show own_Ends _ _ _ _ _ _ _ s₁ (mkF m 13 #[.val (.ref r0), .val (.long (0 : Int64)), .second, .val (.ref r0), .val (.int (3 : Int32)), .val (.int (0 : Int32)), .unset] [(.int (0 : Int32))])
  refine own_go (fun _ k => XS.iload X0.here hx rfl (hb hby d1_13) rfl k) ?_
  show own_Ends _ _ _ _ _ _ _ s₁ (mkF m 15 #[.val (.ref r0), .val (.long (0 : Int64)), .second, .val (.ref r0), .val (.int (3 : Int32)), .val (.int (0 : Int32)), .unset] [(.int (3 : Int32)), (.int (0 : Int32))])
  refine own_go (fun _ k => XS.icmpNo X0.here hx rfl (hb hby d1_15) rfl (tlt (by decide)).2.1 k) ?_
  show own_Ends _ _ _ _ _ _ _ s₁ (mkF m 18 #[.val (.ref r0), .val (.long (0 : Int64)), .second, .val (.ref r0), .val (.int (3 : Int32)), .val (.int (0 : Int32)), .unset] [])
  refine own_go (fun _ k => XS.aloadN X0.here hx rfl (hb hby d1_18) rfl rfl k) ?_
  show own_Ends _ _ _ _ _ _ _ s₁ (mkF m 19 #[.val (.ref r0), .val (.long (0 : Int64)), .second, .val (.ref r0), .val (.int (3 : Int32)), .val (.int (0 : Int32)), .unset] [(.ref r0)])
  refine own_go (fun _ k => XS.iload X0.here hx rfl (hb hby d1_19) rfl k) ?_
  show own_Ends _ _ _ _ _ _ _ s₁ (mkF m 21 #[.val (.ref r0), .val (.long (0 : Int64)), .second, .val (.ref r0), .val (.int (3 : Int32)), .val (.int (0 : Int32)), .unset] [(.int (0 : Int32)), (.ref r0)])
  refine own_go (fun _ k => own_ldI X0 hx hZ e0 V (i := 0) (v := (.int x0)) (by decide) (by decide) (by decide) hv0 (g := (mkF m 21 #[.val (.ref r0), .val (.long (0 : Int64)), .second, .val (.ref r0), .val (.int (3 : Int32)), .val (.int (0 : Int32)), .unset] [(.int (0 : Int32)), (.ref r0)])) rfl rfl (hb hby d1_21) _ k) ?_
  show own_Ends _ _ _ _ _ _ _ s₁ (mkF m 22 #[.val (.ref r0), .val (.long (0 : Int64)), .second, .val (.ref r0), .val (.int (3 : Int32)), .val (.int (0 : Int32)), .unset] [(.int x0)])
  refine own_go (fun _ k => XS.istore X0.here hx rfl (hb hby d1_22) rfl (l' := #[.val (.ref r0), .val (.long (0 : Int64)), .second, .val (.ref r0), .val (.int (3 : Int32)), .val (.int (0 : Int32)), .val (.int x0)]) rfl k) ?_
  show own_Ends _ _ _ _ _ _ _ s₁ (mkF m 24 #[.val (.ref r0), .val (.long (0 : Int64)), .second, .val (.ref r0), .val (.int (3 : Int32)), .val (.int (0 : Int32)), .val (.int x0)] [])
  refine own_go (fun _ k => XS.lloadN X0.here hx rfl (hb hby d1_24) rfl k) ?_
  show own_Ends _ _ _ _ _ _ _ s₁ (mkF m 25 #[.val (.ref r0), .val (.long (0 : Int64)), .second, .val (.ref r0), .val (.int (3 : Int32)), .val (.int (0 : Int32)), .val (.int x0)] [(.long (0 : Int64))])
  refine own_go (fun _ k => XS.lconst X0.here hx rfl (hb hby d1_25) k) ?_
  show own_Ends _ _ _ _ _ _ _ s₁ (mkF m 26 #[.val (.ref r0), .val (.long (0 : Int64)), .second, .val (.ref r0), .val (.int (3 : Int32)), .val (.int (0 : Int32)), .val (.int x0)] [(.long (1 : Int64)), (.long (0 : Int64))])
  refine own_go (fun _ k => XS.iload X0.here hx rfl (hb hby d1_26) rfl k) ?_
  show own_Ends _ _ _ _ _ _ _ s₁ (mkF m 28 #[.val (.ref r0), .val (.long (0 : Int64)), .second, .val (.ref r0), .val (.int (3 : Int32)), .val (.int (0 : Int32)), .val (.int x0)] [(.int x0), (.long (1 : Int64)), (.long (0 : Int64))])
  refine own_go (fun _ k => XS.lshl X0.here hx rfl (hb hby d1_28) rfl k) ?_
  show own_Ends _ _ _ _ _ _ _ s₁ (mkF m 29 #[.val (.ref r0), .val (.long (0 : Int64)), .second, .val (.ref r0), .val (.int (3 : Int32)), .val (.int (0 : Int32)), .val (.int x0)] [(.long ((1 : Int64) <<< (x0 &&& 63).toInt64)), (.long (0 : Int64))])
  refine own_go (fun _ k => XS.lor X0.here hx rfl (hb hby d1_29) rfl k) ?_
  show own_Ends _ _ _ _ _ _ _ s₁ (mkF m 30 #[.val (.ref r0), .val (.long (0 : Int64)), .second, .val (.ref r0), .val (.int (3 : Int32)), .val (.int (0 : Int32)), .val (.int x0)] [(.long ((0 : Int64) ||| ((1 : Int64) <<< (x0 &&& 63).toInt64)))])
  refine own_go (fun _ k => XS.lstoreN X0.here hx rfl (hb hby d1_30) rfl (l' := #[.val (.ref r0), .val (.long ((0 : Int64) ||| ((1 : Int64) <<< (x0 &&& 63).toInt64))), .second, .val (.ref r0), .val (.int (3 : Int32)), .val (.int (0 : Int32)), .val (.int x0)]) rfl k) ?_
  show own_Ends _ _ _ _ _ _ _ s₁ (mkF m 31 #[.val (.ref r0), .val (.long ((0 : Int64) ||| ((1 : Int64) <<< (x0 &&& 63).toInt64))), .second, .val (.ref r0), .val (.int (3 : Int32)), .val (.int (0 : Int32)), .val (.int x0)] [])
  refine own_go (fun _ k => XS.iinc X0.here hx rfl (hb hby d1_31) rfl (l' := #[.val (.ref r0), .val (.long ((0 : Int64) ||| ((1 : Int64) <<< (x0 &&& 63).toInt64))), .second, .val (.ref r0), .val (.int (3 : Int32)), .val (.int ((0 : Int32) + (1 : Int32))), .val (.int x0)]) rfl k) ?_
  show own_Ends _ _ _ _ _ _ _ s₁ (mkF m 34 #[.val (.ref r0), .val (.long ((0 : Int64) ||| ((1 : Int64) <<< (x0 &&& 63).toInt64))), .second, .val (.ref r0), .val (.int (3 : Int32)), .val (.int ((0 : Int32) + (1 : Int32))), .val (.int x0)] [])
  refine own_go (fun _ k => XS.goto X0.here hx rfl (pc0 := 34) (pc' := 11) rfl (hb hby d1_34) (by decide) (by decide) k) ?_
  show own_Ends _ _ _ _ _ _ _ s₁ (mkF m 11 #[.val (.ref r0), .val (.long ((0 : Int64) ||| ((1 : Int64) <<< (x0 &&& 63).toInt64))), .second, .val (.ref r0), .val (.int (3 : Int32)), .val (.int ((0 : Int32) + (1 : Int32))), .val (.int x0)] [])
  refine own_go (fun _ k => XS.iload X0.here hx rfl (hb hby d1_11) rfl k) ?_
  show own_Ends _ _ _ _ _ _ _ s₁ (mkF m 13 #[.val (.ref r0), .val (.long ((0 : Int64) ||| ((1 : Int64) <<< (x0 &&& 63).toInt64))), .second, .val (.ref r0), .val (.int (3 : Int32)), .val (.int ((0 : Int32) + (1 : Int32))), .val (.int x0)] [(.int ((0 : Int32) + (1 : Int32)))])
  refine own_go (fun _ k => XS.iload X0.here hx rfl (hb hby d1_13) rfl k) ?_
  show own_Ends _ _ _ _ _ _ _ s₁ (mkF m 15 #[.val (.ref r0), .val (.long ((0 : Int64) ||| ((1 : Int64) <<< (x0 &&& 63).toInt64))), .second, .val (.ref r0), .val (.int (3 : Int32)), .val (.int ((0 : Int32) + (1 : Int32))), .val (.int x0)] [(.int (3 : Int32)), (.int ((0 : Int32) + (1 : Int32)))])
  refine own_go (fun _ k => XS.icmpNo X0.here hx rfl (hb hby d1_15) rfl (tlt (by decide)).2.1 k) ?_
  show own_Ends _ _ _ _ _ _ _ s₁ (mkF m 18 #[.val (.ref r0), .val (.long ((0 : Int64) ||| ((1 : Int64) <<< (x0 &&& 63).toInt64))), .second, .val (.ref r0), .val (.int (3 : Int32)), .val (.int ((0 : Int32) + (1 : Int32))), .val (.int x0)] [])
  refine own_go (fun _ k => XS.aloadN X0.here hx rfl (hb hby d1_18) rfl rfl k) ?_
  show own_Ends _ _ _ _ _ _ _ s₁ (mkF m 19 #[.val (.ref r0), .val (.long ((0 : Int64) ||| ((1 : Int64) <<< (x0 &&& 63).toInt64))), .second, .val (.ref r0), .val (.int (3 : Int32)), .val (.int ((0 : Int32) + (1 : Int32))), .val (.int x0)] [(.ref r0)])
  refine own_go (fun _ k => XS.iload X0.here hx rfl (hb hby d1_19) rfl k) ?_
  show own_Ends _ _ _ _ _ _ _ s₁ (mkF m 21 #[.val (.ref r0), .val (.long ((0 : Int64) ||| ((1 : Int64) <<< (x0 &&& 63).toInt64))), .second, .val (.ref r0), .val (.int (3 : Int32)), .val (.int ((0 : Int32) + (1 : Int32))), .val (.int x0)] [(.int ((0 : Int32) + (1 : Int32))), (.ref r0)])
  refine own_go (fun _ k => own_ldI X0 hx hZ e0 V (i := 1) (v := (.int x1)) (by decide) (by decide) (by decide) hv1 (g := (mkF m 21 #[.val (.ref r0), .val (.long ((0 : Int64) ||| ((1 : Int64) <<< (x0 &&& 63).toInt64))), .second, .val (.ref r0), .val (.int (3 : Int32)), .val (.int ((0 : Int32) + (1 : Int32))), .val (.int x0)] [(.int ((0 : Int32) + (1 : Int32))), (.ref r0)])) rfl rfl (hb hby d1_21) _ k) ?_
  show own_Ends _ _ _ _ _ _ _ s₁ (mkF m 22 #[.val (.ref r0), .val (.long ((0 : Int64) ||| ((1 : Int64) <<< (x0 &&& 63).toInt64))), .second, .val (.ref r0), .val (.int (3 : Int32)), .val (.int ((0 : Int32) + (1 : Int32))), .val (.int x0)] [(.int x1)])
  refine own_go (fun _ k => XS.istore X0.here hx rfl (hb hby d1_22) rfl (l' := #[.val (.ref r0), .val (.long ((0 : Int64) ||| ((1 : Int64) <<< (x0 &&& 63).toInt64))), .second, .val (.ref r0), .val (.int (3 : Int32)), .val (.int ((0 : Int32) + (1 : Int32))), .val (.int x1)]) rfl k) ?_
  show own_Ends _ _ _ _ _ _ _ s₁ (mkF m 24 #[.val (.ref r0), .val (.long ((0 : Int64) ||| ((1 : Int64) <<< (x0 &&& 63).toInt64))), .second, .val (.ref r0), .val (.int (3 : Int32)), .val (.int ((0 : Int32) + (1 : Int32))), .val (.int x1)] [])
  refine own_go (fun _ k => XS.lloadN X0.here hx rfl (hb hby d1_24) rfl k) ?_
  show own_Ends _ _ _ _ _ _ _ s₁ (mkF m 25 #[.val (.ref r0), .val (.long ((0 : Int64) ||| ((1 : Int64) <<< (x0 &&& 63).toInt64))), .second, .val (.ref r0), .val (.int (3 : Int32)), .val (.int ((0 : Int32) + (1 : Int32))), .val (.int x1)] [(.long ((0 : Int64) ||| ((1 : Int64) <<< (x0 &&& 63).toInt64)))])
  refine own_go (fun _ k => XS.lconst X0.here hx rfl (hb hby d1_25) k) ?_
  show own_Ends _ _ _ _ _ _ _ s₁ (mkF m 26 #[.val (.ref r0), .val (.long ((0 : Int64) ||| ((1 : Int64) <<< (x0 &&& 63).toInt64))), .second, .val (.ref r0), .val (.int (3 : Int32)), .val (.int ((0 : Int32) + (1 : Int32))), .val (.int x1)] [(.long (1 : Int64)), (.long ((0 : Int64) ||| ((1 : Int64) <<< (x0 &&& 63).toInt64)))])
  refine own_go (fun _ k => XS.iload X0.here hx rfl (hb hby d1_26) rfl k) ?_
  show own_Ends _ _ _ _ _ _ _ s₁ (mkF m 28 #[.val (.ref r0), .val (.long ((0 : Int64) ||| ((1 : Int64) <<< (x0 &&& 63).toInt64))), .second, .val (.ref r0), .val (.int (3 : Int32)), .val (.int ((0 : Int32) + (1 : Int32))), .val (.int x1)] [(.int x1), (.long (1 : Int64)), (.long ((0 : Int64) ||| ((1 : Int64) <<< (x0 &&& 63).toInt64)))])
  refine own_go (fun _ k => XS.lshl X0.here hx rfl (hb hby d1_28) rfl k) ?_
  show own_Ends _ _ _ _ _ _ _ s₁ (mkF m 29 #[.val (.ref r0), .val (.long ((0 : Int64) ||| ((1 : Int64) <<< (x0 &&& 63).toInt64))), .second, .val (.ref r0), .val (.int (3 : Int32)), .val (.int ((0 : Int32) + (1 : Int32))), .val (.int x1)] [(.long ((1 : Int64) <<< (x1 &&& 63).toInt64)), (.long ((0 : Int64) ||| ((1 : Int64) <<< (x0 &&& 63).toInt64)))])
  refine own_go (fun _ k => XS.lor X0.here hx rfl (hb hby d1_29) rfl k) ?_
  show own_Ends _ _ _ _ _ _ _ s₁ (mkF m 30 #[.val (.ref r0), .val (.long ((0 : Int64) ||| ((1 : Int64) <<< (x0 &&& 63).toInt64))), .second, .val (.ref r0), .val (.int (3 : Int32)), .val (.int ((0 : Int32) + (1 : Int32))), .val (.int x1)] [(.long (((0 : Int64) ||| ((1 : Int64) <<< (x0 &&& 63).toInt64)) ||| ((1 : Int64) <<< (x1 &&& 63).toInt64)))])
  refine own_go (fun _ k => XS.lstoreN X0.here hx rfl (hb hby d1_30) rfl (l' := #[.val (.ref r0), .val (.long (((0 : Int64) ||| ((1 : Int64) <<< (x0 &&& 63).toInt64)) ||| ((1 : Int64) <<< (x1 &&& 63).toInt64))), .second, .val (.ref r0), .val (.int (3 : Int32)), .val (.int ((0 : Int32) + (1 : Int32))), .val (.int x1)]) rfl k) ?_
  show own_Ends _ _ _ _ _ _ _ s₁ (mkF m 31 #[.val (.ref r0), .val (.long (((0 : Int64) ||| ((1 : Int64) <<< (x0 &&& 63).toInt64)) ||| ((1 : Int64) <<< (x1 &&& 63).toInt64))), .second, .val (.ref r0), .val (.int (3 : Int32)), .val (.int ((0 : Int32) + (1 : Int32))), .val (.int x1)] [])
  refine own_go (fun _ k => XS.iinc X0.here hx rfl (hb hby d1_31) rfl (l' := #[.val (.ref r0), .val (.long (((0 : Int64) ||| ((1 : Int64) <<< (x0 &&& 63).toInt64)) ||| ((1 : Int64) <<< (x1 &&& 63).toInt64))), .second, .val (.ref r0), .val (.int (3 : Int32)), .val (.int (((0 : Int32) + (1 : Int32)) + (1 : Int32))), .val (.int x1)]) rfl k) ?_
  show own_Ends _ _ _ _ _ _ _ s₁ (mkF m 34 #[.val (.ref r0), .val (.long (((0 : Int64) ||| ((1 : Int64) <<< (x0 &&& 63).toInt64)) ||| ((1 : Int64) <<< (x1 &&& 63).toInt64))), .second, .val (.ref r0), .val (.int (3 : Int32)), .val (.int (((0 : Int32) + (1 : Int32)) + (1 : Int32))), .val (.int x1)] [])
  refine own_go (fun _ k => XS.goto X0.here hx rfl (pc0 := 34) (pc' := 11) rfl (hb hby d1_34) (by decide) (by decide) k) ?_
  show own_Ends _ _ _ _ _ _ _ s₁ (mkF m 11 #[.val (.ref r0), .val (.long (((0 : Int64) ||| ((1 : Int64) <<< (x0 &&& 63).toInt64)) ||| ((1 : Int64) <<< (x1 &&& 63).toInt64))), .second, .val (.ref r0), .val (.int (3 : Int32)), .val (.int (((0 : Int32) + (1 : Int32)) + (1 : Int32))), .val (.int x1)] [])
  refine own_go (fun _ k => XS.iload X0.here hx rfl (hb hby d1_11) rfl k) ?_
  show own_Ends _ _ _ _ _ _ _ s₁ (mkF m 13 #[.val (.ref r0), .val (.long (((0 : Int64) ||| ((1 : Int64) <<< (x0 &&& 63).toInt64)) ||| ((1 : Int64) <<< (x1 &&& 63).toInt64))), .second, .val (.ref r0), .val (.int (3 : Int32)), .val (.int (((0 : Int32) + (1 : Int32)) + (1 : Int32))), .val (.int x1)] [(.int (((0 : Int32) + (1 : Int32)) + (1 : Int32)))])
  refine own_go (fun _ k => XS.iload X0.here hx rfl (hb hby d1_13) rfl k) ?_
  show own_Ends _ _ _ _ _ _ _ s₁ (mkF m 15 #[.val (.ref r0), .val (.long (((0 : Int64) ||| ((1 : Int64) <<< (x0 &&& 63).toInt64)) ||| ((1 : Int64) <<< (x1 &&& 63).toInt64))), .second, .val (.ref r0), .val (.int (3 : Int32)), .val (.int (((0 : Int32) + (1 : Int32)) + (1 : Int32))), .val (.int x1)] [(.int (3 : Int32)), (.int (((0 : Int32) + (1 : Int32)) + (1 : Int32)))])
  refine own_go (fun _ k => XS.icmpNo X0.here hx rfl (hb hby d1_15) rfl (tlt (by decide)).2.1 k) ?_
  show own_Ends _ _ _ _ _ _ _ s₁ (mkF m 18 #[.val (.ref r0), .val (.long (((0 : Int64) ||| ((1 : Int64) <<< (x0 &&& 63).toInt64)) ||| ((1 : Int64) <<< (x1 &&& 63).toInt64))), .second, .val (.ref r0), .val (.int (3 : Int32)), .val (.int (((0 : Int32) + (1 : Int32)) + (1 : Int32))), .val (.int x1)] [])
  refine own_go (fun _ k => XS.aloadN X0.here hx rfl (hb hby d1_18) rfl rfl k) ?_
  show own_Ends _ _ _ _ _ _ _ s₁ (mkF m 19 #[.val (.ref r0), .val (.long (((0 : Int64) ||| ((1 : Int64) <<< (x0 &&& 63).toInt64)) ||| ((1 : Int64) <<< (x1 &&& 63).toInt64))), .second, .val (.ref r0), .val (.int (3 : Int32)), .val (.int (((0 : Int32) + (1 : Int32)) + (1 : Int32))), .val (.int x1)] [(.ref r0)])
  refine own_go (fun _ k => XS.iload X0.here hx rfl (hb hby d1_19) rfl k) ?_
  show own_Ends _ _ _ _ _ _ _ s₁ (mkF m 21 #[.val (.ref r0), .val (.long (((0 : Int64) ||| ((1 : Int64) <<< (x0 &&& 63).toInt64)) ||| ((1 : Int64) <<< (x1 &&& 63).toInt64))), .second, .val (.ref r0), .val (.int (3 : Int32)), .val (.int (((0 : Int32) + (1 : Int32)) + (1 : Int32))), .val (.int x1)] [(.int (((0 : Int32) + (1 : Int32)) + (1 : Int32))), (.ref r0)])
  refine own_go (fun _ k => own_ldI X0 hx hZ e0 V (i := 2) (v := (.int x2)) (by decide) (by decide) (by decide) hv2 (g := (mkF m 21 #[.val (.ref r0), .val (.long (((0 : Int64) ||| ((1 : Int64) <<< (x0 &&& 63).toInt64)) ||| ((1 : Int64) <<< (x1 &&& 63).toInt64))), .second, .val (.ref r0), .val (.int (3 : Int32)), .val (.int (((0 : Int32) + (1 : Int32)) + (1 : Int32))), .val (.int x1)] [(.int (((0 : Int32) + (1 : Int32)) + (1 : Int32))), (.ref r0)])) rfl rfl (hb hby d1_21) _ k) ?_
  show own_Ends _ _ _ _ _ _ _ s₁ (mkF m 22 #[.val (.ref r0), .val (.long (((0 : Int64) ||| ((1 : Int64) <<< (x0 &&& 63).toInt64)) ||| ((1 : Int64) <<< (x1 &&& 63).toInt64))), .second, .val (.ref r0), .val (.int (3 : Int32)), .val (.int (((0 : Int32) + (1 : Int32)) + (1 : Int32))), .val (.int x1)] [(.int x2)])
  refine own_go (fun _ k => XS.istore X0.here hx rfl (hb hby d1_22) rfl (l' := #[.val (.ref r0), .val (.long (((0 : Int64) ||| ((1 : Int64) <<< (x0 &&& 63).toInt64)) ||| ((1 : Int64) <<< (x1 &&& 63).toInt64))), .second, .val (.ref r0), .val (.int (3 : Int32)), .val (.int (((0 : Int32) + (1 : Int32)) + (1 : Int32))), .val (.int x2)]) rfl k) ?_
  show own_Ends _ _ _ _ _ _ _ s₁ (mkF m 24 #[.val (.ref r0), .val (.long (((0 : Int64) ||| ((1 : Int64) <<< (x0 &&& 63).toInt64)) ||| ((1 : Int64) <<< (x1 &&& 63).toInt64))), .second, .val (.ref r0), .val (.int (3 : Int32)), .val (.int (((0 : Int32) + (1 : Int32)) + (1 : Int32))), .val (.int x2)] [])
  refine own_go (fun _ k => XS.lloadN X0.here hx rfl (hb hby d1_24) rfl k) ?_
  show own_Ends _ _ _ _ _ _ _ s₁ (mkF m 25 #[.val (.ref r0), .val (.long (((0 : Int64) ||| ((1 : Int64) <<< (x0 &&& 63).toInt64)) ||| ((1 : Int64) <<< (x1 &&& 63).toInt64))), .second, .val (.ref r0), .val (.int (3 : Int32)), .val (.int (((0 : Int32) + (1 : Int32)) + (1 : Int32))), .val (.int x2)] [(.long (((0 : Int64) ||| ((1 : Int64) <<< (x0 &&& 63).toInt64)) ||| ((1 : Int64) <<< (x1 &&& 63).toInt64)))])
  refine own_go (fun _ k => XS.lconst X0.here hx rfl (hb hby d1_25) k) ?_
  show own_Ends _ _ _ _ _ _ _ s₁ (mkF m 26 #[.val (.ref r0), .val (.long (((0 : Int64) ||| ((1 : Int64) <<< (x0 &&& 63).toInt64)) ||| ((1 : Int64) <<< (x1 &&& 63).toInt64))), .second, .val (.ref r0), .val (.int (3 : Int32)), .val (.int (((0 : Int32) + (1 : Int32)) + (1 : Int32))), .val (.int x2)] [(.long (1 : Int64)), (.long (((0 : Int64) ||| ((1 : Int64) <<< (x0 &&& 63).toInt64)) ||| ((1 : Int64) <<< (x1 &&& 63).toInt64)))])
  refine own_go (fun _ k => XS.iload X0.here hx rfl (hb hby d1_26) rfl k) ?_
  show own_Ends _ _ _ _ _ _ _ s₁ (mkF m 28 #[.val (.ref r0), .val (.long (((0 : Int64) ||| ((1 : Int64) <<< (x0 &&& 63).toInt64)) ||| ((1 : Int64) <<< (x1 &&& 63).toInt64))), .second, .val (.ref r0), .val (.int (3 : Int32)), .val (.int (((0 : Int32) + (1 : Int32)) + (1 : Int32))), .val (.int x2)] [(.int x2), (.long (1 : Int64)), (.long (((0 : Int64) ||| ((1 : Int64) <<< (x0 &&& 63).toInt64)) ||| ((1 : Int64) <<< (x1 &&& 63).toInt64)))])
  refine own_go (fun _ k => XS.lshl X0.here hx rfl (hb hby d1_28) rfl k) ?_
  show own_Ends _ _ _ _ _ _ _ s₁ (mkF m 29 #[.val (.ref r0), .val (.long (((0 : Int64) ||| ((1 : Int64) <<< (x0 &&& 63).toInt64)) ||| ((1 : Int64) <<< (x1 &&& 63).toInt64))), .second, .val (.ref r0), .val (.int (3 : Int32)), .val (.int (((0 : Int32) + (1 : Int32)) + (1 : Int32))), .val (.int x2)] [(.long ((1 : Int64) <<< (x2 &&& 63).toInt64)), (.long (((0 : Int64) ||| ((1 : Int64) <<< (x0 &&& 63).toInt64)) ||| ((1 : Int64) <<< (x1 &&& 63).toInt64)))])
  refine own_go (fun _ k => XS.lor X0.here hx rfl (hb hby d1_29) rfl k) ?_
  show own_Ends _ _ _ _ _ _ _ s₁ (mkF m 30 #[.val (.ref r0), .val (.long (((0 : Int64) ||| ((1 : Int64) <<< (x0 &&& 63).toInt64)) ||| ((1 : Int64) <<< (x1 &&& 63).toInt64))), .second, .val (.ref r0), .val (.int (3 : Int32)), .val (.int (((0 : Int32) + (1 : Int32)) + (1 : Int32))), .val (.int x2)] [(.long ((((0 : Int64) ||| ((1 : Int64) <<< (x0 &&& 63).toInt64)) ||| ((1 : Int64) <<< (x1 &&& 63).toInt64)) ||| ((1 : Int64) <<< (x2 &&& 63).toInt64)))])
  refine own_go (fun _ k => XS.lstoreN X0.here hx rfl (hb hby d1_30) rfl (l' := #[.val (.ref r0), .val (.long ((((0 : Int64) ||| ((1 : Int64) <<< (x0 &&& 63).toInt64)) ||| ((1 : Int64) <<< (x1 &&& 63).toInt64)) ||| ((1 : Int64) <<< (x2 &&& 63).toInt64))), .second, .val (.ref r0), .val (.int (3 : Int32)), .val (.int (((0 : Int32) + (1 : Int32)) + (1 : Int32))), .val (.int x2)]) rfl k) ?_
  show own_Ends _ _ _ _ _ _ _ s₁ (mkF m 31 #[.val (.ref r0), .val (.long ((((0 : Int64) ||| ((1 : Int64) <<< (x0 &&& 63).toInt64)) ||| ((1 : Int64) <<< (x1 &&& 63).toInt64)) ||| ((1 : Int64) <<< (x2 &&& 63).toInt64))), .second, .val (.ref r0), .val (.int (3 : Int32)), .val (.int (((0 : Int32) + (1 : Int32)) + (1 : Int32))), .val (.int x2)] [])
  refine own_go (fun _ k => XS.iinc X0.here hx rfl (hb hby d1_31) rfl (l' := #[.val (.ref r0), .val (.long ((((0 : Int64) ||| ((1 : Int64) <<< (x0 &&& 63).toInt64)) ||| ((1 : Int64) <<< (x1 &&& 63).toInt64)) ||| ((1 : Int64) <<< (x2 &&& 63).toInt64))), .second, .val (.ref r0), .val (.int (3 : Int32)), .val (.int ((((0 : Int32) + (1 : Int32)) + (1 : Int32)) + (1 : Int32))), .val (.int x2)]) rfl k) ?_
  show own_Ends _ _ _ _ _ _ _ s₁ (mkF m 34 #[.val (.ref r0), .val (.long ((((0 : Int64) ||| ((1 : Int64) <<< (x0 &&& 63).toInt64)) ||| ((1 : Int64) <<< (x1 &&& 63).toInt64)) ||| ((1 : Int64) <<< (x2 &&& 63).toInt64))), .second, .val (.ref r0), .val (.int (3 : Int32)), .val (.int ((((0 : Int32) + (1 : Int32)) + (1 : Int32)) + (1 : Int32))), .val (.int x2)] [])
  refine own_go (fun _ k => XS.goto X0.here hx rfl (pc0 := 34) (pc' := 11) rfl (hb hby d1_34) (by decide) (by decide) k) ?_
  show own_Ends _ _ _ _ _ _ _ s₁ (mkF m 11 #[.val (.ref r0), .val (.long ((((0 : Int64) ||| ((1 : Int64) <<< (x0 &&& 63).toInt64)) ||| ((1 : Int64) <<< (x1 &&& 63).toInt64)) ||| ((1 : Int64) <<< (x2 &&& 63).toInt64))), .second, .val (.ref r0), .val (.int (3 : Int32)), .val (.int ((((0 : Int32) + (1 : Int32)) + (1 : Int32)) + (1 : Int32))), .val (.int x2)] [])
  refine own_go (fun _ k => XS.iload X0.here hx rfl (hb hby d1_11) rfl k) ?_
  show own_Ends _ _ _ _ _ _ _ s₁ (mkF m 13 #[.val (.ref r0), .val (.long ((((0 : Int64) ||| ((1 : Int64) <<< (x0 &&& 63).toInt64)) ||| ((1 : Int64) <<< (x1 &&& 63).toInt64)) ||| ((1 : Int64) <<< (x2 &&& 63).toInt64))), .second, .val (.ref r0), .val (.int (3 : Int32)), .val (.int ((((0 : Int32) + (1 : Int32)) + (1 : Int32)) + (1 : Int32))), .val (.int x2)] [(.int ((((0 : Int32) + (1 : Int32)) + (1 : Int32)) + (1 : Int32)))])
  refine own_go (fun _ k => XS.iload X0.here hx rfl (hb hby d1_13) rfl k) ?_
  show own_Ends _ _ _ _ _ _ _ s₁ (mkF m 15 #[.val (.ref r0), .val (.long ((((0 : Int64) ||| ((1 : Int64) <<< (x0 &&& 63).toInt64)) ||| ((1 : Int64) <<< (x1 &&& 63).toInt64)) ||| ((1 : Int64) <<< (x2 &&& 63).toInt64))), .second, .val (.ref r0), .val (.int (3 : Int32)), .val (.int ((((0 : Int32) + (1 : Int32)) + (1 : Int32)) + (1 : Int32))), .val (.int x2)] [(.int (3 : Int32)), (.int ((((0 : Int32) + (1 : Int32)) + (1 : Int32)) + (1 : Int32)))])
  refine own_go (fun _ k => XS.icmpYes X0.here hx rfl (pc0 := 15) (pc' := 37) rfl (hb hby d1_15) rfl (flt (by decide)).2.1 (by decide) (by decide) k) ?_
  show own_Ends _ _ _ _ _ _ _ s₁ (mkF m 37 #[.val (.ref r0), .val (.long ((((0 : Int64) ||| ((1 : Int64) <<< (x0 &&& 63).toInt64)) ||| ((1 : Int64) <<< (x1 &&& 63).toInt64)) ||| ((1 : Int64) <<< (x2 &&& 63).toInt64))), .second, .val (.ref r0), .val (.int (3 : Int32)), .val (.int ((((0 : Int32) + (1 : Int32)) + (1 : Int32)) + (1 : Int32))), .val (.int x2)] [])
  refine own_go (fun _ k => XS.lloadN X0.here hx rfl (hb hby d1_37) rfl k) ?_
  show own_Ends _ _ _ _ _ _ _ s₁ (mkF m 38 #[.val (.ref r0), .val (.long ((((0 : Int64) ||| ((1 : Int64) <<< (x0 &&& 63).toInt64)) ||| ((1 : Int64) <<< (x1 &&& 63).toInt64)) ||| ((1 : Int64) <<< (x2 &&& 63).toInt64))), .second, .val (.ref r0), .val (.int (3 : Int32)), .val (.int ((((0 : Int32) + (1 : Int32)) + (1 : Int32)) + (1 : Int32))), .val (.int x2)] [(.long ((((0 : Int64) ||| ((1 : Int64) <<< (x0 &&& 63).toInt64)) ||| ((1 : Int64) <<< (x1 &&& 63).toInt64)) ||| ((1 : Int64) <<< (x2 &&& 63).toInt64)))])
  exact own_retJ X0 hx hlk hret (hb hby d1_38) (by decide) (by decide) ⟨rfl, rfl, e0⟩
set_option maxRecDepth 65536 in
set_option maxHeartbeats 40000000 in
theorem rm2 (l : Launch) (Z : State) (a0 : Array Value) (hw : ∀ d ∈ tables_1, d.before a0 Z = true) (p0 : Int32) (h0 : Heap) :
    own_C l (⟨"com/example/bestow/bestow/CatalogueFilterPinLaw", "bit", "(I)J"⟩ : MethodName) method_3_code 1 (some .long) ({ frames := 0, cells := 0, slots := 0, locals := 0 } : Room) Z #[(.int p0)] h0 (fun v h L => v = some (.long (own_s p0)) ∧ L = [] ∧ h = h0) := by
  refine own_enter pn_2 ?_
  intro p e s m below meth c s₁ X0 hx hby hml hown hnm hret hlk hZ e0
  replace hown : s.vm.findClass "com/example/bestow/bestow/CatalogueFilterPinLaw" = some m.cls := hown
  have ef : entryFrame m #[(.int p0)] 1 = mkF m 0 #[.val (.int p0)] [] := by first | rfl | (simp [entryFrame, mkF, argsToLocals, Value.category, maxLocals]; done)
  refine own_cast ef ?_
  show own_Ends _ _ _ _ _ _ _ s₁ (mkF m 0 #[.val (.int p0)] [])
  refine own_go (fun _ k => XS.lconst X0.here hx rfl (hb hby d2_0) k) ?_
  show own_Ends _ _ _ _ _ _ _ s₁ (mkF m 1 #[.val (.int p0)] [(.long (1 : Int64))])
  refine own_go (fun _ k => XS.iloadN X0.here hx rfl (hb hby d2_1) rfl k) ?_
  show own_Ends _ _ _ _ _ _ _ s₁ (mkF m 2 #[.val (.int p0)] [(.int p0), (.long (1 : Int64))])
  refine own_go (fun _ k => XS.bipush X0.here hx rfl (hb hby d2_2) k) ?_
  show own_Ends _ _ _ _ _ _ _ s₁ (mkF m 4 #[.val (.int p0)] [(.int (63 : Int32)), (.int p0), (.long (1 : Int64))])
  refine own_go (fun _ k => XS.iand X0.here hx rfl (hb hby d2_4) rfl k) ?_
  show own_Ends _ _ _ _ _ _ _ s₁ (mkF m 5 #[.val (.int p0)] [(.int (p0 &&& (63 : Int32))), (.long (1 : Int64))])
  refine own_go (fun _ k => XS.lshl X0.here hx rfl (hb hby d2_5) rfl k) ?_
  show own_Ends _ _ _ _ _ _ _ s₁ (mkF m 6 #[.val (.int p0)] [(.long ((1 : Int64) <<< ((p0 &&& (63 : Int32)) &&& 63).toInt64))])
  exact own_retJ X0 hx hlk hret (hb hby d2_6) (by decide) (by decide) ⟨by rw [own_bit], rfl, e0⟩
set_option maxRecDepth 65536 in
set_option maxHeartbeats 40000000 in
theorem rm0 (l : Launch) (Z : State) (a0 : Array Value) (hw : ∀ d ∈ tables_1, d.before a0 Z = true) (p0 : Int32) (p1 : Int32) (p2 : Int32) (p3 : Int32) (h0 : Heap) :
    own_C l x code maxLocals ret room_1 Z #[(.int p0), (.int p1), (.int p2), (.int p3)] h0 (fun v h L => v = some (.int 1) ∧ Fr h0.size L) := by
  refine own_enter pn_0 ?_
  intro p e s m below meth c s₁ X0 hx hby hml hown hnm hret hlk hZ e0
  have hml : c.maxLocals = 8 := hml
  replace hown : s.vm.findClass "com/example/bestow/bestow/CatalogueFilterPinLaw" = some m.cls := hown
  have ef : entryFrame m #[(.int p0), (.int p1), (.int p2), (.int p3)] maxLocals = mkF m 0 #[.val (.int p0), .val (.int p1), .val (.int p2), .val (.int p3), .unset, .unset, .unset, .unset] [] := by first | rfl | (simp [entryFrame, mkF, argsToLocals, Value.category, maxLocals]; done)
  refine own_cast ef ?_
  show own_Ends _ _ _ _ _ _ _ s₁ (mkF m 0 #[.val (.int p0), .val (.int p1), .val (.int p2), .val (.int p3), .unset, .unset, .unset, .unset] [])
  have N0 := Fr.nil h0.size
  have K0 : Keep h0 h0 [] := Keep.refl _ _
  rcases own_and3 p0 with hn | hn | hn | hn
  · refine own_go (fun _ k => XS.iloadN X0.here hx rfl (hb hby at_0) rfl k) ?_
    show own_Ends _ _ _ _ _ _ _ s₁ (mkF m 1 #[.val (.int p0), .val (.int p1), .val (.int p2), .val (.int p3), .unset, .unset, .unset, .unset] [(.int p0)])
    refine own_go (fun _ k => XS.iconst X0.here hx rfl (hb hby at_1) k) ?_
    show own_Ends _ _ _ _ _ _ _ s₁ (mkF m 2 #[.val (.int p0), .val (.int p1), .val (.int p2), .val (.int p3), .unset, .unset, .unset, .unset] [(.int (3 : Int32)), (.int p0)])
    refine own_go (fun _ k => XS.iand X0.here hx rfl (hb hby at_2) rfl k) ?_
    show own_Ends _ _ _ _ _ _ _ s₁ (mkF m 3 #[.val (.int p0), .val (.int p1), .val (.int p2), .val (.int p3), .unset, .unset, .unset, .unset] [(.int (p0 &&& (3 : Int32)))])
    refine own_go (fun _ k => XS.istore X0.here hx rfl (hb hby at_3) rfl (l' := #[.val (.int p0), .val (.int p1), .val (.int p2), .val (.int p3), .val (.int (p0 &&& (3 : Int32))), .unset, .unset, .unset]) rfl k) ?_
    show own_Ends _ _ _ _ _ _ _ s₁ (mkF m 5 #[.val (.int p0), .val (.int p1), .val (.int p2), .val (.int p3), .val (.int (p0 &&& (3 : Int32))), .unset, .unset, .unset] [])
    refine own_go (fun _ k => XS.iload X0.here hx rfl (hb hby at_5) rfl k) ?_
    show own_Ends _ _ _ _ _ _ _ s₁ (mkF m 7 #[.val (.int p0), .val (.int p1), .val (.int p2), .val (.int p3), .val (.int (p0 &&& (3 : Int32))), .unset, .unset, .unset] [(.int (p0 &&& (3 : Int32)))])
    rw [show (p0 &&& (3 : Int32)) = (0 : Int32) from hn]
    show own_Ends _ _ _ _ _ _ _ s₁ (mkF m 7 #[.val (.int p0), .val (.int p1), .val (.int p2), .val (.int p3), .val (.int (0 : Int32)), .unset, .unset, .unset] [(.int (0 : Int32))])
    refine own_go (fun _ k => XS.ifNo X0.here hx rfl (hb hby at_7) rfl ((if0 _ _).trans (teq (by decide)).2) k) ?_
    show own_Ends _ _ _ _ _ _ _ s₁ (mkF m 10 #[.val (.int p0), .val (.int p1), .val (.int p2), .val (.int p3), .val (.int (0 : Int32)), .unset, .unset, .unset] [])
    refine own_go (fun _ k => XS.iconst X0.here hx rfl (hb hby at_10) k) ?_
    show own_Ends _ _ _ _ _ _ _ s₁ (mkF m 11 #[.val (.int p0), .val (.int p1), .val (.int p2), .val (.int p3), .val (.int (0 : Int32)), .unset, .unset, .unset] [(.int (0 : Int32))])
    obtain ⟨T1, h1, k1, X1, e1, E1, A1, st1⟩ := own_newP X0 hx hZ (aty := .int) (hw _ (List.mem_of_getElem? (i := 0) rfl)) e0 (g := (mkF m 11 #[.val (.int p0), .val (.int p1), .val (.int p2), .val (.int p3), .val (.int (0 : Int32)), .unset, .unset, .unset] [(.int (0 : Int32))])) rfl (hb hby at_11) rfl (by decide) (n := 0) (by decide) (cap := 0) (by decide) (by decide) (by decide) (by decide)
    obtain ⟨b, gq1⟩ : ∃ z, z = h0.size := ⟨_, rfl⟩
    rw [← gq1] at A1 st1
    have sz_b : h0.size ≤ b := Nat.le_trans K0.1 (Nat.le_of_eq gq1.symm)
    have g_b : h0.size ≤ b := Nat.le_trans (Nat.le_refl _) sz_b
    have K_1 := K0.ext E1
    have V_b : own_Ar Z h1 b k1 .int 0 (fun _ => (.int (0 : Int32))) := A1
    refine own_go st1 ?_
    show own_Ends _ _ _ _ _ _ _ T1 (mkF m 13 #[.val (.int p0), .val (.int p1), .val (.int p2), .val (.int p3), .val (.int (0 : Int32)), .unset, .unset, .unset] [(.ref b)])
    refine own_go (fun _ k => XS.astore X1.here hx rfl (hb hby at_13) rfl rfl (l' := #[.val (.int p0), .val (.int p1), .val (.int p2), .val (.int p3), .val (.int (0 : Int32)), .val (.ref b), .unset, .unset]) rfl k) ?_
    show own_Ends _ _ _ _ _ _ _ T1 (mkF m 15 #[.val (.int p0), .val (.int p1), .val (.int p2), .val (.int p3), .val (.int (0 : Int32)), .val (.ref b), .unset, .unset] [])
    refine own_go (fun _ k => XS.goto X1.here hx rfl (pc0 := 15) (pc' := 75) rfl (hb hby at_15) (by decide) (by decide) k) ?_
    show own_Ends _ _ _ _ _ _ _ T1 (mkF m 75 #[.val (.int p0), .val (.int p1), .val (.int p2), .val (.int p3), .val (.int (0 : Int32)), .val (.ref b), .unset, .unset] [])
    refine own_go (fun _ k => XS.lconst X1.here hx rfl (hb hby at_75) k) ?_
    show own_Ends _ _ _ _ _ _ _ T1 (mkF m 76 #[.val (.int p0), .val (.int p1), .val (.int p2), .val (.int p3), .val (.int (0 : Int32)), .val (.ref b), .unset, .unset] [(.long (0 : Int64))])
    refine own_go (fun _ k => XS.lstore X1.here hx rfl (hb hby at_76) rfl (l' := #[.val (.int p0), .val (.int p1), .val (.int p2), .val (.int p3), .val (.int (0 : Int32)), .val (.ref b), .val (.long (0 : Int64)), .second]) rfl k) ?_
    show own_Ends _ _ _ _ _ _ _ T1 (mkF m 78 #[.val (.int p0), .val (.int p1), .val (.int p2), .val (.int p3), .val (.int (0 : Int32)), .val (.ref b), .val (.long (0 : Int64)), .second] [])
    refine own_go (fun _ k => XS.iload X1.here hx rfl (hb hby at_78) rfl k) ?_
    show own_Ends _ _ _ _ _ _ _ T1 (mkF m 80 #[.val (.int p0), .val (.int p1), .val (.int p2), .val (.int p3), .val (.int (0 : Int32)), .val (.ref b), .val (.long (0 : Int64)), .second] [(.int (0 : Int32))])
    refine own_go (fun _ k => XS.iconst X1.here hx rfl (hb hby at_80) k) ?_
    show own_Ends _ _ _ _ _ _ _ T1 (mkF m 81 #[.val (.int p0), .val (.int p1), .val (.int p2), .val (.int p3), .val (.int (0 : Int32)), .val (.ref b), .val (.long (0 : Int64)), .second] [(.int (1 : Int32)), (.int (0 : Int32))])
    refine own_go (fun _ k => XS.icmpYes X1.here hx rfl (pc0 := 81) (pc' := 93) rfl (hb hby at_81) rfl (tlt (by decide)).1 (by decide) (by decide) k) ?_
    show own_Ends _ _ _ _ _ _ _ T1 (mkF m 93 #[.val (.int p0), .val (.int p1), .val (.int p2), .val (.int p3), .val (.int (0 : Int32)), .val (.ref b), .val (.long (0 : Int64)), .second] [])
    refine own_go (fun _ k => XS.iload X1.here hx rfl (hb hby at_93) rfl k) ?_
    show own_Ends _ _ _ _ _ _ _ T1 (mkF m 95 #[.val (.int p0), .val (.int p1), .val (.int p2), .val (.int p3), .val (.int (0 : Int32)), .val (.ref b), .val (.long (0 : Int64)), .second] [(.int (0 : Int32))])
    refine own_go (fun _ k => XS.iconst X1.here hx rfl (hb hby at_95) k) ?_
    show own_Ends _ _ _ _ _ _ _ T1 (mkF m 96 #[.val (.int p0), .val (.int p1), .val (.int p2), .val (.int p3), .val (.int (0 : Int32)), .val (.ref b), .val (.long (0 : Int64)), .second] [(.int (2 : Int32)), (.int (0 : Int32))])
    refine own_go (fun _ k => XS.icmpYes X1.here hx rfl (pc0 := 96) (pc' := 108) rfl (hb hby at_96) rfl (tlt (by decide)).1 (by decide) (by decide) k) ?_
    show own_Ends _ _ _ _ _ _ _ T1 (mkF m 108 #[.val (.int p0), .val (.int p1), .val (.int p2), .val (.int p3), .val (.int (0 : Int32)), .val (.ref b), .val (.long (0 : Int64)), .second] [])
    refine own_go (fun _ k => XS.iload X1.here hx rfl (hb hby at_108) rfl k) ?_
    show own_Ends _ _ _ _ _ _ _ T1 (mkF m 110 #[.val (.int p0), .val (.int p1), .val (.int p2), .val (.int p3), .val (.int (0 : Int32)), .val (.ref b), .val (.long (0 : Int64)), .second] [(.int (0 : Int32))])
    refine own_go (fun _ k => XS.iconst X1.here hx rfl (hb hby at_110) k) ?_
    show own_Ends _ _ _ _ _ _ _ T1 (mkF m 111 #[.val (.int p0), .val (.int p1), .val (.int p2), .val (.int p3), .val (.int (0 : Int32)), .val (.ref b), .val (.long (0 : Int64)), .second] [(.int (3 : Int32)), (.int (0 : Int32))])
    refine own_go (fun _ k => XS.icmpYes X1.here hx rfl (pc0 := 111) (pc' := 123) rfl (hb hby at_111) rfl (tlt (by decide)).1 (by decide) (by decide) k) ?_
    show own_Ends _ _ _ _ _ _ _ T1 (mkF m 123 #[.val (.int p0), .val (.int p1), .val (.int p2), .val (.int p3), .val (.int (0 : Int32)), .val (.ref b), .val (.long (0 : Int64)), .second] [])
    refine own_go (fun _ k => XS.aload X1.here hx rfl (hb hby at_123) rfl rfl k) ?_
    show own_Ends _ _ _ _ _ _ _ T1 (mkF m 125 #[.val (.int p0), .val (.int p1), .val (.int p2), .val (.int p3), .val (.int (0 : Int32)), .val (.ref b), .val (.long (0 : Int64)), .second] [(.ref b)])
    obtain ⟨v2, T2, L2, X2, hQ2, st2⟩ := own_callS X1 hx hZ hown (hw _ (List.mem_of_getElem? (i := 1) rfl)) (hw _ (List.mem_of_getElem? (i := 2) rfl)) (hw _ (List.mem_of_getElem? (i := 3) rfl)) (hw _ (List.mem_of_getElem? (i := 4) rfl)) (rm1_0 l Z a0 hw b h1 k1 (fun _ => (.int (0 : Int32)))  V_b ) e1 (g := (mkF m 125 #[.val (.int p0), .val (.int p1), .val (.int p2), .val (.int p3), .val (.int (0 : Int32)), .val (.ref b), .val (.long (0 : Int64)), .second] [(.ref b)])) rfl (by rw [hml]; rfl) (argsL := [(.ref b)]) (rest := []) (lenOf pd_0 rfl) rfl rfl (W := 0) (by show 2 * 0 + _ ≤ _; exact Nat.le_of_eq rfl) (hb hby at_125) (by decide) (by decide) (by decide) (by decide) (by decide)
    obtain ⟨rfl, rfl, e2⟩ := hQ2
    refine own_go st2 ?_
    have N2 := Fr.app N0 (Fr.nil _)
    show own_Ends _ _ _ _ _ _ _ T2 (mkF m 128 #[.val (.int p0), .val (.int p1), .val (.int p2), .val (.int p3), .val (.int (0 : Int32)), .val (.ref b), .val (.long (0 : Int64)), .second] [(.long (0 : Int64))])
    refine own_go (fun _ k => XS.lload X2.here hx rfl (hb hby at_128) rfl k) ?_
    show own_Ends _ _ _ _ _ _ _ T2 (mkF m 130 #[.val (.int p0), .val (.int p1), .val (.int p2), .val (.int p3), .val (.int (0 : Int32)), .val (.ref b), .val (.long (0 : Int64)), .second] [(.long (0 : Int64)), (.long (0 : Int64))])
    refine own_go (fun _ k => XS.lcmp X2.here hx rfl (hb hby at_130) rfl k) ?_
    show own_Ends _ _ _ _ _ _ _ T2 (mkF m 131 #[.val (.int p0), .val (.int p1), .val (.int p2), .val (.int p3), .val (.int (0 : Int32)), .val (.ref b), .val (.long (0 : Int64)), .second] [(.int (lcmpW (0 : Int64) (0 : Int64)))])
    refine own_go (fun _ k => XS.ifNo X2.here hx rfl (hb hby at_131) rfl (own_let (rfl)).2 k) ?_
    show own_Ends _ _ _ _ _ _ _ T2 (mkF m 134 #[.val (.int p0), .val (.int p1), .val (.int p2), .val (.int p3), .val (.int (0 : Int32)), .val (.ref b), .val (.long (0 : Int64)), .second] [])
    refine own_go (fun _ k => XS.iconst X2.here hx rfl (hb hby at_134) k) ?_
    show own_Ends _ _ _ _ _ _ _ T2 (mkF m 135 #[.val (.int p0), .val (.int p1), .val (.int p2), .val (.int p3), .val (.int (0 : Int32)), .val (.ref b), .val (.long (0 : Int64)), .second] [(.int (1 : Int32))])
    refine own_go (fun _ k => XS.goto X2.here hx rfl (pc0 := 135) (pc' := 139) rfl (hb hby at_135) (by decide) (by decide) k) ?_
    show own_Ends _ _ _ _ _ _ _ T2 (mkF m 139 #[.val (.int p0), .val (.int p1), .val (.int p2), .val (.int p3), .val (.int (0 : Int32)), .val (.ref b), .val (.long (0 : Int64)), .second] [(.int (1 : Int32))])
    exact own_retZ X2 hx hlk hret (by decide) (hb hby at_139) (by decide) (by decide) ⟨rfl, N2⟩
  · refine own_go (fun _ k => XS.iloadN X0.here hx rfl (hb hby at_0) rfl k) ?_
    show own_Ends _ _ _ _ _ _ _ s₁ (mkF m 1 #[.val (.int p0), .val (.int p1), .val (.int p2), .val (.int p3), .unset, .unset, .unset, .unset] [(.int p0)])
    refine own_go (fun _ k => XS.iconst X0.here hx rfl (hb hby at_1) k) ?_
    show own_Ends _ _ _ _ _ _ _ s₁ (mkF m 2 #[.val (.int p0), .val (.int p1), .val (.int p2), .val (.int p3), .unset, .unset, .unset, .unset] [(.int (3 : Int32)), (.int p0)])
    refine own_go (fun _ k => XS.iand X0.here hx rfl (hb hby at_2) rfl k) ?_
    show own_Ends _ _ _ _ _ _ _ s₁ (mkF m 3 #[.val (.int p0), .val (.int p1), .val (.int p2), .val (.int p3), .unset, .unset, .unset, .unset] [(.int (p0 &&& (3 : Int32)))])
    refine own_go (fun _ k => XS.istore X0.here hx rfl (hb hby at_3) rfl (l' := #[.val (.int p0), .val (.int p1), .val (.int p2), .val (.int p3), .val (.int (p0 &&& (3 : Int32))), .unset, .unset, .unset]) rfl k) ?_
    show own_Ends _ _ _ _ _ _ _ s₁ (mkF m 5 #[.val (.int p0), .val (.int p1), .val (.int p2), .val (.int p3), .val (.int (p0 &&& (3 : Int32))), .unset, .unset, .unset] [])
    refine own_go (fun _ k => XS.iload X0.here hx rfl (hb hby at_5) rfl k) ?_
    show own_Ends _ _ _ _ _ _ _ s₁ (mkF m 7 #[.val (.int p0), .val (.int p1), .val (.int p2), .val (.int p3), .val (.int (p0 &&& (3 : Int32))), .unset, .unset, .unset] [(.int (p0 &&& (3 : Int32)))])
    rw [show (p0 &&& (3 : Int32)) = (1 : Int32) from hn]
    show own_Ends _ _ _ _ _ _ _ s₁ (mkF m 7 #[.val (.int p0), .val (.int p1), .val (.int p2), .val (.int p3), .val (.int (1 : Int32)), .unset, .unset, .unset] [(.int (1 : Int32))])
    refine own_go (fun _ k => XS.ifYes X0.here hx rfl (pc0 := 7) (pc' := 18) rfl (hb hby at_7) rfl ((if0 _ _).trans (feq (by decide)).2) (by decide) (by decide) k) ?_
    show own_Ends _ _ _ _ _ _ _ s₁ (mkF m 18 #[.val (.int p0), .val (.int p1), .val (.int p2), .val (.int p3), .val (.int (1 : Int32)), .unset, .unset, .unset] [])
    refine own_go (fun _ k => XS.iload X0.here hx rfl (hb hby at_18) rfl k) ?_
    show own_Ends _ _ _ _ _ _ _ s₁ (mkF m 20 #[.val (.int p0), .val (.int p1), .val (.int p2), .val (.int p3), .val (.int (1 : Int32)), .unset, .unset, .unset] [(.int (1 : Int32))])
    refine own_go (fun _ k => XS.iconst X0.here hx rfl (hb hby at_20) k) ?_
    show own_Ends _ _ _ _ _ _ _ s₁ (mkF m 21 #[.val (.int p0), .val (.int p1), .val (.int p2), .val (.int p3), .val (.int (1 : Int32)), .unset, .unset, .unset] [(.int (1 : Int32)), (.int (1 : Int32))])
    refine own_go (fun _ k => XS.icmpNo X0.here hx rfl (hb hby at_21) rfl (teq (by decide)).2 k) ?_
    show own_Ends _ _ _ _ _ _ _ s₁ (mkF m 24 #[.val (.int p0), .val (.int p1), .val (.int p2), .val (.int p3), .val (.int (1 : Int32)), .unset, .unset, .unset] [])
    refine own_go (fun _ k => XS.iconst X0.here hx rfl (hb hby at_24) k) ?_
    show own_Ends _ _ _ _ _ _ _ s₁ (mkF m 25 #[.val (.int p0), .val (.int p1), .val (.int p2), .val (.int p3), .val (.int (1 : Int32)), .unset, .unset, .unset] [(.int (1 : Int32))])
    obtain ⟨T3, h3, k3, X3, e3, E3, A3, st3⟩ := own_newP X0 hx hZ (aty := .int) (hw _ (List.mem_of_getElem? (i := 0) rfl)) e0 (g := (mkF m 25 #[.val (.int p0), .val (.int p1), .val (.int p2), .val (.int p3), .val (.int (1 : Int32)), .unset, .unset, .unset] [(.int (1 : Int32))])) rfl (hb hby at_25) rfl (by decide) (n := 1) (by decide) (cap := 1) (by decide) (by decide) (by decide) (by decide)
    obtain ⟨b, gq3⟩ : ∃ z, z = h0.size := ⟨_, rfl⟩
    rw [← gq3] at A3 st3
    have sz_b : h0.size ≤ b := Nat.le_trans K0.1 (Nat.le_of_eq gq3.symm)
    have g_b : h0.size ≤ b := Nat.le_trans (Nat.le_refl _) sz_b
    have K_3 := K0.ext E3
    have V_b : own_Ar Z h3 b k3 .int 1 (fun _ => (.int (0 : Int32))) := A3
    refine own_go st3 ?_
    show own_Ends _ _ _ _ _ _ _ T3 (mkF m 27 #[.val (.int p0), .val (.int p1), .val (.int p2), .val (.int p3), .val (.int (1 : Int32)), .unset, .unset, .unset] [(.ref b)])
    refine own_go (fun _ k => XS.dup X3.here hx rfl (hb hby at_27) rfl rfl k) ?_
    show own_Ends _ _ _ _ _ _ _ T3 (mkF m 28 #[.val (.int p0), .val (.int p1), .val (.int p2), .val (.int p3), .val (.int (1 : Int32)), .unset, .unset, .unset] [(.ref b), (.ref b)])
    refine own_go (fun _ k => XS.iconst X3.here hx rfl (hb hby at_28) k) ?_
    show own_Ends _ _ _ _ _ _ _ T3 (mkF m 29 #[.val (.int p0), .val (.int p1), .val (.int p2), .val (.int p3), .val (.int (1 : Int32)), .unset, .unset, .unset] [(.int (0 : Int32)), (.ref b), (.ref b)])
    refine own_go (fun _ k => XS.iloadN X3.here hx rfl (hb hby at_29) rfl k) ?_
    show own_Ends _ _ _ _ _ _ _ T3 (mkF m 30 #[.val (.int p0), .val (.int p1), .val (.int p2), .val (.int p3), .val (.int (1 : Int32)), .unset, .unset, .unset] [(.int p1), (.int (0 : Int32)), (.ref b), (.ref b)])
    obtain ⟨T4, h4, X4, e4, W4, V4, st4⟩ := own_stI X3 hx hZ e3 V_b (i := 0) (by decide) (by decide) (by decide) (g := (mkF m 30 #[.val (.int p0), .val (.int p1), .val (.int p2), .val (.int p3), .val (.int (1 : Int32)), .unset, .unset, .unset] [(.int p1), (.int (0 : Int32)), (.ref b), (.ref b)])) rfl rfl (hb hby at_30)
    have N4 := Fr.snoc X4 N0 g_b
    have K_4 := K_3.wr W4 (Or.inr sz_b)
    refine own_go st4 ?_
    show own_Ends _ _ _ _ _ _ _ T4 (mkF m 31 #[.val (.int p0), .val (.int p1), .val (.int p2), .val (.int p3), .val (.int (1 : Int32)), .unset, .unset, .unset] [(.ref b)])
    refine own_go (fun _ k => XS.astore X4.here hx rfl (hb hby at_31) rfl rfl (l' := #[.val (.int p0), .val (.int p1), .val (.int p2), .val (.int p3), .val (.int (1 : Int32)), .val (.ref b), .unset, .unset]) rfl k) ?_
    show own_Ends _ _ _ _ _ _ _ T4 (mkF m 33 #[.val (.int p0), .val (.int p1), .val (.int p2), .val (.int p3), .val (.int (1 : Int32)), .val (.ref b), .unset, .unset] [])
    refine own_go (fun _ k => XS.goto X4.here hx rfl (pc0 := 33) (pc' := 75) rfl (hb hby at_33) (by decide) (by decide) k) ?_
    show own_Ends _ _ _ _ _ _ _ T4 (mkF m 75 #[.val (.int p0), .val (.int p1), .val (.int p2), .val (.int p3), .val (.int (1 : Int32)), .val (.ref b), .unset, .unset] [])
    refine own_go (fun _ k => XS.lconst X4.here hx rfl (hb hby at_75) k) ?_
    show own_Ends _ _ _ _ _ _ _ T4 (mkF m 76 #[.val (.int p0), .val (.int p1), .val (.int p2), .val (.int p3), .val (.int (1 : Int32)), .val (.ref b), .unset, .unset] [(.long (0 : Int64))])
    refine own_go (fun _ k => XS.lstore X4.here hx rfl (hb hby at_76) rfl (l' := #[.val (.int p0), .val (.int p1), .val (.int p2), .val (.int p3), .val (.int (1 : Int32)), .val (.ref b), .val (.long (0 : Int64)), .second]) rfl k) ?_
    show own_Ends _ _ _ _ _ _ _ T4 (mkF m 78 #[.val (.int p0), .val (.int p1), .val (.int p2), .val (.int p3), .val (.int (1 : Int32)), .val (.ref b), .val (.long (0 : Int64)), .second] [])
    refine own_go (fun _ k => XS.iload X4.here hx rfl (hb hby at_78) rfl k) ?_
    show own_Ends _ _ _ _ _ _ _ T4 (mkF m 80 #[.val (.int p0), .val (.int p1), .val (.int p2), .val (.int p3), .val (.int (1 : Int32)), .val (.ref b), .val (.long (0 : Int64)), .second] [(.int (1 : Int32))])
    refine own_go (fun _ k => XS.iconst X4.here hx rfl (hb hby at_80) k) ?_
    show own_Ends _ _ _ _ _ _ _ T4 (mkF m 81 #[.val (.int p0), .val (.int p1), .val (.int p2), .val (.int p3), .val (.int (1 : Int32)), .val (.ref b), .val (.long (0 : Int64)), .second] [(.int (1 : Int32)), (.int (1 : Int32))])
    refine own_go (fun _ k => XS.icmpNo X4.here hx rfl (hb hby at_81) rfl (flt (by decide)).1 k) ?_
    show own_Ends _ _ _ _ _ _ _ T4 (mkF m 84 #[.val (.int p0), .val (.int p1), .val (.int p2), .val (.int p3), .val (.int (1 : Int32)), .val (.ref b), .val (.long (0 : Int64)), .second] [])
    refine own_go (fun _ k => XS.lload X4.here hx rfl (hb hby at_84) rfl k) ?_
    show own_Ends _ _ _ _ _ _ _ T4 (mkF m 86 #[.val (.int p0), .val (.int p1), .val (.int p2), .val (.int p3), .val (.int (1 : Int32)), .val (.ref b), .val (.long (0 : Int64)), .second] [(.long (0 : Int64))])
    refine own_go (fun _ k => XS.iloadN X4.here hx rfl (hb hby at_86) rfl k) ?_
    show own_Ends _ _ _ _ _ _ _ T4 (mkF m 87 #[.val (.int p0), .val (.int p1), .val (.int p2), .val (.int p3), .val (.int (1 : Int32)), .val (.ref b), .val (.long (0 : Int64)), .second] [(.int p1), (.long (0 : Int64))])
    obtain ⟨v5, T5, L5, X5, hQ5, st5⟩ := own_callS X4 hx hZ hown (hw _ (List.mem_of_getElem? (i := 5) rfl)) (hw _ (List.mem_of_getElem? (i := 6) rfl)) (hw _ (List.mem_of_getElem? (i := 7) rfl)) (hw _ (List.mem_of_getElem? (i := 8) rfl)) (rm2 l Z a0 hw p1 h4) e4 (g := (mkF m 87 #[.val (.int p0), .val (.int p1), .val (.int p2), .val (.int p3), .val (.int (1 : Int32)), .val (.ref b), .val (.long (0 : Int64)), .second] [(.int p1), (.long (0 : Int64))])) rfl (by rw [hml]; rfl) (argsL := [(.int p1)]) (rest := [(.long (0 : Int64))]) (lenOf pd_1 rfl) rfl rfl (W := 2) (by show 2 * 0 + _ ≤ _; exact Nat.le_of_eq rfl) (hb hby at_87) (by decide) (by decide) (by decide) (by decide) (by decide)
    obtain ⟨rfl, rfl, e5⟩ := hQ5
    refine own_go st5 ?_
    have N5 := Fr.app N4 (Fr.nil _)
    show own_Ends _ _ _ _ _ _ _ T5 (mkF m 90 #[.val (.int p0), .val (.int p1), .val (.int p2), .val (.int p3), .val (.int (1 : Int32)), .val (.ref b), .val (.long (0 : Int64)), .second] [(.long (own_s p1)), (.long (0 : Int64))])
    refine own_go (fun _ k => XS.lor X5.here hx rfl (hb hby at_90) rfl k) ?_
    show own_Ends _ _ _ _ _ _ _ T5 (mkF m 91 #[.val (.int p0), .val (.int p1), .val (.int p2), .val (.int p3), .val (.int (1 : Int32)), .val (.ref b), .val (.long (0 : Int64)), .second] [(.long ((0 : Int64) ||| (own_s p1)))])
    refine own_go (fun _ k => XS.lstore X5.here hx rfl (hb hby at_91) rfl (l' := #[.val (.int p0), .val (.int p1), .val (.int p2), .val (.int p3), .val (.int (1 : Int32)), .val (.ref b), .val (.long ((0 : Int64) ||| (own_s p1))), .second]) rfl k) ?_
    show own_Ends _ _ _ _ _ _ _ T5 (mkF m 93 #[.val (.int p0), .val (.int p1), .val (.int p2), .val (.int p3), .val (.int (1 : Int32)), .val (.ref b), .val (.long ((0 : Int64) ||| (own_s p1))), .second] [])
    refine own_go (fun _ k => XS.iload X5.here hx rfl (hb hby at_93) rfl k) ?_
    show own_Ends _ _ _ _ _ _ _ T5 (mkF m 95 #[.val (.int p0), .val (.int p1), .val (.int p2), .val (.int p3), .val (.int (1 : Int32)), .val (.ref b), .val (.long ((0 : Int64) ||| (own_s p1))), .second] [(.int (1 : Int32))])
    refine own_go (fun _ k => XS.iconst X5.here hx rfl (hb hby at_95) k) ?_
    show own_Ends _ _ _ _ _ _ _ T5 (mkF m 96 #[.val (.int p0), .val (.int p1), .val (.int p2), .val (.int p3), .val (.int (1 : Int32)), .val (.ref b), .val (.long ((0 : Int64) ||| (own_s p1))), .second] [(.int (2 : Int32)), (.int (1 : Int32))])
    refine own_go (fun _ k => XS.icmpYes X5.here hx rfl (pc0 := 96) (pc' := 108) rfl (hb hby at_96) rfl (tlt (by decide)).1 (by decide) (by decide) k) ?_
    show own_Ends _ _ _ _ _ _ _ T5 (mkF m 108 #[.val (.int p0), .val (.int p1), .val (.int p2), .val (.int p3), .val (.int (1 : Int32)), .val (.ref b), .val (.long ((0 : Int64) ||| (own_s p1))), .second] [])
    refine own_go (fun _ k => XS.iload X5.here hx rfl (hb hby at_108) rfl k) ?_
    show own_Ends _ _ _ _ _ _ _ T5 (mkF m 110 #[.val (.int p0), .val (.int p1), .val (.int p2), .val (.int p3), .val (.int (1 : Int32)), .val (.ref b), .val (.long ((0 : Int64) ||| (own_s p1))), .second] [(.int (1 : Int32))])
    refine own_go (fun _ k => XS.iconst X5.here hx rfl (hb hby at_110) k) ?_
    show own_Ends _ _ _ _ _ _ _ T5 (mkF m 111 #[.val (.int p0), .val (.int p1), .val (.int p2), .val (.int p3), .val (.int (1 : Int32)), .val (.ref b), .val (.long ((0 : Int64) ||| (own_s p1))), .second] [(.int (3 : Int32)), (.int (1 : Int32))])
    refine own_go (fun _ k => XS.icmpYes X5.here hx rfl (pc0 := 111) (pc' := 123) rfl (hb hby at_111) rfl (tlt (by decide)).1 (by decide) (by decide) k) ?_
    show own_Ends _ _ _ _ _ _ _ T5 (mkF m 123 #[.val (.int p0), .val (.int p1), .val (.int p2), .val (.int p3), .val (.int (1 : Int32)), .val (.ref b), .val (.long ((0 : Int64) ||| (own_s p1))), .second] [])
    refine own_go (fun _ k => XS.aload X5.here hx rfl (hb hby at_123) rfl rfl k) ?_
    show own_Ends _ _ _ _ _ _ _ T5 (mkF m 125 #[.val (.int p0), .val (.int p1), .val (.int p2), .val (.int p3), .val (.int (1 : Int32)), .val (.ref b), .val (.long ((0 : Int64) ||| (own_s p1))), .second] [(.ref b)])
    obtain ⟨v6, T6, L6, X6, hQ6, st6⟩ := own_callS X5 hx hZ hown (hw _ (List.mem_of_getElem? (i := 1) rfl)) (hw _ (List.mem_of_getElem? (i := 2) rfl)) (hw _ (List.mem_of_getElem? (i := 3) rfl)) (hw _ (List.mem_of_getElem? (i := 4) rfl)) (rm1_1 l Z a0 hw b h4 k3 (fun j => if j = 0 then (.int p1) else (fun _ => (.int (0 : Int32))) j) p1 V4 (by first | rfl | simp)) e5 (g := (mkF m 125 #[.val (.int p0), .val (.int p1), .val (.int p2), .val (.int p3), .val (.int (1 : Int32)), .val (.ref b), .val (.long ((0 : Int64) ||| (own_s p1))), .second] [(.ref b)])) rfl (by rw [hml]; rfl) (argsL := [(.ref b)]) (rest := []) (lenOf pd_0 rfl) rfl rfl (W := 0) (by show 2 * 0 + _ ≤ _; exact Nat.le_of_eq rfl) (hb hby at_125) (by decide) (by decide) (by decide) (by decide) (by decide)
    obtain ⟨rfl, rfl, e6⟩ := hQ6
    refine own_go st6 ?_
    have N6 := Fr.app N5 (Fr.nil _)
    show own_Ends _ _ _ _ _ _ _ T6 (mkF m 128 #[.val (.int p0), .val (.int p1), .val (.int p2), .val (.int p3), .val (.int (1 : Int32)), .val (.ref b), .val (.long ((0 : Int64) ||| (own_s p1))), .second] [(.long ((0 : Int64) ||| own_s p1))])
    refine own_go (fun _ k => XS.lload X6.here hx rfl (hb hby at_128) rfl k) ?_
    show own_Ends _ _ _ _ _ _ _ T6 (mkF m 130 #[.val (.int p0), .val (.int p1), .val (.int p2), .val (.int p3), .val (.int (1 : Int32)), .val (.ref b), .val (.long ((0 : Int64) ||| (own_s p1))), .second] [(.long ((0 : Int64) ||| (own_s p1))), (.long ((0 : Int64) ||| own_s p1))])
    refine own_go (fun _ k => XS.lcmp X6.here hx rfl (hb hby at_130) rfl k) ?_
    show own_Ends _ _ _ _ _ _ _ T6 (mkF m 131 #[.val (.int p0), .val (.int p1), .val (.int p2), .val (.int p3), .val (.int (1 : Int32)), .val (.ref b), .val (.long ((0 : Int64) ||| (own_s p1))), .second] [(.int (lcmpW ((0 : Int64) ||| own_s p1) ((0 : Int64) ||| (own_s p1))))])
    refine own_go (fun _ k => XS.ifNo X6.here hx rfl (hb hby at_131) rfl (own_let (rfl)).2 k) ?_
    show own_Ends _ _ _ _ _ _ _ T6 (mkF m 134 #[.val (.int p0), .val (.int p1), .val (.int p2), .val (.int p3), .val (.int (1 : Int32)), .val (.ref b), .val (.long ((0 : Int64) ||| (own_s p1))), .second] [])
    refine own_go (fun _ k => XS.iconst X6.here hx rfl (hb hby at_134) k) ?_
    show own_Ends _ _ _ _ _ _ _ T6 (mkF m 135 #[.val (.int p0), .val (.int p1), .val (.int p2), .val (.int p3), .val (.int (1 : Int32)), .val (.ref b), .val (.long ((0 : Int64) ||| (own_s p1))), .second] [(.int (1 : Int32))])
    refine own_go (fun _ k => XS.goto X6.here hx rfl (pc0 := 135) (pc' := 139) rfl (hb hby at_135) (by decide) (by decide) k) ?_
    show own_Ends _ _ _ _ _ _ _ T6 (mkF m 139 #[.val (.int p0), .val (.int p1), .val (.int p2), .val (.int p3), .val (.int (1 : Int32)), .val (.ref b), .val (.long ((0 : Int64) ||| (own_s p1))), .second] [(.int (1 : Int32))])
    exact own_retZ X6 hx hlk hret (by decide) (hb hby at_139) (by decide) (by decide) ⟨rfl, N6⟩
  · refine own_go (fun _ k => XS.iloadN X0.here hx rfl (hb hby at_0) rfl k) ?_
    show own_Ends _ _ _ _ _ _ _ s₁ (mkF m 1 #[.val (.int p0), .val (.int p1), .val (.int p2), .val (.int p3), .unset, .unset, .unset, .unset] [(.int p0)])
    refine own_go (fun _ k => XS.iconst X0.here hx rfl (hb hby at_1) k) ?_
    show own_Ends _ _ _ _ _ _ _ s₁ (mkF m 2 #[.val (.int p0), .val (.int p1), .val (.int p2), .val (.int p3), .unset, .unset, .unset, .unset] [(.int (3 : Int32)), (.int p0)])
    refine own_go (fun _ k => XS.iand X0.here hx rfl (hb hby at_2) rfl k) ?_
    show own_Ends _ _ _ _ _ _ _ s₁ (mkF m 3 #[.val (.int p0), .val (.int p1), .val (.int p2), .val (.int p3), .unset, .unset, .unset, .unset] [(.int (p0 &&& (3 : Int32)))])
    refine own_go (fun _ k => XS.istore X0.here hx rfl (hb hby at_3) rfl (l' := #[.val (.int p0), .val (.int p1), .val (.int p2), .val (.int p3), .val (.int (p0 &&& (3 : Int32))), .unset, .unset, .unset]) rfl k) ?_
    show own_Ends _ _ _ _ _ _ _ s₁ (mkF m 5 #[.val (.int p0), .val (.int p1), .val (.int p2), .val (.int p3), .val (.int (p0 &&& (3 : Int32))), .unset, .unset, .unset] [])
    refine own_go (fun _ k => XS.iload X0.here hx rfl (hb hby at_5) rfl k) ?_
    show own_Ends _ _ _ _ _ _ _ s₁ (mkF m 7 #[.val (.int p0), .val (.int p1), .val (.int p2), .val (.int p3), .val (.int (p0 &&& (3 : Int32))), .unset, .unset, .unset] [(.int (p0 &&& (3 : Int32)))])
    rw [show (p0 &&& (3 : Int32)) = (2 : Int32) from hn]
    show own_Ends _ _ _ _ _ _ _ s₁ (mkF m 7 #[.val (.int p0), .val (.int p1), .val (.int p2), .val (.int p3), .val (.int (2 : Int32)), .unset, .unset, .unset] [(.int (2 : Int32))])
    refine own_go (fun _ k => XS.ifYes X0.here hx rfl (pc0 := 7) (pc' := 18) rfl (hb hby at_7) rfl ((if0 _ _).trans (feq (by decide)).2) (by decide) (by decide) k) ?_
    show own_Ends _ _ _ _ _ _ _ s₁ (mkF m 18 #[.val (.int p0), .val (.int p1), .val (.int p2), .val (.int p3), .val (.int (2 : Int32)), .unset, .unset, .unset] [])
    refine own_go (fun _ k => XS.iload X0.here hx rfl (hb hby at_18) rfl k) ?_
    show own_Ends _ _ _ _ _ _ _ s₁ (mkF m 20 #[.val (.int p0), .val (.int p1), .val (.int p2), .val (.int p3), .val (.int (2 : Int32)), .unset, .unset, .unset] [(.int (2 : Int32))])
    refine own_go (fun _ k => XS.iconst X0.here hx rfl (hb hby at_20) k) ?_
    show own_Ends _ _ _ _ _ _ _ s₁ (mkF m 21 #[.val (.int p0), .val (.int p1), .val (.int p2), .val (.int p3), .val (.int (2 : Int32)), .unset, .unset, .unset] [(.int (1 : Int32)), (.int (2 : Int32))])
    refine own_go (fun _ k => XS.icmpYes X0.here hx rfl (pc0 := 21) (pc' := 36) rfl (hb hby at_21) rfl (feq (by decide)).2 (by decide) (by decide) k) ?_
    show own_Ends _ _ _ _ _ _ _ s₁ (mkF m 36 #[.val (.int p0), .val (.int p1), .val (.int p2), .val (.int p3), .val (.int (2 : Int32)), .unset, .unset, .unset] [])
    refine own_go (fun _ k => XS.iload X0.here hx rfl (hb hby at_36) rfl k) ?_
    show own_Ends _ _ _ _ _ _ _ s₁ (mkF m 38 #[.val (.int p0), .val (.int p1), .val (.int p2), .val (.int p3), .val (.int (2 : Int32)), .unset, .unset, .unset] [(.int (2 : Int32))])
    refine own_go (fun _ k => XS.iconst X0.here hx rfl (hb hby at_38) k) ?_
    show own_Ends _ _ _ _ _ _ _ s₁ (mkF m 39 #[.val (.int p0), .val (.int p1), .val (.int p2), .val (.int p3), .val (.int (2 : Int32)), .unset, .unset, .unset] [(.int (2 : Int32)), (.int (2 : Int32))])
    refine own_go (fun _ k => XS.icmpNo X0.here hx rfl (hb hby at_39) rfl (teq (by decide)).2 k) ?_
    show own_Ends _ _ _ _ _ _ _ s₁ (mkF m 42 #[.val (.int p0), .val (.int p1), .val (.int p2), .val (.int p3), .val (.int (2 : Int32)), .unset, .unset, .unset] [])
    refine own_go (fun _ k => XS.iconst X0.here hx rfl (hb hby at_42) k) ?_
    show own_Ends _ _ _ _ _ _ _ s₁ (mkF m 43 #[.val (.int p0), .val (.int p1), .val (.int p2), .val (.int p3), .val (.int (2 : Int32)), .unset, .unset, .unset] [(.int (2 : Int32))])
    obtain ⟨T7, h7, k7, X7, e7, E7, A7, st7⟩ := own_newP X0 hx hZ (aty := .int) (hw _ (List.mem_of_getElem? (i := 0) rfl)) e0 (g := (mkF m 43 #[.val (.int p0), .val (.int p1), .val (.int p2), .val (.int p3), .val (.int (2 : Int32)), .unset, .unset, .unset] [(.int (2 : Int32))])) rfl (hb hby at_43) rfl (by decide) (n := 2) (by decide) (cap := 2) (by decide) (by decide) (by decide) (by decide)
    obtain ⟨b, gq7⟩ : ∃ z, z = h0.size := ⟨_, rfl⟩
    rw [← gq7] at A7 st7
    have sz_b : h0.size ≤ b := Nat.le_trans K0.1 (Nat.le_of_eq gq7.symm)
    have g_b : h0.size ≤ b := Nat.le_trans (Nat.le_refl _) sz_b
    have K_7 := K0.ext E7
    have V_b : own_Ar Z h7 b k7 .int 2 (fun _ => (.int (0 : Int32))) := A7
    refine own_go st7 ?_
    show own_Ends _ _ _ _ _ _ _ T7 (mkF m 45 #[.val (.int p0), .val (.int p1), .val (.int p2), .val (.int p3), .val (.int (2 : Int32)), .unset, .unset, .unset] [(.ref b)])
    refine own_go (fun _ k => XS.dup X7.here hx rfl (hb hby at_45) rfl rfl k) ?_
    show own_Ends _ _ _ _ _ _ _ T7 (mkF m 46 #[.val (.int p0), .val (.int p1), .val (.int p2), .val (.int p3), .val (.int (2 : Int32)), .unset, .unset, .unset] [(.ref b), (.ref b)])
    refine own_go (fun _ k => XS.iconst X7.here hx rfl (hb hby at_46) k) ?_
    show own_Ends _ _ _ _ _ _ _ T7 (mkF m 47 #[.val (.int p0), .val (.int p1), .val (.int p2), .val (.int p3), .val (.int (2 : Int32)), .unset, .unset, .unset] [(.int (0 : Int32)), (.ref b), (.ref b)])
    refine own_go (fun _ k => XS.iloadN X7.here hx rfl (hb hby at_47) rfl k) ?_
    show own_Ends _ _ _ _ _ _ _ T7 (mkF m 48 #[.val (.int p0), .val (.int p1), .val (.int p2), .val (.int p3), .val (.int (2 : Int32)), .unset, .unset, .unset] [(.int p1), (.int (0 : Int32)), (.ref b), (.ref b)])
    obtain ⟨T8, h8, X8, e8, W8, V8, st8⟩ := own_stI X7 hx hZ e7 V_b (i := 0) (by decide) (by decide) (by decide) (g := (mkF m 48 #[.val (.int p0), .val (.int p1), .val (.int p2), .val (.int p3), .val (.int (2 : Int32)), .unset, .unset, .unset] [(.int p1), (.int (0 : Int32)), (.ref b), (.ref b)])) rfl rfl (hb hby at_48)
    have N8 := Fr.snoc X8 N0 g_b
    have K_8 := K_7.wr W8 (Or.inr sz_b)
    refine own_go st8 ?_
    show own_Ends _ _ _ _ _ _ _ T8 (mkF m 49 #[.val (.int p0), .val (.int p1), .val (.int p2), .val (.int p3), .val (.int (2 : Int32)), .unset, .unset, .unset] [(.ref b)])
    refine own_go (fun _ k => XS.dup X8.here hx rfl (hb hby at_49) rfl rfl k) ?_
    show own_Ends _ _ _ _ _ _ _ T8 (mkF m 50 #[.val (.int p0), .val (.int p1), .val (.int p2), .val (.int p3), .val (.int (2 : Int32)), .unset, .unset, .unset] [(.ref b), (.ref b)])
    refine own_go (fun _ k => XS.iconst X8.here hx rfl (hb hby at_50) k) ?_
    show own_Ends _ _ _ _ _ _ _ T8 (mkF m 51 #[.val (.int p0), .val (.int p1), .val (.int p2), .val (.int p3), .val (.int (2 : Int32)), .unset, .unset, .unset] [(.int (1 : Int32)), (.ref b), (.ref b)])
    refine own_go (fun _ k => XS.iloadN X8.here hx rfl (hb hby at_51) rfl k) ?_
    show own_Ends _ _ _ _ _ _ _ T8 (mkF m 52 #[.val (.int p0), .val (.int p1), .val (.int p2), .val (.int p3), .val (.int (2 : Int32)), .unset, .unset, .unset] [(.int p2), (.int (1 : Int32)), (.ref b), (.ref b)])
    obtain ⟨T9, h9, X9, e9, W9, V9, st9⟩ := own_stI X8 hx hZ e8 V8 (i := 1) (by decide) (by decide) (by decide) (g := (mkF m 52 #[.val (.int p0), .val (.int p1), .val (.int p2), .val (.int p3), .val (.int (2 : Int32)), .unset, .unset, .unset] [(.int p2), (.int (1 : Int32)), (.ref b), (.ref b)])) rfl rfl (hb hby at_52)
    have N9 := Fr.snoc X9 N8 g_b
    have K_9 := K_8.wr W9 (Or.inr sz_b)
    refine own_go st9 ?_
    show own_Ends _ _ _ _ _ _ _ T9 (mkF m 53 #[.val (.int p0), .val (.int p1), .val (.int p2), .val (.int p3), .val (.int (2 : Int32)), .unset, .unset, .unset] [(.ref b)])
    refine own_go (fun _ k => XS.astore X9.here hx rfl (hb hby at_53) rfl rfl (l' := #[.val (.int p0), .val (.int p1), .val (.int p2), .val (.int p3), .val (.int (2 : Int32)), .val (.ref b), .unset, .unset]) rfl k) ?_
    show own_Ends _ _ _ _ _ _ _ T9 (mkF m 55 #[.val (.int p0), .val (.int p1), .val (.int p2), .val (.int p3), .val (.int (2 : Int32)), .val (.ref b), .unset, .unset] [])
    refine own_go (fun _ k => XS.goto X9.here hx rfl (pc0 := 55) (pc' := 75) rfl (hb hby at_55) (by decide) (by decide) k) ?_
    show own_Ends _ _ _ _ _ _ _ T9 (mkF m 75 #[.val (.int p0), .val (.int p1), .val (.int p2), .val (.int p3), .val (.int (2 : Int32)), .val (.ref b), .unset, .unset] [])
    refine own_go (fun _ k => XS.lconst X9.here hx rfl (hb hby at_75) k) ?_
    show own_Ends _ _ _ _ _ _ _ T9 (mkF m 76 #[.val (.int p0), .val (.int p1), .val (.int p2), .val (.int p3), .val (.int (2 : Int32)), .val (.ref b), .unset, .unset] [(.long (0 : Int64))])
    refine own_go (fun _ k => XS.lstore X9.here hx rfl (hb hby at_76) rfl (l' := #[.val (.int p0), .val (.int p1), .val (.int p2), .val (.int p3), .val (.int (2 : Int32)), .val (.ref b), .val (.long (0 : Int64)), .second]) rfl k) ?_
    show own_Ends _ _ _ _ _ _ _ T9 (mkF m 78 #[.val (.int p0), .val (.int p1), .val (.int p2), .val (.int p3), .val (.int (2 : Int32)), .val (.ref b), .val (.long (0 : Int64)), .second] [])
    refine own_go (fun _ k => XS.iload X9.here hx rfl (hb hby at_78) rfl k) ?_
    show own_Ends _ _ _ _ _ _ _ T9 (mkF m 80 #[.val (.int p0), .val (.int p1), .val (.int p2), .val (.int p3), .val (.int (2 : Int32)), .val (.ref b), .val (.long (0 : Int64)), .second] [(.int (2 : Int32))])
    refine own_go (fun _ k => XS.iconst X9.here hx rfl (hb hby at_80) k) ?_
    show own_Ends _ _ _ _ _ _ _ T9 (mkF m 81 #[.val (.int p0), .val (.int p1), .val (.int p2), .val (.int p3), .val (.int (2 : Int32)), .val (.ref b), .val (.long (0 : Int64)), .second] [(.int (1 : Int32)), (.int (2 : Int32))])
    refine own_go (fun _ k => XS.icmpNo X9.here hx rfl (hb hby at_81) rfl (flt (by decide)).1 k) ?_
    show own_Ends _ _ _ _ _ _ _ T9 (mkF m 84 #[.val (.int p0), .val (.int p1), .val (.int p2), .val (.int p3), .val (.int (2 : Int32)), .val (.ref b), .val (.long (0 : Int64)), .second] [])
    refine own_go (fun _ k => XS.lload X9.here hx rfl (hb hby at_84) rfl k) ?_
    show own_Ends _ _ _ _ _ _ _ T9 (mkF m 86 #[.val (.int p0), .val (.int p1), .val (.int p2), .val (.int p3), .val (.int (2 : Int32)), .val (.ref b), .val (.long (0 : Int64)), .second] [(.long (0 : Int64))])
    refine own_go (fun _ k => XS.iloadN X9.here hx rfl (hb hby at_86) rfl k) ?_
    show own_Ends _ _ _ _ _ _ _ T9 (mkF m 87 #[.val (.int p0), .val (.int p1), .val (.int p2), .val (.int p3), .val (.int (2 : Int32)), .val (.ref b), .val (.long (0 : Int64)), .second] [(.int p1), (.long (0 : Int64))])
    obtain ⟨v10, T10, L10, X10, hQ10, st10⟩ := own_callS X9 hx hZ hown (hw _ (List.mem_of_getElem? (i := 5) rfl)) (hw _ (List.mem_of_getElem? (i := 6) rfl)) (hw _ (List.mem_of_getElem? (i := 7) rfl)) (hw _ (List.mem_of_getElem? (i := 8) rfl)) (rm2 l Z a0 hw p1 h9) e9 (g := (mkF m 87 #[.val (.int p0), .val (.int p1), .val (.int p2), .val (.int p3), .val (.int (2 : Int32)), .val (.ref b), .val (.long (0 : Int64)), .second] [(.int p1), (.long (0 : Int64))])) rfl (by rw [hml]; rfl) (argsL := [(.int p1)]) (rest := [(.long (0 : Int64))]) (lenOf pd_1 rfl) rfl rfl (W := 2) (by show 2 * 0 + _ ≤ _; exact Nat.le_of_eq rfl) (hb hby at_87) (by decide) (by decide) (by decide) (by decide) (by decide)
    obtain ⟨rfl, rfl, e10⟩ := hQ10
    refine own_go st10 ?_
    have N10 := Fr.app N9 (Fr.nil _)
    show own_Ends _ _ _ _ _ _ _ T10 (mkF m 90 #[.val (.int p0), .val (.int p1), .val (.int p2), .val (.int p3), .val (.int (2 : Int32)), .val (.ref b), .val (.long (0 : Int64)), .second] [(.long (own_s p1)), (.long (0 : Int64))])
    refine own_go (fun _ k => XS.lor X10.here hx rfl (hb hby at_90) rfl k) ?_
    show own_Ends _ _ _ _ _ _ _ T10 (mkF m 91 #[.val (.int p0), .val (.int p1), .val (.int p2), .val (.int p3), .val (.int (2 : Int32)), .val (.ref b), .val (.long (0 : Int64)), .second] [(.long ((0 : Int64) ||| (own_s p1)))])
    refine own_go (fun _ k => XS.lstore X10.here hx rfl (hb hby at_91) rfl (l' := #[.val (.int p0), .val (.int p1), .val (.int p2), .val (.int p3), .val (.int (2 : Int32)), .val (.ref b), .val (.long ((0 : Int64) ||| (own_s p1))), .second]) rfl k) ?_
    show own_Ends _ _ _ _ _ _ _ T10 (mkF m 93 #[.val (.int p0), .val (.int p1), .val (.int p2), .val (.int p3), .val (.int (2 : Int32)), .val (.ref b), .val (.long ((0 : Int64) ||| (own_s p1))), .second] [])
    refine own_go (fun _ k => XS.iload X10.here hx rfl (hb hby at_93) rfl k) ?_
    show own_Ends _ _ _ _ _ _ _ T10 (mkF m 95 #[.val (.int p0), .val (.int p1), .val (.int p2), .val (.int p3), .val (.int (2 : Int32)), .val (.ref b), .val (.long ((0 : Int64) ||| (own_s p1))), .second] [(.int (2 : Int32))])
    refine own_go (fun _ k => XS.iconst X10.here hx rfl (hb hby at_95) k) ?_
    show own_Ends _ _ _ _ _ _ _ T10 (mkF m 96 #[.val (.int p0), .val (.int p1), .val (.int p2), .val (.int p3), .val (.int (2 : Int32)), .val (.ref b), .val (.long ((0 : Int64) ||| (own_s p1))), .second] [(.int (2 : Int32)), (.int (2 : Int32))])
    refine own_go (fun _ k => XS.icmpNo X10.here hx rfl (hb hby at_96) rfl (flt (by decide)).1 k) ?_
    show own_Ends _ _ _ _ _ _ _ T10 (mkF m 99 #[.val (.int p0), .val (.int p1), .val (.int p2), .val (.int p3), .val (.int (2 : Int32)), .val (.ref b), .val (.long ((0 : Int64) ||| (own_s p1))), .second] [])
    refine own_go (fun _ k => XS.lload X10.here hx rfl (hb hby at_99) rfl k) ?_
    show own_Ends _ _ _ _ _ _ _ T10 (mkF m 101 #[.val (.int p0), .val (.int p1), .val (.int p2), .val (.int p3), .val (.int (2 : Int32)), .val (.ref b), .val (.long ((0 : Int64) ||| (own_s p1))), .second] [(.long ((0 : Int64) ||| (own_s p1)))])
    refine own_go (fun _ k => XS.iloadN X10.here hx rfl (hb hby at_101) rfl k) ?_
    show own_Ends _ _ _ _ _ _ _ T10 (mkF m 102 #[.val (.int p0), .val (.int p1), .val (.int p2), .val (.int p3), .val (.int (2 : Int32)), .val (.ref b), .val (.long ((0 : Int64) ||| (own_s p1))), .second] [(.int p2), (.long ((0 : Int64) ||| (own_s p1)))])
    obtain ⟨v11, T11, L11, X11, hQ11, st11⟩ := own_callS X10 hx hZ hown (hw _ (List.mem_of_getElem? (i := 5) rfl)) (hw _ (List.mem_of_getElem? (i := 6) rfl)) (hw _ (List.mem_of_getElem? (i := 7) rfl)) (hw _ (List.mem_of_getElem? (i := 8) rfl)) (rm2 l Z a0 hw p2 h9) e10 (g := (mkF m 102 #[.val (.int p0), .val (.int p1), .val (.int p2), .val (.int p3), .val (.int (2 : Int32)), .val (.ref b), .val (.long ((0 : Int64) ||| (own_s p1))), .second] [(.int p2), (.long ((0 : Int64) ||| (own_s p1)))])) rfl (by rw [hml]; rfl) (argsL := [(.int p2)]) (rest := [(.long ((0 : Int64) ||| (own_s p1)))]) (lenOf pd_1 rfl) rfl rfl (W := 2) (by show 2 * 0 + _ ≤ _; exact Nat.le_of_eq rfl) (hb hby at_102) (by decide) (by decide) (by decide) (by decide) (by decide)
    obtain ⟨rfl, rfl, e11⟩ := hQ11
    refine own_go st11 ?_
    have N11 := Fr.app N10 (Fr.nil _)
    show own_Ends _ _ _ _ _ _ _ T11 (mkF m 105 #[.val (.int p0), .val (.int p1), .val (.int p2), .val (.int p3), .val (.int (2 : Int32)), .val (.ref b), .val (.long ((0 : Int64) ||| (own_s p1))), .second] [(.long (own_s p2)), (.long ((0 : Int64) ||| (own_s p1)))])
    refine own_go (fun _ k => XS.lor X11.here hx rfl (hb hby at_105) rfl k) ?_
    show own_Ends _ _ _ _ _ _ _ T11 (mkF m 106 #[.val (.int p0), .val (.int p1), .val (.int p2), .val (.int p3), .val (.int (2 : Int32)), .val (.ref b), .val (.long ((0 : Int64) ||| (own_s p1))), .second] [(.long (((0 : Int64) ||| (own_s p1)) ||| (own_s p2)))])
    refine own_go (fun _ k => XS.lstore X11.here hx rfl (hb hby at_106) rfl (l' := #[.val (.int p0), .val (.int p1), .val (.int p2), .val (.int p3), .val (.int (2 : Int32)), .val (.ref b), .val (.long (((0 : Int64) ||| (own_s p1)) ||| (own_s p2))), .second]) rfl k) ?_
    show own_Ends _ _ _ _ _ _ _ T11 (mkF m 108 #[.val (.int p0), .val (.int p1), .val (.int p2), .val (.int p3), .val (.int (2 : Int32)), .val (.ref b), .val (.long (((0 : Int64) ||| (own_s p1)) ||| (own_s p2))), .second] [])
    refine own_go (fun _ k => XS.iload X11.here hx rfl (hb hby at_108) rfl k) ?_
    show own_Ends _ _ _ _ _ _ _ T11 (mkF m 110 #[.val (.int p0), .val (.int p1), .val (.int p2), .val (.int p3), .val (.int (2 : Int32)), .val (.ref b), .val (.long (((0 : Int64) ||| (own_s p1)) ||| (own_s p2))), .second] [(.int (2 : Int32))])
    refine own_go (fun _ k => XS.iconst X11.here hx rfl (hb hby at_110) k) ?_
    show own_Ends _ _ _ _ _ _ _ T11 (mkF m 111 #[.val (.int p0), .val (.int p1), .val (.int p2), .val (.int p3), .val (.int (2 : Int32)), .val (.ref b), .val (.long (((0 : Int64) ||| (own_s p1)) ||| (own_s p2))), .second] [(.int (3 : Int32)), (.int (2 : Int32))])
    refine own_go (fun _ k => XS.icmpYes X11.here hx rfl (pc0 := 111) (pc' := 123) rfl (hb hby at_111) rfl (tlt (by decide)).1 (by decide) (by decide) k) ?_
    show own_Ends _ _ _ _ _ _ _ T11 (mkF m 123 #[.val (.int p0), .val (.int p1), .val (.int p2), .val (.int p3), .val (.int (2 : Int32)), .val (.ref b), .val (.long (((0 : Int64) ||| (own_s p1)) ||| (own_s p2))), .second] [])
    refine own_go (fun _ k => XS.aload X11.here hx rfl (hb hby at_123) rfl rfl k) ?_
    show own_Ends _ _ _ _ _ _ _ T11 (mkF m 125 #[.val (.int p0), .val (.int p1), .val (.int p2), .val (.int p3), .val (.int (2 : Int32)), .val (.ref b), .val (.long (((0 : Int64) ||| (own_s p1)) ||| (own_s p2))), .second] [(.ref b)])
    obtain ⟨v12, T12, L12, X12, hQ12, st12⟩ := own_callS X11 hx hZ hown (hw _ (List.mem_of_getElem? (i := 1) rfl)) (hw _ (List.mem_of_getElem? (i := 2) rfl)) (hw _ (List.mem_of_getElem? (i := 3) rfl)) (hw _ (List.mem_of_getElem? (i := 4) rfl)) (rm1_2 l Z a0 hw b h9 k7 (fun j => if j = 1 then (.int p2) else (fun j => if j = 0 then (.int p1) else (fun _ => (.int (0 : Int32))) j) j) p1 p2 V9 (by first | rfl | simp) (by first | rfl | simp)) e11 (g := (mkF m 125 #[.val (.int p0), .val (.int p1), .val (.int p2), .val (.int p3), .val (.int (2 : Int32)), .val (.ref b), .val (.long (((0 : Int64) ||| (own_s p1)) ||| (own_s p2))), .second] [(.ref b)])) rfl (by rw [hml]; rfl) (argsL := [(.ref b)]) (rest := []) (lenOf pd_0 rfl) rfl rfl (W := 0) (by show 2 * 0 + _ ≤ _; exact Nat.le_of_eq rfl) (hb hby at_125) (by decide) (by decide) (by decide) (by decide) (by decide)
    obtain ⟨rfl, rfl, e12⟩ := hQ12
    refine own_go st12 ?_
    have N12 := Fr.app N11 (Fr.nil _)
    show own_Ends _ _ _ _ _ _ _ T12 (mkF m 128 #[.val (.int p0), .val (.int p1), .val (.int p2), .val (.int p3), .val (.int (2 : Int32)), .val (.ref b), .val (.long (((0 : Int64) ||| (own_s p1)) ||| (own_s p2))), .second] [(.long (((0 : Int64) ||| own_s p1) ||| own_s p2))])
    refine own_go (fun _ k => XS.lload X12.here hx rfl (hb hby at_128) rfl k) ?_
    show own_Ends _ _ _ _ _ _ _ T12 (mkF m 130 #[.val (.int p0), .val (.int p1), .val (.int p2), .val (.int p3), .val (.int (2 : Int32)), .val (.ref b), .val (.long (((0 : Int64) ||| (own_s p1)) ||| (own_s p2))), .second] [(.long (((0 : Int64) ||| (own_s p1)) ||| (own_s p2))), (.long (((0 : Int64) ||| own_s p1) ||| own_s p2))])
    refine own_go (fun _ k => XS.lcmp X12.here hx rfl (hb hby at_130) rfl k) ?_
    show own_Ends _ _ _ _ _ _ _ T12 (mkF m 131 #[.val (.int p0), .val (.int p1), .val (.int p2), .val (.int p3), .val (.int (2 : Int32)), .val (.ref b), .val (.long (((0 : Int64) ||| (own_s p1)) ||| (own_s p2))), .second] [(.int (lcmpW (((0 : Int64) ||| own_s p1) ||| own_s p2) (((0 : Int64) ||| (own_s p1)) ||| (own_s p2))))])
    refine own_go (fun _ k => XS.ifNo X12.here hx rfl (hb hby at_131) rfl (own_let (rfl)).2 k) ?_
    show own_Ends _ _ _ _ _ _ _ T12 (mkF m 134 #[.val (.int p0), .val (.int p1), .val (.int p2), .val (.int p3), .val (.int (2 : Int32)), .val (.ref b), .val (.long (((0 : Int64) ||| (own_s p1)) ||| (own_s p2))), .second] [])
    refine own_go (fun _ k => XS.iconst X12.here hx rfl (hb hby at_134) k) ?_
    show own_Ends _ _ _ _ _ _ _ T12 (mkF m 135 #[.val (.int p0), .val (.int p1), .val (.int p2), .val (.int p3), .val (.int (2 : Int32)), .val (.ref b), .val (.long (((0 : Int64) ||| (own_s p1)) ||| (own_s p2))), .second] [(.int (1 : Int32))])
    refine own_go (fun _ k => XS.goto X12.here hx rfl (pc0 := 135) (pc' := 139) rfl (hb hby at_135) (by decide) (by decide) k) ?_
    show own_Ends _ _ _ _ _ _ _ T12 (mkF m 139 #[.val (.int p0), .val (.int p1), .val (.int p2), .val (.int p3), .val (.int (2 : Int32)), .val (.ref b), .val (.long (((0 : Int64) ||| (own_s p1)) ||| (own_s p2))), .second] [(.int (1 : Int32))])
    exact own_retZ X12 hx hlk hret (by decide) (hb hby at_139) (by decide) (by decide) ⟨rfl, N12⟩
  · refine own_go (fun _ k => XS.iloadN X0.here hx rfl (hb hby at_0) rfl k) ?_
    show own_Ends _ _ _ _ _ _ _ s₁ (mkF m 1 #[.val (.int p0), .val (.int p1), .val (.int p2), .val (.int p3), .unset, .unset, .unset, .unset] [(.int p0)])
    refine own_go (fun _ k => XS.iconst X0.here hx rfl (hb hby at_1) k) ?_
    show own_Ends _ _ _ _ _ _ _ s₁ (mkF m 2 #[.val (.int p0), .val (.int p1), .val (.int p2), .val (.int p3), .unset, .unset, .unset, .unset] [(.int (3 : Int32)), (.int p0)])
    refine own_go (fun _ k => XS.iand X0.here hx rfl (hb hby at_2) rfl k) ?_
    show own_Ends _ _ _ _ _ _ _ s₁ (mkF m 3 #[.val (.int p0), .val (.int p1), .val (.int p2), .val (.int p3), .unset, .unset, .unset, .unset] [(.int (p0 &&& (3 : Int32)))])
    refine own_go (fun _ k => XS.istore X0.here hx rfl (hb hby at_3) rfl (l' := #[.val (.int p0), .val (.int p1), .val (.int p2), .val (.int p3), .val (.int (p0 &&& (3 : Int32))), .unset, .unset, .unset]) rfl k) ?_
    show own_Ends _ _ _ _ _ _ _ s₁ (mkF m 5 #[.val (.int p0), .val (.int p1), .val (.int p2), .val (.int p3), .val (.int (p0 &&& (3 : Int32))), .unset, .unset, .unset] [])
    refine own_go (fun _ k => XS.iload X0.here hx rfl (hb hby at_5) rfl k) ?_
    show own_Ends _ _ _ _ _ _ _ s₁ (mkF m 7 #[.val (.int p0), .val (.int p1), .val (.int p2), .val (.int p3), .val (.int (p0 &&& (3 : Int32))), .unset, .unset, .unset] [(.int (p0 &&& (3 : Int32)))])
    rw [show (p0 &&& (3 : Int32)) = (3 : Int32) from hn]
    show own_Ends _ _ _ _ _ _ _ s₁ (mkF m 7 #[.val (.int p0), .val (.int p1), .val (.int p2), .val (.int p3), .val (.int (3 : Int32)), .unset, .unset, .unset] [(.int (3 : Int32))])
    refine own_go (fun _ k => XS.ifYes X0.here hx rfl (pc0 := 7) (pc' := 18) rfl (hb hby at_7) rfl ((if0 _ _).trans (feq (by decide)).2) (by decide) (by decide) k) ?_
    show own_Ends _ _ _ _ _ _ _ s₁ (mkF m 18 #[.val (.int p0), .val (.int p1), .val (.int p2), .val (.int p3), .val (.int (3 : Int32)), .unset, .unset, .unset] [])
    refine own_go (fun _ k => XS.iload X0.here hx rfl (hb hby at_18) rfl k) ?_
    show own_Ends _ _ _ _ _ _ _ s₁ (mkF m 20 #[.val (.int p0), .val (.int p1), .val (.int p2), .val (.int p3), .val (.int (3 : Int32)), .unset, .unset, .unset] [(.int (3 : Int32))])
    refine own_go (fun _ k => XS.iconst X0.here hx rfl (hb hby at_20) k) ?_
    show own_Ends _ _ _ _ _ _ _ s₁ (mkF m 21 #[.val (.int p0), .val (.int p1), .val (.int p2), .val (.int p3), .val (.int (3 : Int32)), .unset, .unset, .unset] [(.int (1 : Int32)), (.int (3 : Int32))])
    refine own_go (fun _ k => XS.icmpYes X0.here hx rfl (pc0 := 21) (pc' := 36) rfl (hb hby at_21) rfl (feq (by decide)).2 (by decide) (by decide) k) ?_
    show own_Ends _ _ _ _ _ _ _ s₁ (mkF m 36 #[.val (.int p0), .val (.int p1), .val (.int p2), .val (.int p3), .val (.int (3 : Int32)), .unset, .unset, .unset] [])
    refine own_go (fun _ k => XS.iload X0.here hx rfl (hb hby at_36) rfl k) ?_
    show own_Ends _ _ _ _ _ _ _ s₁ (mkF m 38 #[.val (.int p0), .val (.int p1), .val (.int p2), .val (.int p3), .val (.int (3 : Int32)), .unset, .unset, .unset] [(.int (3 : Int32))])
    refine own_go (fun _ k => XS.iconst X0.here hx rfl (hb hby at_38) k) ?_
    show own_Ends _ _ _ _ _ _ _ s₁ (mkF m 39 #[.val (.int p0), .val (.int p1), .val (.int p2), .val (.int p3), .val (.int (3 : Int32)), .unset, .unset, .unset] [(.int (2 : Int32)), (.int (3 : Int32))])
    refine own_go (fun _ k => XS.icmpYes X0.here hx rfl (pc0 := 39) (pc' := 58) rfl (hb hby at_39) rfl (feq (by decide)).2 (by decide) (by decide) k) ?_
    show own_Ends _ _ _ _ _ _ _ s₁ (mkF m 58 #[.val (.int p0), .val (.int p1), .val (.int p2), .val (.int p3), .val (.int (3 : Int32)), .unset, .unset, .unset] [])
    refine own_go (fun _ k => XS.iconst X0.here hx rfl (hb hby at_58) k) ?_
    show own_Ends _ _ _ _ _ _ _ s₁ (mkF m 59 #[.val (.int p0), .val (.int p1), .val (.int p2), .val (.int p3), .val (.int (3 : Int32)), .unset, .unset, .unset] [(.int (3 : Int32))])
    obtain ⟨T13, h13, k13, X13, e13, E13, A13, st13⟩ := own_newP X0 hx hZ (aty := .int) (hw _ (List.mem_of_getElem? (i := 0) rfl)) e0 (g := (mkF m 59 #[.val (.int p0), .val (.int p1), .val (.int p2), .val (.int p3), .val (.int (3 : Int32)), .unset, .unset, .unset] [(.int (3 : Int32))])) rfl (hb hby at_59) rfl (by decide) (n := 3) (by decide) (cap := 3) (by decide) (by decide) (by decide) (by decide)
    obtain ⟨b, gq13⟩ : ∃ z, z = h0.size := ⟨_, rfl⟩
    rw [← gq13] at A13 st13
    have sz_b : h0.size ≤ b := Nat.le_trans K0.1 (Nat.le_of_eq gq13.symm)
    have g_b : h0.size ≤ b := Nat.le_trans (Nat.le_refl _) sz_b
    have K_13 := K0.ext E13
    have V_b : own_Ar Z h13 b k13 .int 3 (fun _ => (.int (0 : Int32))) := A13
    refine own_go st13 ?_
    show own_Ends _ _ _ _ _ _ _ T13 (mkF m 61 #[.val (.int p0), .val (.int p1), .val (.int p2), .val (.int p3), .val (.int (3 : Int32)), .unset, .unset, .unset] [(.ref b)])
    refine own_go (fun _ k => XS.dup X13.here hx rfl (hb hby at_61) rfl rfl k) ?_
    show own_Ends _ _ _ _ _ _ _ T13 (mkF m 62 #[.val (.int p0), .val (.int p1), .val (.int p2), .val (.int p3), .val (.int (3 : Int32)), .unset, .unset, .unset] [(.ref b), (.ref b)])
    refine own_go (fun _ k => XS.iconst X13.here hx rfl (hb hby at_62) k) ?_
    show own_Ends _ _ _ _ _ _ _ T13 (mkF m 63 #[.val (.int p0), .val (.int p1), .val (.int p2), .val (.int p3), .val (.int (3 : Int32)), .unset, .unset, .unset] [(.int (0 : Int32)), (.ref b), (.ref b)])
    refine own_go (fun _ k => XS.iloadN X13.here hx rfl (hb hby at_63) rfl k) ?_
    show own_Ends _ _ _ _ _ _ _ T13 (mkF m 64 #[.val (.int p0), .val (.int p1), .val (.int p2), .val (.int p3), .val (.int (3 : Int32)), .unset, .unset, .unset] [(.int p1), (.int (0 : Int32)), (.ref b), (.ref b)])
    obtain ⟨T14, h14, X14, e14, W14, V14, st14⟩ := own_stI X13 hx hZ e13 V_b (i := 0) (by decide) (by decide) (by decide) (g := (mkF m 64 #[.val (.int p0), .val (.int p1), .val (.int p2), .val (.int p3), .val (.int (3 : Int32)), .unset, .unset, .unset] [(.int p1), (.int (0 : Int32)), (.ref b), (.ref b)])) rfl rfl (hb hby at_64)
    have N14 := Fr.snoc X14 N0 g_b
    have K_14 := K_13.wr W14 (Or.inr sz_b)
    refine own_go st14 ?_
    show own_Ends _ _ _ _ _ _ _ T14 (mkF m 65 #[.val (.int p0), .val (.int p1), .val (.int p2), .val (.int p3), .val (.int (3 : Int32)), .unset, .unset, .unset] [(.ref b)])
    refine own_go (fun _ k => XS.dup X14.here hx rfl (hb hby at_65) rfl rfl k) ?_
    show own_Ends _ _ _ _ _ _ _ T14 (mkF m 66 #[.val (.int p0), .val (.int p1), .val (.int p2), .val (.int p3), .val (.int (3 : Int32)), .unset, .unset, .unset] [(.ref b), (.ref b)])
    refine own_go (fun _ k => XS.iconst X14.here hx rfl (hb hby at_66) k) ?_
    show own_Ends _ _ _ _ _ _ _ T14 (mkF m 67 #[.val (.int p0), .val (.int p1), .val (.int p2), .val (.int p3), .val (.int (3 : Int32)), .unset, .unset, .unset] [(.int (1 : Int32)), (.ref b), (.ref b)])
    refine own_go (fun _ k => XS.iloadN X14.here hx rfl (hb hby at_67) rfl k) ?_
    show own_Ends _ _ _ _ _ _ _ T14 (mkF m 68 #[.val (.int p0), .val (.int p1), .val (.int p2), .val (.int p3), .val (.int (3 : Int32)), .unset, .unset, .unset] [(.int p2), (.int (1 : Int32)), (.ref b), (.ref b)])
    obtain ⟨T15, h15, X15, e15, W15, V15, st15⟩ := own_stI X14 hx hZ e14 V14 (i := 1) (by decide) (by decide) (by decide) (g := (mkF m 68 #[.val (.int p0), .val (.int p1), .val (.int p2), .val (.int p3), .val (.int (3 : Int32)), .unset, .unset, .unset] [(.int p2), (.int (1 : Int32)), (.ref b), (.ref b)])) rfl rfl (hb hby at_68)
    have N15 := Fr.snoc X15 N14 g_b
    have K_15 := K_14.wr W15 (Or.inr sz_b)
    refine own_go st15 ?_
    show own_Ends _ _ _ _ _ _ _ T15 (mkF m 69 #[.val (.int p0), .val (.int p1), .val (.int p2), .val (.int p3), .val (.int (3 : Int32)), .unset, .unset, .unset] [(.ref b)])
    refine own_go (fun _ k => XS.dup X15.here hx rfl (hb hby at_69) rfl rfl k) ?_
    show own_Ends _ _ _ _ _ _ _ T15 (mkF m 70 #[.val (.int p0), .val (.int p1), .val (.int p2), .val (.int p3), .val (.int (3 : Int32)), .unset, .unset, .unset] [(.ref b), (.ref b)])
    refine own_go (fun _ k => XS.iconst X15.here hx rfl (hb hby at_70) k) ?_
    show own_Ends _ _ _ _ _ _ _ T15 (mkF m 71 #[.val (.int p0), .val (.int p1), .val (.int p2), .val (.int p3), .val (.int (3 : Int32)), .unset, .unset, .unset] [(.int (2 : Int32)), (.ref b), (.ref b)])
    refine own_go (fun _ k => XS.iloadN X15.here hx rfl (hb hby at_71) rfl k) ?_
    show own_Ends _ _ _ _ _ _ _ T15 (mkF m 72 #[.val (.int p0), .val (.int p1), .val (.int p2), .val (.int p3), .val (.int (3 : Int32)), .unset, .unset, .unset] [(.int p3), (.int (2 : Int32)), (.ref b), (.ref b)])
    obtain ⟨T16, h16, X16, e16, W16, V16, st16⟩ := own_stI X15 hx hZ e15 V15 (i := 2) (by decide) (by decide) (by decide) (g := (mkF m 72 #[.val (.int p0), .val (.int p1), .val (.int p2), .val (.int p3), .val (.int (3 : Int32)), .unset, .unset, .unset] [(.int p3), (.int (2 : Int32)), (.ref b), (.ref b)])) rfl rfl (hb hby at_72)
    have N16 := Fr.snoc X16 N15 g_b
    have K_16 := K_15.wr W16 (Or.inr sz_b)
    refine own_go st16 ?_
    show own_Ends _ _ _ _ _ _ _ T16 (mkF m 73 #[.val (.int p0), .val (.int p1), .val (.int p2), .val (.int p3), .val (.int (3 : Int32)), .unset, .unset, .unset] [(.ref b)])
    refine own_go (fun _ k => XS.astore X16.here hx rfl (hb hby at_73) rfl rfl (l' := #[.val (.int p0), .val (.int p1), .val (.int p2), .val (.int p3), .val (.int (3 : Int32)), .val (.ref b), .unset, .unset]) rfl k) ?_
    show own_Ends _ _ _ _ _ _ _ T16 (mkF m 75 #[.val (.int p0), .val (.int p1), .val (.int p2), .val (.int p3), .val (.int (3 : Int32)), .val (.ref b), .unset, .unset] [])
    refine own_go (fun _ k => XS.lconst X16.here hx rfl (hb hby at_75) k) ?_
    show own_Ends _ _ _ _ _ _ _ T16 (mkF m 76 #[.val (.int p0), .val (.int p1), .val (.int p2), .val (.int p3), .val (.int (3 : Int32)), .val (.ref b), .unset, .unset] [(.long (0 : Int64))])
    refine own_go (fun _ k => XS.lstore X16.here hx rfl (hb hby at_76) rfl (l' := #[.val (.int p0), .val (.int p1), .val (.int p2), .val (.int p3), .val (.int (3 : Int32)), .val (.ref b), .val (.long (0 : Int64)), .second]) rfl k) ?_
    show own_Ends _ _ _ _ _ _ _ T16 (mkF m 78 #[.val (.int p0), .val (.int p1), .val (.int p2), .val (.int p3), .val (.int (3 : Int32)), .val (.ref b), .val (.long (0 : Int64)), .second] [])
    refine own_go (fun _ k => XS.iload X16.here hx rfl (hb hby at_78) rfl k) ?_
    show own_Ends _ _ _ _ _ _ _ T16 (mkF m 80 #[.val (.int p0), .val (.int p1), .val (.int p2), .val (.int p3), .val (.int (3 : Int32)), .val (.ref b), .val (.long (0 : Int64)), .second] [(.int (3 : Int32))])
    refine own_go (fun _ k => XS.iconst X16.here hx rfl (hb hby at_80) k) ?_
    show own_Ends _ _ _ _ _ _ _ T16 (mkF m 81 #[.val (.int p0), .val (.int p1), .val (.int p2), .val (.int p3), .val (.int (3 : Int32)), .val (.ref b), .val (.long (0 : Int64)), .second] [(.int (1 : Int32)), (.int (3 : Int32))])
    refine own_go (fun _ k => XS.icmpNo X16.here hx rfl (hb hby at_81) rfl (flt (by decide)).1 k) ?_
    show own_Ends _ _ _ _ _ _ _ T16 (mkF m 84 #[.val (.int p0), .val (.int p1), .val (.int p2), .val (.int p3), .val (.int (3 : Int32)), .val (.ref b), .val (.long (0 : Int64)), .second] [])
    refine own_go (fun _ k => XS.lload X16.here hx rfl (hb hby at_84) rfl k) ?_
    show own_Ends _ _ _ _ _ _ _ T16 (mkF m 86 #[.val (.int p0), .val (.int p1), .val (.int p2), .val (.int p3), .val (.int (3 : Int32)), .val (.ref b), .val (.long (0 : Int64)), .second] [(.long (0 : Int64))])
    refine own_go (fun _ k => XS.iloadN X16.here hx rfl (hb hby at_86) rfl k) ?_
    show own_Ends _ _ _ _ _ _ _ T16 (mkF m 87 #[.val (.int p0), .val (.int p1), .val (.int p2), .val (.int p3), .val (.int (3 : Int32)), .val (.ref b), .val (.long (0 : Int64)), .second] [(.int p1), (.long (0 : Int64))])
    obtain ⟨v17, T17, L17, X17, hQ17, st17⟩ := own_callS X16 hx hZ hown (hw _ (List.mem_of_getElem? (i := 5) rfl)) (hw _ (List.mem_of_getElem? (i := 6) rfl)) (hw _ (List.mem_of_getElem? (i := 7) rfl)) (hw _ (List.mem_of_getElem? (i := 8) rfl)) (rm2 l Z a0 hw p1 h16) e16 (g := (mkF m 87 #[.val (.int p0), .val (.int p1), .val (.int p2), .val (.int p3), .val (.int (3 : Int32)), .val (.ref b), .val (.long (0 : Int64)), .second] [(.int p1), (.long (0 : Int64))])) rfl (by rw [hml]; rfl) (argsL := [(.int p1)]) (rest := [(.long (0 : Int64))]) (lenOf pd_1 rfl) rfl rfl (W := 2) (by show 2 * 0 + _ ≤ _; exact Nat.le_of_eq rfl) (hb hby at_87) (by decide) (by decide) (by decide) (by decide) (by decide)
    obtain ⟨rfl, rfl, e17⟩ := hQ17
    refine own_go st17 ?_
    have N17 := Fr.app N16 (Fr.nil _)
    show own_Ends _ _ _ _ _ _ _ T17 (mkF m 90 #[.val (.int p0), .val (.int p1), .val (.int p2), .val (.int p3), .val (.int (3 : Int32)), .val (.ref b), .val (.long (0 : Int64)), .second] [(.long (own_s p1)), (.long (0 : Int64))])
    refine own_go (fun _ k => XS.lor X17.here hx rfl (hb hby at_90) rfl k) ?_
    show own_Ends _ _ _ _ _ _ _ T17 (mkF m 91 #[.val (.int p0), .val (.int p1), .val (.int p2), .val (.int p3), .val (.int (3 : Int32)), .val (.ref b), .val (.long (0 : Int64)), .second] [(.long ((0 : Int64) ||| (own_s p1)))])
    refine own_go (fun _ k => XS.lstore X17.here hx rfl (hb hby at_91) rfl (l' := #[.val (.int p0), .val (.int p1), .val (.int p2), .val (.int p3), .val (.int (3 : Int32)), .val (.ref b), .val (.long ((0 : Int64) ||| (own_s p1))), .second]) rfl k) ?_
    show own_Ends _ _ _ _ _ _ _ T17 (mkF m 93 #[.val (.int p0), .val (.int p1), .val (.int p2), .val (.int p3), .val (.int (3 : Int32)), .val (.ref b), .val (.long ((0 : Int64) ||| (own_s p1))), .second] [])
    refine own_go (fun _ k => XS.iload X17.here hx rfl (hb hby at_93) rfl k) ?_
    show own_Ends _ _ _ _ _ _ _ T17 (mkF m 95 #[.val (.int p0), .val (.int p1), .val (.int p2), .val (.int p3), .val (.int (3 : Int32)), .val (.ref b), .val (.long ((0 : Int64) ||| (own_s p1))), .second] [(.int (3 : Int32))])
    refine own_go (fun _ k => XS.iconst X17.here hx rfl (hb hby at_95) k) ?_
    show own_Ends _ _ _ _ _ _ _ T17 (mkF m 96 #[.val (.int p0), .val (.int p1), .val (.int p2), .val (.int p3), .val (.int (3 : Int32)), .val (.ref b), .val (.long ((0 : Int64) ||| (own_s p1))), .second] [(.int (2 : Int32)), (.int (3 : Int32))])
    refine own_go (fun _ k => XS.icmpNo X17.here hx rfl (hb hby at_96) rfl (flt (by decide)).1 k) ?_
    show own_Ends _ _ _ _ _ _ _ T17 (mkF m 99 #[.val (.int p0), .val (.int p1), .val (.int p2), .val (.int p3), .val (.int (3 : Int32)), .val (.ref b), .val (.long ((0 : Int64) ||| (own_s p1))), .second] [])
    refine own_go (fun _ k => XS.lload X17.here hx rfl (hb hby at_99) rfl k) ?_
    show own_Ends _ _ _ _ _ _ _ T17 (mkF m 101 #[.val (.int p0), .val (.int p1), .val (.int p2), .val (.int p3), .val (.int (3 : Int32)), .val (.ref b), .val (.long ((0 : Int64) ||| (own_s p1))), .second] [(.long ((0 : Int64) ||| (own_s p1)))])
    refine own_go (fun _ k => XS.iloadN X17.here hx rfl (hb hby at_101) rfl k) ?_
    show own_Ends _ _ _ _ _ _ _ T17 (mkF m 102 #[.val (.int p0), .val (.int p1), .val (.int p2), .val (.int p3), .val (.int (3 : Int32)), .val (.ref b), .val (.long ((0 : Int64) ||| (own_s p1))), .second] [(.int p2), (.long ((0 : Int64) ||| (own_s p1)))])
    obtain ⟨v18, T18, L18, X18, hQ18, st18⟩ := own_callS X17 hx hZ hown (hw _ (List.mem_of_getElem? (i := 5) rfl)) (hw _ (List.mem_of_getElem? (i := 6) rfl)) (hw _ (List.mem_of_getElem? (i := 7) rfl)) (hw _ (List.mem_of_getElem? (i := 8) rfl)) (rm2 l Z a0 hw p2 h16) e17 (g := (mkF m 102 #[.val (.int p0), .val (.int p1), .val (.int p2), .val (.int p3), .val (.int (3 : Int32)), .val (.ref b), .val (.long ((0 : Int64) ||| (own_s p1))), .second] [(.int p2), (.long ((0 : Int64) ||| (own_s p1)))])) rfl (by rw [hml]; rfl) (argsL := [(.int p2)]) (rest := [(.long ((0 : Int64) ||| (own_s p1)))]) (lenOf pd_1 rfl) rfl rfl (W := 2) (by show 2 * 0 + _ ≤ _; exact Nat.le_of_eq rfl) (hb hby at_102) (by decide) (by decide) (by decide) (by decide) (by decide)
    obtain ⟨rfl, rfl, e18⟩ := hQ18
    refine own_go st18 ?_
    have N18 := Fr.app N17 (Fr.nil _)
    show own_Ends _ _ _ _ _ _ _ T18 (mkF m 105 #[.val (.int p0), .val (.int p1), .val (.int p2), .val (.int p3), .val (.int (3 : Int32)), .val (.ref b), .val (.long ((0 : Int64) ||| (own_s p1))), .second] [(.long (own_s p2)), (.long ((0 : Int64) ||| (own_s p1)))])
    refine own_go (fun _ k => XS.lor X18.here hx rfl (hb hby at_105) rfl k) ?_
    show own_Ends _ _ _ _ _ _ _ T18 (mkF m 106 #[.val (.int p0), .val (.int p1), .val (.int p2), .val (.int p3), .val (.int (3 : Int32)), .val (.ref b), .val (.long ((0 : Int64) ||| (own_s p1))), .second] [(.long (((0 : Int64) ||| (own_s p1)) ||| (own_s p2)))])
    refine own_go (fun _ k => XS.lstore X18.here hx rfl (hb hby at_106) rfl (l' := #[.val (.int p0), .val (.int p1), .val (.int p2), .val (.int p3), .val (.int (3 : Int32)), .val (.ref b), .val (.long (((0 : Int64) ||| (own_s p1)) ||| (own_s p2))), .second]) rfl k) ?_
    show own_Ends _ _ _ _ _ _ _ T18 (mkF m 108 #[.val (.int p0), .val (.int p1), .val (.int p2), .val (.int p3), .val (.int (3 : Int32)), .val (.ref b), .val (.long (((0 : Int64) ||| (own_s p1)) ||| (own_s p2))), .second] [])
    refine own_go (fun _ k => XS.iload X18.here hx rfl (hb hby at_108) rfl k) ?_
    show own_Ends _ _ _ _ _ _ _ T18 (mkF m 110 #[.val (.int p0), .val (.int p1), .val (.int p2), .val (.int p3), .val (.int (3 : Int32)), .val (.ref b), .val (.long (((0 : Int64) ||| (own_s p1)) ||| (own_s p2))), .second] [(.int (3 : Int32))])
    refine own_go (fun _ k => XS.iconst X18.here hx rfl (hb hby at_110) k) ?_
    show own_Ends _ _ _ _ _ _ _ T18 (mkF m 111 #[.val (.int p0), .val (.int p1), .val (.int p2), .val (.int p3), .val (.int (3 : Int32)), .val (.ref b), .val (.long (((0 : Int64) ||| (own_s p1)) ||| (own_s p2))), .second] [(.int (3 : Int32)), (.int (3 : Int32))])
    refine own_go (fun _ k => XS.icmpNo X18.here hx rfl (hb hby at_111) rfl (flt (by decide)).1 k) ?_
    show own_Ends _ _ _ _ _ _ _ T18 (mkF m 114 #[.val (.int p0), .val (.int p1), .val (.int p2), .val (.int p3), .val (.int (3 : Int32)), .val (.ref b), .val (.long (((0 : Int64) ||| (own_s p1)) ||| (own_s p2))), .second] [])
    refine own_go (fun _ k => XS.lload X18.here hx rfl (hb hby at_114) rfl k) ?_
    show own_Ends _ _ _ _ _ _ _ T18 (mkF m 116 #[.val (.int p0), .val (.int p1), .val (.int p2), .val (.int p3), .val (.int (3 : Int32)), .val (.ref b), .val (.long (((0 : Int64) ||| (own_s p1)) ||| (own_s p2))), .second] [(.long (((0 : Int64) ||| (own_s p1)) ||| (own_s p2)))])
    refine own_go (fun _ k => XS.iloadN X18.here hx rfl (hb hby at_116) rfl k) ?_
    show own_Ends _ _ _ _ _ _ _ T18 (mkF m 117 #[.val (.int p0), .val (.int p1), .val (.int p2), .val (.int p3), .val (.int (3 : Int32)), .val (.ref b), .val (.long (((0 : Int64) ||| (own_s p1)) ||| (own_s p2))), .second] [(.int p3), (.long (((0 : Int64) ||| (own_s p1)) ||| (own_s p2)))])
    obtain ⟨v19, T19, L19, X19, hQ19, st19⟩ := own_callS X18 hx hZ hown (hw _ (List.mem_of_getElem? (i := 5) rfl)) (hw _ (List.mem_of_getElem? (i := 6) rfl)) (hw _ (List.mem_of_getElem? (i := 7) rfl)) (hw _ (List.mem_of_getElem? (i := 8) rfl)) (rm2 l Z a0 hw p3 h16) e18 (g := (mkF m 117 #[.val (.int p0), .val (.int p1), .val (.int p2), .val (.int p3), .val (.int (3 : Int32)), .val (.ref b), .val (.long (((0 : Int64) ||| (own_s p1)) ||| (own_s p2))), .second] [(.int p3), (.long (((0 : Int64) ||| (own_s p1)) ||| (own_s p2)))])) rfl (by rw [hml]; rfl) (argsL := [(.int p3)]) (rest := [(.long (((0 : Int64) ||| (own_s p1)) ||| (own_s p2)))]) (lenOf pd_1 rfl) rfl rfl (W := 2) (by show 2 * 0 + _ ≤ _; exact Nat.le_of_eq rfl) (hb hby at_117) (by decide) (by decide) (by decide) (by decide) (by decide)
    obtain ⟨rfl, rfl, e19⟩ := hQ19
    refine own_go st19 ?_
    have N19 := Fr.app N18 (Fr.nil _)
    show own_Ends _ _ _ _ _ _ _ T19 (mkF m 120 #[.val (.int p0), .val (.int p1), .val (.int p2), .val (.int p3), .val (.int (3 : Int32)), .val (.ref b), .val (.long (((0 : Int64) ||| (own_s p1)) ||| (own_s p2))), .second] [(.long (own_s p3)), (.long (((0 : Int64) ||| (own_s p1)) ||| (own_s p2)))])
    refine own_go (fun _ k => XS.lor X19.here hx rfl (hb hby at_120) rfl k) ?_
    show own_Ends _ _ _ _ _ _ _ T19 (mkF m 121 #[.val (.int p0), .val (.int p1), .val (.int p2), .val (.int p3), .val (.int (3 : Int32)), .val (.ref b), .val (.long (((0 : Int64) ||| (own_s p1)) ||| (own_s p2))), .second] [(.long ((((0 : Int64) ||| (own_s p1)) ||| (own_s p2)) ||| (own_s p3)))])
    refine own_go (fun _ k => XS.lstore X19.here hx rfl (hb hby at_121) rfl (l' := #[.val (.int p0), .val (.int p1), .val (.int p2), .val (.int p3), .val (.int (3 : Int32)), .val (.ref b), .val (.long ((((0 : Int64) ||| (own_s p1)) ||| (own_s p2)) ||| (own_s p3))), .second]) rfl k) ?_
    show own_Ends _ _ _ _ _ _ _ T19 (mkF m 123 #[.val (.int p0), .val (.int p1), .val (.int p2), .val (.int p3), .val (.int (3 : Int32)), .val (.ref b), .val (.long ((((0 : Int64) ||| (own_s p1)) ||| (own_s p2)) ||| (own_s p3))), .second] [])
    refine own_go (fun _ k => XS.aload X19.here hx rfl (hb hby at_123) rfl rfl k) ?_
    show own_Ends _ _ _ _ _ _ _ T19 (mkF m 125 #[.val (.int p0), .val (.int p1), .val (.int p2), .val (.int p3), .val (.int (3 : Int32)), .val (.ref b), .val (.long ((((0 : Int64) ||| (own_s p1)) ||| (own_s p2)) ||| (own_s p3))), .second] [(.ref b)])
    obtain ⟨v20, T20, L20, X20, hQ20, st20⟩ := own_callS X19 hx hZ hown (hw _ (List.mem_of_getElem? (i := 1) rfl)) (hw _ (List.mem_of_getElem? (i := 2) rfl)) (hw _ (List.mem_of_getElem? (i := 3) rfl)) (hw _ (List.mem_of_getElem? (i := 4) rfl)) (rm1_3 l Z a0 hw b h16 k13 (fun j => if j = 2 then (.int p3) else (fun j => if j = 1 then (.int p2) else (fun j => if j = 0 then (.int p1) else (fun _ => (.int (0 : Int32))) j) j) j) p1 p2 p3 V16 (by first | rfl | simp) (by first | rfl | simp) (by first | rfl | simp)) e19 (g := (mkF m 125 #[.val (.int p0), .val (.int p1), .val (.int p2), .val (.int p3), .val (.int (3 : Int32)), .val (.ref b), .val (.long ((((0 : Int64) ||| (own_s p1)) ||| (own_s p2)) ||| (own_s p3))), .second] [(.ref b)])) rfl (by rw [hml]; rfl) (argsL := [(.ref b)]) (rest := []) (lenOf pd_0 rfl) rfl rfl (W := 0) (by show 2 * 0 + _ ≤ _; exact Nat.le_of_eq rfl) (hb hby at_125) (by decide) (by decide) (by decide) (by decide) (by decide)
    obtain ⟨rfl, rfl, e20⟩ := hQ20
    refine own_go st20 ?_
    have N20 := Fr.app N19 (Fr.nil _)
    show own_Ends _ _ _ _ _ _ _ T20 (mkF m 128 #[.val (.int p0), .val (.int p1), .val (.int p2), .val (.int p3), .val (.int (3 : Int32)), .val (.ref b), .val (.long ((((0 : Int64) ||| (own_s p1)) ||| (own_s p2)) ||| (own_s p3))), .second] [(.long ((((0 : Int64) ||| own_s p1) ||| own_s p2) ||| own_s p3))])
    refine own_go (fun _ k => XS.lload X20.here hx rfl (hb hby at_128) rfl k) ?_
    show own_Ends _ _ _ _ _ _ _ T20 (mkF m 130 #[.val (.int p0), .val (.int p1), .val (.int p2), .val (.int p3), .val (.int (3 : Int32)), .val (.ref b), .val (.long ((((0 : Int64) ||| (own_s p1)) ||| (own_s p2)) ||| (own_s p3))), .second] [(.long ((((0 : Int64) ||| (own_s p1)) ||| (own_s p2)) ||| (own_s p3))), (.long ((((0 : Int64) ||| own_s p1) ||| own_s p2) ||| own_s p3))])
    refine own_go (fun _ k => XS.lcmp X20.here hx rfl (hb hby at_130) rfl k) ?_
    show own_Ends _ _ _ _ _ _ _ T20 (mkF m 131 #[.val (.int p0), .val (.int p1), .val (.int p2), .val (.int p3), .val (.int (3 : Int32)), .val (.ref b), .val (.long ((((0 : Int64) ||| (own_s p1)) ||| (own_s p2)) ||| (own_s p3))), .second] [(.int (lcmpW ((((0 : Int64) ||| own_s p1) ||| own_s p2) ||| own_s p3) ((((0 : Int64) ||| (own_s p1)) ||| (own_s p2)) ||| (own_s p3))))])
    refine own_go (fun _ k => XS.ifNo X20.here hx rfl (hb hby at_131) rfl (own_let (rfl)).2 k) ?_
    show own_Ends _ _ _ _ _ _ _ T20 (mkF m 134 #[.val (.int p0), .val (.int p1), .val (.int p2), .val (.int p3), .val (.int (3 : Int32)), .val (.ref b), .val (.long ((((0 : Int64) ||| (own_s p1)) ||| (own_s p2)) ||| (own_s p3))), .second] [])
    refine own_go (fun _ k => XS.iconst X20.here hx rfl (hb hby at_134) k) ?_
    show own_Ends _ _ _ _ _ _ _ T20 (mkF m 135 #[.val (.int p0), .val (.int p1), .val (.int p2), .val (.int p3), .val (.int (3 : Int32)), .val (.ref b), .val (.long ((((0 : Int64) ||| (own_s p1)) ||| (own_s p2)) ||| (own_s p3))), .second] [(.int (1 : Int32))])
    refine own_go (fun _ k => XS.goto X20.here hx rfl (pc0 := 135) (pc' := 139) rfl (hb hby at_135) (by decide) (by decide) k) ?_
    show own_Ends _ _ _ _ _ _ _ T20 (mkF m 139 #[.val (.int p0), .val (.int p1), .val (.int p2), .val (.int p3), .val (.int (3 : Int32)), .val (.ref b), .val (.long ((((0 : Int64) ||| (own_s p1)) ||| (own_s p2)) ||| (own_s p3))), .second] [(.int (1 : Int32))])
    exact own_retZ X20 hx hlk hret (by decide) (hb hby at_139) (by decide) (by decide) ⟨rfl, N20⟩
set_option maxRecDepth 65536 in
set_option maxHeartbeats 40000000 in
theorem comes_1 {Post : Tables → Env → Array Value → State → Outcome → State → Prop} (hpost : ∀ tb e args s v u, (limb_1_1.after args s (.returned v) u = true ∧ limb_1_2.after args s (.returned v) u = true ∧ True) → FrameEnd s (.returned v) u (Jvm.fieldLocs frame_1_writes args s ++ Jvm.arrayLocs frame_1_arrays args s ++ Jvm.staticLocs frame_1_statics s) 16 128 → Post tb e args s (.returned v) u) :
    ArmFor flags0 classFile x code maxLocals ret World_1 tables_1 room_1 Calls_1 rest_1 Pre_1 Post := by
  intro l hfl _ _ p e ha hc hk s m args below hf hA hF happ hP
  obtain ⟨hcalls, hrest, hpre⟩ := hP
  obtain ⟨-, -, -, hnamed, -, -, -, hat⟩ := (Spec.applies_iff hf).mp happ
  obtain ⟨hg, hn⟩ := and_e (Cond.before_iff.mp (show (Jvm.Cond.and given_1 narrow_1).before args s = true from hpre))
  obtain ⟨g0, gr0⟩ := and_e hg
  obtain ⟨ga0, gr1⟩ := and_e gr0
  obtain ⟨ga1, gr2⟩ := and_e gr1
  obtain ⟨ga2, gr3⟩ := and_e gr2
  have ga3 := gr3
  obtain ⟨w0, w1, w2, w3, rfl⟩ : ∃ w0 w1 w2 w3 : Value, args = #[w0, w1, w2, w3] := by
    have hs : args.size = 4 := by simpa [Cond.value, given_1] using g0
    obtain ⟨L⟩ := args
    match L, hs with
    | [w0, w1, w2, w3], _ => exact ⟨w0, w1, w2, w3, rfl⟩
  have hw := fun d (hd : d ∈ tables_1) => atoms_spec (ws := Jvm.Cond.code x code maxLocals ret :: tables_1) hat d (List.mem_cons_of_mem _ hd)
  have hfit : Fit s := fun {y c} hc i hi => by
    obtain ⟨ha, rfl⟩ := Array.getElem?_eq_some_iff.mp hc
    have q := List.all_eq_true.mp ((Array.all_eq_true_iff_forall_mem.mp hF) _ (Array.getElem_mem ha)) i (List.mem_range.mpr hi)
    simpa [Array.getElem?_eq_getElem hi] using q
  obtain ⟨i0, ei0⟩ := is_v ga0
  obtain rfl : w0 = (.int i0) := Option.some.inj ei0
  obtain ⟨i1, ei1⟩ := is_v ga1
  obtain rfl : w1 = (.int i1) := Option.some.inj ei1
  obtain ⟨i2, ei2⟩ := is_v ga2
  obtain rfl : w2 = (.int i2) := Option.some.inj ei2
  obtain ⟨i3, ei3⟩ := is_v ga3
  obtain rfl : w3 = (.int i3) := Option.some.inj ei3
  obtain ⟨n, o, h1, h2, h3, _, L, rfl, ⟨rfl, N⟩, hq⟩ := rm0 l s _ hw i0 i1 i2 i3 s.heap  tables_1 p e ha hc hk s m _ below hf ((Spec.applies_iff_loose hf).mp happ).1 ⟨rfl, State.Warmed39.refl s, rfl⟩ trivial
  refine ⟨n, _, h1, h2, h3, hpost _ _ _ _ _ _ ⟨Cond.after_iff.mpr rfl, Cond.after_iff.mpr (eq_i res_at (Term.int_eval (1)) rfl), trivial⟩ ⟨hq.1, hq.2.1, (hq.2.2.sift fun y hy => Or.inr (N y hy)).mono (by decide) (by decide)⟩⟩
theorem main_1_1 : Claimed_1_1 := comes_1 fun _ _ _ _ _ _ h hF => ⟨h.1, hF⟩
theorem main_1_2 : Claimed_1_2 := comes_1 fun _ _ _ _ _ _ h hF => ⟨h.2.1, hF⟩

end Jvm.Pilot.@@N@@
namespace Jvm.Pilot.@@N@@
open Jvm Jvm.ClassFile Sem Op Lib Jvm.Free Jvm.Stand Jvm.Pilot.@@N@@.Jvm.D
/-! MADE BY PROGRAM (witnessworld.py) out of the Statement's table words and the real class files: 9 classes; the members and pool entries that the words name. The judged class is class 1, her method 1. -/
namespace start1
open Jvm.ClassFile
def u (s : String) : CpInfo := .utf8 (stringToUtf16 s)
/-- a pool by its gaps: so many unusable entries, then the entry; so many at the end -/
def gap : Nat → List CpInfo → List CpInfo
  | 0, r => r
  | n + 1, r => .unusable :: gap n r
def poolList (es : List (Nat × CpInfo)) (last : Nat) : List CpInfo := es.foldr (fun e r => gap e.1 (e.2 :: r)) (gap last [])
def pool (es : List (Nat × CpInfo)) (last : Nat) : Array CpInfo := ⟨poolList es last⟩
def fileOf (pool : Array CpInfo) (this : Nat) (attrs : Array Attribute := #[]) (ms : Array MethodInfo := #[]) (fl : Nat := 33) (sup : Nat := 0) (ifs : Array Nat := #[]) (fds : Array FieldInfo := #[]) : ClassFile where
  minorVersion := 0
  majorVersion := 65
  constantPool := pool
  accessFlags := fl
  thisClass := this
  superClass := sup
  interfaces := ifs
  fields := fds
  methods := ms
  attributes := attrs
def plain (name : String) (sup : Option ClassId) : Class where
  name := name
  kind := .ordinary
  loader := none
  accessFlags := 33
  super := sup
  interfaces := #[]
  cf := none
  fields := #[]
  methods := #[]
  instanceTypes := #[]
  staticTypes := #[]
  resolved := #[]
  callSites := []
  init := .initialized
  statics := none
  mirror := none

def pool0 : Array CpInfo := pool [(5, u "<init>"), (0, u "()V"), (1, .class_ 10), (1, u "java/lang/Object")] 113

def k0m0 : Method := { name := "<init>", desc := "()V", sig := { parameters := [], returnType := none }, accessFlags := 1, code := none }
/-- java/lang/Object -/
def k0 : Class := { plain "java/lang/Object" none with
  accessFlags := 33
  interfaces := #[]
  cf := some (fileOf pool0 8 #[] #[{ accessFlags := 1, nameIndex := 5, descriptorIndex := 6, attributes := #[] }] 33 0 #[] #[])
  fields := #[]
  methods := #[k0m0]
  instanceTypes := #[]
  staticTypes := #[]
  resolved := Array.replicate 124 none
  statics := none }

def pool1 : Array CpInfo := pool [(2, .class_ 4), (1, u "java/lang/Object"), (0, u "<init>"), (0, u "()V"), (0, .methodref 8 9), (0, .class_ 10), (0, .nameAndType 11 12), (0, u "com/example/bestow/bestow/CatalogueFilterPinLaw"), (0, u "bit"), (0, u "(I)J"), (0, .methodref 14 15), (0, .class_ 16), (0, .nameAndType 17 18), (0, u "com/example/bestow/bestow/Catalogue"), (0, u "filter"), (0, u "([I)J"), (2, u "law"), (0, u "(IIII)Z")] 5

def k1m0 : Method := { name := "<init>", desc := "()V", sig := { parameters := [], returnType := none }, accessFlags := 1, code := none }
def k1c1 : Code := { maxStack := 4, maxLocals := 8, code := code, exceptionTable := #[], attributes := #[] }
def k1m1 : Method := { name := "law", desc := "(IIII)Z", sig := { parameters := [.int, .int, .int, .int], returnType := some .boolean }, accessFlags := 9, code := some k1c1 }
def k1c2 : Code := { maxStack := 4, maxLocals := 1, code := method_3_code, exceptionTable := #[], attributes := #[] }
def k1m2 : Method := { name := "bit", desc := "(I)J", sig := { parameters := [.int], returnType := some .long }, accessFlags := 10, code := some k1c2 }
/-- com/example/bestow/bestow/CatalogueFilterPinLaw -/
def k1 : Class := { plain "com/example/bestow/bestow/CatalogueFilterPinLaw" (some 0) with
  accessFlags := 49
  interfaces := #[]
  cf := some (fileOf pool1 8 #[] #[{ accessFlags := 1, nameIndex := 5, descriptorIndex := 6, attributes := #[] }, { accessFlags := 9, nameIndex := 21, descriptorIndex := 22, attributes := #[] }, { accessFlags := 10, nameIndex := 11, descriptorIndex := 12, attributes := #[] }] 49 2 #[] #[])
  fields := #[]
  methods := #[k1m0, k1m1, k1m2]
  instanceTypes := #[]
  staticTypes := #[]
  resolved := Array.replicate 28 none
  statics := none }

def pool2 : Array CpInfo := pool [(1, .class_ 2), (0, u "com/example/bestow/bestow/Catalogue"), (3, .class_ 8), (1, u "java/lang/Object"), (0, u "<init>"), (0, u "()V"), (0, .class_ 12), (0, u "com/example/bestow/bestow/Catalogue$Node"), (5, u "root"), (0, u "Lcom/example/bestow/bestow/Catalogue$Node;"), (0, .class_ 21), (0, u "com/example/bestow/bestow/Catalogue$Numbering"), (3, u "numbering"), (0, u "Lcom/example/bestow/bestow/Catalogue$Numbering;"), (8, u "lastGrantor"), (0, u "Ljava/util/Map;"), (258, u "filter"), (0, u "([I)J"), (21, u "PRIVILEGES"), (0, u "[Lcom/example/bestow/bestow/Privilege;"), (2, u "Lcom/example/bestow/bestow/ObjectName;"), (17, .class_ 342), (1, u "com/example/bestow/bestow/Catalogue$Standing"), (8, u "GRANTED"), (10, u "DENIED"), (30, u "lastMade"), (2, u "lastNode"), (9, u "BARE"), (7, u "I"), (73, u "PRIVILEGE_BITS"), (2, u "KIND_BITS"), (1, u "NUMBER_SHIFT"), (1, u "MAX_NUMBER"), (3, u "DENIED_BELOW"), (0, u "SPREAD")] 146

def k2m0 : Method := { name := "<init>", desc := "()V", sig := { parameters := [], returnType := none }, accessFlags := 0, code := none }
def k2c1 : Code := { maxStack := 5, maxLocals := 7, code := prog_1_method_7_code, exceptionTable := #[], attributes := #[] }
def k2m1 : Method := { name := "filter", desc := "([I)J", sig := { parameters := [(.array .int)], returnType := some .long }, accessFlags := 8, code := some k2c1 }
/-- com/example/bestow/bestow/Catalogue -/
def k2 : Class := { plain "com/example/bestow/bestow/Catalogue" (some 0) with
  accessFlags := 48
  interfaces := #[]
  cf := some (fileOf pool2 1 #[.nestMembers #[340, 20, 11]] #[{ accessFlags := 0, nameIndex := 9, descriptorIndex := 10, attributes := #[] }, { accessFlags := 8, nameIndex := 295, descriptorIndex := 296, attributes := #[] }] 48 6 #[] #[{ accessFlags := 26, nameIndex := 488, descriptorIndex := 414, attributes := #[] }, { accessFlags := 26, nameIndex := 491, descriptorIndex := 414, attributes := #[] }, { accessFlags := 26, nameIndex := 493, descriptorIndex := 414, attributes := #[] }, { accessFlags := 26, nameIndex := 495, descriptorIndex := 414, attributes := #[] }, { accessFlags := 26, nameIndex := 351, descriptorIndex := 414, attributes := #[] }, { accessFlags := 26, nameIndex := 362, descriptorIndex := 414, attributes := #[] }, { accessFlags := 26, nameIndex := 499, descriptorIndex := 414, attributes := #[] }, { accessFlags := 26, nameIndex := 500, descriptorIndex := 414, attributes := #[] }, { accessFlags := 26, nameIndex := 318, descriptorIndex := 319, attributes := #[] }, { accessFlags := 26, nameIndex := 406, descriptorIndex := 19, attributes := #[] }, { accessFlags := 18, nameIndex := 18, descriptorIndex := 19, attributes := #[] }, { accessFlags := 18, nameIndex := 25, descriptorIndex := 26, attributes := #[] }, { accessFlags := 2, nameIndex := 393, descriptorIndex := 322, attributes := #[] }, { accessFlags := 2, nameIndex := 396, descriptorIndex := 19, attributes := #[] }, { accessFlags := 2, nameIndex := 35, descriptorIndex := 36, attributes := #[] }])
  fields := #[{ name := "PRIVILEGE_BITS", type := .int, accessFlags := 26, slot := 0, constantValue := 0 }, { name := "KIND_BITS", type := .int, accessFlags := 26, slot := 1, constantValue := 0 }, { name := "NUMBER_SHIFT", type := .int, accessFlags := 26, slot := 2, constantValue := 0 }, { name := "MAX_NUMBER", type := .int, accessFlags := 26, slot := 3, constantValue := 0 }, { name := "GRANTED", type := .int, accessFlags := 26, slot := 4, constantValue := 0 }, { name := "DENIED", type := .int, accessFlags := 26, slot := 5, constantValue := 0 }, { name := "DENIED_BELOW", type := .int, accessFlags := 26, slot := 6, constantValue := 0 }, { name := "SPREAD", type := .int, accessFlags := 26, slot := 7, constantValue := 0 }, { name := "PRIVILEGES", type := (.array (.object "com/example/bestow/bestow/Privilege")), accessFlags := 26, slot := 8, constantValue := 0 }, { name := "BARE", type := (.object "com/example/bestow/bestow/Catalogue$Node"), accessFlags := 26, slot := 9, constantValue := 0 }, { name := "root", type := (.object "com/example/bestow/bestow/Catalogue$Node"), accessFlags := 18, slot := 0, constantValue := 0 }, { name := "numbering", type := (.object "com/example/bestow/bestow/Catalogue$Numbering"), accessFlags := 18, slot := 1, constantValue := 0 }, { name := "lastMade", type := (.object "com/example/bestow/bestow/ObjectName"), accessFlags := 2, slot := 2, constantValue := 0 }, { name := "lastNode", type := (.object "com/example/bestow/bestow/Catalogue$Node"), accessFlags := 2, slot := 3, constantValue := 0 }, { name := "lastGrantor", type := (.object "java/util/Map"), accessFlags := 2, slot := 4, constantValue := 0 }]
  methods := #[k2m0, k2m1]
  instanceTypes := #[(.object "com/example/bestow/bestow/Catalogue$Node"), (.object "com/example/bestow/bestow/Catalogue$Numbering"), (.object "com/example/bestow/bestow/ObjectName"), (.object "com/example/bestow/bestow/Catalogue$Node"), (.object "java/util/Map")]
  staticTypes := #[.int, .int, .int, .int, .int, .int, .int, .int, (.array (.object "com/example/bestow/bestow/Privilege")), (.object "com/example/bestow/bestow/Catalogue$Node")]
  resolved := Array.replicate 647 none
  statics := none }

def pool3 : Array CpInfo := pool [(1, u "java/lang/Cloneable"), (0, .class_ 1), (0, u "java/lang/Object"), (0, .class_ 3)] 3

/-- java/lang/Cloneable -/
def k3 : Class := { plain "java/lang/Cloneable" (some 0) with
  accessFlags := 1537
  interfaces := #[]
  cf := some (fileOf pool3 2 #[] #[] 1537 4 #[] #[])
  fields := #[]
  methods := #[]
  instanceTypes := #[]
  staticTypes := #[]
  resolved := Array.replicate 8 none
  statics := none }

def pool4 : Array CpInfo := pool [(1, u "java/io/Serializable"), (0, .class_ 1), (0, u "java/lang/Object"), (0, .class_ 3)] 3

/-- java/io/Serializable -/
def k4 : Class := { plain "java/io/Serializable" (some 0) with
  accessFlags := 1537
  interfaces := #[]
  cf := some (fileOf pool4 2 #[] #[] 1537 4 #[] #[])
  fields := #[]
  methods := #[]
  instanceTypes := #[]
  staticTypes := #[]
  resolved := Array.replicate 8 none
  statics := none }

/-- the primitive byte -/
def k5 : Class := { plain "byte" none with kind := .primitive 'B', accessFlags := 0x411 }
/-- [B -/
def k6 : Class := { plain "[B" (some 0) with kind := .array 5 .byte, interfaces := #[3, 4], accessFlags := 1041 }

/-- the primitive int -/
def k7 : Class := { plain "int" none with kind := .primitive 'I', accessFlags := 0x411 }
/-- [I -/
def k8 : Class := { plain "[I" (some 0) with kind := .array 7 .int, interfaces := #[3, 4], accessFlags := 1041 }

def heap : Heap := #[]
def classes : Array Class := #[k0, k1, k2, k3, k4, k5, k6, k7, k8]
def interned : List (Array UInt16 × Addr) := []
def slotsUsed : Nat := 0
def theMethod : MethodId := ⟨1, 1⟩
def args0 : Array Value := #[.int 5, .int 1, .int 2, .int 3]
def aboutOver (below : List Frame) : State where
  vm := { classes := classes, interned := interned.toArray }
  heap := heap
  slotsUsed := slotsUsed
  threads := #[{ frames := .invoking theMethod args0 :: below }]
def below0 : List Frame := [.native { method := ⟨0, 0⟩, args := #[] }]
def about1 : State := aboutOver below0
def p0 : Program := .bare "" "" ""
def e0 : Env := launch0.env 0 0 0
theorem w_frames : about1.frames = Frame.invoking theMethod args0 :: below0 := rfl
set_option maxRecDepth 65536 in
theorem w_args : argsFit about1.vm theMethod args0 = true := by decide +kernel
set_option maxRecDepth 65536 in
theorem w_heap : heapFits about1 = true := by decide +kernel
set_option maxRecDepth 65536 in
theorem w_runnable : about1.curStatus? = some .runnable := by decide +kernel
set_option maxRecDepth 65536 in
theorem w_alone : about1.alone = true := by decide +kernel
set_option maxRecDepth 65536 in
theorem w_named : about1.methodNamed? x = some theMethod := by decide +kernel
set_option maxRecDepth 65536 in
theorem w_hears : about1.hears theMethod below0 = true := by decide +kernel
set_option maxRecDepth 65536 in
theorem w_ripe : about1.ripe theMethod args0 below0 = true := by decide +kernel
theorem w_running : about1.status = .running := rfl
set_option maxRecDepth 65536 in
theorem w_room : about1.hasRoom e0.platform room_1 = true :=
  launch0.hasRoom_least _ room_1 (by decide +kernel) (by decide +kernel) (by decide +kernel) (by decide +kernel) (by decide +kernel) (by decide +kernel)
theorem allAtoms_all (ts : List Jvm.Cond) (a : Array Jvm.Value) (st : Jvm.State) : (allAtoms ts).before a st = ts.all (fun c => c.before a st) := by
  induction ts with
  | nil => rfl
  | cons c t ih =>
    show (Jvm.Cond.and c (allAtoms t)).before a st = _
    rw [Jvm.Cond.before_and, ih, List.all_cons]
def words1 : List Jvm.Cond := Jvm.Cond.code x code maxLocals ret :: tables_1
/-- a 'code' word, met by the world's own term for the bytes: nothing is compared byte by byte -/
theorem code_word {y : MethodName} {bytes : ByteArray} {mx : Nat} {rt : Option FieldType} {a : Array Value} {s : State} {m : MethodId} {meth : Method} {c : Code} (h1 : s.methodNamed? y = some m) (h2 : s.vm.method? m = some meth) (h3 : meth.code = some c) (h4 : c.code = bytes)
    (h5 : (c.maxLocals == mx && c.exceptionTable.isEmpty && decide (c.maxStack ≤ mostOperands) && decide (meth.sig.returnType = rt) && !meth.locks && decide (parseMethodDescriptor y.desc = some meth.sig)) = true) : (Jvm.Cond.code y bytes mx rt).before a s = true := by
  simp only [Bool.and_eq_true, beq_iff_eq, Bool.not_eq_true', decide_eq_true_eq] at h5
  obtain ⟨⟨⟨⟨⟨g1, g2⟩, g3⟩, g4⟩, g5⟩, g6⟩ := h5
  simp [Cond.before, Cond.holds, Cond.value, h1, h2, h3, h4, g1, g2, g3, g4, g5, g6]
def isCode : Jvm.Cond → Bool
  | .code _ _ _ _ => true
  | _ => false
theorem all_split {L : List Jvm.Cond} {P : Jvm.Cond → Bool} (h1 : L.all (fun c => isCode c || P c) = true) (h2 : ∀ c ∈ L.filter isCode, P c = true) : L.all P = true := by
  refine List.all_eq_true.mpr fun c hc => ?_
  have h := List.all_eq_true.mp h1 c hc
  rcases Bool.eq_false_or_eq_true (isCode c) with hi | hi
  · exact h2 c (List.mem_filter.mpr ⟨hc, hi⟩)
  · simpa [hi] using h
set_option maxRecDepth 65536 in
theorem w_c0 : (Jvm.Cond.code x code maxLocals ret).before args0 about1 = true := code_word (m := ⟨1, 1⟩) (meth := k1m1) (c := k1c1) (by decide +kernel) rfl rfl rfl (by decide +kernel)
set_option maxRecDepth 65536 in
theorem w_c1 : (Jvm.Cond.code ({ cls := "com/example/bestow/bestow/Catalogue", name := "filter", desc := "([I)J" } : Jvm.MethodName) prog_1_method_7_code (7 : Nat) (Option.some Jvm.ClassFile.FieldType.long)).before args0 about1 = true := code_word (m := ⟨2, 1⟩) (meth := k2m1) (c := k2c1) (by decide +kernel) rfl rfl rfl (by decide +kernel)
set_option maxRecDepth 65536 in
theorem w_c2 : (Jvm.Cond.code ({ cls := "com/example/bestow/bestow/CatalogueFilterPinLaw", name := "bit", desc := "(I)J" } : Jvm.MethodName) method_3_code (1 : Nat) (Option.some Jvm.ClassFile.FieldType.long)).before args0 about1 = true := code_word (m := ⟨1, 2⟩) (meth := k1m2) (c := k1c2) (by decide +kernel) rfl rfl rfl (by decide +kernel)
def codes1 : List Jvm.Cond := [Jvm.Cond.code x code maxLocals ret, Jvm.Cond.code ({ cls := "com/example/bestow/bestow/Catalogue", name := "filter", desc := "([I)J" } : Jvm.MethodName) prog_1_method_7_code (7 : Nat) (Option.some Jvm.ClassFile.FieldType.long), Jvm.Cond.code ({ cls := "com/example/bestow/bestow/CatalogueFilterPinLaw", name := "bit", desc := "(I)J" } : Jvm.MethodName) method_3_code (1 : Nat) (Option.some Jvm.ClassFile.FieldType.long)]
set_option maxRecDepth 65536 in
theorem codes_eq : words1.filter isCode = codes1 := rfl
theorem w_codes : ∀ c ∈ words1.filter isCode, c.before args0 about1 = true := by
  rw [codes_eq]
  intro c hc
  simp only [codes1, List.mem_cons, List.not_mem_nil, or_false] at hc
  rcases hc with rfl | rfl | rfl
  · exact w_c0
  · exact w_c1
  · exact w_c2
set_option maxRecDepth 65536 in
theorem w_t1 : words1.all (fun c => isCode c || c.before args0 about1) = true := by decide +kernel
theorem w_tables : (allAtoms (Jvm.Cond.code x code maxLocals ret :: tables_1)).before args0 about1 = true := by
  rw [allAtoms_all]
  show words1.all (fun c => c.before args0 about1) = true
  refine all_split ?_ w_codes
  rw [w_t1]
set_option maxRecDepth 65536 in
theorem w_case : (Jvm.Cond.and given_1 narrow_1).before args0 about1 = true := by decide +kernel
theorem w_applies : (headSpec (Jvm.Cond.code x code maxLocals ret :: tables_1) room_1).applies x e0.platform about1 = true :=
  (Spec.applies_iff w_frames).mpr ⟨w_running, w_runnable, w_alone, w_named, w_hears, w_ripe, w_room, w_tables⟩
theorem atStart : AtStart classFile x code maxLocals ret World_1 tables_1 room_1 Calls_1 rest_1 Pre_1 launch0 p0 e0 about1 theMethod args0 below0 :=
  ⟨lists_1, trivial, launch0.admits_env _ _ _, launch0.least_env, fairChoices_fair.cas, fairChoices_fair.clock, w_frames, w_args, w_heap, w_applies, trivial, trivial, w_case⟩
end start1
theorem witness_1 : WitnessClaimed_1 := ⟨start1.p0, start1.e0, start1.about1, start1.theMethod, start1.args0, start1.below0, start1.atStart⟩
end Jvm.Pilot.@@N@@
