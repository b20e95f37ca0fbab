import JvmDerived
import JvmDerived.Pilot.@@N@@Statement
import JvmDerived.Pilot.@@N@@Code
set_option linter.unusedVariables false
set_option linter.unusedSimpArgs false
namespace Jvm.Pilot.@@N@@
open Jvm Jvm.ClassFile Sem Op Lib Jvm.Free Jvm.Stand Jvm.LawKit Jvm.RoadKit Bundle Jvm.Pilot.@@N@@.Jvm.D
section OwnLayer
variable {p : Program} {l : Launch} {e : Env} {R : Room} {s : State} {m : MethodId} {args : Array Value} {below : List Frame} {meth : Method} {c : Code} {T : State} {locs : List Loc} {cells slots : Nat} {Z : State} {a0 : Array Value} {h : Heap}
/-- from here the body comes to its return, and Q holds of what it returns, of the heap and of the places written -/
def own_Ends (p : Program) (e : Env) (s : State) (below : List Frame) (C S : Nat) (Q : Option Value → Heap → List Loc → Prop) (T : State) (g : JFrame) : Prop :=
  ∃ s₂ o, Steps p.tables e below (T.setTop g) s₂ ∧ s₂.status = .running ∧ Ended s₂ below o ∧ ∃ v L, o = .returned v ∧ Q v s₂.heap L ∧ FrameEnd s o s₂ L C S
theorem own_go {C S : Nat} {Q : Option Value → Heap → List Loc → Prop} {T' : State} {g g' : JFrame} (st : ∀ t, Steps p.tables e below (T'.setTop g') t → Steps p.tables e below (T.setTop g) t) (k : own_Ends p e s below C S Q T' g') : own_Ends p e s below C S Q T g := by
  obtain ⟨s₂, o, h, r⟩ := k
  exact ⟨s₂, o, st _ h, r⟩
theorem own_cast {C S : Nat} {Q : Option Value → Heap → List Loc → Prop} {g g' : JFrame} (q : g = g') (k : own_Ends p e s below C S Q T g') : own_Ends p e s below C S Q T g := q ▸ k
/-- a body's contract -/
def own_C (l : Launch) (y : MethodName) (bytes : ByteArray) (maxL : Nat) (ret : Option FieldType) (rm : Room) (Z : State) (A : Array Value) (h : Heap) (Q : Option Value → Heap → List Loc → Prop) : Prop :=
  ∀ ws : List Jvm.Cond, MetFree l y (head1 (Jvm.Cond.code y bytes maxL ret :: ws) rm) (fun a U => a = A ∧ Z.Warmed39 U.vm ∧ U.heap = h) (fun _ _ _ _ _ => True) (fun _ U o U' => ∃ v L, o = .returned v ∧ Q v U'.heap L ∧ FrameEnd U o U' L rm.cells rm.slots)
theorem own_enter {y : MethodName} {bytes : ByteArray} {maxL : Nat} {ret : Option FieldType} {rm : Room} {A : Array Value} {Q : Option Value → Heap → List Loc → Prop} (hp : plainFor y = true)
    (body : ∀ (p : Program) (e : Env) (s : State) (m : MethodId) (below : List Frame) (meth : Method) (c : Code) (s₁ : State), Stand p l e rm s m A below meth c s₁ [] 0 0 → p.tables.exec = Jvm.exec → c.code = bytes → c.maxLocals = maxL → s.vm.findClass y.cls = some m.cls → meth.name = y.name → meth.sig.returnType = ret → meth.locks = false → Z.Warmed39 s.vm → s₁.heap = h →
      own_Ends p e s below rm.cells rm.slots Q s₁ (entryFrame m A maxL)) : own_C l y bytes maxL ret rm Z A h Q := by
  intro ws
  refine MetFree.of_bodySF hp hisR ?_
  intro p e s m args below meth c s₁ Bd hml hP hK
  obtain ⟨rfl, hZ, hh⟩ := hP
  exact body p e s m below meth c s₁ (Stand.of_body Bd) Bd.exec Bd.bytes hml (findClass_of_methodNamed Bd.named) (name_of_methodNamed Bd.named Bd.method).1 Bd.returns Bd.notSynchronized hZ (by rw [← hh, Bd.state]; rfl)
theorem own_ret (X : Stand p l e R s m args below meth c T locs cells slots) (hx : p.tables.exec = Jvm.exec) (hlk : meth.locks = false) {Q : Option Value → Heap → List Loc → Prop} {C S pc : Nat} {Ls : Array Slot} {w : Value} {t : FieldType} {i : Instr} {rest : List Value} (hret : meth.sig.returnType = some t) (hn : narrow t w = w)
    (hi : (i = .ireturn ∧ (t = .int ∨ t = .boolean ∨ t = .byte ∨ t = .char ∨ t = .short) ∧ ∃ z, w = .int z) ∨ (i = .lreturn ∧ t = .long ∧ ∃ z, w = .long z) ∨ (i = .dreturn ∧ t = .double ∧ ∃ z, w = .double z) ∨ (i = .freturn ∧ t = .float ∧ ∃ z, w = .float z) ∨ (i = .areturn ∧ t.isReference = true ∧ w.isRef = true))
    (hd : decode c.code pc = .ok (i, 1)) (hc : cells ≤ C) (hs : slots ≤ S) (hq : Q (some w) T.heap locs) : own_Ends p e s below C S Q T (mkF m pc Ls (w :: rest)) := by
  obtain ⟨fs, hr, hrun, hended, hW, hsame⟩ := X.leave (v := some w) (fun h => by rw [hret] at h; cases h) hlk
  exact ⟨_, _, retOut X hx hret hn hi hd hr, hrun, hended, _, _, rfl, hq, ⟨_, rfl⟩, hW, hsame.mono hc hs⟩
theorem own_retI (X : Stand p l e R s m args below meth c T locs cells slots) (hx : p.tables.exec = Jvm.exec) (hlk : meth.locks = false) {Q : Option Value → Heap → List Loc → Prop} {C S pc : Nat} {Ls : Array Slot} {z : Int32} {rest : List Value} (hret : meth.sig.returnType = some .int)
    (hd : decode c.code pc = .ok (.ireturn, 1)) (hc : cells ≤ C) (hs : slots ≤ S) (hq : Q (some (.int z)) T.heap locs) : own_Ends p e s below C S Q T (mkF m pc Ls (.int z :: rest)) :=
  own_ret X hx hlk hret rfl (Or.inl ⟨rfl, Or.inl rfl, z, rfl⟩) hd hc hs hq
theorem own_retZ (X : Stand p l e R s m args below meth c T locs cells slots) (hx : p.tables.exec = Jvm.exec) (hlk : meth.locks = false) {Q : Option Value → Heap → List Loc → Prop} {C S pc : Nat} {Ls : Array Slot} {z : Int32} {rest : List Value} (hret : meth.sig.returnType = some .boolean) (hz : z = 0 ∨ z = 1)
    (hd : decode c.code pc = .ok (.ireturn, 1)) (hc : cells ≤ C) (hs : slots ≤ S) (hq : Q (some (.int z)) T.heap locs) : own_Ends p e s below C S Q T (mkF m pc Ls (.int z :: rest)) :=
  own_ret X hx hlk hret (by rcases hz with rfl | rfl <;> rfl) (Or.inl ⟨rfl, Or.inr (Or.inl rfl), z, rfl⟩) hd hc hs hq
theorem own_retJ (X : Stand p l e R s m args below meth c T locs cells slots) (hx : p.tables.exec = Jvm.exec) (hlk : meth.locks = false) {Q : Option Value → Heap → List Loc → Prop} {C S pc : Nat} {Ls : Array Slot} {z : Int64} {rest : List Value} (hret : meth.sig.returnType = some .long)
    (hd : decode c.code pc = .ok (.lreturn, 1)) (hc : cells ≤ C) (hs : slots ≤ S) (hq : Q (some (.long z)) T.heap locs) : own_Ends p e s below C S Q T (mkF m pc Ls (.long z :: rest)) :=
  own_ret X hx hlk hret rfl (Or.inr (Or.inl ⟨rfl, rfl, z, rfl⟩)) hd hc hs hq
theorem own_retR (X : Stand p l e R s m args below meth c T locs cells slots) (hx : p.tables.exec = Jvm.exec) (hlk : meth.locks = false) {Q : Option Value → Heap → List Loc → Prop} {C S pc : Nat} {Ls : Array Slot} {w : Value} {t : FieldType} {rest : List Value} (hret : meth.sig.returnType = some t) (ht : t.isReference = true) (hn : narrow t w = w) (hw : w.isRef = true)
    (hd : decode c.code pc = .ok (.areturn, 1)) (hc : cells ≤ C) (hs : slots ≤ S) (hq : Q (some w) T.heap locs) : own_Ends p e s below C S Q T (mkF m pc Ls (w :: rest)) :=
  own_ret X hx hlk hret hn (Or.inr (Or.inr (Or.inr (Or.inr ⟨rfl, ht, hw⟩)))) hd hc hs hq
theorem own_retV (X : Stand p l e R s m args below meth c T locs cells slots) (hx : p.tables.exec = Jvm.exec) (hlk : meth.locks = false) {Q : Option Value → Heap → List Loc → Prop} {C S pc : Nat} {Ls : Array Slot} (hret : meth.sig.returnType = none)
    (hd : decode c.code pc = .ok (.return_, 1)) (hc : cells ≤ C) (hs : slots ≤ S) (hq : Q none T.heap locs) : own_Ends p e s below C S Q T (mkF m pc Ls []) := by
  obtain ⟨fs, hr, hrun, hended, hW, hsame⟩ := X.leave (v := none) (fun _ => rfl) hlk
  exact ⟨_, _, X.returnOut hx hret hd hr, hrun, hended, _, _, rfl, hq, ⟨_, rfl⟩, hW, hsame.mono hc hs⟩
theorem own_callS (X : Stand p l e R s m args below meth c T locs cells slots) (hx : p.tables.exec = Jvm.exec) (hZ : Z.Warmed39 s.vm) {own : String} {index : Nat} {y : MethodName} {bytes : ByteArray} {maxL W : Nat} {ret : Option FieldType} {rm : Room} {A : Array Value} {Q : Option Value → Heap → List Loc → Prop}
    (hown : s.vm.findClass own = some m.cls) (wl : (Cond.methodLink own index y).before a0 Z = true) (ws : (Cond.static y).before a0 Z = true) (wz : (Cond.initialized y.cls).before a0 Z = true) (wc : (Cond.code y bytes maxL ret).before a0 Z = true)
    (hM : own_C l y bytes maxL ret rm Z A h Q) (eT : T.heap = h) {g : JFrame} (hg : g.method = m) (hsize : g.locals.size = c.maxLocals) {argsL rest : List Value} (hlen : ∀ sig, parseMethodDescriptor y.desc = some sig → argsL.length = sig.parameters.length) (hstack : g.stack = argsL.reverse ++ rest) (hA : argsL.toArray = A)
    (hW : 2 * g.monitorRoom + (rest.map fun v => v.category).sum ≤ W) (hd : decode c.code g.pc = .ok (.invokestatic index, 3)) (hy : y.cls ≠ "java/lang/invoke/MethodHandle" ∧ y.cls ≠ "java/lang/invoke/VarHandle")
    (hf : rm.frames + 1 ≤ R.frames) (hl : W + (maxL + 11) + rm.locals ≤ R.locals) (hc : cells + rm.cells ≤ R.cells) (hs : slots + rm.slots ≤ R.slots) :
    ∃ v T' L, Stand p l e R s m args below meth c T' (locs ++ L) (cells + rm.cells) (slots + rm.slots) ∧ Q v T'.heap L ∧ ∀ target, Steps p.tables e below (T'.setTop { g with pc := g.pc + 3, stack := v.toList ++ rest }) target → Steps p.tables e below (T.setTop g) target := by
  obtain ⟨v, vm₁, ⟨T', L', k', n'⟩, -, X', ⟨L, hQ, l1, l2, l3⟩, st⟩ := Jvm.LawKit.callS X hx hown (mvT hZ wl) (mvT hZ ws) (mvT hZ wz) (mvT hZ wc) hy (backOf (W := W) (hM []) hZ wc wz hf hl) hg hsize hlen hstack hW hd (fun _ _ => ⟨hA, eT, hc, hs⟩)
  dsimp only [Pt.U, Pt.locs, Pt.cells, Pt.slots] at X' l1 l2 l3 st hQ
  subst l1 l2 l3
  exact ⟨v, T', L, X', hQ, st⟩
theorem own_callI (X : Stand p l e R s m args below meth c T locs cells slots) (hx : p.tables.exec = Jvm.exec) (hZ : Z.Warmed39 s.vm) {own : String} {index : Nat} {y : MethodName} {bytes : ByteArray} {maxL W : Nat} {rm : Room} {A : Array Value} {Q : Option Value → Heap → List Loc → Prop}
    (hown : s.vm.findClass own = some m.cls) (hy1 : y.name = "<init>") (wl : (Cond.methodLink own index y).before a0 Z = true) (ws : (Cond.instanceMethod y).before a0 Z = true) (wz : (Cond.initialized y.cls).before a0 Z = true) (wc : (Cond.code y bytes maxL none).before a0 Z = true)
    (hM : own_C l y bytes maxL none rm Z A h Q) (eT : T.heap = h) {g : JFrame} (hg : g.method = m) (hsize : g.locals.size = c.maxLocals) {a : Addr} {argsL rest : List Value} (hlen : ∀ sig, parseMethodDescriptor y.desc = some sig → argsL.length = sig.parameters.length) (hstack : g.stack = argsL.reverse ++ .ref a :: rest) (hA : (.ref a :: argsL).toArray = A)
    (hW : 2 * g.monitorRoom + (rest.map fun v => v.category).sum ≤ W) (hd : decode c.code g.pc = .ok (.invokespecial index, 3)) (hy : y.cls ≠ "java/lang/invoke/MethodHandle" ∧ y.cls ≠ "java/lang/invoke/VarHandle")
    (hf : rm.frames + 1 ≤ R.frames) (hl : W + (maxL + 11) + rm.locals ≤ R.locals) (hc : cells + rm.cells ≤ R.cells) (hs : slots + rm.slots ≤ R.slots) :
    ∃ v T' L, Stand p l e R s m args below meth c T' (locs ++ L) (cells + rm.cells) (slots + rm.slots) ∧ Q v T'.heap L ∧ ∀ target, Steps p.tables e below (T'.setTop { g with pc := g.pc + 3, stack := v.toList ++ rest }) target → Steps p.tables e below (T.setTop g) target := by
  obtain ⟨v, vm₁, ⟨T', L', k', n'⟩, -, X', ⟨L, hQ, l1, l2, l3⟩, st⟩ := X.specialBack hx hy1 hown (mvT hZ wl) (mvT hZ ws) (mvT hZ wc) hy (backOf (W := W) (hM []) hZ wc wz hf hl) hg hsize (Steps.refl _) hlen hstack hW hd (fun _ _ => ⟨hA, eT, hc, hs⟩)
  dsimp only [Pt.U, Pt.locs, Pt.cells, Pt.slots] at X' l1 l2 l3 st hQ
  subst l1 l2 l3
  exact ⟨v, T', L, X', hQ, fun _ k => st.trans k⟩
theorem own_callV (X : Stand p l e R s m args below meth c T locs cells slots) (hx : p.tables.exec = Jvm.exec) (hZ : Z.Warmed39 s.vm) {own K : String} {index : Nat} {y : MethodName} {bytes : ByteArray} {maxL W : Nat} {ret : Option FieldType} {rm : Room} {A : Array Value} {Q : Option Value → Heap → List Loc → Prop}
    (hown : s.vm.findClass own = some m.cls) (wl : (Cond.methodLink own index y).before a0 Z = true) (wd : (Cond.declares y).before a0 Z = true) (wsel : (Cond.selects K y y).before a0 Z = true) (ws : (Cond.instanceMethod y).before a0 Z = true) (wz : (Cond.initialized y.cls).before a0 Z = true) (wc : (Cond.code y bytes maxL ret).before a0 Z = true)
    (hM : own_C l y bytes maxL ret rm Z A h Q) (eT : T.heap = h) {g : JFrame} (hg : g.method = m) (hsize : g.locals.size = c.maxLocals) {a : Addr} {argsL rest : List Value} (hE : Exa Z h a K) (hlen : ∀ sig, parseMethodDescriptor y.desc = some sig → argsL.length = sig.parameters.length) (hstack : g.stack = argsL.reverse ++ .ref a :: rest) (hA : (.ref a :: argsL).toArray = A)
    (hW : 2 * g.monitorRoom + (rest.map fun v => v.category).sum ≤ W) (hd : decode c.code g.pc = .ok (.invokevirtual index, 3)) (hy : y.cls ≠ "java/lang/invoke/MethodHandle" ∧ y.cls ≠ "java/lang/invoke/VarHandle")
    (hf : rm.frames + 1 ≤ R.frames) (hl : W + (maxL + 11) + rm.locals ≤ R.locals) (hc : cells + rm.cells ≤ R.cells) (hs : slots + rm.slots ≤ R.slots) :
    ∃ v T' L, Stand p l e R s m args below meth c T' (locs ++ L) (cells + rm.cells) (slots + rm.slots) ∧ Q v T'.heap L ∧ ∀ target, Steps p.tables e below (T'.setTop { g with pc := g.pc + 3, stack := v.toList ++ rest }) target → Steps p.tables e below (T.setTop g) target := by
  obtain ⟨cq, kq, qa, qb, qc⟩ := isOf hZ eT hE
  obtain ⟨v, vm₁, ⟨T', L', k', n'⟩, -, X', ⟨L, hQ, l1, l2, l3⟩, st⟩ := X.virtualBack hx hown (mvT hZ wl) (mvT hZ wd) (notFace_of_selects (args := #[]) (mvT hZ wsel)) (mvT hZ wsel) (mvT hZ ws) hy (backOf (W := W) (hM []) hZ wc wz hf hl) qa qc hg hsize (Steps.refl _) hlen hstack hW hd (fun _ _ => ⟨hA, eT, hc, hs⟩)
  dsimp only [Pt.U, Pt.locs, Pt.cells, Pt.slots] at X' l1 l2 l3 st hQ
  subst l1 l2 l3
  exact ⟨v, T', L, X', hQ, fun _ k => st.trans k⟩
theorem own_callP (X : Stand p l e R s m args below meth c T locs cells slots) (hx : p.tables.exec = Jvm.exec) (hZ : Z.Warmed39 s.vm) {own K : String} {index kk : Nat} {y : MethodName} {bytes : ByteArray} {maxL W : Nat} {ret : Option FieldType} {rm : Room} {A : Array Value} {Q : Option Value → Heap → List Loc → Prop}
    (hown : s.vm.findClass own = some m.cls) (wl : (Cond.methodLink own index y).before a0 Z = true) (wp : (Cond.privateMethod y).before a0 Z = true) (wi : (Cond.instantiable y.cls kk).before a0 Z = true) (ws : (Cond.instanceMethod y).before a0 Z = true) (wz : (Cond.initialized y.cls).before a0 Z = true) (wc : (Cond.code y bytes maxL ret).before a0 Z = true)
    (hM : own_C l y bytes maxL ret rm Z A h Q) (eT : T.heap = h) {g : JFrame} (hg : g.method = m) (hsize : g.locals.size = c.maxLocals) {a : Addr} {argsL rest : List Value} (hE : Exa Z h a K) (hlen : ∀ sig, parseMethodDescriptor y.desc = some sig → argsL.length = sig.parameters.length) (hstack : g.stack = argsL.reverse ++ .ref a :: rest) (hA : (.ref a :: argsL).toArray = A)
    (hW : 2 * g.monitorRoom + (rest.map fun v => v.category).sum ≤ W) (hd : decode c.code g.pc = .ok (.invokevirtual index, 3)) (hy : y.cls ≠ "java/lang/invoke/MethodHandle" ∧ y.cls ≠ "java/lang/invoke/VarHandle")
    (hf : rm.frames + 1 ≤ R.frames) (hl : W + (maxL + 11) + rm.locals ≤ R.locals) (hc : cells + rm.cells ≤ R.cells) (hs : slots + rm.slots ≤ R.slots) :
    ∃ v T' L, Stand p l e R s m args below meth c T' (locs ++ L) (cells + rm.cells) (slots + rm.slots) ∧ Q v T'.heap L ∧ ∀ target, Steps p.tables e below (T'.setTop { g with pc := g.pc + 3, stack := v.toList ++ rest }) target → Steps p.tables e below (T.setTop g) target := by
  obtain ⟨cq, q1, q2⟩ := hE.cell
  have hpriv : s.PrivateAt y := Cond.privateMethod_at (mvP hZ wp (args := #[]))
  obtain ⟨cc, kc, i1, i2, -, i4, -⟩ := Cond.instantiable_spec (mvT (args := #[]) hZ wi)
  have hni : kc.isInterface = false := (Bool.or_eq_false_iff.mp i4).1
  have hsel : (Cond.selects y.cls y y).before args s = true := selects_self_of_private i1 i2 hni hpriv (mvT hZ ws) hy
  obtain ⟨v, vm₁, ⟨T', L', k', n'⟩, -, X', ⟨L, hQ, l1, l2, l3⟩, st⟩ := X.privateBack hx hown (mvT hZ wl) (mvT hZ ws) hsel hpriv (mvT hZ wc) hy (backOf (W := W) (hM []) hZ wc wz hf hl) hg hsize (Steps.refl _) (by rw [eT]; exact q1) q2 hlen hstack hW hd (fun _ _ => ⟨hA, eT, hc, hs⟩)
  dsimp only [Pt.U, Pt.locs, Pt.cells, Pt.slots] at X' l1 l2 l3 st hQ
  subst l1 l2 l3
  exact ⟨v, T', L, X', hQ, fun _ k => st.trans k⟩
end OwnLayer
theorem own_lct {x y : Int64} (q : x < y) : ifCond.holds .lt (lcmpW x y) = true ∧ ifCond.holds .ge (lcmpW x y) = false := by
  have r := (lw_lt x y).mpr q
  exact ⟨(if0 _ _).trans (tlt r).1, (if0 _ _).trans (tlt r).2.1⟩
theorem own_lcf {x y : Int64} (q : ¬ x < y) : ifCond.holds .lt (lcmpW x y) = false ∧ ifCond.holds .ge (lcmpW x y) = true := by
  have r : ¬ lcmpW x y < 0 := fun z => q ((lw_lt x y).mp z)
  exact ⟨(if0 _ _).trans (flt r).1, (if0 _ _).trans (flt r).2.1⟩
theorem own_lgt {x y : Int64} (q : y < x) : ifCond.holds .gt (lcmpW x y) = true ∧ ifCond.holds .le (lcmpW x y) = false := by
  have r := (lw_gt x y).mpr q
  exact ⟨(if0 _ _).trans (tlt r).2.2.1, (if0 _ _).trans (tlt r).2.2.2⟩
theorem own_lgf {x y : Int64} (q : ¬ y < x) : ifCond.holds .gt (lcmpW x y) = false ∧ ifCond.holds .le (lcmpW x y) = true := by
  have r : ¬ 0 < lcmpW x y := fun z => q ((lw_gt x y).mp z)
  exact ⟨(if0 _ _).trans (flt r).2.2.1, (if0 _ _).trans (flt r).2.2.2⟩
theorem own_let {x y : Int64} (q : x = y) : ifCond.holds .eq (lcmpW x y) = true ∧ ifCond.holds .ne (lcmpW x y) = false := by
  have r := (lw_eq x y).mpr q
  exact ⟨(if0 _ _).trans (teq r).1, (if0 _ _).trans (teq r).2⟩
theorem own_lef {x y : Int64} (q : ¬ x = y) : ifCond.holds .eq (lcmpW x y) = false ∧ ifCond.holds .ne (lcmpW x y) = true := by
  have r : ¬ lcmpW x y = 0 := fun z => q ((lw_eq x y).mp z)
  exact ⟨(if0 _ _).trans (feq r).1, (if0 _ _).trans (feq r).2⟩
section OwnArrays
variable {p : Program} {l : Launch} {e : Env} {R : Room} {s : State} {m : MethodId} {args : Array Value} {below : List Frame} {meth : Method} {c : Code} {T : State} {locs : List Loc} {cells slots : Nat} {Z : State} {a0 : Array Value} {h h' : Heap} {a b : Addr} {k : ClassId} {ty : FieldType} {n i sl : Nat} {f : Nat → Value} {v : Value} {ws : List Addr}
/-- an array by its length and what each place holds -/
def own_Ar (Z : State) (h : Heap) (a : Addr) (k : ClassId) (ty : FieldType) (n : Nat) (f : Nat → Value) : Prop := ∃ c : Cell, Arr Z h a c ty ∧ c.cls = k ∧ c.slots.size = n ∧ n < 2 ^ 31 ∧ ∀ i, i < n → c.slots[i]? = some (f i)
theorem own_Ar.lt (F : own_Ar Z h a k ty n f) : a < h.size := by obtain ⟨c, A, -⟩ := F; exact A.lt
theorem own_Ar.ext (F : own_Ar Z h a k ty n f) (E : Ext h h') : own_Ar Z h' a k ty n f := by obtain ⟨c, A, r⟩ := F; exact ⟨c, A.ext E, r⟩
theorem own_Ar.other (F : own_Ar Z h a k ty n f) (W : Wr h h' b sl v) (q : a ≠ b) : own_Ar Z h' a k ty n f := by obtain ⟨c, A, r⟩ := F; exact ⟨c, A.other W q, r⟩
theorem own_Ar.keep (F : own_Ar Z h a k ty n f) (K : Keep h h' ws) (q : a ∉ ws) : own_Ar Z h' a k ty n f := by obtain ⟨c, A, r⟩ := F; exact ⟨c, ⟨K.2.1 a c A.1 q, A.2⟩, r⟩
theorem own_Ar.cong (F : own_Ar Z h a k ty n f) {g : Nat → Value} (q : ∀ i, i < n → f i = g i) : own_Ar Z h a k ty n g := by
  obtain ⟨c, A, r1, r2, r3, r4⟩ := F
  exact ⟨c, A, r1, r2, r3, fun i hi => by rw [r4 i hi, q i hi]⟩
theorem own_Ar.set (F : own_Ar Z h a k ty n f) (W : Wr h h' a i v) : own_Ar Z h' a k ty n (fun j => if j = i then v else f j) := by
  obtain ⟨c, A, r1, r2, r3, r4⟩ := F
  refine ⟨c.setSlot i v, A.same W, r1, by rw [sz_set]; exact r2, r3, fun j hj => ?_⟩
  show _ = some (if j = i then v else f j)
  by_cases q : j = i
  · subst q
    rw [if_pos rfl]
    show (c.slots.setIfInBounds j v)[j]? = some v
    simp [r2, hj]
  · rw [if_neg q]
    show (c.slots.setIfInBounds i v)[j]? = some (f j)
    rw [Array.getElem?_setIfInBounds_ne (fun z => q z.symm)]
    exact r4 j hj
theorem own_in {c : Cell} {j : Int32} (hj : ¬ j < 0) (hi : j.toNatClampNeg = i) (r : c.slots.size = n) (hn : i < n) : ¬ (j < 0 ∨ c.slots.size ≤ j.toNatClampNeg) := by
  rintro (q | q)
  · exact hj q
  · rw [hi, r] at q; exact absurd hn (Nat.not_lt.mpr q)
theorem own_len (X : Stand p l e R s m args below meth c T locs cells slots) (hx : p.tables.exec = Jvm.exec) (hZ : Z.Warmed39 s.vm) (eT : T.heap = h) (F : own_Ar Z h a k ty n f) {z : Int32} (hz : Int32.ofNat n = z) {g : JFrame} (hg : g.method = m) {rest : List Value} (hs : g.stack = .ref a :: rest) (hd : decode c.code g.pc = .ok (.arraylength, 1)) (target : State)
    (kt : Steps p.tables e below (T.setTop { g with pc := g.pc + 1, stack := .int z :: rest }) target) : Steps p.tables e below (T.setTop g) target := by
  obtain ⟨cl, A, -, r2, r3, -⟩ := F
  refine X.arraylength hx (by rw [eT]; exact A.1) (State.isArrayOf_alike hZ.alike A.2.1) hg hs hd _ ?_
  have q : cl.slots.size.toInt32 = z := by rw [r2]; exact hz
  rw [q]; exact kt
theorem own_ldI (X : Stand p l e R s m args below meth c T locs cells slots) (hx : p.tables.exec = Jvm.exec) (hZ : Z.Warmed39 s.vm) (eT : T.heap = h) (F : own_Ar Z h a k .int n f) {j : Int32} (hj : ¬ j < 0) (hi : j.toNatClampNeg = i) (hn : i < n) (hv : f i = v) {g : JFrame} (hg : g.method = m) {rest : List Value} (hs : g.stack = .int j :: .ref a :: rest) (hd : decode c.code g.pc = .ok (.iaload, 1)) (target : State)
    (kt : Steps p.tables e below (T.setTop { g with pc := g.pc + 1, stack := v :: rest }) target) : Steps p.tables e below (T.setTop g) target := by
  obtain ⟨cl, A, -, r2, r3, r4⟩ := F
  exact X.iaload hx (by rw [eT]; exact A.1) (State.isArrayOf_alike hZ.alike A.2.1) A.2.2 (own_in hj hi r2 hn) (by rw [hi, r4 i hn, hv]) hg hs hd _ kt
theorem own_ldJ (X : Stand p l e R s m args below meth c T locs cells slots) (hx : p.tables.exec = Jvm.exec) (hZ : Z.Warmed39 s.vm) (eT : T.heap = h) (F : own_Ar Z h a k .long n f) {j : Int32} (hj : ¬ j < 0) (hi : j.toNatClampNeg = i) (hn : i < n) (hv : f i = v) {g : JFrame} (hg : g.method = m) {rest : List Value} (hs : g.stack = .int j :: .ref a :: rest) (hd : decode c.code g.pc = .ok (.laload, 1)) (target : State)
    (kt : Steps p.tables e below (T.setTop { g with pc := g.pc + 1, stack := v :: rest }) target) : Steps p.tables e below (T.setTop g) target := by
  obtain ⟨cl, A, -, r2, r3, r4⟩ := F
  exact X.laload hx (by rw [eT]; exact A.1) (State.isArrayOf_alike hZ.alike A.2.1) A.2.2 (own_in hj hi r2 hn) (by rw [hi, r4 i hn, hv]) hg hs hd _ kt
theorem own_ldC (X : Stand p l e R s m args below meth c T locs cells slots) (hx : p.tables.exec = Jvm.exec) (hZ : Z.Warmed39 s.vm) (eT : T.heap = h) (F : own_Ar Z h a k .char n f) {j : Int32} (hj : ¬ j < 0) (hi : j.toNatClampNeg = i) (hn : i < n) (hv : f i = v) {g : JFrame} (hg : g.method = m) {rest : List Value} (hs : g.stack = .int j :: .ref a :: rest) (hd : decode c.code g.pc = .ok (.caload, 1)) (target : State)
    (kt : Steps p.tables e below (T.setTop { g with pc := g.pc + 1, stack := v :: rest }) target) : Steps p.tables e below (T.setTop g) target := by
  obtain ⟨cl, A, -, r2, r3, r4⟩ := F
  exact X.caload hx (by rw [eT]; exact A.1) (State.isArrayOf_alike hZ.alike A.2.1) A.2.2 (own_in hj hi r2 hn) (by rw [hi, r4 i hn, hv]) hg hs hd _ kt
theorem own_ldB (X : Stand p l e R s m args below meth c T locs cells slots) (hx : p.tables.exec = Jvm.exec) (hZ : Z.Warmed39 s.vm) (eT : T.heap = h) (F : own_Ar Z h a k .byte n f) {j : Int32} (hj : ¬ j < 0) (hi : j.toNatClampNeg = i) (hn : i < n) (hv : f i = v) {g : JFrame} (hg : g.method = m) {rest : List Value} (hs : g.stack = .int j :: .ref a :: rest) (hd : decode c.code g.pc = .ok (.baload, 1)) (target : State)
    (kt : Steps p.tables e below (T.setTop { g with pc := g.pc + 1, stack := v :: rest }) target) : Steps p.tables e below (T.setTop g) target := by
  obtain ⟨cl, A, -, r2, r3, r4⟩ := F
  exact X.baloadBytes hx (by rw [eT]; exact A.1) (State.isArrayOf_alike hZ.alike A.2.1) A.2.2 (own_in hj hi r2 hn) (by rw [hi, r4 i hn, hv]) hg hs hd _ kt
theorem own_ldZ (X : Stand p l e R s m args below meth c T locs cells slots) (hx : p.tables.exec = Jvm.exec) (hZ : Z.Warmed39 s.vm) (eT : T.heap = h) (F : own_Ar Z h a k .boolean n f) {j : Int32} (hj : ¬ j < 0) (hi : j.toNatClampNeg = i) (hn : i < n) (hv : f i = v) {g : JFrame} (hg : g.method = m) {rest : List Value} (hs : g.stack = .int j :: .ref a :: rest) (hd : decode c.code g.pc = .ok (.baload, 1)) (target : State)
    (kt : Steps p.tables e below (T.setTop { g with pc := g.pc + 1, stack := v :: rest }) target) : Steps p.tables e below (T.setTop g) target := by
  obtain ⟨cl, A, -, r2, r3, r4⟩ := F
  exact X.baloadBooleans hx (by rw [eT]; exact A.1) (State.isArrayOf_alike hZ.alike A.2.1) A.2.2 (own_in hj hi r2 hn) (by rw [hi, r4 i hn, hv]) hg hs hd _ kt
theorem own_ldR (X : Stand p l e R s m args below meth c T locs cells slots) (hx : p.tables.exec = Jvm.exec) (hZ : Z.Warmed39 s.vm) (eT : T.heap = h) (F : own_Ar Z h a k ty n f) (ht : ty.isReference = true) {j : Int32} (hj : ¬ j < 0) (hi : j.toNatClampNeg = i) (hn : i < n) (hv : f i = v) {g : JFrame} (hg : g.method = m) {rest : List Value} (hs : g.stack = .int j :: .ref a :: rest) (hd : decode c.code g.pc = .ok (.aaload, 1)) (target : State)
    (kt : Steps p.tables e below (T.setTop { g with pc := g.pc + 1, stack := v :: rest }) target) : Steps p.tables e below (T.setTop g) target := by
  obtain ⟨cl, A, -, r2, r3, r4⟩ := F
  exact X.aaload hx (by rw [eT]; exact A.1) (State.isArrayOf_alike hZ.alike A.2.1) ht A.2.2 (own_in hj hi r2 hn) (by rw [hi, r4 i hn, hv]) hg hs hd _ kt
theorem own_newP (X : Stand p l e R s m args below meth c T locs cells slots) (hx : p.tables.exec = Jvm.exec) (hZ : Z.Warmed39 s.vm) {aty : ArrayType} (w : (Cond.arrayClass (newarray.typeOf aty)).before a0 Z = true) (eT : T.heap = h) {g : JFrame} (hg : g.method = m) (hd : decode c.code g.pc = .ok (.newarray aty, 2)) {z : Int32} {rest : List Value} (hs : g.stack = .int z :: rest)
    (hz : ¬ z < 0) (hzn : z.toNatClampNeg = n) {cap : Nat} (hcap : n ≤ cap) (hb : cap * 8 ≤ 536870912) (hc : cells + 1 ≤ R.cells) (hl : slots + cap ≤ R.slots) :
    ∃ T' h' k, Stand p l e R s m args below meth c T' locs (cells + 1) (slots + cap) ∧ T'.heap = h' ∧ Ext h h' ∧ own_Ar Z h' h.size k (newarray.typeOf aty) n (fun _ => defaultValue (newarray.typeOf aty)) ∧
      ∀ target, Steps p.tables e below (T'.setTop { g with pc := g.pc + 2, stack := .ref h.size :: rest }) target → Steps p.tables e below (T.setTop g) target := by
  obtain ⟨T', h', cA, X', e', E, A, st⟩ := newP X hx hZ w eT hg hd hs hz (cap := cap) (by rw [hzn]; exact hcap) hb hc hl
  refine ⟨T', h', cA, X', e', E, ⟨_, A, rfl, (sz_new _ _ _).trans hzn, by omega, fun i hi => ?_⟩, st⟩
  have hs : i < z.toNatClampNeg := by rw [hzn]; exact hi
  simp [newA, hs, defaultValue]
theorem own_stI (X : Stand p l e R s m args below meth c T locs cells slots) (hx : p.tables.exec = Jvm.exec) (hZ : Z.Warmed39 s.vm) (eT : T.heap = h) (F : own_Ar Z h a k .int n f) {j x : Int32} (hj : ¬ j < 0) (hi : j.toNatClampNeg = i) (hn : i < n) {g : JFrame} (hg : g.method = m) {rest : List Value} (hs : g.stack = .int x :: .int j :: .ref a :: rest) (hd : decode c.code g.pc = .ok (.iastore, 1)) :
    ∃ T' h', Stand p l e R s m args below meth c T' (locs ++ [⟨a, i⟩]) cells slots ∧ T'.heap = h' ∧ Wr h h' a i (.int x) ∧ own_Ar Z h' a k .int n (fun j => if j = i then .int x else f j) ∧ ∀ target, Steps p.tables e below (T'.setTop { g with pc := g.pc + 1, stack := rest }) target → Steps p.tables e below (T.setTop g) target := by
  obtain ⟨cl, A, r1, r2, r3, r4⟩ := F
  obtain ⟨T', h', X', e', W, st⟩ := stI X hx hZ eT A (own_in hj hi r2 hn) hg hs hd
  rw [hi] at X' W
  exact ⟨T', h', X', e', W, own_Ar.set ⟨cl, A, r1, r2, r3, r4⟩ W, st⟩
theorem own_stJ (X : Stand p l e R s m args below meth c T locs cells slots) (hx : p.tables.exec = Jvm.exec) (hZ : Z.Warmed39 s.vm) (eT : T.heap = h) (F : own_Ar Z h a k .long n f) {j : Int32} {x : Int64} (hj : ¬ j < 0) (hi : j.toNatClampNeg = i) (hn : i < n) {g : JFrame} (hg : g.method = m) {rest : List Value} (hs : g.stack = .long x :: .int j :: .ref a :: rest) (hd : decode c.code g.pc = .ok (.lastore, 1)) :
    ∃ T' h', Stand p l e R s m args below meth c T' (locs ++ [⟨a, i⟩]) cells slots ∧ T'.heap = h' ∧ Wr h h' a i (.long x) ∧ own_Ar Z h' a k .long n (fun j => if j = i then .long x else f j) ∧ ∀ target, Steps p.tables e below (T'.setTop { g with pc := g.pc + 1, stack := rest }) target → Steps p.tables e below (T.setTop g) target := by
  obtain ⟨cl, A, r1, r2, r3, r4⟩ := F
  obtain ⟨T', h', X', e', W, st⟩ := stJ X hx hZ eT A (own_in hj hi r2 hn) hg hs hd
  rw [hi] at X' W
  exact ⟨T', h', X', e', W, own_Ar.set ⟨cl, A, r1, r2, r3, r4⟩ W, st⟩
theorem own_stB (X : Stand p l e R s m args below meth c T locs cells slots) (hx : p.tables.exec = Jvm.exec) (hZ : Z.Warmed39 s.vm) (eT : T.heap = h) (F : own_Ar Z h a k .byte n f) {j x : Int32} (hj : ¬ j < 0) (hi : j.toNatClampNeg = i) (hn : i < n) {g : JFrame} (hg : g.method = m) {rest : List Value} (hs : g.stack = .int x :: .int j :: .ref a :: rest) (hd : decode c.code g.pc = .ok (.bastore, 1)) :
    ∃ T' h', Stand p l e R s m args below meth c T' (locs ++ [⟨a, i⟩]) cells slots ∧ T'.heap = h' ∧ Wr h h' a i (.int (nar .byte x)) ∧ own_Ar Z h' a k .byte n (fun j => if j = i then .int (nar .byte x) else f j) ∧ ∀ target, Steps p.tables e below (T'.setTop { g with pc := g.pc + 1, stack := rest }) target → Steps p.tables e below (T.setTop g) target := by
  obtain ⟨cl, A, r1, r2, r3, r4⟩ := F
  obtain ⟨T', h', X', e', W, st⟩ := stB X hx hZ eT A (own_in hj hi r2 hn) hg hs hd
  rw [hi] at X' W
  exact ⟨T', h', X', e', W, own_Ar.set ⟨cl, A, r1, r2, r3, r4⟩ W, st⟩
theorem own_stZ (X : Stand p l e R s m args below meth c T locs cells slots) (hx : p.tables.exec = Jvm.exec) (hZ : Z.Warmed39 s.vm) (eT : T.heap = h) (F : own_Ar Z h a k .boolean n f) {j x : Int32} (hj : ¬ j < 0) (hi : j.toNatClampNeg = i) (hn : i < n) {g : JFrame} (hg : g.method = m) {rest : List Value} (hs : g.stack = .int x :: .int j :: .ref a :: rest) (hd : decode c.code g.pc = .ok (.bastore, 1)) :
    ∃ T' h', Stand p l e R s m args below meth c T' (locs ++ [⟨a, i⟩]) cells slots ∧ T'.heap = h' ∧ Wr h h' a i (.int (nar .boolean x)) ∧ own_Ar Z h' a k .boolean n (fun j => if j = i then .int (nar .boolean x) else f j) ∧ ∀ target, Steps p.tables e below (T'.setTop { g with pc := g.pc + 1, stack := rest }) target → Steps p.tables e below (T.setTop g) target := by
  obtain ⟨cl, A, r1, r2, r3, r4⟩ := F
  obtain ⟨T', h', X', e', W, st⟩ := stZ X hx hZ eT A (own_in hj hi r2 hn) hg hs hd
  rw [hi] at X' W
  exact ⟨T', h', X', e', W, own_Ar.set ⟨cl, A, r1, r2, r3, r4⟩ W, st⟩
theorem own_stC (X : Stand p l e R s m args below meth c T locs cells slots) (hx : p.tables.exec = Jvm.exec) (hZ : Z.Warmed39 s.vm) (eT : T.heap = h) (F : own_Ar Z h a k .char n f) {j x : Int32} (hj : ¬ j < 0) (hi : j.toNatClampNeg = i) (hn : i < n) {g : JFrame} (hg : g.method = m) {rest : List Value} (hs : g.stack = .int x :: .int j :: .ref a :: rest) (hd : decode c.code g.pc = .ok (.castore, 1)) :
    ∃ T' h', Stand p l e R s m args below meth c T' (locs ++ [⟨a, i⟩]) cells slots ∧ T'.heap = h' ∧ Wr h h' a i (.int (nar .char x)) ∧ own_Ar Z h' a k .char n (fun j => if j = i then .int (nar .char x) else f j) ∧ ∀ target, Steps p.tables e below (T'.setTop { g with pc := g.pc + 1, stack := rest }) target → Steps p.tables e below (T.setTop g) target := by
  obtain ⟨cl, A, r1, r2, r3, r4⟩ := F
  obtain ⟨T', h', X', e', W, st⟩ := stC X hx hZ eT A (own_in hj hi r2 hn) hg hs hd
  rw [hi] at X' W
  exact ⟨T', h', X', e', W, own_Ar.set ⟨cl, A, r1, r2, r3, r4⟩ W, st⟩
theorem own_stR (X : Stand p l e R s m args below meth c T locs cells slots) (hx : p.tables.exec = Jvm.exec) (hZ : Z.Warmed39 s.vm) (eT : T.heap = h) (F : own_Ar Z h a k ty n f) (ht : ty.isReference = true) {j : Int32} (S : Sto Z h a v) (hj : ¬ j < 0) (hi : j.toNatClampNeg = i) (hn : i < n) {g : JFrame} (hg : g.method = m) {rest : List Value} (hs : g.stack = v :: .int j :: .ref a :: rest) (hd : decode c.code g.pc = .ok (.aastore, 1)) :
    ∃ T' h', Stand p l e R s m args below meth c T' (locs ++ [⟨a, i⟩]) cells slots ∧ T'.heap = h' ∧ Wr h h' a i v ∧ own_Ar Z h' a k ty n (fun j => if j = i then v else f j) ∧ ∀ target, Steps p.tables e below (T'.setTop { g with pc := g.pc + 1, stack := rest }) target → Steps p.tables e below (T.setTop g) target := by
  obtain ⟨cl, A, r1, r2, r3, r4⟩ := F
  obtain ⟨T', h', X', e', W, st⟩ := stR X hx hZ eT A (own_in hj hi r2 hn) ht S hg hs hd
  rw [hi] at X' W
  exact ⟨T', h', X', e', W, own_Ar.set ⟨cl, A, r1, r2, r3, r4⟩ W, st⟩
theorem own_newR (X : Stand p l e R s m args below meth c T locs cells slots) (hx : p.tables.exec = Jvm.exec) (hZ : Z.Warmed39 s.vm) {own C : String} {index : Nat} (hown : s.vm.findClass own = some m.cls) (w1 : (Cond.classLink own index C).before a0 Z = true) (w2 : (Cond.arrayOver (.object C)).before a0 Z = true)
    (eT : T.heap = h) {g : JFrame} (hg : g.method = m) (hd : decode c.code g.pc = .ok (.anewarray index, 3)) {z : Int32} {rest : List Value} (hs : g.stack = .int z :: rest) (hz : ¬ z < 0) (hzn : z.toNatClampNeg = n) {cap : Nat} (hcap : n ≤ cap) (hb : cap * 8 ≤ 536870912) (hc : cells + 1 ≤ R.cells) (hl : slots + cap ≤ R.slots) :
    ∃ T' h' k, Stand p l e R s m args below meth c T' locs (cells + 1) (slots + cap) ∧ T'.heap = h' ∧ Ext h h' ∧ own_Ar Z h' h.size k (.object C) n (fun _ => .null) ∧ Ovr Z k C ∧
      ∀ target, Steps p.tables e below (T'.setTop { g with pc := g.pc + 3, stack := .ref h.size :: rest }) target → Steps p.tables e below (T.setTop g) target := by
  obtain ⟨T', h', cA, X', e', E, A, O, st⟩ := newR X hx hZ hown w1 w2 eT hg hd hs hz (cap := cap) (by rw [hzn]; exact hcap) hb hc hl
  refine ⟨T', h', cA, X', e', E, ⟨_, A, rfl, (sz_new _ _ _).trans hzn, by omega, fun i hi => ?_⟩, O, st⟩
  have hs : i < z.toNatClampNeg := by rw [hzn]; exact hi
  simp [newA, hs, defaultValue]
theorem own_Ar.sto {C : String} {y : Addr} (F : own_Ar Z h a k ty n f) (O : Ovr Z k C) (I : Ins Z h y C true) : Sto Z h a (.ref y) := by
  obtain ⟨cl, A, r1, -⟩ := F
  exact Sto.of A (r1 ▸ O) I
end OwnArrays
theorem pnn_1 : plainName "com/example/bestow/bestow/Name" = true := by first | (simp [plainName, overriddenIn]; done) | decide +kernel
theorem pn_1 : plainFor (⟨"com/example/bestow/bestow/Name", "isNameCharacter", "(C)Z"⟩ : MethodName) = true := plainFor_of_name pnn_1
theorem d1_0 : decode prog_13_method_3_code 0 = .ok (.iload_n 0, 1) := by decide +kernel
theorem d1_1 : decode prog_13_method_3_code 1 = .ok (.getstatic 87, 3) := by decide +kernel
theorem d1_4 : decode prog_13_method_3_code 4 = .ok (.arraylength, 1) := by decide +kernel
theorem d1_5 : decode prog_13_method_3_code 5 = .ok (.if_icmp .ge 15, 3) := by decide +kernel
theorem d1_8 : decode prog_13_method_3_code 8 = .ok (.getstatic 87, 3) := by decide +kernel
theorem d1_11 : decode prog_13_method_3_code 11 = .ok (.iload_n 0, 1) := by decide +kernel
theorem d1_12 : decode prog_13_method_3_code 12 = .ok (.baload, 1) := by decide +kernel
theorem d1_13 : decode prog_13_method_3_code 13 = .ok (.ifCond .eq 7, 3) := by decide +kernel
theorem d1_20 : decode prog_13_method_3_code 20 = .ok (.iconst 0, 1) := by decide +kernel
theorem d1_21 : decode prog_13_method_3_code 21 = .ok (.ireturn, 1) := by decide +kernel
theorem d1_16 : decode prog_13_method_3_code 16 = .ok (.iconst 1, 1) := by decide +kernel
theorem d1_17 : decode prog_13_method_3_code 17 = .ok (.goto 4, 3) := by decide +kernel
theorem pnn_0 : plainName "com/example/bestow/bestow/NameIsNameCharacterPinLaw" = true := by first | (simp [plainName, overriddenIn]; done) | decide +kernel
theorem pn_0 : plainFor (⟨"com/example/bestow/bestow/NameIsNameCharacterPinLaw", "law", "(I)Z"⟩ : MethodName) = true := plainFor_of_name pnn_0
theorem pd_0 : parseMethodDescriptor "(C)Z" = some ⟨[.char], some .boolean⟩ := by decide +kernel
def own_rng (lo hi c : Int32) : Int32 := if c < lo then 0 else if hi < c then 0 else 1
def own_is (z c : Int32) : Int32 := if c = z then 1 else 0
def own_any (a b c d : Int32) : Int32 := if a = 0 then (if b = 0 then (if c = 0 then (if d = 0 then 0 else 1) else 1) else 1) else 1
def own_nm (c : Int32) : Int32 := own_any (own_rng 97 122 c) (own_rng 65 90 c) (own_rng 48 57 c) (own_is 95 c)
def own_tab (i : Nat) : Int32 := if i < 48 then 0 else if i < 58 then 1 else if i < 65 then 0 else if i < 91 then 1 else if i < 95 then 0 else if i < 96 then 1 else if i < 97 then 0 else if i < 123 then 1 else 0
theorem own_tab01 (i : Nat) : own_tab i = 0 ∨ own_tab i = 1 := by
  unfold own_tab
  (repeat' split) <;> simp
theorem own_rng0 {lo hi c : Int32} (h : c.toInt < lo.toInt ∨ hi.toInt < c.toInt) : own_rng lo hi c = 0 := by
  unfold own_rng
  simp only [Int32.lt_iff_toInt_lt]
  by_cases q : c.toInt < lo.toInt
  · rw [if_pos q]
  · rw [if_neg q, if_pos (by omega)]
theorem own_rng1 {lo hi c : Int32} (h : lo.toInt ≤ c.toInt ∧ c.toInt ≤ hi.toInt) : own_rng lo hi c = 1 := by
  unfold own_rng
  simp only [Int32.lt_iff_toInt_lt]
  rw [if_neg (by omega), if_neg (by omega)]
theorem own_is0 {z c : Int32} (h : c.toInt ≠ z.toInt) : own_is z c = 0 := if_neg fun q => h (by rw [q])
theorem own_is1 {z c : Int32} (h : c.toInt = z.toInt) : own_is z c = 1 := if_pos (Int32.toInt_inj.mp h)
theorem own_nm_hi {c : Int32} (h : ¬ c < 128) : own_nm c = 0 := by
  rw [Int32.lt_iff_toInt_lt] at h
  have d : (128 : Int32).toInt = 128 := by decide
  rw [own_nm, own_rng0 (Or.inr (by have : (122 : Int32).toInt = 122 := by decide
                                   omega)), own_rng0 (Or.inr (by have : (90 : Int32).toInt = 90 := by decide
                                                                 omega)), own_rng0 (Or.inr (by have : (57 : Int32).toInt = 57 := by decide
                                                                                               omega)), own_is0 (by have : (95 : Int32).toInt = 95 := by decide
                                                                                                                    omega)]
  rfl
theorem own_nm_lo {c : Int32} (h0 : ¬ c < 0) (h : c < 128) : own_nm c = own_tab c.toNatClampNeg := by
  have e := nat_of h0
  rw [Int32.lt_iff_toInt_lt] at h
  have d : (128 : Int32).toInt = 128 := by decide
  have k1 : (97 : Int32).toInt = 97 := by decide
  have k2 : (122 : Int32).toInt = 122 := by decide
  have k3 : (65 : Int32).toInt = 65 := by decide
  have k4 : (90 : Int32).toInt = 90 := by decide
  have k5 : (48 : Int32).toInt = 48 := by decide
  have k6 : (57 : Int32).toInt = 57 := by decide
  have k7 : (95 : Int32).toInt = 95 := by decide
  generalize c.toNatClampNeg = n at e
  have seg : n < 48 ∨ (48 ≤ n ∧ n < 58) ∨ (58 ≤ n ∧ n < 65) ∨ (65 ≤ n ∧ n < 91) ∨ (91 ≤ n ∧ n < 95) ∨ n = 95 ∨ n = 96 ∨ (97 ≤ n ∧ n < 123) ∨ 123 ≤ n := by omega
  unfold own_tab own_nm
  rcases seg with g | g | g | g | g | g | g | g | g
  · rw [own_rng0 (Or.inl (by omega)), own_rng0 (Or.inl (by omega)), own_rng0 (Or.inl (by omega)), own_is0 (by omega), if_pos (by omega)]; rfl
  · rw [own_rng0 (Or.inl (by omega)), own_rng0 (Or.inl (by omega)), own_rng1 (by omega), if_neg (by omega), if_pos (by omega)]; rfl
  · rw [own_rng0 (Or.inl (by omega)), own_rng0 (Or.inl (by omega)), own_rng0 (Or.inr (by omega)), own_is0 (by omega), if_neg (by omega), if_neg (by omega), if_pos (by omega)]; rfl
  · rw [own_rng0 (Or.inl (by omega)), own_rng1 (by omega), if_neg (by omega), if_neg (by omega), if_neg (by omega), if_pos (by omega)]; rfl
  · rw [own_rng0 (Or.inl (by omega)), own_rng0 (Or.inr (by omega)), own_rng0 (Or.inr (by omega)), own_is0 (by omega), if_neg (by omega), if_neg (by omega), if_neg (by omega), if_neg (by omega), if_pos (by omega)]; rfl
  · rw [own_rng0 (Or.inl (by omega)), own_rng0 (Or.inr (by omega)), own_rng0 (Or.inr (by omega)), own_is1 (by omega), if_neg (by omega), if_neg (by omega), if_neg (by omega), if_neg (by omega), if_neg (by omega), if_pos (by omega)]; rfl
  · rw [own_rng0 (Or.inl (by omega)), own_rng0 (Or.inr (by omega)), own_rng0 (Or.inr (by omega)), own_is0 (by omega), if_neg (by omega), if_neg (by omega), if_neg (by omega), if_neg (by omega), if_neg (by omega), if_neg (by omega), if_pos (by omega)]; rfl
  · rw [own_rng1 (by omega), if_neg (by omega), if_neg (by omega), if_neg (by omega), if_neg (by omega), if_neg (by omega), if_neg (by omega), if_neg (by omega), if_pos (by omega)]; rfl
  · rw [own_rng0 (Or.inr (by omega)), own_rng0 (Or.inr (by omega)), own_rng0 (Or.inr (by omega)), own_is0 (by omega), if_neg (by omega), if_neg (by omega), if_neg (by omega), if_neg (by omega), if_neg (by omega), if_neg (by omega), if_neg (by omega), if_neg (by omega)]; rfl
section OwnSeg
variable {args : Array Value} {s : State} {t : Term} {ta : Addr} {cl : Cell}
theorem own_eqi {u : Term} {z : Int32} {idx : List Nat} (h : (Cond.eq u (.int z)).value args s none s idx = some true) : u.eval args s none idx s = some (.int z) := by
  cases ht : u.eval args s none idx s with
  | none => simp [Cond.value, ht] at h
  | some v => cases v <;> simp [Cond.value, ht, Term.eval] at h ⊢ <;> exact h
theorem own_ori {G X : Jvm.Cond} {P : Prop} [Decidable P] {idx : List Nat} (h : (Cond.or G X).value args s none s idx = some true) (hG : G.value args s none s idx = some (decide P)) (hP : ¬ P) : X.value args s none s idx = some true := by
  simpa [Cond.value, hG, hP] using h
theorem own_at {i : Nat} {z : Int32} (ht : t.eval args s none [i] s = some (.ref ta)) (hat : s.arrayAt? ta = some cl) (hsz : cl.slots.size < 2 ^ 31) (hi : i < cl.slots.size) (h : (Cond.eq (Term.elem t (.index 0)) (.int z)).value args s none s [i] = some true) : cl.slots[i]? = some (.int z) := by
  have h1 := own_eqi h
  have hn : i.toInt32.toInt = i := len_toInt (by omega)
  have h0 : ¬ i.toInt32 < 0 := by
    intro q
    rw [Int32.lt_iff_toInt_lt, hn] at q
    have : (0 : Int32).toInt = 0 := by decide
    omega
  have hix : (Term.index 0).eval args s none [i] s = some (.int i.toInt32) := rfl
  rw [elem_f ht hix hat h0] at h1
  have e : i.toInt32.toNatClampNeg = i := by
    have := nat_of h0
    omega
  rw [e] at h1
  exact h1
theorem own_lt3 {i : Nat} (hi : i < 2 ^ 31) (z : Int32) : (Cond.lt (.index 0) (.int z)).value args s none s [i] = some (decide ((i : Int) < z.toInt)) := by
  show some (decide (i.toInt32 < z)) = _
  have hn : i.toInt32.toInt = i := len_toInt hi
  simp only [Int32.lt_iff_toInt_lt, hn]
theorem own_le3 {i : Nat} (hi : i < 2 ^ 31) (z : Int32) : (Cond.le (.int z) (.index 0)).value args s none s [i] = some (decide (z.toInt ≤ (i : Int))) := by
  show some (decide (z ≤ i.toInt32)) = _
  have hn : i.toInt32.toInt = i := len_toInt hi
  simp only [Int32.le_iff_toInt_le, hn]
theorem own_seg {lo hi z : Int32} (ht : ∀ i, t.eval args s none [i] s = some (.ref ta)) (ht0 : t.eval args s none [] s = some (.ref ta)) (hat : s.arrayAt? ta = some cl) (hsz : cl.slots.size < 2 ^ 31)
    (h : (Cond.all t (Cond.or (Cond.lt (.index 0) (.int lo)) (Cond.or (Cond.le (.int hi) (.index 0)) (Cond.eq (Term.elem t (.index 0)) (.int z))))).value args s none s [] = some true) (i : Nat) (hs : i < cl.slots.size) (h1 : lo.toInt ≤ (i : Int)) (h2 : (i : Int) < hi.toInt) : cl.slots[i]? = some (.int z) := by
  have q := Cond.all_elim ht0 hat h i hs
  have q1 := own_ori q (own_lt3 (by omega) lo) (by omega)
  have q2 := own_ori q1 (own_le3 (by omega) hi) (by omega)
  exact own_at (ht i) hat hsz hs q2
end OwnSeg
theorem own_lt128 {c : Int32} (h0 : ¬ c < 0) (h : c < 128) : c.toNatClampNeg < 128 := by
  have e := nat_of h0
  rw [Int32.lt_iff_toInt_lt] at h
  have d : (128 : Int32).toInt = 128 := by decide
  omega
theorem own_chr (x : Int32) : ¬ x.toUInt32.toUInt16.toUInt32.toInt32 < 0 := by
  intro q
  rw [Int32.lt_iff_toInt_lt] at q
  have := c_i2c x
  have d : (0 : Int32).toInt = 0 := by decide
  omega
set_option maxRecDepth 65536 in
set_option maxHeartbeats 40000000 in
theorem rm1 (l : Launch) (Z : State) (a0 : Array Value) (hw : ∀ d ∈ tables_1, d.before a0 Z = true) (p0 : Int32) (h0 : Heap) (ta : Addr) (kc : ClassId) (S : Sta Z h0 "com/example/bestow/bestow/Name" "NAME_CHARACTERS" "[Z" (.ref ta)) (A : own_Ar Z h0 ta kc .boolean 128 (fun i => .int (own_tab i))) (hp : ¬ p0 < 0) :
    own_C l (⟨"com/example/bestow/bestow/Name", "isNameCharacter", "(C)Z"⟩ : MethodName) prog_13_method_3_code 1 (some .boolean) ({ frames := 0, cells := 0, slots := 0, locals := 0 } : Room) Z #[(.int p0)] h0 (fun v h L => v = some (.int (own_nm p0)) ∧ L = [] ∧ h = h0) := by
  refine own_enter pn_1 ?_
  intro p e s m below meth c s₁ X0 hx hby hml hown hnm hret hlk hZ e0
  replace hown : s.vm.findClass "com/example/bestow/bestow/Name" = some m.cls := hown
  have ef : entryFrame m #[(.int p0)] 1 = mkF m 0 #[.val (.int p0)] [] := by first | rfl | (simp [entryFrame, mkF, argsToLocals, Value.category, maxLocals]; done)
  refine own_cast ef ?_
  show own_Ends _ _ _ _ _ _ _ s₁ (mkF m 0 #[.val (.int p0)] [])
  refine own_go (fun _ k => XS.iloadN X0.here hx rfl (hb hby d1_0) rfl k) ?_
  show own_Ends _ _ _ _ _ _ _ s₁ (mkF m 1 #[.val (.int p0)] [(.int p0)])
  obtain ⟨T1, X1, e1, st1⟩ := getS2 X0 hx hZ hown (host := "") (Or.inl (hw _ (List.mem_of_getElem? (i := 5) rfl))) Via.refl e0 S (g := (mkF m 1 #[.val (.int p0)] [(.int p0)])) rfl (hb hby d1_1)
  refine own_go st1 ?_
  show own_Ends _ _ _ _ _ _ _ T1 (mkF m 4 #[.val (.int p0)] [(.ref ta), (.int p0)])
  refine own_go (fun _ k => own_len X1 hx hZ e1 A (z := (128 : Int32)) rfl (g := (mkF m 4 #[.val (.int p0)] [(.ref ta), (.int p0)])) rfl rfl (hb hby d1_4) _ k) ?_
  show own_Ends _ _ _ _ _ _ _ T1 (mkF m 5 #[.val (.int p0)] [(.int (128 : Int32)), (.int p0)])
  by_cases h1 : p0 < (128 : Int32)
  · refine own_go (fun _ k => XS.icmpNo X1.here hx rfl (hb hby d1_5) rfl (tlt h1).2.1 k) ?_
    show own_Ends _ _ _ _ _ _ _ T1 (mkF m 8 #[.val (.int p0)] [])
    obtain ⟨T2, X2, e2, st2⟩ := getS2 X1 hx hZ hown (host := "") (Or.inl (hw _ (List.mem_of_getElem? (i := 5) rfl))) Via.refl e1 S (g := (mkF m 8 #[.val (.int p0)] [])) rfl (hb hby d1_8)
    refine own_go st2 ?_
    show own_Ends _ _ _ _ _ _ _ T2 (mkF m 11 #[.val (.int p0)] [(.ref ta)])
    refine own_go (fun _ k => XS.iloadN X2.here hx rfl (hb hby d1_11) rfl k) ?_
    show own_Ends _ _ _ _ _ _ _ T2 (mkF m 12 #[.val (.int p0)] [(.int p0), (.ref ta)])
    refine own_go (fun _ k => own_ldZ X2 hx hZ e2 A (i := p0.toNatClampNeg) (v := (.int (own_tab p0.toNatClampNeg))) hp rfl (own_lt128 hp h1) rfl (g := (mkF m 12 #[.val (.int p0)] [(.int p0), (.ref ta)])) rfl rfl (hb hby d1_12) _ k) ?_
    show own_Ends _ _ _ _ _ _ _ T2 (mkF m 13 #[.val (.int p0)] [(.int (own_tab p0.toNatClampNeg))])
    by_cases h2 : (own_tab p0.toNatClampNeg) = (0 : Int32)
    · refine own_go (fun _ k => XS.ifYes X2.here hx rfl (pc0 := 13) (pc' := 20) rfl (hb hby d1_13) rfl ((if0 _ _).trans (teq h2).1) (by decide) (by decide) k) ?_
      show own_Ends _ _ _ _ _ _ _ T2 (mkF m 20 #[.val (.int p0)] [])
      refine own_go (fun _ k => XS.iconst X2.here hx rfl (hb hby d1_20) k) ?_
      show own_Ends _ _ _ _ _ _ _ T2 (mkF m 21 #[.val (.int p0)] [(.int (0 : Int32))])
      exact own_retZ X2 hx hlk hret (by decide) (hb hby d1_21) (by decide) (by decide) ⟨by rw [own_nm_lo hp h1, h2], rfl, e2⟩
    · refine own_go (fun _ k => XS.ifNo X2.here hx rfl (hb hby d1_13) rfl ((if0 _ _).trans (feq h2).1) k) ?_
      show own_Ends _ _ _ _ _ _ _ T2 (mkF m 16 #[.val (.int p0)] [])
      refine own_go (fun _ k => XS.iconst X2.here hx rfl (hb hby d1_16) k) ?_
      show own_Ends _ _ _ _ _ _ _ T2 (mkF m 17 #[.val (.int p0)] [(.int (1 : Int32))])
      refine own_go (fun _ k => XS.goto X2.here hx rfl (pc0 := 17) (pc' := 21) rfl (hb hby d1_17) (by decide) (by decide) k) ?_
      show own_Ends _ _ _ _ _ _ _ T2 (mkF m 21 #[.val (.int p0)] [(.int (1 : Int32))])
      exact own_retZ X2 hx hlk hret (by decide) (hb hby d1_21) (by decide) (by decide) ⟨by rw [own_nm_lo hp h1, (own_tab01 _).resolve_left h2], rfl, e2⟩
  · refine own_go (fun _ k => XS.icmpYes X1.here hx rfl (pc0 := 5) (pc' := 20) rfl (hb hby d1_5) rfl (flt h1).2.1 (by decide) (by decide) k) ?_
    show own_Ends _ _ _ _ _ _ _ T1 (mkF m 20 #[.val (.int p0)] [])
    refine own_go (fun _ k => XS.iconst X1.here hx rfl (hb hby d1_20) k) ?_
    show own_Ends _ _ _ _ _ _ _ T1 (mkF m 21 #[.val (.int p0)] [(.int (0 : Int32))])
    exact own_retZ X1 hx hlk hret (by decide) (hb hby d1_21) (by decide) (by decide) ⟨by rw [own_nm_hi h1], rfl, e1⟩
set_option maxRecDepth 65536 in
set_option maxHeartbeats 40000000 in
theorem rm0 (l : Launch) (Z : State) (a0 : Array Value) (hw : ∀ d ∈ tables_1, d.before a0 Z = true) (p0 : Int32) (h0 : Heap) (ta : Addr) (kc : ClassId) (S : Sta Z h0 "com/example/bestow/bestow/Name" "NAME_CHARACTERS" "[Z" (.ref ta)) (A : own_Ar Z h0 ta kc .boolean 128 (fun i => .int (own_tab i))) :
    own_C l x code maxLocals ret room_1 Z #[(.int p0)] h0 (fun v h L => v = some (.int 1) ∧ Fr h0.size L) := by
  refine own_enter pn_0 ?_
  intro p e s m below meth c s₁ X0 hx hby hml hown hnm hret hlk hZ e0
  have hml : c.maxLocals = 7 := hml
  replace hown : s.vm.findClass "com/example/bestow/bestow/NameIsNameCharacterPinLaw" = some m.cls := hown
  have ef : entryFrame m #[(.int p0)] maxLocals = mkF m 0 #[.val (.int p0), .unset, .unset, .unset, .unset, .unset, .unset] [] := by first | rfl | (simp [entryFrame, mkF, argsToLocals, Value.category, maxLocals]; done)
  refine own_cast ef ?_
  show own_Ends _ _ _ _ _ _ _ s₁ (mkF m 0 #[.val (.int p0), .unset, .unset, .unset, .unset, .unset, .unset] [])
  have N0 := Fr.nil h0.size
  refine own_go (fun _ k => XS.iloadN X0.here hx rfl (hb hby at_0) rfl k) ?_
  show own_Ends _ _ _ _ _ _ _ s₁ (mkF m 1 #[.val (.int p0), .unset, .unset, .unset, .unset, .unset, .unset] [(.int p0)])
  refine own_go (fun _ k => X0.ldcInt hx hown (mvT hZ (hw _ (List.mem_of_getElem? (i := 0) rfl))) (g := (mkF m 1 #[.val (.int p0), .unset, .unset, .unset, .unset, .unset, .unset] [(.int p0)])) rfl (hb hby at_1) _ k) ?_
  show own_Ends _ _ _ _ _ _ _ s₁ (mkF m 3 #[.val (.int p0), .unset, .unset, .unset, .unset, .unset, .unset] [(.int (65535 : Int32)), (.int p0)])
  refine own_go (fun _ k => XS.iand X0.here hx rfl (hb hby at_3) rfl k) ?_
  show own_Ends _ _ _ _ _ _ _ s₁ (mkF m 4 #[.val (.int p0), .unset, .unset, .unset, .unset, .unset, .unset] [(.int (p0 &&& (65535 : Int32)))])
  refine own_go (fun _ k => XS.i2c X0.here hx rfl (hb hby at_4) rfl k) ?_
  show own_Ends _ _ _ _ _ _ _ s₁ (mkF m 5 #[.val (.int p0), .unset, .unset, .unset, .unset, .unset, .unset] [(.int ((p0 &&& (65535 : Int32)).toUInt32.toUInt16.toUInt32.toInt32))])
  refine own_go (fun _ k => XS.istoreN X0.here hx rfl (hb hby at_5) rfl (l' := #[.val (.int p0), .val (.int ((p0 &&& (65535 : Int32)).toUInt32.toUInt16.toUInt32.toInt32)), .unset, .unset, .unset, .unset, .unset]) rfl k) ?_
  show own_Ends _ _ _ _ _ _ _ s₁ (mkF m 6 #[.val (.int p0), .val (.int ((p0 &&& (65535 : Int32)).toUInt32.toUInt16.toUInt32.toInt32)), .unset, .unset, .unset, .unset, .unset] [])
  have hc := own_chr (p0 &&& 65535)
  generalize ((p0 &&& (65535 : Int32)).toUInt32.toUInt16.toUInt32.toInt32) = cc at hc ⊢
  show own_Ends _ _ _ _ _ _ _ s₁ (mkF m 6 #[.val (.int p0), .val (.int cc), .unset, .unset, .unset, .unset, .unset] [])
  have K99 : own_Ends p e s below room_1.cells room_1.slots (fun v h L => v = some (.int 1) ∧ Fr h0.size L) s₁ (mkF m 99 #[.val (.int p0), .val (.int cc), .val (.int (own_rng (97 : Int32) (122 : Int32) cc)), .val (.int (own_rng (65 : Int32) (90 : Int32) cc)), .val (.int (own_rng (48 : Int32) (57 : Int32) cc)), .val (.int (own_is (95 : Int32) cc)), .val (.int (own_nm cc))] []) := by
    show own_Ends _ _ _ _ _ _ _ s₁ (mkF m 99 #[.val (.int p0), .val (.int cc), .val (.int (own_rng (97 : Int32) (122 : Int32) cc)), .val (.int (own_rng (65 : Int32) (90 : Int32) cc)), .val (.int (own_rng (48 : Int32) (57 : Int32) cc)), .val (.int (own_is (95 : Int32) cc)), .val (.int (own_nm cc))] [])
    refine own_go (fun _ k => XS.iloadN X0.here hx rfl (hb hby at_99) rfl k) ?_
    show own_Ends _ _ _ _ _ _ _ s₁ (mkF m 100 #[.val (.int p0), .val (.int cc), .val (.int (own_rng (97 : Int32) (122 : Int32) cc)), .val (.int (own_rng (65 : Int32) (90 : Int32) cc)), .val (.int (own_rng (48 : Int32) (57 : Int32) cc)), .val (.int (own_is (95 : Int32) cc)), .val (.int (own_nm cc))] [(.int cc)])
    obtain ⟨v3, T3, L3, X3, hQ3, st3⟩ := own_callS X0 hx hZ hown (hw _ (List.mem_of_getElem? (i := 1) rfl)) (hw _ (List.mem_of_getElem? (i := 2) rfl)) (hw _ (List.mem_of_getElem? (i := 3) rfl)) (hw _ (List.mem_of_getElem? (i := 4) rfl)) (rm1 l Z a0 hw cc h0 ta kc S A hc) e0 (g := (mkF m 100 #[.val (.int p0), .val (.int cc), .val (.int (own_rng (97 : Int32) (122 : Int32) cc)), .val (.int (own_rng (65 : Int32) (90 : Int32) cc)), .val (.int (own_rng (48 : Int32) (57 : Int32) cc)), .val (.int (own_is (95 : Int32) cc)), .val (.int (own_nm cc))] [(.int cc)])) rfl (by rw [hml]; rfl) (argsL := [(.int cc)]) (rest := []) (lenOf pd_0 rfl) rfl rfl (W := 0) (by show 2 * 0 + _ ≤ _; exact Nat.le_of_eq rfl) (hb hby at_100) (by decide) (by decide) (by decide) (by decide) (by decide)
    obtain ⟨rfl, rfl, e3⟩ := hQ3
    refine own_go st3 ?_
    have N3 := Fr.app N0 (Fr.nil _)
    show own_Ends _ _ _ _ _ _ _ T3 (mkF m 103 #[.val (.int p0), .val (.int cc), .val (.int (own_rng (97 : Int32) (122 : Int32) cc)), .val (.int (own_rng (65 : Int32) (90 : Int32) cc)), .val (.int (own_rng (48 : Int32) (57 : Int32) cc)), .val (.int (own_is (95 : Int32) cc)), .val (.int (own_nm cc))] [(.int (own_nm cc))])
    refine own_go (fun _ k => XS.iload X3.here hx rfl (hb hby at_103) rfl k) ?_
    show own_Ends _ _ _ _ _ _ _ T3 (mkF m 105 #[.val (.int p0), .val (.int cc), .val (.int (own_rng (97 : Int32) (122 : Int32) cc)), .val (.int (own_rng (65 : Int32) (90 : Int32) cc)), .val (.int (own_rng (48 : Int32) (57 : Int32) cc)), .val (.int (own_is (95 : Int32) cc)), .val (.int (own_nm cc))] [(.int (own_nm cc)), (.int (own_nm cc))])
    refine own_go (fun _ k => XS.icmpNo X3.here hx rfl (hb hby at_105) rfl (teq (rfl)).2 k) ?_
    show own_Ends _ _ _ _ _ _ _ T3 (mkF m 108 #[.val (.int p0), .val (.int cc), .val (.int (own_rng (97 : Int32) (122 : Int32) cc)), .val (.int (own_rng (65 : Int32) (90 : Int32) cc)), .val (.int (own_rng (48 : Int32) (57 : Int32) cc)), .val (.int (own_is (95 : Int32) cc)), .val (.int (own_nm cc))] [])
    refine own_go (fun _ k => XS.iconst X3.here hx rfl (hb hby at_108) k) ?_
    show own_Ends _ _ _ _ _ _ _ T3 (mkF m 109 #[.val (.int p0), .val (.int cc), .val (.int (own_rng (97 : Int32) (122 : Int32) cc)), .val (.int (own_rng (65 : Int32) (90 : Int32) cc)), .val (.int (own_rng (48 : Int32) (57 : Int32) cc)), .val (.int (own_is (95 : Int32) cc)), .val (.int (own_nm cc))] [(.int (1 : Int32))])
    refine own_go (fun _ k => XS.goto X3.here hx rfl (pc0 := 109) (pc' := 113) rfl (hb hby at_109) (by decide) (by decide) k) ?_
    show own_Ends _ _ _ _ _ _ _ T3 (mkF m 113 #[.val (.int p0), .val (.int cc), .val (.int (own_rng (97 : Int32) (122 : Int32) cc)), .val (.int (own_rng (65 : Int32) (90 : Int32) cc)), .val (.int (own_rng (48 : Int32) (57 : Int32) cc)), .val (.int (own_is (95 : Int32) cc)), .val (.int (own_nm cc))] [(.int (1 : Int32))])
    exact own_retZ X3 hx hlk hret (by decide) (hb hby at_113) (by decide) (by decide) ⟨rfl, N3⟩
  have K74 : own_Ends p e s below room_1.cells room_1.slots (fun v h L => v = some (.int 1) ∧ Fr h0.size L) s₁ (mkF m 74 #[.val (.int p0), .val (.int cc), .val (.int (own_rng (97 : Int32) (122 : Int32) cc)), .val (.int (own_rng (65 : Int32) (90 : Int32) cc)), .val (.int (own_rng (48 : Int32) (57 : Int32) cc)), .val (.int (own_is (95 : Int32) cc)), .unset] []) := by
    show own_Ends _ _ _ _ _ _ _ s₁ (mkF m 74 #[.val (.int p0), .val (.int cc), .val (.int (own_rng (97 : Int32) (122 : Int32) cc)), .val (.int (own_rng (65 : Int32) (90 : Int32) cc)), .val (.int (own_rng (48 : Int32) (57 : Int32) cc)), .val (.int (own_is (95 : Int32) cc)), .unset] [])
    refine own_go (fun _ k => XS.iloadN X0.here hx rfl (hb hby at_74) rfl k) ?_
    show own_Ends _ _ _ _ _ _ _ s₁ (mkF m 75 #[.val (.int p0), .val (.int cc), .val (.int (own_rng (97 : Int32) (122 : Int32) cc)), .val (.int (own_rng (65 : Int32) (90 : Int32) cc)), .val (.int (own_rng (48 : Int32) (57 : Int32) cc)), .val (.int (own_is (95 : Int32) cc)), .unset] [(.int (own_rng (97 : Int32) (122 : Int32) cc))])
    by_cases a1 : (own_rng (97 : Int32) (122 : Int32) cc) = (0 : Int32)
    · refine own_go (fun _ k => XS.ifNo X0.here hx rfl (hb hby at_75) rfl ((if0 _ _).trans (teq a1).2) k) ?_
      show own_Ends _ _ _ _ _ _ _ s₁ (mkF m 78 #[.val (.int p0), .val (.int cc), .val (.int (own_rng (97 : Int32) (122 : Int32) cc)), .val (.int (own_rng (65 : Int32) (90 : Int32) cc)), .val (.int (own_rng (48 : Int32) (57 : Int32) cc)), .val (.int (own_is (95 : Int32) cc)), .unset] [])
      refine own_go (fun _ k => XS.iloadN X0.here hx rfl (hb hby at_78) rfl k) ?_
      show own_Ends _ _ _ _ _ _ _ s₁ (mkF m 79 #[.val (.int p0), .val (.int cc), .val (.int (own_rng (97 : Int32) (122 : Int32) cc)), .val (.int (own_rng (65 : Int32) (90 : Int32) cc)), .val (.int (own_rng (48 : Int32) (57 : Int32) cc)), .val (.int (own_is (95 : Int32) cc)), .unset] [(.int (own_rng (65 : Int32) (90 : Int32) cc))])
      by_cases a2 : (own_rng (65 : Int32) (90 : Int32) cc) = (0 : Int32)
      · refine own_go (fun _ k => XS.ifNo X0.here hx rfl (hb hby at_79) rfl ((if0 _ _).trans (teq a2).2) k) ?_
        show own_Ends _ _ _ _ _ _ _ s₁ (mkF m 82 #[.val (.int p0), .val (.int cc), .val (.int (own_rng (97 : Int32) (122 : Int32) cc)), .val (.int (own_rng (65 : Int32) (90 : Int32) cc)), .val (.int (own_rng (48 : Int32) (57 : Int32) cc)), .val (.int (own_is (95 : Int32) cc)), .unset] [])
        refine own_go (fun _ k => XS.iload X0.here hx rfl (hb hby at_82) rfl k) ?_
        show own_Ends _ _ _ _ _ _ _ s₁ (mkF m 84 #[.val (.int p0), .val (.int cc), .val (.int (own_rng (97 : Int32) (122 : Int32) cc)), .val (.int (own_rng (65 : Int32) (90 : Int32) cc)), .val (.int (own_rng (48 : Int32) (57 : Int32) cc)), .val (.int (own_is (95 : Int32) cc)), .unset] [(.int (own_rng (48 : Int32) (57 : Int32) cc))])
        by_cases a3 : (own_rng (48 : Int32) (57 : Int32) cc) = (0 : Int32)
        · refine own_go (fun _ k => XS.ifNo X0.here hx rfl (hb hby at_84) rfl ((if0 _ _).trans (teq a3).2) k) ?_
          show own_Ends _ _ _ _ _ _ _ s₁ (mkF m 87 #[.val (.int p0), .val (.int cc), .val (.int (own_rng (97 : Int32) (122 : Int32) cc)), .val (.int (own_rng (65 : Int32) (90 : Int32) cc)), .val (.int (own_rng (48 : Int32) (57 : Int32) cc)), .val (.int (own_is (95 : Int32) cc)), .unset] [])
          refine own_go (fun _ k => XS.iload X0.here hx rfl (hb hby at_87) rfl k) ?_
          show own_Ends _ _ _ _ _ _ _ s₁ (mkF m 89 #[.val (.int p0), .val (.int cc), .val (.int (own_rng (97 : Int32) (122 : Int32) cc)), .val (.int (own_rng (65 : Int32) (90 : Int32) cc)), .val (.int (own_rng (48 : Int32) (57 : Int32) cc)), .val (.int (own_is (95 : Int32) cc)), .unset] [(.int (own_is (95 : Int32) cc))])
          by_cases a4 : (own_is (95 : Int32) cc) = (0 : Int32)
          · refine own_go (fun _ k => XS.ifYes X0.here hx rfl (pc0 := 89) (pc' := 96) rfl (hb hby at_89) rfl ((if0 _ _).trans (teq a4).1) (by decide) (by decide) k) ?_
            show own_Ends _ _ _ _ _ _ _ s₁ (mkF m 96 #[.val (.int p0), .val (.int cc), .val (.int (own_rng (97 : Int32) (122 : Int32) cc)), .val (.int (own_rng (65 : Int32) (90 : Int32) cc)), .val (.int (own_rng (48 : Int32) (57 : Int32) cc)), .val (.int (own_is (95 : Int32) cc)), .unset] [])
            refine own_go (fun _ k => XS.iconst X0.here hx rfl (hb hby at_96) k) ?_
            show own_Ends _ _ _ _ _ _ _ s₁ (mkF m 97 #[.val (.int p0), .val (.int cc), .val (.int (own_rng (97 : Int32) (122 : Int32) cc)), .val (.int (own_rng (65 : Int32) (90 : Int32) cc)), .val (.int (own_rng (48 : Int32) (57 : Int32) cc)), .val (.int (own_is (95 : Int32) cc)), .unset] [(.int (0 : Int32))])
            refine own_go (fun _ k => XS.istore X0.here hx rfl (hb hby at_97) rfl (l' := #[.val (.int p0), .val (.int cc), .val (.int (own_rng (97 : Int32) (122 : Int32) cc)), .val (.int (own_rng (65 : Int32) (90 : Int32) cc)), .val (.int (own_rng (48 : Int32) (57 : Int32) cc)), .val (.int (own_is (95 : Int32) cc)), .val (.int (0 : Int32))]) rfl k) ?_
            show own_Ends _ _ _ _ _ _ _ s₁ (mkF m 99 #[.val (.int p0), .val (.int cc), .val (.int (own_rng (97 : Int32) (122 : Int32) cc)), .val (.int (own_rng (65 : Int32) (90 : Int32) cc)), .val (.int (own_rng (48 : Int32) (57 : Int32) cc)), .val (.int (own_is (95 : Int32) cc)), .val (.int (0 : Int32))] [])
            rw [show own_nm cc = 0 from (by rw [own_nm, own_any, if_pos a1, if_pos a2, if_pos a3, if_pos a4])] at K99
            exact K99
          · refine own_go (fun _ k => XS.ifNo X0.here hx rfl (hb hby at_89) rfl ((if0 _ _).trans (feq a4).1) k) ?_
            show own_Ends _ _ _ _ _ _ _ s₁ (mkF m 92 #[.val (.int p0), .val (.int cc), .val (.int (own_rng (97 : Int32) (122 : Int32) cc)), .val (.int (own_rng (65 : Int32) (90 : Int32) cc)), .val (.int (own_rng (48 : Int32) (57 : Int32) cc)), .val (.int (own_is (95 : Int32) cc)), .unset] [])
            refine own_go (fun _ k => XS.iconst X0.here hx rfl (hb hby at_92) k) ?_
            show own_Ends _ _ _ _ _ _ _ s₁ (mkF m 93 #[.val (.int p0), .val (.int cc), .val (.int (own_rng (97 : Int32) (122 : Int32) cc)), .val (.int (own_rng (65 : Int32) (90 : Int32) cc)), .val (.int (own_rng (48 : Int32) (57 : Int32) cc)), .val (.int (own_is (95 : Int32) cc)), .unset] [(.int (1 : Int32))])
            refine own_go (fun _ k => XS.goto X0.here hx rfl (pc0 := 93) (pc' := 97) rfl (hb hby at_93) (by decide) (by decide) k) ?_
            show own_Ends _ _ _ _ _ _ _ s₁ (mkF m 97 #[.val (.int p0), .val (.int cc), .val (.int (own_rng (97 : Int32) (122 : Int32) cc)), .val (.int (own_rng (65 : Int32) (90 : Int32) cc)), .val (.int (own_rng (48 : Int32) (57 : Int32) cc)), .val (.int (own_is (95 : Int32) cc)), .unset] [(.int (1 : Int32))])
            refine own_go (fun _ k => XS.istore X0.here hx rfl (hb hby at_97) rfl (l' := #[.val (.int p0), .val (.int cc), .val (.int (own_rng (97 : Int32) (122 : Int32) cc)), .val (.int (own_rng (65 : Int32) (90 : Int32) cc)), .val (.int (own_rng (48 : Int32) (57 : Int32) cc)), .val (.int (own_is (95 : Int32) cc)), .val (.int (1 : Int32))]) rfl k) ?_
            show own_Ends _ _ _ _ _ _ _ s₁ (mkF m 99 #[.val (.int p0), .val (.int cc), .val (.int (own_rng (97 : Int32) (122 : Int32) cc)), .val (.int (own_rng (65 : Int32) (90 : Int32) cc)), .val (.int (own_rng (48 : Int32) (57 : Int32) cc)), .val (.int (own_is (95 : Int32) cc)), .val (.int (1 : Int32))] [])
            rw [show own_nm cc = 1 from (by rw [own_nm, own_any, if_pos a1, if_pos a2, if_pos a3, if_neg a4])] at K99
            exact K99
        · refine own_go (fun _ k => XS.ifYes X0.here hx rfl (pc0 := 84) (pc' := 92) rfl (hb hby at_84) rfl ((if0 _ _).trans (feq a3).2) (by decide) (by decide) k) ?_
          show own_Ends _ _ _ _ _ _ _ s₁ (mkF m 92 #[.val (.int p0), .val (.int cc), .val (.int (own_rng (97 : Int32) (122 : Int32) cc)), .val (.int (own_rng (65 : Int32) (90 : Int32) cc)), .val (.int (own_rng (48 : Int32) (57 : Int32) cc)), .val (.int (own_is (95 : Int32) cc)), .unset] [])
          refine own_go (fun _ k => XS.iconst X0.here hx rfl (hb hby at_92) k) ?_
          show own_Ends _ _ _ _ _ _ _ s₁ (mkF m 93 #[.val (.int p0), .val (.int cc), .val (.int (own_rng (97 : Int32) (122 : Int32) cc)), .val (.int (own_rng (65 : Int32) (90 : Int32) cc)), .val (.int (own_rng (48 : Int32) (57 : Int32) cc)), .val (.int (own_is (95 : Int32) cc)), .unset] [(.int (1 : Int32))])
          refine own_go (fun _ k => XS.goto X0.here hx rfl (pc0 := 93) (pc' := 97) rfl (hb hby at_93) (by decide) (by decide) k) ?_
          show own_Ends _ _ _ _ _ _ _ s₁ (mkF m 97 #[.val (.int p0), .val (.int cc), .val (.int (own_rng (97 : Int32) (122 : Int32) cc)), .val (.int (own_rng (65 : Int32) (90 : Int32) cc)), .val (.int (own_rng (48 : Int32) (57 : Int32) cc)), .val (.int (own_is (95 : Int32) cc)), .unset] [(.int (1 : Int32))])
          refine own_go (fun _ k => XS.istore X0.here hx rfl (hb hby at_97) rfl (l' := #[.val (.int p0), .val (.int cc), .val (.int (own_rng (97 : Int32) (122 : Int32) cc)), .val (.int (own_rng (65 : Int32) (90 : Int32) cc)), .val (.int (own_rng (48 : Int32) (57 : Int32) cc)), .val (.int (own_is (95 : Int32) cc)), .val (.int (1 : Int32))]) rfl k) ?_
          show own_Ends _ _ _ _ _ _ _ s₁ (mkF m 99 #[.val (.int p0), .val (.int cc), .val (.int (own_rng (97 : Int32) (122 : Int32) cc)), .val (.int (own_rng (65 : Int32) (90 : Int32) cc)), .val (.int (own_rng (48 : Int32) (57 : Int32) cc)), .val (.int (own_is (95 : Int32) cc)), .val (.int (1 : Int32))] [])
          rw [show own_nm cc = 1 from (by rw [own_nm, own_any, if_pos a1, if_pos a2, if_neg a3])] at K99
          exact K99
      · refine own_go (fun _ k => XS.ifYes X0.here hx rfl (pc0 := 79) (pc' := 92) rfl (hb hby at_79) rfl ((if0 _ _).trans (feq a2).2) (by decide) (by decide) k) ?_
        show own_Ends _ _ _ _ _ _ _ s₁ (mkF m 92 #[.val (.int p0), .val (.int cc), .val (.int (own_rng (97 : Int32) (122 : Int32) cc)), .val (.int (own_rng (65 : Int32) (90 : Int32) cc)), .val (.int (own_rng (48 : Int32) (57 : Int32) cc)), .val (.int (own_is (95 : Int32) cc)), .unset] [])
        refine own_go (fun _ k => XS.iconst X0.here hx rfl (hb hby at_92) k) ?_
        show own_Ends _ _ _ _ _ _ _ s₁ (mkF m 93 #[.val (.int p0), .val (.int cc), .val (.int (own_rng (97 : Int32) (122 : Int32) cc)), .val (.int (own_rng (65 : Int32) (90 : Int32) cc)), .val (.int (own_rng (48 : Int32) (57 : Int32) cc)), .val (.int (own_is (95 : Int32) cc)), .unset] [(.int (1 : Int32))])
        refine own_go (fun _ k => XS.goto X0.here hx rfl (pc0 := 93) (pc' := 97) rfl (hb hby at_93) (by decide) (by decide) k) ?_
        show own_Ends _ _ _ _ _ _ _ s₁ (mkF m 97 #[.val (.int p0), .val (.int cc), .val (.int (own_rng (97 : Int32) (122 : Int32) cc)), .val (.int (own_rng (65 : Int32) (90 : Int32) cc)), .val (.int (own_rng (48 : Int32) (57 : Int32) cc)), .val (.int (own_is (95 : Int32) cc)), .unset] [(.int (1 : Int32))])
        refine own_go (fun _ k => XS.istore X0.here hx rfl (hb hby at_97) rfl (l' := #[.val (.int p0), .val (.int cc), .val (.int (own_rng (97 : Int32) (122 : Int32) cc)), .val (.int (own_rng (65 : Int32) (90 : Int32) cc)), .val (.int (own_rng (48 : Int32) (57 : Int32) cc)), .val (.int (own_is (95 : Int32) cc)), .val (.int (1 : Int32))]) rfl k) ?_
        show own_Ends _ _ _ _ _ _ _ s₁ (mkF m 99 #[.val (.int p0), .val (.int cc), .val (.int (own_rng (97 : Int32) (122 : Int32) cc)), .val (.int (own_rng (65 : Int32) (90 : Int32) cc)), .val (.int (own_rng (48 : Int32) (57 : Int32) cc)), .val (.int (own_is (95 : Int32) cc)), .val (.int (1 : Int32))] [])
        rw [show own_nm cc = 1 from (by rw [own_nm, own_any, if_pos a1, if_neg a2])] at K99
        exact K99
    · refine own_go (fun _ k => XS.ifYes X0.here hx rfl (pc0 := 75) (pc' := 92) rfl (hb hby at_75) rfl ((if0 _ _).trans (feq a1).2) (by decide) (by decide) k) ?_
      show own_Ends _ _ _ _ _ _ _ s₁ (mkF m 92 #[.val (.int p0), .val (.int cc), .val (.int (own_rng (97 : Int32) (122 : Int32) cc)), .val (.int (own_rng (65 : Int32) (90 : Int32) cc)), .val (.int (own_rng (48 : Int32) (57 : Int32) cc)), .val (.int (own_is (95 : Int32) cc)), .unset] [])
      refine own_go (fun _ k => XS.iconst X0.here hx rfl (hb hby at_92) k) ?_
      show own_Ends _ _ _ _ _ _ _ s₁ (mkF m 93 #[.val (.int p0), .val (.int cc), .val (.int (own_rng (97 : Int32) (122 : Int32) cc)), .val (.int (own_rng (65 : Int32) (90 : Int32) cc)), .val (.int (own_rng (48 : Int32) (57 : Int32) cc)), .val (.int (own_is (95 : Int32) cc)), .unset] [(.int (1 : Int32))])
      refine own_go (fun _ k => XS.goto X0.here hx rfl (pc0 := 93) (pc' := 97) rfl (hb hby at_93) (by decide) (by decide) k) ?_
      show own_Ends _ _ _ _ _ _ _ s₁ (mkF m 97 #[.val (.int p0), .val (.int cc), .val (.int (own_rng (97 : Int32) (122 : Int32) cc)), .val (.int (own_rng (65 : Int32) (90 : Int32) cc)), .val (.int (own_rng (48 : Int32) (57 : Int32) cc)), .val (.int (own_is (95 : Int32) cc)), .unset] [(.int (1 : Int32))])
      refine own_go (fun _ k => XS.istore X0.here hx rfl (hb hby at_97) rfl (l' := #[.val (.int p0), .val (.int cc), .val (.int (own_rng (97 : Int32) (122 : Int32) cc)), .val (.int (own_rng (65 : Int32) (90 : Int32) cc)), .val (.int (own_rng (48 : Int32) (57 : Int32) cc)), .val (.int (own_is (95 : Int32) cc)), .val (.int (1 : Int32))]) rfl k) ?_
      show own_Ends _ _ _ _ _ _ _ s₁ (mkF m 99 #[.val (.int p0), .val (.int cc), .val (.int (own_rng (97 : Int32) (122 : Int32) cc)), .val (.int (own_rng (65 : Int32) (90 : Int32) cc)), .val (.int (own_rng (48 : Int32) (57 : Int32) cc)), .val (.int (own_is (95 : Int32) cc)), .val (.int (1 : Int32))] [])
      rw [show own_nm cc = 1 from if_neg a1] at K99
      exact K99
  have K61 : own_Ends p e s below room_1.cells room_1.slots (fun v h L => v = some (.int 1) ∧ Fr h0.size L) s₁ (mkF m 61 #[.val (.int p0), .val (.int cc), .val (.int (own_rng (97 : Int32) (122 : Int32) cc)), .val (.int (own_rng (65 : Int32) (90 : Int32) cc)), .val (.int (own_rng (48 : Int32) (57 : Int32) cc)), .unset, .unset] []) := by
    show own_Ends _ _ _ _ _ _ _ s₁ (mkF m 61 #[.val (.int p0), .val (.int cc), .val (.int (own_rng (97 : Int32) (122 : Int32) cc)), .val (.int (own_rng (65 : Int32) (90 : Int32) cc)), .val (.int (own_rng (48 : Int32) (57 : Int32) cc)), .unset, .unset] [])
    refine own_go (fun _ k => XS.iloadN X0.here hx rfl (hb hby at_61) rfl k) ?_
    show own_Ends _ _ _ _ _ _ _ s₁ (mkF m 62 #[.val (.int p0), .val (.int cc), .val (.int (own_rng (97 : Int32) (122 : Int32) cc)), .val (.int (own_rng (65 : Int32) (90 : Int32) cc)), .val (.int (own_rng (48 : Int32) (57 : Int32) cc)), .unset, .unset] [(.int cc)])
    refine own_go (fun _ k => XS.bipush X0.here hx rfl (hb hby at_62) k) ?_
    show own_Ends _ _ _ _ _ _ _ s₁ (mkF m 64 #[.val (.int p0), .val (.int cc), .val (.int (own_rng (97 : Int32) (122 : Int32) cc)), .val (.int (own_rng (65 : Int32) (90 : Int32) cc)), .val (.int (own_rng (48 : Int32) (57 : Int32) cc)), .unset, .unset] [(.int (95 : Int32)), (.int cc)])
    by_cases a1 : cc = (95 : Int32)
    · refine own_go (fun _ k => XS.icmpNo X0.here hx rfl (hb hby at_64) rfl (teq a1).2 k) ?_
      show own_Ends _ _ _ _ _ _ _ s₁ (mkF m 67 #[.val (.int p0), .val (.int cc), .val (.int (own_rng (97 : Int32) (122 : Int32) cc)), .val (.int (own_rng (65 : Int32) (90 : Int32) cc)), .val (.int (own_rng (48 : Int32) (57 : Int32) cc)), .unset, .unset] [])
      refine own_go (fun _ k => XS.iconst X0.here hx rfl (hb hby at_67) k) ?_
      show own_Ends _ _ _ _ _ _ _ s₁ (mkF m 68 #[.val (.int p0), .val (.int cc), .val (.int (own_rng (97 : Int32) (122 : Int32) cc)), .val (.int (own_rng (65 : Int32) (90 : Int32) cc)), .val (.int (own_rng (48 : Int32) (57 : Int32) cc)), .unset, .unset] [(.int (1 : Int32))])
      refine own_go (fun _ k => XS.goto X0.here hx rfl (pc0 := 68) (pc' := 72) rfl (hb hby at_68) (by decide) (by decide) k) ?_
      show own_Ends _ _ _ _ _ _ _ s₁ (mkF m 72 #[.val (.int p0), .val (.int cc), .val (.int (own_rng (97 : Int32) (122 : Int32) cc)), .val (.int (own_rng (65 : Int32) (90 : Int32) cc)), .val (.int (own_rng (48 : Int32) (57 : Int32) cc)), .unset, .unset] [(.int (1 : Int32))])
      refine own_go (fun _ k => XS.istore X0.here hx rfl (hb hby at_72) rfl (l' := #[.val (.int p0), .val (.int cc), .val (.int (own_rng (97 : Int32) (122 : Int32) cc)), .val (.int (own_rng (65 : Int32) (90 : Int32) cc)), .val (.int (own_rng (48 : Int32) (57 : Int32) cc)), .val (.int (1 : Int32)), .unset]) rfl k) ?_
      show own_Ends _ _ _ _ _ _ _ s₁ (mkF m 74 #[.val (.int p0), .val (.int cc), .val (.int (own_rng (97 : Int32) (122 : Int32) cc)), .val (.int (own_rng (65 : Int32) (90 : Int32) cc)), .val (.int (own_rng (48 : Int32) (57 : Int32) cc)), .val (.int (1 : Int32)), .unset] [])
      rw [show (own_is (95 : Int32) cc) = 1 from if_pos a1] at K74
      exact K74
    · refine own_go (fun _ k => XS.icmpYes X0.here hx rfl (pc0 := 64) (pc' := 71) rfl (hb hby at_64) rfl (feq a1).2 (by decide) (by decide) k) ?_
      show own_Ends _ _ _ _ _ _ _ s₁ (mkF m 71 #[.val (.int p0), .val (.int cc), .val (.int (own_rng (97 : Int32) (122 : Int32) cc)), .val (.int (own_rng (65 : Int32) (90 : Int32) cc)), .val (.int (own_rng (48 : Int32) (57 : Int32) cc)), .unset, .unset] [])
      refine own_go (fun _ k => XS.iconst X0.here hx rfl (hb hby at_71) k) ?_
      show own_Ends _ _ _ _ _ _ _ s₁ (mkF m 72 #[.val (.int p0), .val (.int cc), .val (.int (own_rng (97 : Int32) (122 : Int32) cc)), .val (.int (own_rng (65 : Int32) (90 : Int32) cc)), .val (.int (own_rng (48 : Int32) (57 : Int32) cc)), .unset, .unset] [(.int (0 : Int32))])
      refine own_go (fun _ k => XS.istore X0.here hx rfl (hb hby at_72) rfl (l' := #[.val (.int p0), .val (.int cc), .val (.int (own_rng (97 : Int32) (122 : Int32) cc)), .val (.int (own_rng (65 : Int32) (90 : Int32) cc)), .val (.int (own_rng (48 : Int32) (57 : Int32) cc)), .val (.int (0 : Int32)), .unset]) rfl k) ?_
      show own_Ends _ _ _ _ _ _ _ s₁ (mkF m 74 #[.val (.int p0), .val (.int cc), .val (.int (own_rng (97 : Int32) (122 : Int32) cc)), .val (.int (own_rng (65 : Int32) (90 : Int32) cc)), .val (.int (own_rng (48 : Int32) (57 : Int32) cc)), .val (.int (0 : Int32)), .unset] [])
      rw [show (own_is (95 : Int32) cc) = 0 from if_neg a1] at K74
      exact K74
  have K42 : own_Ends p e s below room_1.cells room_1.slots (fun v h L => v = some (.int 1) ∧ Fr h0.size L) s₁ (mkF m 42 #[.val (.int p0), .val (.int cc), .val (.int (own_rng (97 : Int32) (122 : Int32) cc)), .val (.int (own_rng (65 : Int32) (90 : Int32) cc)), .unset, .unset, .unset] []) := by
    show own_Ends _ _ _ _ _ _ _ s₁ (mkF m 42 #[.val (.int p0), .val (.int cc), .val (.int (own_rng (97 : Int32) (122 : Int32) cc)), .val (.int (own_rng (65 : Int32) (90 : Int32) cc)), .unset, .unset, .unset] [])
    refine own_go (fun _ k => XS.iloadN X0.here hx rfl (hb hby at_42) rfl k) ?_
    show own_Ends _ _ _ _ _ _ _ s₁ (mkF m 43 #[.val (.int p0), .val (.int cc), .val (.int (own_rng (97 : Int32) (122 : Int32) cc)), .val (.int (own_rng (65 : Int32) (90 : Int32) cc)), .unset, .unset, .unset] [(.int cc)])
    refine own_go (fun _ k => XS.bipush X0.here hx rfl (hb hby at_43) k) ?_
    show own_Ends _ _ _ _ _ _ _ s₁ (mkF m 45 #[.val (.int p0), .val (.int cc), .val (.int (own_rng (97 : Int32) (122 : Int32) cc)), .val (.int (own_rng (65 : Int32) (90 : Int32) cc)), .unset, .unset, .unset] [(.int (48 : Int32)), (.int cc)])
    by_cases a1 : cc < (48 : Int32)
    · refine own_go (fun _ k => XS.icmpYes X0.here hx rfl (pc0 := 45) (pc' := 58) rfl (hb hby at_45) rfl (tlt a1).1 (by decide) (by decide) k) ?_
      show own_Ends _ _ _ _ _ _ _ s₁ (mkF m 58 #[.val (.int p0), .val (.int cc), .val (.int (own_rng (97 : Int32) (122 : Int32) cc)), .val (.int (own_rng (65 : Int32) (90 : Int32) cc)), .unset, .unset, .unset] [])
      refine own_go (fun _ k => XS.iconst X0.here hx rfl (hb hby at_58) k) ?_
      show own_Ends _ _ _ _ _ _ _ s₁ (mkF m 59 #[.val (.int p0), .val (.int cc), .val (.int (own_rng (97 : Int32) (122 : Int32) cc)), .val (.int (own_rng (65 : Int32) (90 : Int32) cc)), .unset, .unset, .unset] [(.int (0 : Int32))])
      refine own_go (fun _ k => XS.istore X0.here hx rfl (hb hby at_59) rfl (l' := #[.val (.int p0), .val (.int cc), .val (.int (own_rng (97 : Int32) (122 : Int32) cc)), .val (.int (own_rng (65 : Int32) (90 : Int32) cc)), .val (.int (0 : Int32)), .unset, .unset]) rfl k) ?_
      show own_Ends _ _ _ _ _ _ _ s₁ (mkF m 61 #[.val (.int p0), .val (.int cc), .val (.int (own_rng (97 : Int32) (122 : Int32) cc)), .val (.int (own_rng (65 : Int32) (90 : Int32) cc)), .val (.int (0 : Int32)), .unset, .unset] [])
      rw [show (own_rng (48 : Int32) (57 : Int32) cc) = 0 from if_pos a1] at K61
      exact K61
    · refine own_go (fun _ k => XS.icmpNo X0.here hx rfl (hb hby at_45) rfl (flt a1).1 k) ?_
      show own_Ends _ _ _ _ _ _ _ s₁ (mkF m 48 #[.val (.int p0), .val (.int cc), .val (.int (own_rng (97 : Int32) (122 : Int32) cc)), .val (.int (own_rng (65 : Int32) (90 : Int32) cc)), .unset, .unset, .unset] [])
      refine own_go (fun _ k => XS.iloadN X0.here hx rfl (hb hby at_48) rfl k) ?_
      show own_Ends _ _ _ _ _ _ _ s₁ (mkF m 49 #[.val (.int p0), .val (.int cc), .val (.int (own_rng (97 : Int32) (122 : Int32) cc)), .val (.int (own_rng (65 : Int32) (90 : Int32) cc)), .unset, .unset, .unset] [(.int cc)])
      refine own_go (fun _ k => XS.bipush X0.here hx rfl (hb hby at_49) k) ?_
      show own_Ends _ _ _ _ _ _ _ s₁ (mkF m 51 #[.val (.int p0), .val (.int cc), .val (.int (own_rng (97 : Int32) (122 : Int32) cc)), .val (.int (own_rng (65 : Int32) (90 : Int32) cc)), .unset, .unset, .unset] [(.int (57 : Int32)), (.int cc)])
      by_cases a2 : (57 : Int32) < cc
      · refine own_go (fun _ k => XS.icmpYes X0.here hx rfl (pc0 := 51) (pc' := 58) rfl (hb hby at_51) rfl (tlt a2).2.2.1 (by decide) (by decide) k) ?_
        show own_Ends _ _ _ _ _ _ _ s₁ (mkF m 58 #[.val (.int p0), .val (.int cc), .val (.int (own_rng (97 : Int32) (122 : Int32) cc)), .val (.int (own_rng (65 : Int32) (90 : Int32) cc)), .unset, .unset, .unset] [])
        refine own_go (fun _ k => XS.iconst X0.here hx rfl (hb hby at_58) k) ?_
        show own_Ends _ _ _ _ _ _ _ s₁ (mkF m 59 #[.val (.int p0), .val (.int cc), .val (.int (own_rng (97 : Int32) (122 : Int32) cc)), .val (.int (own_rng (65 : Int32) (90 : Int32) cc)), .unset, .unset, .unset] [(.int (0 : Int32))])
        refine own_go (fun _ k => XS.istore X0.here hx rfl (hb hby at_59) rfl (l' := #[.val (.int p0), .val (.int cc), .val (.int (own_rng (97 : Int32) (122 : Int32) cc)), .val (.int (own_rng (65 : Int32) (90 : Int32) cc)), .val (.int (0 : Int32)), .unset, .unset]) rfl k) ?_
        show own_Ends _ _ _ _ _ _ _ s₁ (mkF m 61 #[.val (.int p0), .val (.int cc), .val (.int (own_rng (97 : Int32) (122 : Int32) cc)), .val (.int (own_rng (65 : Int32) (90 : Int32) cc)), .val (.int (0 : Int32)), .unset, .unset] [])
        rw [show (own_rng (48 : Int32) (57 : Int32) cc) = 0 from (by rw [own_rng, if_neg a1, if_pos a2])] at K61
        exact K61
      · refine own_go (fun _ k => XS.icmpNo X0.here hx rfl (hb hby at_51) rfl (flt a2).2.2.1 k) ?_
        show own_Ends _ _ _ _ _ _ _ s₁ (mkF m 54 #[.val (.int p0), .val (.int cc), .val (.int (own_rng (97 : Int32) (122 : Int32) cc)), .val (.int (own_rng (65 : Int32) (90 : Int32) cc)), .unset, .unset, .unset] [])
        refine own_go (fun _ k => XS.iconst X0.here hx rfl (hb hby at_54) k) ?_
        show own_Ends _ _ _ _ _ _ _ s₁ (mkF m 55 #[.val (.int p0), .val (.int cc), .val (.int (own_rng (97 : Int32) (122 : Int32) cc)), .val (.int (own_rng (65 : Int32) (90 : Int32) cc)), .unset, .unset, .unset] [(.int (1 : Int32))])
        refine own_go (fun _ k => XS.goto X0.here hx rfl (pc0 := 55) (pc' := 59) rfl (hb hby at_55) (by decide) (by decide) k) ?_
        show own_Ends _ _ _ _ _ _ _ s₁ (mkF m 59 #[.val (.int p0), .val (.int cc), .val (.int (own_rng (97 : Int32) (122 : Int32) cc)), .val (.int (own_rng (65 : Int32) (90 : Int32) cc)), .unset, .unset, .unset] [(.int (1 : Int32))])
        refine own_go (fun _ k => XS.istore X0.here hx rfl (hb hby at_59) rfl (l' := #[.val (.int p0), .val (.int cc), .val (.int (own_rng (97 : Int32) (122 : Int32) cc)), .val (.int (own_rng (65 : Int32) (90 : Int32) cc)), .val (.int (1 : Int32)), .unset, .unset]) rfl k) ?_
        show own_Ends _ _ _ _ _ _ _ s₁ (mkF m 61 #[.val (.int p0), .val (.int cc), .val (.int (own_rng (97 : Int32) (122 : Int32) cc)), .val (.int (own_rng (65 : Int32) (90 : Int32) cc)), .val (.int (1 : Int32)), .unset, .unset] [])
        rw [show (own_rng (48 : Int32) (57 : Int32) cc) = 1 from (by rw [own_rng, if_neg a1, if_neg a2])] at K61
        exact K61
  have K24 : own_Ends p e s below room_1.cells room_1.slots (fun v h L => v = some (.int 1) ∧ Fr h0.size L) s₁ (mkF m 24 #[.val (.int p0), .val (.int cc), .val (.int (own_rng (97 : Int32) (122 : Int32) cc)), .unset, .unset, .unset, .unset] []) := by
    show own_Ends _ _ _ _ _ _ _ s₁ (mkF m 24 #[.val (.int p0), .val (.int cc), .val (.int (own_rng (97 : Int32) (122 : Int32) cc)), .unset, .unset, .unset, .unset] [])
    refine own_go (fun _ k => XS.iloadN X0.here hx rfl (hb hby at_24) rfl k) ?_
    show own_Ends _ _ _ _ _ _ _ s₁ (mkF m 25 #[.val (.int p0), .val (.int cc), .val (.int (own_rng (97 : Int32) (122 : Int32) cc)), .unset, .unset, .unset, .unset] [(.int cc)])
    refine own_go (fun _ k => XS.bipush X0.here hx rfl (hb hby at_25) k) ?_
    show own_Ends _ _ _ _ _ _ _ s₁ (mkF m 27 #[.val (.int p0), .val (.int cc), .val (.int (own_rng (97 : Int32) (122 : Int32) cc)), .unset, .unset, .unset, .unset] [(.int (65 : Int32)), (.int cc)])
    by_cases a1 : cc < (65 : Int32)
    · refine own_go (fun _ k => XS.icmpYes X0.here hx rfl (pc0 := 27) (pc' := 40) rfl (hb hby at_27) rfl (tlt a1).1 (by decide) (by decide) k) ?_
      show own_Ends _ _ _ _ _ _ _ s₁ (mkF m 40 #[.val (.int p0), .val (.int cc), .val (.int (own_rng (97 : Int32) (122 : Int32) cc)), .unset, .unset, .unset, .unset] [])
      refine own_go (fun _ k => XS.iconst X0.here hx rfl (hb hby at_40) k) ?_
      show own_Ends _ _ _ _ _ _ _ s₁ (mkF m 41 #[.val (.int p0), .val (.int cc), .val (.int (own_rng (97 : Int32) (122 : Int32) cc)), .unset, .unset, .unset, .unset] [(.int (0 : Int32))])
      refine own_go (fun _ k => XS.istoreN X0.here hx rfl (hb hby at_41) rfl (l' := #[.val (.int p0), .val (.int cc), .val (.int (own_rng (97 : Int32) (122 : Int32) cc)), .val (.int (0 : Int32)), .unset, .unset, .unset]) rfl k) ?_
      show own_Ends _ _ _ _ _ _ _ s₁ (mkF m 42 #[.val (.int p0), .val (.int cc), .val (.int (own_rng (97 : Int32) (122 : Int32) cc)), .val (.int (0 : Int32)), .unset, .unset, .unset] [])
      rw [show (own_rng (65 : Int32) (90 : Int32) cc) = 0 from if_pos a1] at K42
      exact K42
    · refine own_go (fun _ k => XS.icmpNo X0.here hx rfl (hb hby at_27) rfl (flt a1).1 k) ?_
      show own_Ends _ _ _ _ _ _ _ s₁ (mkF m 30 #[.val (.int p0), .val (.int cc), .val (.int (own_rng (97 : Int32) (122 : Int32) cc)), .unset, .unset, .unset, .unset] [])
      refine own_go (fun _ k => XS.iloadN X0.here hx rfl (hb hby at_30) rfl k) ?_
      show own_Ends _ _ _ _ _ _ _ s₁ (mkF m 31 #[.val (.int p0), .val (.int cc), .val (.int (own_rng (97 : Int32) (122 : Int32) cc)), .unset, .unset, .unset, .unset] [(.int cc)])
      refine own_go (fun _ k => XS.bipush X0.here hx rfl (hb hby at_31) k) ?_
      show own_Ends _ _ _ _ _ _ _ s₁ (mkF m 33 #[.val (.int p0), .val (.int cc), .val (.int (own_rng (97 : Int32) (122 : Int32) cc)), .unset, .unset, .unset, .unset] [(.int (90 : Int32)), (.int cc)])
      by_cases a2 : (90 : Int32) < cc
      · refine own_go (fun _ k => XS.icmpYes X0.here hx rfl (pc0 := 33) (pc' := 40) rfl (hb hby at_33) rfl (tlt a2).2.2.1 (by decide) (by decide) k) ?_
        show own_Ends _ _ _ _ _ _ _ s₁ (mkF m 40 #[.val (.int p0), .val (.int cc), .val (.int (own_rng (97 : Int32) (122 : Int32) cc)), .unset, .unset, .unset, .unset] [])
        refine own_go (fun _ k => XS.iconst X0.here hx rfl (hb hby at_40) k) ?_
        show own_Ends _ _ _ _ _ _ _ s₁ (mkF m 41 #[.val (.int p0), .val (.int cc), .val (.int (own_rng (97 : Int32) (122 : Int32) cc)), .unset, .unset, .unset, .unset] [(.int (0 : Int32))])
        refine own_go (fun _ k => XS.istoreN X0.here hx rfl (hb hby at_41) rfl (l' := #[.val (.int p0), .val (.int cc), .val (.int (own_rng (97 : Int32) (122 : Int32) cc)), .val (.int (0 : Int32)), .unset, .unset, .unset]) rfl k) ?_
        show own_Ends _ _ _ _ _ _ _ s₁ (mkF m 42 #[.val (.int p0), .val (.int cc), .val (.int (own_rng (97 : Int32) (122 : Int32) cc)), .val (.int (0 : Int32)), .unset, .unset, .unset] [])
        rw [show (own_rng (65 : Int32) (90 : Int32) cc) = 0 from (by rw [own_rng, if_neg a1, if_pos a2])] at K42
        exact K42
      · refine own_go (fun _ k => XS.icmpNo X0.here hx rfl (hb hby at_33) rfl (flt a2).2.2.1 k) ?_
        show own_Ends _ _ _ _ _ _ _ s₁ (mkF m 36 #[.val (.int p0), .val (.int cc), .val (.int (own_rng (97 : Int32) (122 : Int32) cc)), .unset, .unset, .unset, .unset] [])
        refine own_go (fun _ k => XS.iconst X0.here hx rfl (hb hby at_36) k) ?_
        show own_Ends _ _ _ _ _ _ _ s₁ (mkF m 37 #[.val (.int p0), .val (.int cc), .val (.int (own_rng (97 : Int32) (122 : Int32) cc)), .unset, .unset, .unset, .unset] [(.int (1 : Int32))])
        refine own_go (fun _ k => XS.goto X0.here hx rfl (pc0 := 37) (pc' := 41) rfl (hb hby at_37) (by decide) (by decide) k) ?_
        show own_Ends _ _ _ _ _ _ _ s₁ (mkF m 41 #[.val (.int p0), .val (.int cc), .val (.int (own_rng (97 : Int32) (122 : Int32) cc)), .unset, .unset, .unset, .unset] [(.int (1 : Int32))])
        refine own_go (fun _ k => XS.istoreN X0.here hx rfl (hb hby at_41) rfl (l' := #[.val (.int p0), .val (.int cc), .val (.int (own_rng (97 : Int32) (122 : Int32) cc)), .val (.int (1 : Int32)), .unset, .unset, .unset]) rfl k) ?_
        show own_Ends _ _ _ _ _ _ _ s₁ (mkF m 42 #[.val (.int p0), .val (.int cc), .val (.int (own_rng (97 : Int32) (122 : Int32) cc)), .val (.int (1 : Int32)), .unset, .unset, .unset] [])
        rw [show (own_rng (65 : Int32) (90 : Int32) cc) = 1 from (by rw [own_rng, if_neg a1, if_neg a2])] at K42
        exact K42
  refine own_go (fun _ k => XS.iloadN X0.here hx rfl (hb hby at_6) rfl k) ?_
  show own_Ends _ _ _ _ _ _ _ s₁ (mkF m 7 #[.val (.int p0), .val (.int cc), .unset, .unset, .unset, .unset, .unset] [(.int cc)])
  refine own_go (fun _ k => XS.bipush X0.here hx rfl (hb hby at_7) k) ?_
  show own_Ends _ _ _ _ _ _ _ s₁ (mkF m 9 #[.val (.int p0), .val (.int cc), .unset, .unset, .unset, .unset, .unset] [(.int (97 : Int32)), (.int cc)])
  by_cases a1 : cc < (97 : Int32)
  · refine own_go (fun _ k => XS.icmpYes X0.here hx rfl (pc0 := 9) (pc' := 22) rfl (hb hby at_9) rfl (tlt a1).1 (by decide) (by decide) k) ?_
    show own_Ends _ _ _ _ _ _ _ s₁ (mkF m 22 #[.val (.int p0), .val (.int cc), .unset, .unset, .unset, .unset, .unset] [])
    refine own_go (fun _ k => XS.iconst X0.here hx rfl (hb hby at_22) k) ?_
    show own_Ends _ _ _ _ _ _ _ s₁ (mkF m 23 #[.val (.int p0), .val (.int cc), .unset, .unset, .unset, .unset, .unset] [(.int (0 : Int32))])
    refine own_go (fun _ k => XS.istoreN X0.here hx rfl (hb hby at_23) rfl (l' := #[.val (.int p0), .val (.int cc), .val (.int (0 : Int32)), .unset, .unset, .unset, .unset]) rfl k) ?_
    show own_Ends _ _ _ _ _ _ _ s₁ (mkF m 24 #[.val (.int p0), .val (.int cc), .val (.int (0 : Int32)), .unset, .unset, .unset, .unset] [])
    rw [show (own_rng (97 : Int32) (122 : Int32) cc) = 0 from if_pos a1] at K24
    exact K24
  · refine own_go (fun _ k => XS.icmpNo X0.here hx rfl (hb hby at_9) rfl (flt a1).1 k) ?_
    show own_Ends _ _ _ _ _ _ _ s₁ (mkF m 12 #[.val (.int p0), .val (.int cc), .unset, .unset, .unset, .unset, .unset] [])
    refine own_go (fun _ k => XS.iloadN X0.here hx rfl (hb hby at_12) rfl k) ?_
    show own_Ends _ _ _ _ _ _ _ s₁ (mkF m 13 #[.val (.int p0), .val (.int cc), .unset, .unset, .unset, .unset, .unset] [(.int cc)])
    refine own_go (fun _ k => XS.bipush X0.here hx rfl (hb hby at_13) k) ?_
    show own_Ends _ _ _ _ _ _ _ s₁ (mkF m 15 #[.val (.int p0), .val (.int cc), .unset, .unset, .unset, .unset, .unset] [(.int (122 : Int32)), (.int cc)])
    by_cases a2 : (122 : Int32) < cc
    · refine own_go (fun _ k => XS.icmpYes X0.here hx rfl (pc0 := 15) (pc' := 22) rfl (hb hby at_15) rfl (tlt a2).2.2.1 (by decide) (by decide) k) ?_
      show own_Ends _ _ _ _ _ _ _ s₁ (mkF m 22 #[.val (.int p0), .val (.int cc), .unset, .unset, .unset, .unset, .unset] [])
      refine own_go (fun _ k => XS.iconst X0.here hx rfl (hb hby at_22) k) ?_
      show own_Ends _ _ _ _ _ _ _ s₁ (mkF m 23 #[.val (.int p0), .val (.int cc), .unset, .unset, .unset, .unset, .unset] [(.int (0 : Int32))])
      refine own_go (fun _ k => XS.istoreN X0.here hx rfl (hb hby at_23) rfl (l' := #[.val (.int p0), .val (.int cc), .val (.int (0 : Int32)), .unset, .unset, .unset, .unset]) rfl k) ?_
      show own_Ends _ _ _ _ _ _ _ s₁ (mkF m 24 #[.val (.int p0), .val (.int cc), .val (.int (0 : Int32)), .unset, .unset, .unset, .unset] [])
      rw [show (own_rng (97 : Int32) (122 : Int32) cc) = 0 from (by rw [own_rng, if_neg a1, if_pos a2])] at K24
      exact K24
    · refine own_go (fun _ k => XS.icmpNo X0.here hx rfl (hb hby at_15) rfl (flt a2).2.2.1 k) ?_
      show own_Ends _ _ _ _ _ _ _ s₁ (mkF m 18 #[.val (.int p0), .val (.int cc), .unset, .unset, .unset, .unset, .unset] [])
      refine own_go (fun _ k => XS.iconst X0.here hx rfl (hb hby at_18) k) ?_
      show own_Ends _ _ _ _ _ _ _ s₁ (mkF m 19 #[.val (.int p0), .val (.int cc), .unset, .unset, .unset, .unset, .unset] [(.int (1 : Int32))])
      refine own_go (fun _ k => XS.goto X0.here hx rfl (pc0 := 19) (pc' := 23) rfl (hb hby at_19) (by decide) (by decide) k) ?_
      show own_Ends _ _ _ _ _ _ _ s₁ (mkF m 23 #[.val (.int p0), .val (.int cc), .unset, .unset, .unset, .unset, .unset] [(.int (1 : Int32))])
      refine own_go (fun _ k => XS.istoreN X0.here hx rfl (hb hby at_23) rfl (l' := #[.val (.int p0), .val (.int cc), .val (.int (1 : Int32)), .unset, .unset, .unset, .unset]) rfl k) ?_
      show own_Ends _ _ _ _ _ _ _ s₁ (mkF m 24 #[.val (.int p0), .val (.int cc), .val (.int (1 : Int32)), .unset, .unset, .unset, .unset] [])
      rw [show (own_rng (97 : Int32) (122 : Int32) cc) = 1 from (by rw [own_rng, if_neg a1, if_neg a2])] at K24
      exact K24
set_option maxRecDepth 65536 in
set_option maxHeartbeats 40000000 in
theorem comes_1 {Post : Tables → Env → Array Value → State → Outcome → State → Prop} (hpost : ∀ tb e args s v u, (limb_1_1.after args s (.returned v) u = true ∧ limb_1_2.after args s (.returned v) u = true ∧ True) → FrameEnd s (.returned v) u (Jvm.fieldLocs frame_1_writes args s ++ Jvm.arrayLocs frame_1_arrays args s ++ Jvm.staticLocs frame_1_statics s) 0 0 → Post tb e args s (.returned v) u) :
    ArmFor flags0 classFile x code maxLocals ret World_1 tables_1 room_1 Calls_1 rest_1 Pre_1 Post := by
  intro l hfl _ _ p e ha hc hk s m args below hf hA hF happ hP
  obtain ⟨hcalls, hrest, hpre⟩ := hP
  obtain ⟨-, -, -, hnamed, -, -, -, hat⟩ := (Spec.applies_iff hf).mp happ
  obtain ⟨hg, hn⟩ := and_e (Cond.before_iff.mp (show (Jvm.Cond.and given_1 narrow_1).before args s = true from hpre))
  obtain ⟨g0, gr0⟩ := and_e hg
  have ga0 := gr0
  obtain ⟨w0, rfl⟩ : ∃ w0 : Value, args = #[w0] := by
    have hs : args.size = 1 := by simpa [Cond.value, given_1] using g0
    obtain ⟨L⟩ := args
    match L, hs with
    | [w0], _ => exact ⟨w0, rfl⟩
  have hw := fun d (hd : d ∈ tables_1) => atoms_spec (ws := Jvm.Cond.code x code maxLocals ret :: tables_1) hat d (List.mem_cons_of_mem _ hd)
  have hfit : Fit s := fun {y c} hc i hi => by
    obtain ⟨ha, rfl⟩ := Array.getElem?_eq_some_iff.mp hc
    have q := List.all_eq_true.mp ((Array.all_eq_true_iff_forall_mem.mp hF) _ (Array.getElem_mem ha)) i (List.mem_range.mpr hi)
    simpa [Array.getElem?_eq_getElem hi] using q
  obtain ⟨i0, ei0⟩ := is_v ga0
  obtain rfl : w0 = (.int i0) := Option.some.inj ei0
  obtain ⟨n1, m1⟩ := and_e hn
  obtain ⟨n2, m2⟩ := and_e m1
  obtain ⟨n3, m3⟩ := and_e m2
  obtain ⟨n4, m4⟩ := and_e m3
  obtain ⟨n5, m5⟩ := and_e m4
  obtain ⟨n6, m6⟩ := and_e m5
  obtain ⟨n7, m7⟩ := and_e m6
  obtain ⟨n8, m8⟩ := and_e m7
  obtain ⟨n9, m9⟩ := and_e m8
  obtain ⟨n10, m10⟩ := and_e m9
  have n11 := m10
  obtain ⟨ta, ht⟩ := arr_v n1
  obtain ⟨cl, A⟩ := Arr.start ht n1
  have hat := Arr.fin (Vm.Alike.refl _) A
  have hsz : cl.slots.size < 2 ^ 31 := by
    by_cases q : cl.slots.size < 2 ^ 31
    · exact q
    · exfalso
      have e : (Jvm.Term.length (Jvm.Term.static "com/example/bestow/bestow/Name" "NAME_CHARACTERS" "[Z")).eval #[.int i0] s none [] s = none := by simp [Term.eval] at ht ⊢; simp [ht, hat, q]
      simp [Cond.value, e] at n2
  have h128 : cl.slots.size = 128 := by
    have e := own_eqi n2
    rw [len_f ht hat hsz] at e
    have e2 : cl.slots.size.toInt32 = 128 := by injection e with e; injection e
    have e3 := len_toInt hsz
    rw [e2] at e3
    have d : (128 : Int32).toInt = 128 := by decide
    omega
  have hti : ∀ i : Nat, (Jvm.Term.static "com/example/bestow/bestow/Name" "NAME_CHARACTERS" "[Z").eval #[.int i0] s none [i] s = some (.ref ta) := fun _ => ht
  have hel : ∀ i, i < 128 → cl.slots[i]? = some (.int (own_tab i)) := by
    intro i hi
    have hs : i < cl.slots.size := by omega
    have k48 : (48 : Int32).toInt = 48 := by decide
    have k58 : (58 : Int32).toInt = 58 := by decide
    have k65 : (65 : Int32).toInt = 65 := by decide
    have k91 : (91 : Int32).toInt = 91 := by decide
    have k95 : (95 : Int32).toInt = 95 := by decide
    have k96 : (96 : Int32).toInt = 96 := by decide
    have k97 : (97 : Int32).toInt = 97 := by decide
    have k123 : (123 : Int32).toInt = 123 := by decide
    have seg : i < 48 ∨ (48 ≤ i ∧ i < 58) ∨ (58 ≤ i ∧ i < 65) ∨ (65 ≤ i ∧ i < 91) ∨ (91 ≤ i ∧ i < 95) ∨ i = 95 ∨ i = 96 ∨ (97 ≤ i ∧ i < 123) ∨ 123 ≤ i := by omega
    unfold own_tab
    rcases seg with g | g | g | g | g | g | g | g | g
    · rw [if_pos (by omega)]
      exact own_at (hti i) hat hsz hs (own_ori (Cond.all_elim ht hat n3 i hs) (own_le3 (by omega) 48) (by omega))
    · rw [if_neg (by omega), if_pos (by omega)]
      exact own_seg hti ht hat hsz n4 i hs (by omega) (by omega)
    · rw [if_neg (by omega), if_neg (by omega), if_pos (by omega)]
      exact own_seg hti ht hat hsz n5 i hs (by omega) (by omega)
    · rw [if_neg (by omega), if_neg (by omega), if_neg (by omega), if_pos (by omega)]
      exact own_seg hti ht hat hsz n6 i hs (by omega) (by omega)
    · rw [if_neg (by omega), if_neg (by omega), if_neg (by omega), if_neg (by omega), if_pos (by omega)]
      exact own_seg hti ht hat hsz n7 i hs (by omega) (by omega)
    · rw [if_neg (by omega), if_neg (by omega), if_neg (by omega), if_neg (by omega), if_neg (by omega), if_pos (by omega)]
      subst g
      have e := own_eqi n8
      rw [elem_f (j := 95) ht rfl hat (by decide)] at e
      exact e
    · rw [if_neg (by omega), if_neg (by omega), if_neg (by omega), if_neg (by omega), if_neg (by omega), if_neg (by omega), if_pos (by omega)]
      subst g
      have e := own_eqi n9
      rw [elem_f (j := 96) ht rfl hat (by decide)] at e
      exact e
    · rw [if_neg (by omega), if_neg (by omega), if_neg (by omega), if_neg (by omega), if_neg (by omega), if_neg (by omega), if_neg (by omega), if_pos (by omega)]
      exact own_seg hti ht hat hsz n10 i hs (by omega) (by omega)
    · rw [if_neg (by omega), if_neg (by omega), if_neg (by omega), if_neg (by omega), if_neg (by omega), if_neg (by omega), if_neg (by omega), if_neg (by omega)]
      exact own_at (hti i) hat hsz hs (own_ori (Cond.all_elim ht hat n11 i hs) (own_lt3 (by omega) 123) (by omega))
  have hV : own_Ar s s.heap ta cl.cls .boolean 128 (fun i => .int (own_tab i)) := ⟨cl, A, rfl, h128, by decide, hel⟩
  have hS := Sta.start ht (Or.inr ⟨hw _ (List.mem_of_getElem? (i := 3) rfl), hw _ (List.mem_of_getElem? (i := 6) rfl)⟩)
  obtain ⟨n, o, h1, h2, h3, _, L, rfl, ⟨rfl, N⟩, hq⟩ := rm0 l s _ hw i0 s.heap ta cl.cls hS hV tables_1 p e ha hc hk s m _ below hf ((Spec.applies_iff_loose hf).mp happ).1 ⟨rfl, State.Warmed39.refl s, rfl⟩ trivial
  refine ⟨n, _, h1, h2, h3, hpost _ _ _ _ _ _ ⟨Cond.after_iff.mpr rfl, Cond.after_iff.mpr (eq_i res_at (Term.int_eval (1)) rfl), trivial⟩ ⟨hq.1, hq.2.1, (hq.2.2.sift fun y hy => Or.inr (N y hy)).mono (by decide) (by decide)⟩⟩
theorem main_1_1 : Claimed_1_1 := comes_1 fun _ _ _ _ _ _ h hF => ⟨h.1, hF⟩
theorem main_1_2 : Claimed_1_2 := comes_1 fun _ _ _ _ _ _ h hF => ⟨h.2.1, hF⟩

end Jvm.Pilot.@@N@@
namespace Jvm.Pilot.@@N@@
open Jvm Jvm.ClassFile Sem Op Lib Jvm.Free Jvm.Stand Jvm.Pilot.@@N@@.Jvm.D
/-! MADE BY PROGRAM (witnessworld.py) out of the Statement's table words and the real class files: 11 classes; the members and pool entries that the words name. The judged class is class 1, her method 1. -/
namespace start1
open Jvm.ClassFile
def u (s : String) : CpInfo := .utf8 (stringToUtf16 s)
/-- a pool by its gaps: so many unusable entries, then the entry; so many at the end -/
def gap : Nat → List CpInfo → List CpInfo
  | 0, r => r
  | n + 1, r => .unusable :: gap n r
def poolList (es : List (Nat × CpInfo)) (last : Nat) : List CpInfo := es.foldr (fun e r => gap e.1 (e.2 :: r)) (gap last [])
def pool (es : List (Nat × CpInfo)) (last : Nat) : Array CpInfo := ⟨poolList es last⟩
def fileOf (pool : Array CpInfo) (this : Nat) (attrs : Array Attribute := #[]) (ms : Array MethodInfo := #[]) (fl : Nat := 33) (sup : Nat := 0) (ifs : Array Nat := #[]) (fds : Array FieldInfo := #[]) : ClassFile where
  minorVersion := 0
  majorVersion := 65
  constantPool := pool
  accessFlags := fl
  thisClass := this
  superClass := sup
  interfaces := ifs
  fields := fds
  methods := ms
  attributes := attrs
def plain (name : String) (sup : Option ClassId) : Class where
  name := name
  kind := .ordinary
  loader := none
  accessFlags := 33
  super := sup
  interfaces := #[]
  cf := none
  fields := #[]
  methods := #[]
  instanceTypes := #[]
  staticTypes := #[]
  resolved := #[]
  callSites := []
  init := .initialized
  statics := none
  mirror := none

def pool0 : Array CpInfo := pool [(5, u "<init>"), (0, u "()V"), (1, .class_ 10), (1, u "java/lang/Object")] 113

def k0m0 : Method := { name := "<init>", desc := "()V", sig := { parameters := [], returnType := none }, accessFlags := 1, code := none }
/-- java/lang/Object -/
def k0 : Class := { plain "java/lang/Object" none with
  accessFlags := 33
  interfaces := #[]
  cf := some (fileOf pool0 8 #[] #[{ accessFlags := 1, nameIndex := 5, descriptorIndex := 6, attributes := #[] }] 33 0 #[] #[])
  fields := #[]
  methods := #[k0m0]
  instanceTypes := #[]
  staticTypes := #[]
  resolved := Array.replicate 124 none
  statics := none }

def pool1 : Array CpInfo := pool [(2, .class_ 4), (1, u "java/lang/Object"), (0, u "<init>"), (0, u "()V"), (0, .integer 65535), (0, .methodref 9 10), (0, .class_ 11), (0, .nameAndType 12 13), (0, u "com/example/bestow/bestow/Name"), (0, u "isNameCharacter"), (0, u "(C)Z"), (0, .class_ 15), (0, u "com/example/bestow/bestow/NameIsNameCharacterPinLaw"), (2, u "law"), (0, u "(I)Z")] 3

def k1m0 : Method := { name := "<init>", desc := "()V", sig := { parameters := [], returnType := none }, accessFlags := 1, code := none }
def k1c1 : Code := { maxStack := 2, maxLocals := 7, code := code, exceptionTable := #[], attributes := #[] }
def k1m1 : Method := { name := "law", desc := "(I)Z", sig := { parameters := [.int], returnType := some .boolean }, accessFlags := 9, code := some k1c1 }
/-- com/example/bestow/bestow/NameIsNameCharacterPinLaw -/
def k1 : Class := { plain "com/example/bestow/bestow/NameIsNameCharacterPinLaw" (some 0) with
  accessFlags := 49
  interfaces := #[]
  cf := some (fileOf pool1 14 #[] #[{ accessFlags := 1, nameIndex := 5, descriptorIndex := 6, attributes := #[] }, { accessFlags := 9, nameIndex := 18, descriptorIndex := 19, attributes := #[] }] 49 2 #[] #[])
  fields := #[]
  methods := #[k1m0, k1m1]
  instanceTypes := #[]
  staticTypes := #[]
  resolved := Array.replicate 23 none
  statics := none }

def pool2 : Array CpInfo := pool [(2, .class_ 4), (1, u "java/lang/Object"), (3, .class_ 10), (1, u "com/example/bestow/bestow/Name"), (0, u "text"), (0, u "Ljava/lang/String;"), (12, u "hash"), (0, u "I"), (25, u "(C)Z"), (4, u "isNameCharacter"), (29, .fieldref 8 88), (0, .nameAndType 89 90), (0, u "NAME_CHARACTERS"), (0, u "[Z"), (13, u "MAX_LENGTH")] 30

def k2c0 : Code := { maxStack := 2, maxLocals := 1, code := prog_13_method_3_code, exceptionTable := #[], attributes := #[] }
def k2m0 : Method := { name := "isNameCharacter", desc := "(C)Z", sig := { parameters := [.char], returnType := some .boolean }, accessFlags := 8, code := some k2c0 }
/-- com/example/bestow/bestow/Name -/
def k2 : Class := { plain "com/example/bestow/bestow/Name" (some 0) with
  accessFlags := 49
  interfaces := #[]
  cf := some (fileOf pool2 8 #[] #[{ accessFlags := 8, nameIndex := 57, descriptorIndex := 52, attributes := #[] }] 49 2 #[] #[{ accessFlags := 26, nameIndex := 104, descriptorIndex := 26, attributes := #[] }, { accessFlags := 26, nameIndex := 89, descriptorIndex := 90, attributes := #[] }, { accessFlags := 18, nameIndex := 11, descriptorIndex := 12, attributes := #[] }, { accessFlags := 18, nameIndex := 25, descriptorIndex := 26, attributes := #[] }])
  fields := #[{ name := "MAX_LENGTH", type := .int, accessFlags := 26, slot := 0, constantValue := 0 }, { name := "NAME_CHARACTERS", type := (.array .boolean), accessFlags := 26, slot := 1, constantValue := 0 }, { name := "text", type := (.object "java/lang/String"), accessFlags := 18, slot := 0, constantValue := 0 }, { name := "hash", type := .int, accessFlags := 18, slot := 1, constantValue := 0 }]
  methods := #[k2m0]
  instanceTypes := #[(.object "java/lang/String"), .int]
  staticTypes := #[.int, (.array .boolean)]
  resolved := Array.replicate 135 none
  statics := some 0 }

def pool3 : Array CpInfo := pool [(1, u "java/lang/Cloneable"), (0, .class_ 1), (0, u "java/lang/Object"), (0, .class_ 3)] 3

/-- java/lang/Cloneable -/
def k3 : Class := { plain "java/lang/Cloneable" (some 0) with
  accessFlags := 1537
  interfaces := #[]
  cf := some (fileOf pool3 2 #[] #[] 1537 4 #[] #[])
  fields := #[]
  methods := #[]
  instanceTypes := #[]
  staticTypes := #[]
  resolved := Array.replicate 8 none
  statics := none }

def pool4 : Array CpInfo := pool [(1, u "java/io/Serializable"), (0, .class_ 1), (0, u "java/lang/Object"), (0, .class_ 3)] 3

/-- java/io/Serializable -/
def k4 : Class := { plain "java/io/Serializable" (some 0) with
  accessFlags := 1537
  interfaces := #[]
  cf := some (fileOf pool4 2 #[] #[] 1537 4 #[] #[])
  fields := #[]
  methods := #[]
  instanceTypes := #[]
  staticTypes := #[]
  resolved := Array.replicate 8 none
  statics := none }

/-- the primitive boolean -/
def k5 : Class := { plain "boolean" none with kind := .primitive 'Z', accessFlags := 0x411 }
/-- [Z -/
def k6 : Class := { plain "[Z" (some 0) with kind := .array 5 .boolean, interfaces := #[3, 4], accessFlags := 1041 }

/-- the primitive byte -/
def k7 : Class := { plain "byte" none with kind := .primitive 'B', accessFlags := 0x411 }
/-- [B -/
def k8 : Class := { plain "[B" (some 0) with kind := .array 7 .byte, interfaces := #[3, 4], accessFlags := 1041 }

/-- the primitive int -/
def k9 : Class := { plain "int" none with kind := .primitive 'I', accessFlags := 0x411 }
/-- [I -/
def k10 : Class := { plain "[I" (some 0) with kind := .array 9 .int, interfaces := #[3, 4], accessFlags := 1041 }

def heap : Heap := #[{ cls := 2, slots := #[.int 0, .ref 1], vm := .statics 2 },
  { cls := 6, slots := #[.int 0, .int 0, .int 0, .int 0, .int 0, .int 0, .int 0, .int 0, .int 0, .int 0, .int 0, .int 0, .int 0, .int 0, .int 0, .int 0, .int 0, .int 0, .int 0, .int 0, .int 0, .int 0, .int 0, .int 0, .int 0, .int 0, .int 0, .int 0, .int 0, .int 0, .int 0, .int 0, .int 0, .int 0, .int 0, .int 0, .int 0, .int 0, .int 0, .int 0, .int 0, .int 0, .int 0, .int 0, .int 0, .int 0, .int 0, .int 0, .int 1, .int 1, .int 1, .int 1, .int 1, .int 1, .int 1, .int 1, .int 1, .int 1, .int 0, .int 0, .int 0, .int 0, .int 0, .int 0, .int 0, .int 1, .int 1, .int 1, .int 1, .int 1, .int 1, .int 1, .int 1, .int 1, .int 1, .int 1, .int 1, .int 1, .int 1, .int 1, .int 1, .int 1, .int 1, .int 1, .int 1, .int 1, .int 1, .int 1, .int 1, .int 1, .int 1, .int 0, .int 0, .int 0, .int 0, .int 1, .int 0, .int 1, .int 1, .int 1, .int 1, .int 1, .int 1, .int 1, .int 1, .int 1, .int 1, .int 1, .int 1, .int 1, .int 1, .int 1, .int 1, .int 1, .int 1, .int 1, .int 1, .int 1, .int 1, .int 1, .int 1, .int 1, .int 1, .int 0, .int 0, .int 0, .int 0, .int 0], vm := .none }]
def classes : Array Class := #[k0, k1, k2, k3, k4, k5, k6, k7, k8, k9, k10]
def interned : List (Array UInt16 × Addr) := []
def slotsUsed : Nat := 130
def theMethod : MethodId := ⟨1, 1⟩
def args0 : Array Value := #[.int 5]
def aboutOver (below : List Frame) : State where
  vm := { classes := classes, interned := interned.toArray }
  heap := heap
  slotsUsed := slotsUsed
  threads := #[{ frames := .invoking theMethod args0 :: below }]
def below0 : List Frame := [.native { method := ⟨0, 0⟩, args := #[] }]
def about1 : State := aboutOver below0
def p0 : Program := .bare "" "" ""
def e0 : Env := launch0.env 0 0 0
theorem w_frames : about1.frames = Frame.invoking theMethod args0 :: below0 := rfl
set_option maxRecDepth 65536 in
theorem w_args : argsFit about1.vm theMethod args0 = true := by decide +kernel
set_option maxRecDepth 65536 in
theorem w_heap : heapFits about1 = true := by decide +kernel
set_option maxRecDepth 65536 in
theorem w_runnable : about1.curStatus? = some .runnable := by decide +kernel
set_option maxRecDepth 65536 in
theorem w_alone : about1.alone = true := by decide +kernel
set_option maxRecDepth 65536 in
theorem w_named : about1.methodNamed? x = some theMethod := by decide +kernel
set_option maxRecDepth 65536 in
theorem w_hears : about1.hears theMethod below0 = true := by decide +kernel
set_option maxRecDepth 65536 in
theorem w_ripe : about1.ripe theMethod args0 below0 = true := by decide +kernel
theorem w_running : about1.status = .running := rfl
set_option maxRecDepth 65536 in
theorem w_room : about1.hasRoom e0.platform room_1 = true :=
  launch0.hasRoom_least _ room_1 (by decide +kernel) (by decide +kernel) (by decide +kernel) (by decide +kernel) (by decide +kernel) (by decide +kernel)
theorem allAtoms_all (ts : List Jvm.Cond) (a : Array Jvm.Value) (st : Jvm.State) : (allAtoms ts).before a st = ts.all (fun c => c.before a st) := by
  induction ts with
  | nil => rfl
  | cons c t ih =>
    show (Jvm.Cond.and c (allAtoms t)).before a st = _
    rw [Jvm.Cond.before_and, ih, List.all_cons]
def words1 : List Jvm.Cond := Jvm.Cond.code x code maxLocals ret :: tables_1
/-- a 'code' word, met by the world's own term for the bytes: nothing is compared byte by byte -/
theorem code_word {y : MethodName} {bytes : ByteArray} {mx : Nat} {rt : Option FieldType} {a : Array Value} {s : State} {m : MethodId} {meth : Method} {c : Code} (h1 : s.methodNamed? y = some m) (h2 : s.vm.method? m = some meth) (h3 : meth.code = some c) (h4 : c.code = bytes)
    (h5 : (c.maxLocals == mx && c.exceptionTable.isEmpty && decide (c.maxStack ≤ mostOperands) && decide (meth.sig.returnType = rt) && !meth.locks && decide (parseMethodDescriptor y.desc = some meth.sig)) = true) : (Jvm.Cond.code y bytes mx rt).before a s = true := by
  simp only [Bool.and_eq_true, beq_iff_eq, Bool.not_eq_true', decide_eq_true_eq] at h5
  obtain ⟨⟨⟨⟨⟨g1, g2⟩, g3⟩, g4⟩, g5⟩, g6⟩ := h5
  simp [Cond.before, Cond.holds, Cond.value, h1, h2, h3, h4, g1, g2, g3, g4, g5, g6]
def isCode : Jvm.Cond → Bool
  | .code _ _ _ _ => true
  | _ => false
theorem all_split {L : List Jvm.Cond} {P : Jvm.Cond → Bool} (h1 : L.all (fun c => isCode c || P c) = true) (h2 : ∀ c ∈ L.filter isCode, P c = true) : L.all P = true := by
  refine List.all_eq_true.mpr fun c hc => ?_
  have h := List.all_eq_true.mp h1 c hc
  rcases Bool.eq_false_or_eq_true (isCode c) with hi | hi
  · exact h2 c (List.mem_filter.mpr ⟨hc, hi⟩)
  · simpa [hi] using h
set_option maxRecDepth 65536 in
theorem w_c0 : (Jvm.Cond.code x code maxLocals ret).before args0 about1 = true := code_word (m := ⟨1, 1⟩) (meth := k1m1) (c := k1c1) (by decide +kernel) rfl rfl rfl (by decide +kernel)
set_option maxRecDepth 65536 in
theorem w_c1 : (Jvm.Cond.code ({ cls := "com/example/bestow/bestow/Name", name := "isNameCharacter", desc := "(C)Z" } : Jvm.MethodName) prog_13_method_3_code (1 : Nat) (Option.some Jvm.ClassFile.FieldType.boolean)).before args0 about1 = true := code_word (m := ⟨2, 0⟩) (meth := k2m0) (c := k2c0) (by decide +kernel) rfl rfl rfl (by decide +kernel)
def codes1 : List Jvm.Cond := [Jvm.Cond.code x code maxLocals ret, Jvm.Cond.code ({ cls := "com/example/bestow/bestow/Name", name := "isNameCharacter", desc := "(C)Z" } : Jvm.MethodName) prog_13_method_3_code (1 : Nat) (Option.some Jvm.ClassFile.FieldType.boolean)]
set_option maxRecDepth 65536 in
theorem codes_eq : words1.filter isCode = codes1 := rfl
theorem w_codes : ∀ c ∈ words1.filter isCode, c.before args0 about1 = true := by
  rw [codes_eq]
  intro c hc
  simp only [codes1, List.mem_cons, List.not_mem_nil, or_false] at hc
  rcases hc with rfl | rfl
  · exact w_c0
  · exact w_c1
set_option maxRecDepth 65536 in
theorem w_t1 : words1.all (fun c => isCode c || c.before args0 about1) = true := by decide +kernel
theorem w_tables : (allAtoms (Jvm.Cond.code x code maxLocals ret :: tables_1)).before args0 about1 = true := by
  rw [allAtoms_all]
  show words1.all (fun c => c.before args0 about1) = true
  refine all_split ?_ w_codes
  rw [w_t1]
set_option maxRecDepth 65536 in
theorem w_case : (Jvm.Cond.and given_1 narrow_1).before args0 about1 = true := by decide +kernel
theorem w_applies : (headSpec (Jvm.Cond.code x code maxLocals ret :: tables_1) room_1).applies x e0.platform about1 = true :=
  (Spec.applies_iff w_frames).mpr ⟨w_running, w_runnable, w_alone, w_named, w_hears, w_ripe, w_room, w_tables⟩
theorem atStart : AtStart classFile x code maxLocals ret World_1 tables_1 room_1 Calls_1 rest_1 Pre_1 launch0 p0 e0 about1 theMethod args0 below0 :=
  ⟨lists_1, trivial, launch0.admits_env _ _ _, launch0.least_env, fairChoices_fair.cas, fairChoices_fair.clock, w_frames, w_args, w_heap, w_applies, trivial, trivial, w_case⟩
end start1
theorem witness_1 : WitnessClaimed_1 := ⟨start1.p0, start1.e0, start1.about1, start1.theMethod, start1.args0, start1.below0, start1.atStart⟩
end Jvm.Pilot.@@N@@
