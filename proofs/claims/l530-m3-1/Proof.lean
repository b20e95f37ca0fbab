import JvmDerived
import JvmDerived.Pilot.@@N@@Statement
import JvmDerived.Pilot.@@N@@Code
set_option linter.unusedVariables false
set_option linter.unusedSimpArgs false
namespace Jvm.Pilot.@@N@@
open Jvm Jvm.ClassFile Sem Op Lib Jvm.Free Jvm.Stand Jvm.LawKit Jvm.RoadKit Bundle Jvm.Pilot.@@N@@.Jvm.D
section OwnLayer
variable {p : Program} {l : Launch} {e : Env} {R : Room} {s : State} {m : MethodId} {args : Array Value} {below : List Frame} {meth : Method} {c : Code} {T : State} {locs : List Loc} {cells slots : Nat} {Z : State} {a0 : Array Value} {h : Heap}
/-- from here the body comes to its return, and Q holds of what it returns, of the heap and of the places written -/
def own_Ends (p : Program) (e : Env) (s : State) (below : List Frame) (C S : Nat) (Q : Option Value → Heap → List Loc → Prop) (T : State) (g : JFrame) : Prop :=
  ∃ s₂ o, Steps p.tables e below (T.setTop g) s₂ ∧ s₂.status = .running ∧ Ended s₂ below o ∧ ∃ v L, o = .returned v ∧ Q v s₂.heap L ∧ FrameEnd s o s₂ L C S
theorem own_go {C S : Nat} {Q : Option Value → Heap → List Loc → Prop} {T' : State} {g g' : JFrame} (st : ∀ t, Steps p.tables e below (T'.setTop g') t → Steps p.tables e below (T.setTop g) t) (k : own_Ends p e s below C S Q T' g') : own_Ends p e s below C S Q T g := by
  obtain ⟨s₂, o, h, r⟩ := k
  exact ⟨s₂, o, st _ h, r⟩
theorem own_cast {C S : Nat} {Q : Option Value → Heap → List Loc → Prop} {g g' : JFrame} (q : g = g') (k : own_Ends p e s below C S Q T g') : own_Ends p e s below C S Q T g := q ▸ k
/-- a body's contract -/
def own_C (l : Launch) (y : MethodName) (bytes : ByteArray) (maxL : Nat) (ret : Option FieldType) (rm : Room) (Z : State) (A : Array Value) (h : Heap) (Q : Option Value → Heap → List Loc → Prop) : Prop :=
  ∀ ws : List Jvm.Cond, MetFree l y (head1 (Jvm.Cond.code y bytes maxL ret :: ws) rm) (fun a U => a = A ∧ Z.Warmed39 U.vm ∧ U.heap = h) (fun _ _ _ _ _ => True) (fun _ U o U' => ∃ v L, o = .returned v ∧ Q v U'.heap L ∧ FrameEnd U o U' L rm.cells rm.slots)
theorem own_enter {y : MethodName} {bytes : ByteArray} {maxL : Nat} {ret : Option FieldType} {rm : Room} {A : Array Value} {Q : Option Value → Heap → List Loc → Prop} (hp : plainFor y = true)
    (body : ∀ (p : Program) (e : Env) (s : State) (m : MethodId) (below : List Frame) (meth : Method) (c : Code) (s₁ : State), Stand p l e rm s m A below meth c s₁ [] 0 0 → p.tables.exec = Jvm.exec → c.code = bytes → c.maxLocals = maxL → s.vm.findClass y.cls = some m.cls → meth.name = y.name → meth.sig.returnType = ret → meth.locks = false → Z.Warmed39 s.vm → s₁.heap = h →
      own_Ends p e s below rm.cells rm.slots Q s₁ (entryFrame m A maxL)) : own_C l y bytes maxL ret rm Z A h Q := by
  intro ws
  refine MetFree.of_bodySF hp hisR ?_
  intro p e s m args below meth c s₁ Bd hml hP hK
  obtain ⟨rfl, hZ, hh⟩ := hP
  exact body p e s m below meth c s₁ (Stand.of_body Bd) Bd.exec Bd.bytes hml (findClass_of_methodNamed Bd.named) (name_of_methodNamed Bd.named Bd.method).1 Bd.returns Bd.notSynchronized hZ (by rw [← hh, Bd.state]; rfl)
theorem own_ret (X : Stand p l e R s m args below meth c T locs cells slots) (hx : p.tables.exec = Jvm.exec) (hlk : meth.locks = false) {Q : Option Value → Heap → List Loc → Prop} {C S pc : Nat} {Ls : Array Slot} {w : Value} {t : FieldType} {i : Instr} {rest : List Value} (hret : meth.sig.returnType = some t) (hn : narrow t w = w)
    (hi : (i = .ireturn ∧ (t = .int ∨ t = .boolean ∨ t = .byte ∨ t = .char ∨ t = .short) ∧ ∃ z, w = .int z) ∨ (i = .lreturn ∧ t = .long ∧ ∃ z, w = .long z) ∨ (i = .dreturn ∧ t = .double ∧ ∃ z, w = .double z) ∨ (i = .freturn ∧ t = .float ∧ ∃ z, w = .float z) ∨ (i = .areturn ∧ t.isReference = true ∧ w.isRef = true))
    (hd : decode c.code pc = .ok (i, 1)) (hc : cells ≤ C) (hs : slots ≤ S) (hq : Q (some w) T.heap locs) : own_Ends p e s below C S Q T (mkF m pc Ls (w :: rest)) := by
  obtain ⟨fs, hr, hrun, hended, hW, hsame⟩ := X.leave (v := some w) (fun h => by rw [hret] at h; cases h) hlk
  exact ⟨_, _, retOut X hx hret hn hi hd hr, hrun, hended, _, _, rfl, hq, ⟨_, rfl⟩, hW, hsame.mono hc hs⟩
theorem own_retI (X : Stand p l e R s m args below meth c T locs cells slots) (hx : p.tables.exec = Jvm.exec) (hlk : meth.locks = false) {Q : Option Value → Heap → List Loc → Prop} {C S pc : Nat} {Ls : Array Slot} {z : Int32} {rest : List Value} (hret : meth.sig.returnType = some .int)
    (hd : decode c.code pc = .ok (.ireturn, 1)) (hc : cells ≤ C) (hs : slots ≤ S) (hq : Q (some (.int z)) T.heap locs) : own_Ends p e s below C S Q T (mkF m pc Ls (.int z :: rest)) :=
  own_ret X hx hlk hret rfl (Or.inl ⟨rfl, Or.inl rfl, z, rfl⟩) hd hc hs hq
theorem own_retZ (X : Stand p l e R s m args below meth c T locs cells slots) (hx : p.tables.exec = Jvm.exec) (hlk : meth.locks = false) {Q : Option Value → Heap → List Loc → Prop} {C S pc : Nat} {Ls : Array Slot} {z : Int32} {rest : List Value} (hret : meth.sig.returnType = some .boolean) (hz : z = 0 ∨ z = 1)
    (hd : decode c.code pc = .ok (.ireturn, 1)) (hc : cells ≤ C) (hs : slots ≤ S) (hq : Q (some (.int z)) T.heap locs) : own_Ends p e s below C S Q T (mkF m pc Ls (.int z :: rest)) :=
  own_ret X hx hlk hret (by rcases hz with rfl | rfl <;> rfl) (Or.inl ⟨rfl, Or.inr (Or.inl rfl), z, rfl⟩) hd hc hs hq
theorem own_retJ (X : Stand p l e R s m args below meth c T locs cells slots) (hx : p.tables.exec = Jvm.exec) (hlk : meth.locks = false) {Q : Option Value → Heap → List Loc → Prop} {C S pc : Nat} {Ls : Array Slot} {z : Int64} {rest : List Value} (hret : meth.sig.returnType = some .long)
    (hd : decode c.code pc = .ok (.lreturn, 1)) (hc : cells ≤ C) (hs : slots ≤ S) (hq : Q (some (.long z)) T.heap locs) : own_Ends p e s below C S Q T (mkF m pc Ls (.long z :: rest)) :=
  own_ret X hx hlk hret rfl (Or.inr (Or.inl ⟨rfl, rfl, z, rfl⟩)) hd hc hs hq
theorem own_retR (X : Stand p l e R s m args below meth c T locs cells slots) (hx : p.tables.exec = Jvm.exec) (hlk : meth.locks = false) {Q : Option Value → Heap → List Loc → Prop} {C S pc : Nat} {Ls : Array Slot} {w : Value} {t : FieldType} {rest : List Value} (hret : meth.sig.returnType = some t) (ht : t.isReference = true) (hn : narrow t w = w) (hw : w.isRef = true)
    (hd : decode c.code pc = .ok (.areturn, 1)) (hc : cells ≤ C) (hs : slots ≤ S) (hq : Q (some w) T.heap locs) : own_Ends p e s below C S Q T (mkF m pc Ls (w :: rest)) :=
  own_ret X hx hlk hret hn (Or.inr (Or.inr (Or.inr (Or.inr ⟨rfl, ht, hw⟩)))) hd hc hs hq
theorem own_retV (X : Stand p l e R s m args below meth c T locs cells slots) (hx : p.tables.exec = Jvm.exec) (hlk : meth.locks = false) {Q : Option Value → Heap → List Loc → Prop} {C S pc : Nat} {Ls : Array Slot} (hret : meth.sig.returnType = none)
    (hd : decode c.code pc = .ok (.return_, 1)) (hc : cells ≤ C) (hs : slots ≤ S) (hq : Q none T.heap locs) : own_Ends p e s below C S Q T (mkF m pc Ls []) := by
  obtain ⟨fs, hr, hrun, hended, hW, hsame⟩ := X.leave (v := none) (fun _ => rfl) hlk
  exact ⟨_, _, X.returnOut hx hret hd hr, hrun, hended, _, _, rfl, hq, ⟨_, rfl⟩, hW, hsame.mono hc hs⟩
theorem own_callS (X : Stand p l e R s m args below meth c T locs cells slots) (hx : p.tables.exec = Jvm.exec) (hZ : Z.Warmed39 s.vm) {own : String} {index : Nat} {y : MethodName} {bytes : ByteArray} {maxL W : Nat} {ret : Option FieldType} {rm : Room} {A : Array Value} {Q : Option Value → Heap → List Loc → Prop}
    (hown : s.vm.findClass own = some m.cls) (wl : (Cond.methodLink own index y).before a0 Z = true) (ws : (Cond.static y).before a0 Z = true) (wz : (Cond.initialized y.cls).before a0 Z = true) (wc : (Cond.code y bytes maxL ret).before a0 Z = true)
    (hM : own_C l y bytes maxL ret rm Z A h Q) (eT : T.heap = h) {g : JFrame} (hg : g.method = m) (hsize : g.locals.size = c.maxLocals) {argsL rest : List Value} (hlen : ∀ sig, parseMethodDescriptor y.desc = some sig → argsL.length = sig.parameters.length) (hstack : g.stack = argsL.reverse ++ rest) (hA : argsL.toArray = A)
    (hW : 2 * g.monitorRoom + (rest.map fun v => v.category).sum ≤ W) (hd : decode c.code g.pc = .ok (.invokestatic index, 3)) (hy : y.cls ≠ "java/lang/invoke/MethodHandle" ∧ y.cls ≠ "java/lang/invoke/VarHandle")
    (hf : rm.frames + 1 ≤ R.frames) (hl : W + (maxL + 11) + rm.locals ≤ R.locals) (hc : cells + rm.cells ≤ R.cells) (hs : slots + rm.slots ≤ R.slots) :
    ∃ v T' L, Stand p l e R s m args below meth c T' (locs ++ L) (cells + rm.cells) (slots + rm.slots) ∧ Q v T'.heap L ∧ ∀ target, Steps p.tables e below (T'.setTop { g with pc := g.pc + 3, stack := v.toList ++ rest }) target → Steps p.tables e below (T.setTop g) target := by
  obtain ⟨v, vm₁, ⟨T', L', k', n'⟩, -, X', ⟨L, hQ, l1, l2, l3⟩, st⟩ := Jvm.LawKit.callS X hx hown (mvT hZ wl) (mvT hZ ws) (mvT hZ wz) (mvT hZ wc) hy (backOf (W := W) (hM []) hZ wc wz hf hl) hg hsize hlen hstack hW hd (fun _ _ => ⟨hA, eT, hc, hs⟩)
  dsimp only [Pt.U, Pt.locs, Pt.cells, Pt.slots] at X' l1 l2 l3 st hQ
  subst l1 l2 l3
  exact ⟨v, T', L, X', hQ, st⟩
theorem own_callI (X : Stand p l e R s m args below meth c T locs cells slots) (hx : p.tables.exec = Jvm.exec) (hZ : Z.Warmed39 s.vm) {own : String} {index : Nat} {y : MethodName} {bytes : ByteArray} {maxL W : Nat} {rm : Room} {A : Array Value} {Q : Option Value → Heap → List Loc → Prop}
    (hown : s.vm.findClass own = some m.cls) (hy1 : y.name = "<init>") (wl : (Cond.methodLink own index y).before a0 Z = true) (ws : (Cond.instanceMethod y).before a0 Z = true) (wz : (Cond.initialized y.cls).before a0 Z = true) (wc : (Cond.code y bytes maxL none).before a0 Z = true)
    (hM : own_C l y bytes maxL none rm Z A h Q) (eT : T.heap = h) {g : JFrame} (hg : g.method = m) (hsize : g.locals.size = c.maxLocals) {a : Addr} {argsL rest : List Value} (hlen : ∀ sig, parseMethodDescriptor y.desc = some sig → argsL.length = sig.parameters.length) (hstack : g.stack = argsL.reverse ++ .ref a :: rest) (hA : (.ref a :: argsL).toArray = A)
    (hW : 2 * g.monitorRoom + (rest.map fun v => v.category).sum ≤ W) (hd : decode c.code g.pc = .ok (.invokespecial index, 3)) (hy : y.cls ≠ "java/lang/invoke/MethodHandle" ∧ y.cls ≠ "java/lang/invoke/VarHandle")
    (hf : rm.frames + 1 ≤ R.frames) (hl : W + (maxL + 11) + rm.locals ≤ R.locals) (hc : cells + rm.cells ≤ R.cells) (hs : slots + rm.slots ≤ R.slots) :
    ∃ v T' L, Stand p l e R s m args below meth c T' (locs ++ L) (cells + rm.cells) (slots + rm.slots) ∧ Q v T'.heap L ∧ ∀ target, Steps p.tables e below (T'.setTop { g with pc := g.pc + 3, stack := v.toList ++ rest }) target → Steps p.tables e below (T.setTop g) target := by
  obtain ⟨v, vm₁, ⟨T', L', k', n'⟩, -, X', ⟨L, hQ, l1, l2, l3⟩, st⟩ := X.specialBack hx hy1 hown (mvT hZ wl) (mvT hZ ws) (mvT hZ wc) hy (backOf (W := W) (hM []) hZ wc wz hf hl) hg hsize (Steps.refl _) hlen hstack hW hd (fun _ _ => ⟨hA, eT, hc, hs⟩)
  dsimp only [Pt.U, Pt.locs, Pt.cells, Pt.slots] at X' l1 l2 l3 st hQ
  subst l1 l2 l3
  exact ⟨v, T', L, X', hQ, fun _ k => st.trans k⟩
theorem own_callV (X : Stand p l e R s m args below meth c T locs cells slots) (hx : p.tables.exec = Jvm.exec) (hZ : Z.Warmed39 s.vm) {own K : String} {index : Nat} {y : MethodName} {bytes : ByteArray} {maxL W : Nat} {ret : Option FieldType} {rm : Room} {A : Array Value} {Q : Option Value → Heap → List Loc → Prop}
    (hown : s.vm.findClass own = some m.cls) (wl : (Cond.methodLink own index y).before a0 Z = true) (wd : (Cond.declares y).before a0 Z = true) (wsel : (Cond.selects K y y).before a0 Z = true) (ws : (Cond.instanceMethod y).before a0 Z = true) (wz : (Cond.initialized y.cls).before a0 Z = true) (wc : (Cond.code y bytes maxL ret).before a0 Z = true)
    (hM : own_C l y bytes maxL ret rm Z A h Q) (eT : T.heap = h) {g : JFrame} (hg : g.method = m) (hsize : g.locals.size = c.maxLocals) {a : Addr} {argsL rest : List Value} (hE : Exa Z h a K) (hlen : ∀ sig, parseMethodDescriptor y.desc = some sig → argsL.length = sig.parameters.length) (hstack : g.stack = argsL.reverse ++ .ref a :: rest) (hA : (.ref a :: argsL).toArray = A)
    (hW : 2 * g.monitorRoom + (rest.map fun v => v.category).sum ≤ W) (hd : decode c.code g.pc = .ok (.invokevirtual index, 3)) (hy : y.cls ≠ "java/lang/invoke/MethodHandle" ∧ y.cls ≠ "java/lang/invoke/VarHandle")
    (hf : rm.frames + 1 ≤ R.frames) (hl : W + (maxL + 11) + rm.locals ≤ R.locals) (hc : cells + rm.cells ≤ R.cells) (hs : slots + rm.slots ≤ R.slots) :
    ∃ v T' L, Stand p l e R s m args below meth c T' (locs ++ L) (cells + rm.cells) (slots + rm.slots) ∧ Q v T'.heap L ∧ ∀ target, Steps p.tables e below (T'.setTop { g with pc := g.pc + 3, stack := v.toList ++ rest }) target → Steps p.tables e below (T.setTop g) target := by
  obtain ⟨cq, kq, qa, qb, qc⟩ := isOf hZ eT hE
  obtain ⟨v, vm₁, ⟨T', L', k', n'⟩, -, X', ⟨L, hQ, l1, l2, l3⟩, st⟩ := X.virtualBack hx hown (mvT hZ wl) (mvT hZ wd) (notFace_of_selects (args := #[]) (mvT hZ wsel)) (mvT hZ wsel) (mvT hZ ws) hy (backOf (W := W) (hM []) hZ wc wz hf hl) qa qc hg hsize (Steps.refl _) hlen hstack hW hd (fun _ _ => ⟨hA, eT, hc, hs⟩)
  dsimp only [Pt.U, Pt.locs, Pt.cells, Pt.slots] at X' l1 l2 l3 st hQ
  subst l1 l2 l3
  exact ⟨v, T', L, X', hQ, fun _ k => st.trans k⟩
theorem own_callP (X : Stand p l e R s m args below meth c T locs cells slots) (hx : p.tables.exec = Jvm.exec) (hZ : Z.Warmed39 s.vm) {own K : String} {index kk : Nat} {y : MethodName} {bytes : ByteArray} {maxL W : Nat} {ret : Option FieldType} {rm : Room} {A : Array Value} {Q : Option Value → Heap → List Loc → Prop}
    (hown : s.vm.findClass own = some m.cls) (wl : (Cond.methodLink own index y).before a0 Z = true) (wp : (Cond.privateMethod y).before a0 Z = true) (wi : (Cond.instantiable y.cls kk).before a0 Z = true) (ws : (Cond.instanceMethod y).before a0 Z = true) (wz : (Cond.initialized y.cls).before a0 Z = true) (wc : (Cond.code y bytes maxL ret).before a0 Z = true)
    (hM : own_C l y bytes maxL ret rm Z A h Q) (eT : T.heap = h) {g : JFrame} (hg : g.method = m) (hsize : g.locals.size = c.maxLocals) {a : Addr} {argsL rest : List Value} (hE : Exa Z h a K) (hlen : ∀ sig, parseMethodDescriptor y.desc = some sig → argsL.length = sig.parameters.length) (hstack : g.stack = argsL.reverse ++ .ref a :: rest) (hA : (.ref a :: argsL).toArray = A)
    (hW : 2 * g.monitorRoom + (rest.map fun v => v.category).sum ≤ W) (hd : decode c.code g.pc = .ok (.invokevirtual index, 3)) (hy : y.cls ≠ "java/lang/invoke/MethodHandle" ∧ y.cls ≠ "java/lang/invoke/VarHandle")
    (hf : rm.frames + 1 ≤ R.frames) (hl : W + (maxL + 11) + rm.locals ≤ R.locals) (hc : cells + rm.cells ≤ R.cells) (hs : slots + rm.slots ≤ R.slots) :
    ∃ v T' L, Stand p l e R s m args below meth c T' (locs ++ L) (cells + rm.cells) (slots + rm.slots) ∧ Q v T'.heap L ∧ ∀ target, Steps p.tables e below (T'.setTop { g with pc := g.pc + 3, stack := v.toList ++ rest }) target → Steps p.tables e below (T.setTop g) target := by
  obtain ⟨cq, q1, q2⟩ := hE.cell
  have hpriv : s.PrivateAt y := Cond.privateMethod_at (mvP hZ wp (args := #[]))
  obtain ⟨cc, kc, i1, i2, -, i4, -⟩ := Cond.instantiable_spec (mvT (args := #[]) hZ wi)
  have hni : kc.isInterface = false := (Bool.or_eq_false_iff.mp i4).1
  have hsel : (Cond.selects y.cls y y).before args s = true := selects_self_of_private i1 i2 hni hpriv (mvT hZ ws) hy
  obtain ⟨v, vm₁, ⟨T', L', k', n'⟩, -, X', ⟨L, hQ, l1, l2, l3⟩, st⟩ := X.privateBack hx hown (mvT hZ wl) (mvT hZ ws) hsel hpriv (mvT hZ wc) hy (backOf (W := W) (hM []) hZ wc wz hf hl) hg hsize (Steps.refl _) (by rw [eT]; exact q1) q2 hlen hstack hW hd (fun _ _ => ⟨hA, eT, hc, hs⟩)
  dsimp only [Pt.U, Pt.locs, Pt.cells, Pt.slots] at X' l1 l2 l3 st hQ
  subst l1 l2 l3
  exact ⟨v, T', L, X', hQ, fun _ k => st.trans k⟩
end OwnLayer
theorem own_lct {x y : Int64} (q : x < y) : ifCond.holds .lt (lcmpW x y) = true ∧ ifCond.holds .ge (lcmpW x y) = false := by
  have r := (lw_lt x y).mpr q
  exact ⟨(if0 _ _).trans (tlt r).1, (if0 _ _).trans (tlt r).2.1⟩
theorem own_lcf {x y : Int64} (q : ¬ x < y) : ifCond.holds .lt (lcmpW x y) = false ∧ ifCond.holds .ge (lcmpW x y) = true := by
  have r : ¬ lcmpW x y < 0 := fun z => q ((lw_lt x y).mp z)
  exact ⟨(if0 _ _).trans (flt r).1, (if0 _ _).trans (flt r).2.1⟩
theorem own_lgt {x y : Int64} (q : y < x) : ifCond.holds .gt (lcmpW x y) = true ∧ ifCond.holds .le (lcmpW x y) = false := by
  have r := (lw_gt x y).mpr q
  exact ⟨(if0 _ _).trans (tlt r).2.2.1, (if0 _ _).trans (tlt r).2.2.2⟩
theorem own_lgf {x y : Int64} (q : ¬ y < x) : ifCond.holds .gt (lcmpW x y) = false ∧ ifCond.holds .le (lcmpW x y) = true := by
  have r : ¬ 0 < lcmpW x y := fun z => q ((lw_gt x y).mp z)
  exact ⟨(if0 _ _).trans (flt r).2.2.1, (if0 _ _).trans (flt r).2.2.2⟩
theorem own_let {x y : Int64} (q : x = y) : ifCond.holds .eq (lcmpW x y) = true ∧ ifCond.holds .ne (lcmpW x y) = false := by
  have r := (lw_eq x y).mpr q
  exact ⟨(if0 _ _).trans (teq r).1, (if0 _ _).trans (teq r).2⟩
theorem own_lef {x y : Int64} (q : ¬ x = y) : ifCond.holds .eq (lcmpW x y) = false ∧ ifCond.holds .ne (lcmpW x y) = true := by
  have r : ¬ lcmpW x y = 0 := fun z => q ((lw_eq x y).mp z)
  exact ⟨(if0 _ _).trans (feq r).1, (if0 _ _).trans (feq r).2⟩
section OwnArrays
variable {p : Program} {l : Launch} {e : Env} {R : Room} {s : State} {m : MethodId} {args : Array Value} {below : List Frame} {meth : Method} {c : Code} {T : State} {locs : List Loc} {cells slots : Nat} {Z : State} {a0 : Array Value} {h h' : Heap} {a b : Addr} {k : ClassId} {ty : FieldType} {n i sl : Nat} {f : Nat → Value} {v : Value} {ws : List Addr}
/-- an array by its length and what each place holds -/
def own_Ar (Z : State) (h : Heap) (a : Addr) (k : ClassId) (ty : FieldType) (n : Nat) (f : Nat → Value) : Prop := ∃ c : Cell, Arr Z h a c ty ∧ c.cls = k ∧ c.slots.size = n ∧ n < 2 ^ 31 ∧ ∀ i, i < n → c.slots[i]? = some (f i)
theorem own_Ar.lt (F : own_Ar Z h a k ty n f) : a < h.size := by obtain ⟨c, A, -⟩ := F; exact A.lt
theorem own_Ar.ext (F : own_Ar Z h a k ty n f) (E : Ext h h') : own_Ar Z h' a k ty n f := by obtain ⟨c, A, r⟩ := F; exact ⟨c, A.ext E, r⟩
theorem own_Ar.other (F : own_Ar Z h a k ty n f) (W : Wr h h' b sl v) (q : a ≠ b) : own_Ar Z h' a k ty n f := by obtain ⟨c, A, r⟩ := F; exact ⟨c, A.other W q, r⟩
theorem own_Ar.keep (F : own_Ar Z h a k ty n f) (K : Keep h h' ws) (q : a ∉ ws) : own_Ar Z h' a k ty n f := by obtain ⟨c, A, r⟩ := F; exact ⟨c, ⟨K.2.1 a c A.1 q, A.2⟩, r⟩
theorem own_Ar.cong (F : own_Ar Z h a k ty n f) {g : Nat → Value} (q : ∀ i, i < n → f i = g i) : own_Ar Z h a k ty n g := by
  obtain ⟨c, A, r1, r2, r3, r4⟩ := F
  exact ⟨c, A, r1, r2, r3, fun i hi => by rw [r4 i hi, q i hi]⟩
theorem own_Ar.set (F : own_Ar Z h a k ty n f) (W : Wr h h' a i v) : own_Ar Z h' a k ty n (fun j => if j = i then v else f j) := by
  obtain ⟨c, A, r1, r2, r3, r4⟩ := F
  refine ⟨c.setSlot i v, A.same W, r1, by rw [sz_set]; exact r2, r3, fun j hj => ?_⟩
  show _ = some (if j = i then v else f j)
  by_cases q : j = i
  · subst q
    rw [if_pos rfl]
    show (c.slots.setIfInBounds j v)[j]? = some v
    simp [r2, hj]
  · rw [if_neg q]
    show (c.slots.setIfInBounds i v)[j]? = some (f j)
    rw [Array.getElem?_setIfInBounds_ne (fun z => q z.symm)]
    exact r4 j hj
theorem own_in {c : Cell} {j : Int32} (hj : ¬ j < 0) (hi : j.toNatClampNeg = i) (r : c.slots.size = n) (hn : i < n) : ¬ (j < 0 ∨ c.slots.size ≤ j.toNatClampNeg) := by
  rintro (q | q)
  · exact hj q
  · rw [hi, r] at q; exact absurd hn (Nat.not_lt.mpr q)
theorem own_len (X : Stand p l e R s m args below meth c T locs cells slots) (hx : p.tables.exec = Jvm.exec) (hZ : Z.Warmed39 s.vm) (eT : T.heap = h) (F : own_Ar Z h a k ty n f) {z : Int32} (hz : Int32.ofNat n = z) {g : JFrame} (hg : g.method = m) {rest : List Value} (hs : g.stack = .ref a :: rest) (hd : decode c.code g.pc = .ok (.arraylength, 1)) (target : State)
    (kt : Steps p.tables e below (T.setTop { g with pc := g.pc + 1, stack := .int z :: rest }) target) : Steps p.tables e below (T.setTop g) target := by
  obtain ⟨cl, A, -, r2, r3, -⟩ := F
  refine X.arraylength hx (by rw [eT]; exact A.1) (State.isArrayOf_alike hZ.alike A.2.1) hg hs hd _ ?_
  have q : cl.slots.size.toInt32 = z := by rw [r2]; exact hz
  rw [q]; exact kt
theorem own_ldI (X : Stand p l e R s m args below meth c T locs cells slots) (hx : p.tables.exec = Jvm.exec) (hZ : Z.Warmed39 s.vm) (eT : T.heap = h) (F : own_Ar Z h a k .int n f) {j : Int32} (hj : ¬ j < 0) (hi : j.toNatClampNeg = i) (hn : i < n) (hv : f i = v) {g : JFrame} (hg : g.method = m) {rest : List Value} (hs : g.stack = .int j :: .ref a :: rest) (hd : decode c.code g.pc = .ok (.iaload, 1)) (target : State)
    (kt : Steps p.tables e below (T.setTop { g with pc := g.pc + 1, stack := v :: rest }) target) : Steps p.tables e below (T.setTop g) target := by
  obtain ⟨cl, A, -, r2, r3, r4⟩ := F
  exact X.iaload hx (by rw [eT]; exact A.1) (State.isArrayOf_alike hZ.alike A.2.1) A.2.2 (own_in hj hi r2 hn) (by rw [hi, r4 i hn, hv]) hg hs hd _ kt
theorem own_ldJ (X : Stand p l e R s m args below meth c T locs cells slots) (hx : p.tables.exec = Jvm.exec) (hZ : Z.Warmed39 s.vm) (eT : T.heap = h) (F : own_Ar Z h a k .long n f) {j : Int32} (hj : ¬ j < 0) (hi : j.toNatClampNeg = i) (hn : i < n) (hv : f i = v) {g : JFrame} (hg : g.method = m) {rest : List Value} (hs : g.stack = .int j :: .ref a :: rest) (hd : decode c.code g.pc = .ok (.laload, 1)) (target : State)
    (kt : Steps p.tables e below (T.setTop { g with pc := g.pc + 1, stack := v :: rest }) target) : Steps p.tables e below (T.setTop g) target := by
  obtain ⟨cl, A, -, r2, r3, r4⟩ := F
  exact X.laload hx (by rw [eT]; exact A.1) (State.isArrayOf_alike hZ.alike A.2.1) A.2.2 (own_in hj hi r2 hn) (by rw [hi, r4 i hn, hv]) hg hs hd _ kt
theorem own_ldC (X : Stand p l e R s m args below meth c T locs cells slots) (hx : p.tables.exec = Jvm.exec) (hZ : Z.Warmed39 s.vm) (eT : T.heap = h) (F : own_Ar Z h a k .char n f) {j : Int32} (hj : ¬ j < 0) (hi : j.toNatClampNeg = i) (hn : i < n) (hv : f i = v) {g : JFrame} (hg : g.method = m) {rest : List Value} (hs : g.stack = .int j :: .ref a :: rest) (hd : decode c.code g.pc = .ok (.caload, 1)) (target : State)
    (kt : Steps p.tables e below (T.setTop { g with pc := g.pc + 1, stack := v :: rest }) target) : Steps p.tables e below (T.setTop g) target := by
  obtain ⟨cl, A, -, r2, r3, r4⟩ := F
  exact X.caload hx (by rw [eT]; exact A.1) (State.isArrayOf_alike hZ.alike A.2.1) A.2.2 (own_in hj hi r2 hn) (by rw [hi, r4 i hn, hv]) hg hs hd _ kt
theorem own_ldB (X : Stand p l e R s m args below meth c T locs cells slots) (hx : p.tables.exec = Jvm.exec) (hZ : Z.Warmed39 s.vm) (eT : T.heap = h) (F : own_Ar Z h a k .byte n f) {j : Int32} (hj : ¬ j < 0) (hi : j.toNatClampNeg = i) (hn : i < n) (hv : f i = v) {g : JFrame} (hg : g.method = m) {rest : List Value} (hs : g.stack = .int j :: .ref a :: rest) (hd : decode c.code g.pc = .ok (.baload, 1)) (target : State)
    (kt : Steps p.tables e below (T.setTop { g with pc := g.pc + 1, stack := v :: rest }) target) : Steps p.tables e below (T.setTop g) target := by
  obtain ⟨cl, A, -, r2, r3, r4⟩ := F
  exact X.baloadBytes hx (by rw [eT]; exact A.1) (State.isArrayOf_alike hZ.alike A.2.1) A.2.2 (own_in hj hi r2 hn) (by rw [hi, r4 i hn, hv]) hg hs hd _ kt
theorem own_ldZ (X : Stand p l e R s m args below meth c T locs cells slots) (hx : p.tables.exec = Jvm.exec) (hZ : Z.Warmed39 s.vm) (eT : T.heap = h) (F : own_Ar Z h a k .boolean n f) {j : Int32} (hj : ¬ j < 0) (hi : j.toNatClampNeg = i) (hn : i < n) (hv : f i = v) {g : JFrame} (hg : g.method = m) {rest : List Value} (hs : g.stack = .int j :: .ref a :: rest) (hd : decode c.code g.pc = .ok (.baload, 1)) (target : State)
    (kt : Steps p.tables e below (T.setTop { g with pc := g.pc + 1, stack := v :: rest }) target) : Steps p.tables e below (T.setTop g) target := by
  obtain ⟨cl, A, -, r2, r3, r4⟩ := F
  exact X.baloadBooleans hx (by rw [eT]; exact A.1) (State.isArrayOf_alike hZ.alike A.2.1) A.2.2 (own_in hj hi r2 hn) (by rw [hi, r4 i hn, hv]) hg hs hd _ kt
theorem own_ldR (X : Stand p l e R s m args below meth c T locs cells slots) (hx : p.tables.exec = Jvm.exec) (hZ : Z.Warmed39 s.vm) (eT : T.heap = h) (F : own_Ar Z h a k ty n f) (ht : ty.isReference = true) {j : Int32} (hj : ¬ j < 0) (hi : j.toNatClampNeg = i) (hn : i < n) (hv : f i = v) {g : JFrame} (hg : g.method = m) {rest : List Value} (hs : g.stack = .int j :: .ref a :: rest) (hd : decode c.code g.pc = .ok (.aaload, 1)) (target : State)
    (kt : Steps p.tables e below (T.setTop { g with pc := g.pc + 1, stack := v :: rest }) target) : Steps p.tables e below (T.setTop g) target := by
  obtain ⟨cl, A, -, r2, r3, r4⟩ := F
  exact X.aaload hx (by rw [eT]; exact A.1) (State.isArrayOf_alike hZ.alike A.2.1) ht A.2.2 (own_in hj hi r2 hn) (by rw [hi, r4 i hn, hv]) hg hs hd _ kt
theorem own_newP (X : Stand p l e R s m args below meth c T locs cells slots) (hx : p.tables.exec = Jvm.exec) (hZ : Z.Warmed39 s.vm) {aty : ArrayType} (w : (Cond.arrayClass (newarray.typeOf aty)).before a0 Z = true) (eT : T.heap = h) {g : JFrame} (hg : g.method = m) (hd : decode c.code g.pc = .ok (.newarray aty, 2)) {z : Int32} {rest : List Value} (hs : g.stack = .int z :: rest)
    (hz : ¬ z < 0) (hzn : z.toNatClampNeg = n) {cap : Nat} (hcap : n ≤ cap) (hb : cap * 8 ≤ 536870912) (hc : cells + 1 ≤ R.cells) (hl : slots + cap ≤ R.slots) :
    ∃ T' h' k, Stand p l e R s m args below meth c T' locs (cells + 1) (slots + cap) ∧ T'.heap = h' ∧ Ext h h' ∧ own_Ar Z h' h.size k (newarray.typeOf aty) n (fun _ => defaultValue (newarray.typeOf aty)) ∧
      ∀ target, Steps p.tables e below (T'.setTop { g with pc := g.pc + 2, stack := .ref h.size :: rest }) target → Steps p.tables e below (T.setTop g) target := by
  obtain ⟨T', h', cA, X', e', E, A, st⟩ := newP X hx hZ w eT hg hd hs hz (cap := cap) (by rw [hzn]; exact hcap) hb hc hl
  refine ⟨T', h', cA, X', e', E, ⟨_, A, rfl, (sz_new _ _ _).trans hzn, by omega, fun i hi => ?_⟩, st⟩
  have hs : i < z.toNatClampNeg := by rw [hzn]; exact hi
  simp [newA, hs, defaultValue]
theorem own_stI (X : Stand p l e R s m args below meth c T locs cells slots) (hx : p.tables.exec = Jvm.exec) (hZ : Z.Warmed39 s.vm) (eT : T.heap = h) (F : own_Ar Z h a k .int n f) {j x : Int32} (hj : ¬ j < 0) (hi : j.toNatClampNeg = i) (hn : i < n) {g : JFrame} (hg : g.method = m) {rest : List Value} (hs : g.stack = .int x :: .int j :: .ref a :: rest) (hd : decode c.code g.pc = .ok (.iastore, 1)) :
    ∃ T' h', Stand p l e R s m args below meth c T' (locs ++ [⟨a, i⟩]) cells slots ∧ T'.heap = h' ∧ Wr h h' a i (.int x) ∧ own_Ar Z h' a k .int n (fun j => if j = i then .int x else f j) ∧ ∀ target, Steps p.tables e below (T'.setTop { g with pc := g.pc + 1, stack := rest }) target → Steps p.tables e below (T.setTop g) target := by
  obtain ⟨cl, A, r1, r2, r3, r4⟩ := F
  obtain ⟨T', h', X', e', W, st⟩ := stI X hx hZ eT A (own_in hj hi r2 hn) hg hs hd
  rw [hi] at X' W
  exact ⟨T', h', X', e', W, own_Ar.set ⟨cl, A, r1, r2, r3, r4⟩ W, st⟩
theorem own_stJ (X : Stand p l e R s m args below meth c T locs cells slots) (hx : p.tables.exec = Jvm.exec) (hZ : Z.Warmed39 s.vm) (eT : T.heap = h) (F : own_Ar Z h a k .long n f) {j : Int32} {x : Int64} (hj : ¬ j < 0) (hi : j.toNatClampNeg = i) (hn : i < n) {g : JFrame} (hg : g.method = m) {rest : List Value} (hs : g.stack = .long x :: .int j :: .ref a :: rest) (hd : decode c.code g.pc = .ok (.lastore, 1)) :
    ∃ T' h', Stand p l e R s m args below meth c T' (locs ++ [⟨a, i⟩]) cells slots ∧ T'.heap = h' ∧ Wr h h' a i (.long x) ∧ own_Ar Z h' a k .long n (fun j => if j = i then .long x else f j) ∧ ∀ target, Steps p.tables e below (T'.setTop { g with pc := g.pc + 1, stack := rest }) target → Steps p.tables e below (T.setTop g) target := by
  obtain ⟨cl, A, r1, r2, r3, r4⟩ := F
  obtain ⟨T', h', X', e', W, st⟩ := stJ X hx hZ eT A (own_in hj hi r2 hn) hg hs hd
  rw [hi] at X' W
  exact ⟨T', h', X', e', W, own_Ar.set ⟨cl, A, r1, r2, r3, r4⟩ W, st⟩
theorem own_stB (X : Stand p l e R s m args below meth c T locs cells slots) (hx : p.tables.exec = Jvm.exec) (hZ : Z.Warmed39 s.vm) (eT : T.heap = h) (F : own_Ar Z h a k .byte n f) {j x : Int32} (hj : ¬ j < 0) (hi : j.toNatClampNeg = i) (hn : i < n) {g : JFrame} (hg : g.method = m) {rest : List Value} (hs : g.stack = .int x :: .int j :: .ref a :: rest) (hd : decode c.code g.pc = .ok (.bastore, 1)) :
    ∃ T' h', Stand p l e R s m args below meth c T' (locs ++ [⟨a, i⟩]) cells slots ∧ T'.heap = h' ∧ Wr h h' a i (.int (nar .byte x)) ∧ own_Ar Z h' a k .byte n (fun j => if j = i then .int (nar .byte x) else f j) ∧ ∀ target, Steps p.tables e below (T'.setTop { g with pc := g.pc + 1, stack := rest }) target → Steps p.tables e below (T.setTop g) target := by
  obtain ⟨cl, A, r1, r2, r3, r4⟩ := F
  obtain ⟨T', h', X', e', W, st⟩ := stB X hx hZ eT A (own_in hj hi r2 hn) hg hs hd
  rw [hi] at X' W
  exact ⟨T', h', X', e', W, own_Ar.set ⟨cl, A, r1, r2, r3, r4⟩ W, st⟩
theorem own_stZ (X : Stand p l e R s m args below meth c T locs cells slots) (hx : p.tables.exec = Jvm.exec) (hZ : Z.Warmed39 s.vm) (eT : T.heap = h) (F : own_Ar Z h a k .boolean n f) {j x : Int32} (hj : ¬ j < 0) (hi : j.toNatClampNeg = i) (hn : i < n) {g : JFrame} (hg : g.method = m) {rest : List Value} (hs : g.stack = .int x :: .int j :: .ref a :: rest) (hd : decode c.code g.pc = .ok (.bastore, 1)) :
    ∃ T' h', Stand p l e R s m args below meth c T' (locs ++ [⟨a, i⟩]) cells slots ∧ T'.heap = h' ∧ Wr h h' a i (.int (nar .boolean x)) ∧ own_Ar Z h' a k .boolean n (fun j => if j = i then .int (nar .boolean x) else f j) ∧ ∀ target, Steps p.tables e below (T'.setTop { g with pc := g.pc + 1, stack := rest }) target → Steps p.tables e below (T.setTop g) target := by
  obtain ⟨cl, A, r1, r2, r3, r4⟩ := F
  obtain ⟨T', h', X', e', W, st⟩ := stZ X hx hZ eT A (own_in hj hi r2 hn) hg hs hd
  rw [hi] at X' W
  exact ⟨T', h', X', e', W, own_Ar.set ⟨cl, A, r1, r2, r3, r4⟩ W, st⟩
theorem own_stC (X : Stand p l e R s m args below meth c T locs cells slots) (hx : p.tables.exec = Jvm.exec) (hZ : Z.Warmed39 s.vm) (eT : T.heap = h) (F : own_Ar Z h a k .char n f) {j x : Int32} (hj : ¬ j < 0) (hi : j.toNatClampNeg = i) (hn : i < n) {g : JFrame} (hg : g.method = m) {rest : List Value} (hs : g.stack = .int x :: .int j :: .ref a :: rest) (hd : decode c.code g.pc = .ok (.castore, 1)) :
    ∃ T' h', Stand p l e R s m args below meth c T' (locs ++ [⟨a, i⟩]) cells slots ∧ T'.heap = h' ∧ Wr h h' a i (.int (nar .char x)) ∧ own_Ar Z h' a k .char n (fun j => if j = i then .int (nar .char x) else f j) ∧ ∀ target, Steps p.tables e below (T'.setTop { g with pc := g.pc + 1, stack := rest }) target → Steps p.tables e below (T.setTop g) target := by
  obtain ⟨cl, A, r1, r2, r3, r4⟩ := F
  obtain ⟨T', h', X', e', W, st⟩ := stC X hx hZ eT A (own_in hj hi r2 hn) hg hs hd
  rw [hi] at X' W
  exact ⟨T', h', X', e', W, own_Ar.set ⟨cl, A, r1, r2, r3, r4⟩ W, st⟩
theorem own_stR (X : Stand p l e R s m args below meth c T locs cells slots) (hx : p.tables.exec = Jvm.exec) (hZ : Z.Warmed39 s.vm) (eT : T.heap = h) (F : own_Ar Z h a k ty n f) (ht : ty.isReference = true) {j : Int32} (S : Sto Z h a v) (hj : ¬ j < 0) (hi : j.toNatClampNeg = i) (hn : i < n) {g : JFrame} (hg : g.method = m) {rest : List Value} (hs : g.stack = v :: .int j :: .ref a :: rest) (hd : decode c.code g.pc = .ok (.aastore, 1)) :
    ∃ T' h', Stand p l e R s m args below meth c T' (locs ++ [⟨a, i⟩]) cells slots ∧ T'.heap = h' ∧ Wr h h' a i v ∧ own_Ar Z h' a k ty n (fun j => if j = i then v else f j) ∧ ∀ target, Steps p.tables e below (T'.setTop { g with pc := g.pc + 1, stack := rest }) target → Steps p.tables e below (T.setTop g) target := by
  obtain ⟨cl, A, r1, r2, r3, r4⟩ := F
  obtain ⟨T', h', X', e', W, st⟩ := stR X hx hZ eT A (own_in hj hi r2 hn) ht S hg hs hd
  rw [hi] at X' W
  exact ⟨T', h', X', e', W, own_Ar.set ⟨cl, A, r1, r2, r3, r4⟩ W, st⟩
theorem own_newR (X : Stand p l e R s m args below meth c T locs cells slots) (hx : p.tables.exec = Jvm.exec) (hZ : Z.Warmed39 s.vm) {own C : String} {index : Nat} (hown : s.vm.findClass own = some m.cls) (w1 : (Cond.classLink own index C).before a0 Z = true) (w2 : (Cond.arrayOver (.object C)).before a0 Z = true)
    (eT : T.heap = h) {g : JFrame} (hg : g.method = m) (hd : decode c.code g.pc = .ok (.anewarray index, 3)) {z : Int32} {rest : List Value} (hs : g.stack = .int z :: rest) (hz : ¬ z < 0) (hzn : z.toNatClampNeg = n) {cap : Nat} (hcap : n ≤ cap) (hb : cap * 8 ≤ 536870912) (hc : cells + 1 ≤ R.cells) (hl : slots + cap ≤ R.slots) :
    ∃ T' h' k, Stand p l e R s m args below meth c T' locs (cells + 1) (slots + cap) ∧ T'.heap = h' ∧ Ext h h' ∧ own_Ar Z h' h.size k (.object C) n (fun _ => .null) ∧ Ovr Z k C ∧
      ∀ target, Steps p.tables e below (T'.setTop { g with pc := g.pc + 3, stack := .ref h.size :: rest }) target → Steps p.tables e below (T.setTop g) target := by
  obtain ⟨T', h', cA, X', e', E, A, O, st⟩ := newR X hx hZ hown w1 w2 eT hg hd hs hz (cap := cap) (by rw [hzn]; exact hcap) hb hc hl
  refine ⟨T', h', cA, X', e', E, ⟨_, A, rfl, (sz_new _ _ _).trans hzn, by omega, fun i hi => ?_⟩, O, st⟩
  have hs : i < z.toNatClampNeg := by rw [hzn]; exact hi
  simp [newA, hs, defaultValue]
theorem own_Ar.sto {C : String} {y : Addr} (F : own_Ar Z h a k ty n f) (O : Ovr Z k C) (I : Ins Z h y C true) : Sto Z h a (.ref y) := by
  obtain ⟨cl, A, r1, -⟩ := F
  exact Sto.of A (r1 ▸ O) I
end OwnArrays
section OwnS
variable {p : Program} {l : Launch} {e : Env} {R : Room} {s : State} {m : MethodId} {args : Array Value} {below : List Frame} {meth : Method} {c : Code} {T : State} {locs : List Loc} {cells slots : Nat} {Z : State} {a0 : Array Value} {h : Heap} {vm0 : Vm} {k0 : Nat}
/-- as own_Ends, where Strings may have been interned meanwhile (the wide frame) -/
def own_EndsS (p : Program) (e : Env) (s : State) (below : List Frame) (C S : Nat) (Q : Option Value → Heap → List Loc → Prop) (T : State) (g : JFrame) : Prop :=
  ∃ s₂ o, Steps p.tables e below (T.setTop g) s₂ ∧ s₂.status = .running ∧ Ended s₂ below o ∧ ∃ v L, o = .returned v ∧ Q v s₂.heap L ∧ ReturnedEndW s o s₂ L C S
theorem own_goS {C S : Nat} {Q : Option Value → Heap → List Loc → Prop} {T' : State} {g g' : JFrame} (st : ∀ t, Steps p.tables e below (T'.setTop g') t → Steps p.tables e below (T.setTop g) t) (k : own_EndsS p e s below C S Q T' g') : own_EndsS p e s below C S Q T g := by
  obtain ⟨s₂, o, h, r⟩ := k
  exact ⟨s₂, o, st _ h, r⟩
theorem own_castS {C S : Nat} {Q : Option Value → Heap → List Loc → Prop} {g g' : JFrame} (q : g = g') (k : own_EndsS p e s below C S Q T g') : own_EndsS p e s below C S Q T g := q ▸ k
def own_CS (l : Launch) (y : MethodName) (bytes : ByteArray) (maxL : Nat) (ret : Option FieldType) (rm : Room) (Z : State) (A : Array Value) (h : Heap) (Q : Option Value → Heap → List Loc → Prop) : Prop :=
  ∀ ws : List Jvm.Cond, MetFree l y (head1 (Jvm.Cond.code y bytes maxL ret :: ws) rm) (fun a U => a = A ∧ Z.Warmed39 U.vm ∧ U.heap = h) (fun _ _ _ _ _ => True) (fun _ U o U' => ∃ v L, o = .returned v ∧ Q v U'.heap L ∧ ReturnedEndW U o U' L rm.cells rm.slots)
theorem own_enterS {y : MethodName} {bytes : ByteArray} {maxL : Nat} {ret : Option FieldType} {rm : Room} {A : Array Value} {Q : Option Value → Heap → List Loc → Prop} (hp : plainFor y = true)
    (body : ∀ (p : Program) (e : Env) (s : State) (m : MethodId) (below : List Frame) (meth : Method) (c : Code) (s₁ : State), Stand p l e rm (s.setVm s.vm) m A below meth c s₁ [] 0 0 → p.tables.exec = Jvm.exec → c.code = bytes → c.maxLocals = maxL → (s.setVm s.vm).vm.findClass y.cls = some m.cls → meth.name = y.name → meth.sig.returnType = ret → meth.locks = false → Z.Warmed39 (s.setVm s.vm).vm → s₁.heap = h → s.Since s.vm 0 →
      own_EndsS p e s below rm.cells rm.slots Q s₁ (entryFrame m A maxL)) : own_CS l y bytes maxL ret rm Z A h Q := by
  intro ws
  refine MetFree.of_bodySF hp hisR ?_
  intro p e s m args below meth c s₁ Bd hml hP hK
  obtain ⟨rfl, hZ, hh⟩ := hP
  exact body p e s m below meth c s₁ (Stand.of_body Bd) Bd.exec Bd.bytes hml (findClass_of_methodNamed Bd.named) (name_of_methodNamed Bd.named Bd.method).1 Bd.returns Bd.notSynchronized hZ (by rw [← hh, Bd.state]; rfl) ((State.WarmedH.refl s).since 0)
theorem own_endS (X : Stand p l e R (s.setVm vm0) m args below meth c T locs cells slots) (hS : s.Since vm0 k0) (hk : k0 ≤ T.heap.size) {C S : Nat} (hc : cells ≤ C) (hs : slots ≤ S) {v : Option Value} {fs : List Frame} (hW : (s.setVm vm0).WarmedH (T.setFrames fs).vm) (hsame : (s.setVm vm0).sameButNew ({ T.setFrames fs with vm := (s.setVm vm0).vm } : State) locs cells slots) :
    ReturnedEndW s (.returned v) (T.setFrames fs) locs C S := by
  have q := hS.trans (hW.since T.heap.size) hk
  exact ⟨⟨_, rfl⟩, q.1, q.2, (hsame.setVm s.vm).mono hc hs⟩
theorem own_retS (X : Stand p l e R (s.setVm vm0) m args below meth c T locs cells slots) (hx : p.tables.exec = Jvm.exec) (hlk : meth.locks = false) (hS : s.Since vm0 k0) (hk : k0 ≤ T.heap.size) {Q : Option Value → Heap → List Loc → Prop} {C S pc : Nat} {Ls : Array Slot} {w : Value} {t : FieldType} {i : Instr} {rest : List Value} (hret : meth.sig.returnType = some t) (hn : narrow t w = w)
    (hi : (i = .ireturn ∧ (t = .int ∨ t = .boolean ∨ t = .byte ∨ t = .char ∨ t = .short) ∧ ∃ z, w = .int z) ∨ (i = .lreturn ∧ t = .long ∧ ∃ z, w = .long z) ∨ (i = .dreturn ∧ t = .double ∧ ∃ z, w = .double z) ∨ (i = .freturn ∧ t = .float ∧ ∃ z, w = .float z) ∨ (i = .areturn ∧ t.isReference = true ∧ w.isRef = true))
    (hd : decode c.code pc = .ok (i, 1)) (hc : cells ≤ C) (hs : slots ≤ S) (hq : Q (some w) T.heap locs) : own_EndsS p e s below C S Q T (mkF m pc Ls (w :: rest)) := by
  obtain ⟨fs, hr, hrun, hended, hW, hsame⟩ := X.leave (v := some w) (fun h => by rw [hret] at h; cases h) hlk
  exact ⟨_, _, retOut X hx hret hn hi hd hr, hrun, hended, _, _, rfl, hq, own_endS X hS hk hc hs hW hsame⟩
theorem own_retSV (X : Stand p l e R (s.setVm vm0) m args below meth c T locs cells slots) (hx : p.tables.exec = Jvm.exec) (hlk : meth.locks = false) (hS : s.Since vm0 k0) (hk : k0 ≤ T.heap.size) {Q : Option Value → Heap → List Loc → Prop} {C S pc : Nat} {Ls : Array Slot} (hret : meth.sig.returnType = none)
    (hd : decode c.code pc = .ok (.return_, 1)) (hc : cells ≤ C) (hs : slots ≤ S) (hq : Q none T.heap locs) : own_EndsS p e s below C S Q T (mkF m pc Ls []) := by
  obtain ⟨fs, hr, hrun, hended, hW, hsame⟩ := X.leave (v := none) (fun _ => rfl) hlk
  exact ⟨_, _, X.returnOut hx hret hd hr, hrun, hended, _, _, rfl, hq, own_endS X hS hk hc hs hW hsame⟩
theorem own_callSS (X : Stand p l e R (s.setVm vm0) m args below meth c T locs cells slots) (hx : p.tables.exec = Jvm.exec) (hZ : Z.Warmed39 (s.setVm vm0).vm) (hS : s.Since vm0 k0) (hk : k0 ≤ T.heap.size) {own : String} {index : Nat} {y : MethodName} {bytes : ByteArray} {maxL W : Nat} {ret : Option FieldType} {rm : Room} {A : Array Value} {Q : Option Value → Heap → List Loc → Prop}
    (hown : (s.setVm vm0).vm.findClass own = some m.cls) (wl : (Cond.methodLink own index y).before a0 Z = true) (ws : (Cond.static y).before a0 Z = true) (wz : (Cond.initialized y.cls).before a0 Z = true) (wc : (Cond.code y bytes maxL ret).before a0 Z = true)
    (hM : own_CS l y bytes maxL ret rm Z A h Q) (eT : T.heap = h) {g : JFrame} (hg : g.method = m) (hsize : g.locals.size = c.maxLocals) {argsL rest : List Value} (hlen : ∀ sig, parseMethodDescriptor y.desc = some sig → argsL.length = sig.parameters.length) (hstack : g.stack = argsL.reverse ++ rest) (hA : argsL.toArray = A)
    (hW : 2 * g.monitorRoom + (rest.map fun v => v.category).sum ≤ W) (hd : decode c.code g.pc = .ok (.invokestatic index, 3)) (hy : y.cls ≠ "java/lang/invoke/MethodHandle" ∧ y.cls ≠ "java/lang/invoke/VarHandle")
    (hf : rm.frames + 1 ≤ R.frames) (hl : W + (maxL + 11) + rm.locals ≤ R.locals) (hc : cells + rm.cells ≤ R.cells) (hs : slots + rm.slots ≤ R.slots) :
    ∃ v T' L, Stand p l e R (s.setVm T'.vm) m args below meth c T' (locs ++ L) (cells + rm.cells) (slots + rm.slots) ∧ Q v T'.heap L ∧ s.Since T'.vm T'.heap.size ∧ Z.Warmed39 (s.setVm T'.vm).vm ∧ (s.setVm T'.vm).vm.findClass own = some m.cls ∧ ∀ target, Steps p.tables e below (T'.setTop { g with pc := g.pc + 3, stack := v.toList ++ rest }) target → Steps p.tables e below (T.setTop g) target := by
  obtain ⟨v, vm₁, ⟨T', L', k', n'⟩, -, X', hS', hgr, ⟨L, hQ, l1, l2, l3⟩, st⟩ := callSS X hx hown (mvT hZ wl) (mvT hZ ws) (mvT hZ wz) (mvT hZ wc) hy (backOfS (W := W) (hM []) hZ wc wz hf hl) hg hsize hlen hstack hW hd (fun _ _ => ⟨hA, eT, hc, hs⟩)
  dsimp only [Pt.U, Pt.locs, Pt.cells, Pt.slots] at X' l1 l2 l3 st hQ hS' hgr
  subst l1 l2 l3
  obtain ⟨x1, x2, x3, x4⟩ := rebS hS hk X' hS' hgr hZ hown
  exact ⟨v, T', L, x1, hQ, x2, x3, x4, fun _ k => st.trans k⟩
theorem own_callSI (X : Stand p l e R (s.setVm vm0) m args below meth c T locs cells slots) (hx : p.tables.exec = Jvm.exec) (hZ : Z.Warmed39 (s.setVm vm0).vm) (hS : s.Since vm0 k0) (hk : k0 ≤ T.heap.size) {own : String} {index : Nat} {y : MethodName} {bytes : ByteArray} {maxL W : Nat} {rm : Room} {A : Array Value} {Q : Option Value → Heap → List Loc → Prop}
    (hown : (s.setVm vm0).vm.findClass own = some m.cls) (hy1 : y.name = "<init>") (wl : (Cond.methodLink own index y).before a0 Z = true) (ws : (Cond.instanceMethod y).before a0 Z = true) (wz : (Cond.initialized y.cls).before a0 Z = true) (wc : (Cond.code y bytes maxL none).before a0 Z = true)
    (hM : own_CS l y bytes maxL none rm Z A h Q) (eT : T.heap = h) {g : JFrame} (hg : g.method = m) (hsize : g.locals.size = c.maxLocals) {a : Addr} {argsL rest : List Value} (hlen : ∀ sig, parseMethodDescriptor y.desc = some sig → argsL.length = sig.parameters.length) (hstack : g.stack = argsL.reverse ++ .ref a :: rest) (hA : (.ref a :: argsL).toArray = A)
    (hW : 2 * g.monitorRoom + (rest.map fun v => v.category).sum ≤ W) (hd : decode c.code g.pc = .ok (.invokespecial index, 3)) (hy : y.cls ≠ "java/lang/invoke/MethodHandle" ∧ y.cls ≠ "java/lang/invoke/VarHandle")
    (hf : rm.frames + 1 ≤ R.frames) (hl : W + (maxL + 11) + rm.locals ≤ R.locals) (hc : cells + rm.cells ≤ R.cells) (hs : slots + rm.slots ≤ R.slots) :
    ∃ v T' L, Stand p l e R (s.setVm T'.vm) m args below meth c T' (locs ++ L) (cells + rm.cells) (slots + rm.slots) ∧ Q v T'.heap L ∧ s.Since T'.vm T'.heap.size ∧ Z.Warmed39 (s.setVm T'.vm).vm ∧ (s.setVm T'.vm).vm.findClass own = some m.cls ∧ ∀ target, Steps p.tables e below (T'.setTop { g with pc := g.pc + 3, stack := v.toList ++ rest }) target → Steps p.tables e below (T.setTop g) target := by
  obtain ⟨v, vm₁, ⟨T', L', k', n'⟩, -, X', hS', hgr, ⟨L, hQ, l1, l2, l3⟩, st⟩ := X.specialBackS hx hy1 hown (mvT hZ wl) (mvT hZ ws) (mvT hZ wc) hy (backOfS (W := W) (hM []) hZ wc wz hf hl) hg hsize (Steps.refl _) hlen hstack hW hd (fun _ _ => ⟨hA, eT, hc, hs⟩)
  dsimp only [Pt.U, Pt.locs, Pt.cells, Pt.slots] at X' l1 l2 l3 st hQ hS' hgr
  subst l1 l2 l3
  obtain ⟨x1, x2, x3, x4⟩ := rebS hS hk X' hS' hgr hZ hown
  exact ⟨v, T', L, x1, hQ, x2, x3, x4, fun _ k => st.trans k⟩
theorem own_callSV (X : Stand p l e R (s.setVm vm0) m args below meth c T locs cells slots) (hx : p.tables.exec = Jvm.exec) (hZ : Z.Warmed39 (s.setVm vm0).vm) (hS : s.Since vm0 k0) (hk : k0 ≤ T.heap.size) {own K : String} {index : Nat} {y : MethodName} {bytes : ByteArray} {maxL W : Nat} {ret : Option FieldType} {rm : Room} {A : Array Value} {Q : Option Value → Heap → List Loc → Prop}
    (hown : (s.setVm vm0).vm.findClass own = some m.cls) (wl : (Cond.methodLink own index y).before a0 Z = true) (wd : (Cond.declares y).before a0 Z = true) (wsel : (Cond.selects K y y).before a0 Z = true) (ws : (Cond.instanceMethod y).before a0 Z = true) (wz : (Cond.initialized y.cls).before a0 Z = true) (wc : (Cond.code y bytes maxL ret).before a0 Z = true)
    (hM : own_CS l y bytes maxL ret rm Z A h Q) (eT : T.heap = h) {g : JFrame} (hg : g.method = m) (hsize : g.locals.size = c.maxLocals) {a : Addr} {argsL rest : List Value} (hE : Exa Z h a K) (hlen : ∀ sig, parseMethodDescriptor y.desc = some sig → argsL.length = sig.parameters.length) (hstack : g.stack = argsL.reverse ++ .ref a :: rest) (hA : (.ref a :: argsL).toArray = A)
    (hW : 2 * g.monitorRoom + (rest.map fun v => v.category).sum ≤ W) (hd : decode c.code g.pc = .ok (.invokevirtual index, 3)) (hy : y.cls ≠ "java/lang/invoke/MethodHandle" ∧ y.cls ≠ "java/lang/invoke/VarHandle")
    (hf : rm.frames + 1 ≤ R.frames) (hl : W + (maxL + 11) + rm.locals ≤ R.locals) (hc : cells + rm.cells ≤ R.cells) (hs : slots + rm.slots ≤ R.slots) :
    ∃ v T' L, Stand p l e R (s.setVm T'.vm) m args below meth c T' (locs ++ L) (cells + rm.cells) (slots + rm.slots) ∧ Q v T'.heap L ∧ s.Since T'.vm T'.heap.size ∧ Z.Warmed39 (s.setVm T'.vm).vm ∧ (s.setVm T'.vm).vm.findClass own = some m.cls ∧ ∀ target, Steps p.tables e below (T'.setTop { g with pc := g.pc + 3, stack := v.toList ++ rest }) target → Steps p.tables e below (T.setTop g) target := by
  obtain ⟨cq, kq, qa, qb, qc⟩ := isOf hZ eT hE
  obtain ⟨v, vm₁, ⟨T', L', k', n'⟩, -, X', hS', hgr, ⟨L, hQ, l1, l2, l3⟩, st⟩ := X.virtualBackS hx hown (mvT hZ wl) (mvT hZ wd) (notFace_of_selects (args := #[]) (mvT hZ wsel)) (mvT hZ wsel) (mvT hZ ws) hy (backOfS (W := W) (hM []) hZ wc wz hf hl) qa qc hg hsize (Steps.refl _) hlen hstack hW hd (fun _ _ => ⟨hA, eT, hc, hs⟩)
  dsimp only [Pt.U, Pt.locs, Pt.cells, Pt.slots] at X' l1 l2 l3 st hQ hS' hgr
  subst l1 l2 l3
  obtain ⟨x1, x2, x3, x4⟩ := rebS hS hk X' hS' hgr hZ hown
  exact ⟨v, T', L, x1, hQ, x2, x3, x4, fun _ k => st.trans k⟩
end OwnS
theorem pnn_5 : plainName "java/lang/StringUTF16" = true := by first | (simp [plainName, overriddenIn]; done) | decide +kernel
theorem pn_5 : plainFor (⟨"java/lang/StringUTF16", "compress", "([CI[BII)I"⟩ : MethodName) = true := plainFor_of_name pnn_5
theorem d5_0 : decode jdk_52_method_21_code 0 = .ok (.iconst 0, 1) := by decide +kernel
theorem d5_1 : decode jdk_52_method_21_code 1 = .ok (.istore 5, 2) := by decide +kernel
theorem d5_3 : decode jdk_52_method_21_code 3 = .ok (.iload 5, 2) := by decide +kernel
theorem d5_5 : decode jdk_52_method_21_code 5 = .ok (.iload 4, 2) := by decide +kernel
theorem d5_7 : decode jdk_52_method_21_code 7 = .ok (.if_icmp .ge 37, 3) := by decide +kernel
theorem d5_10 : decode jdk_52_method_21_code 10 = .ok (.aload_n 0, 1) := by decide +kernel
theorem d5_11 : decode jdk_52_method_21_code 11 = .ok (.iload_n 1, 1) := by decide +kernel
theorem d5_12 : decode jdk_52_method_21_code 12 = .ok (.caload, 1) := by decide +kernel
theorem d5_13 : decode jdk_52_method_21_code 13 = .ok (.istore 6, 2) := by decide +kernel
theorem d5_15 : decode jdk_52_method_21_code 15 = .ok (.iload 6, 2) := by decide +kernel
theorem d5_17 : decode jdk_52_method_21_code 17 = .ok (.sipush 255, 3) := by decide +kernel
theorem d5_20 : decode jdk_52_method_21_code 20 = .ok (.if_icmp .le 6, 3) := by decide +kernel
theorem d5_26 : decode jdk_52_method_21_code 26 = .ok (.aload_n 2, 1) := by decide +kernel
theorem d5_27 : decode jdk_52_method_21_code 27 = .ok (.iload_n 3, 1) := by decide +kernel
theorem d5_28 : decode jdk_52_method_21_code 28 = .ok (.iload 6, 2) := by decide +kernel
theorem d5_30 : decode jdk_52_method_21_code 30 = .ok (.i2b, 1) := by decide +kernel
theorem d5_31 : decode jdk_52_method_21_code 31 = .ok (.bastore, 1) := by decide +kernel
theorem d5_32 : decode jdk_52_method_21_code 32 = .ok (.iinc 1 1, 3) := by decide +kernel
theorem d5_35 : decode jdk_52_method_21_code 35 = .ok (.iinc 3 1, 3) := by decide +kernel
theorem d5_38 : decode jdk_52_method_21_code 38 = .ok (.iinc 5 1, 3) := by decide +kernel
theorem d5_41 : decode jdk_52_method_21_code 41 = .ok (.goto (-38), 3) := by decide +kernel
theorem d5_44 : decode jdk_52_method_21_code 44 = .ok (.iload 4, 2) := by decide +kernel
theorem d5_46 : decode jdk_52_method_21_code 46 = .ok (.ireturn, 1) := by decide +kernel
theorem pnn_4 : plainName "java/lang/StringUTF16" = true := by first | (simp [plainName, overriddenIn]; done) | decide +kernel
theorem pn_4 : plainFor (⟨"java/lang/StringUTF16", "compress", "([CII)[B"⟩ : MethodName) = true := plainFor_of_name pnn_4
theorem d4_0 : decode jdk_52_method_16_code 0 = .ok (.iload_n 2, 1) := by decide +kernel
theorem d4_1 : decode jdk_52_method_16_code 1 = .ok (.newarray .byte, 2) := by decide +kernel
theorem d4_3 : decode jdk_52_method_16_code 3 = .ok (.astore_n 3, 1) := by decide +kernel
theorem d4_4 : decode jdk_52_method_16_code 4 = .ok (.aload_n 0, 1) := by decide +kernel
theorem d4_5 : decode jdk_52_method_16_code 5 = .ok (.iload_n 1, 1) := by decide +kernel
theorem d4_6 : decode jdk_52_method_16_code 6 = .ok (.aload_n 3, 1) := by decide +kernel
theorem d4_7 : decode jdk_52_method_16_code 7 = .ok (.iconst 0, 1) := by decide +kernel
theorem d4_8 : decode jdk_52_method_16_code 8 = .ok (.iload_n 2, 1) := by decide +kernel
theorem pd_0 : parseMethodDescriptor "([CI[BII)I" = some ⟨[(.array .char), .int, (.array .byte), .int, .int], some .int⟩ := by decide +kernel
theorem d4_9 : decode jdk_52_method_16_code 9 = .ok (.invokestatic 115, 3) := by decide +kernel
theorem d4_12 : decode jdk_52_method_16_code 12 = .ok (.istore 4, 2) := by decide +kernel
theorem d4_14 : decode jdk_52_method_16_code 14 = .ok (.iload 4, 2) := by decide +kernel
theorem d4_16 : decode jdk_52_method_16_code 16 = .ok (.iload_n 2, 1) := by decide +kernel
theorem d4_17 : decode jdk_52_method_16_code 17 = .ok (.if_icmp .eq 40, 3) := by decide +kernel
theorem d4_57 : decode jdk_52_method_16_code 57 = .ok (.aload_n 3, 1) := by decide +kernel
theorem d4_58 : decode jdk_52_method_16_code 58 = .ok (.areturn, 1) := by decide +kernel
theorem pnn_6 : plainName "java/lang/StringUTF16" = true := by first | (simp [plainName, overriddenIn]; done) | decide +kernel
theorem pn_6 : plainFor (⟨"java/lang/StringUTF16", "coderFromArrayLen", "([BI)B"⟩ : MethodName) = true := plainFor_of_name pnn_6
theorem d6_0 : decode jdk_52_method_15_code 0 = .ok (.iload_n 1, 1) := by decide +kernel
theorem d6_1 : decode jdk_52_method_15_code 1 = .ok (.aload_n 0, 1) := by decide +kernel
theorem d6_2 : decode jdk_52_method_15_code 2 = .ok (.arraylength, 1) := by decide +kernel
theorem d6_3 : decode jdk_52_method_15_code 3 = .ok (.isub, 1) := by decide +kernel
theorem d6_4 : decode jdk_52_method_15_code 4 = .ok (.bipush 31, 2) := by decide +kernel
theorem d6_6 : decode jdk_52_method_15_code 6 = .ok (.iushr, 1) := by decide +kernel
theorem d6_7 : decode jdk_52_method_15_code 7 = .ok (.i2b, 1) := by decide +kernel
theorem d6_8 : decode jdk_52_method_15_code 8 = .ok (.ireturn, 1) := by decide +kernel
theorem pnn_2 : plainName "java/lang/String" = true := by first | (simp [plainName, overriddenIn]; done) | decide +kernel
theorem pn_2 : plainFor (⟨"java/lang/String", "<init>", "([CIILjava/lang/Void;)V"⟩ : MethodName) = true := plainFor_of_name pnn_2
theorem d2_0 : decode jdk_42_method_149_code 0 = .ok (.aload_n 0, 1) := by decide +kernel
theorem d2_1 : decode jdk_42_method_149_code 1 = .ok (.invokespecial 1, 3) := by decide +kernel
theorem d2_4 : decode jdk_42_method_149_code 4 = .ok (.iload_n 3, 1) := by decide +kernel
theorem d2_5 : decode jdk_42_method_149_code 5 = .ok (.ifCond .ne 22, 3) := by decide +kernel
theorem d2_27 : decode jdk_42_method_149_code 27 = .ok (.getstatic 38, 3) := by decide +kernel
theorem d2_30 : decode jdk_42_method_149_code 30 = .ok (.ifCond .eq 28, 3) := by decide +kernel
theorem d2_33 : decode jdk_42_method_149_code 33 = .ok (.aload_n 1, 1) := by decide +kernel
theorem d2_34 : decode jdk_42_method_149_code 34 = .ok (.iload_n 2, 1) := by decide +kernel
theorem d2_35 : decode jdk_42_method_149_code 35 = .ok (.iload_n 3, 1) := by decide +kernel
theorem pd_1 : parseMethodDescriptor "([CII)[B" = some ⟨[(.array .char), .int, .int], some (.array .byte)⟩ := by decide +kernel
theorem d2_36 : decode jdk_42_method_149_code 36 = .ok (.invokestatic 177, 3) := by decide +kernel
theorem d2_39 : decode jdk_42_method_149_code 39 = .ok (.astore 5, 2) := by decide +kernel
theorem d2_41 : decode jdk_42_method_149_code 41 = .ok (.aload_n 0, 1) := by decide +kernel
theorem d2_42 : decode jdk_42_method_149_code 42 = .ok (.aload 5, 2) := by decide +kernel
theorem d2_44 : decode jdk_42_method_149_code 44 = .ok (.iload_n 3, 1) := by decide +kernel
theorem pd_2 : parseMethodDescriptor "([BI)B" = some ⟨[(.array .byte), .int], some .byte⟩ := by decide +kernel
theorem d2_45 : decode jdk_42_method_149_code 45 = .ok (.invokestatic 47, 3) := by decide +kernel
theorem d2_48 : decode jdk_42_method_149_code 48 = .ok (.putfield 15, 3) := by decide +kernel
theorem d2_51 : decode jdk_42_method_149_code 51 = .ok (.aload_n 0, 1) := by decide +kernel
theorem d2_52 : decode jdk_42_method_149_code 52 = .ok (.aload 5, 2) := by decide +kernel
theorem d2_54 : decode jdk_42_method_149_code 54 = .ok (.putfield 9, 3) := by decide +kernel
theorem d2_57 : decode jdk_42_method_149_code 57 = .ok (.return_, 1) := by decide +kernel
theorem pnn_1 : plainName "java/lang/String" = true := by first | (simp [plainName, overriddenIn]; done) | decide +kernel
theorem pn_1 : plainFor (⟨"java/lang/String", "<init>", "([C)V"⟩ : MethodName) = true := plainFor_of_name pnn_1
theorem d1_0 : decode jdk_42_method_3_code 0 = .ok (.aload_n 0, 1) := by decide +kernel
theorem d1_1 : decode jdk_42_method_3_code 1 = .ok (.aload_n 1, 1) := by decide +kernel
theorem d1_2 : decode jdk_42_method_3_code 2 = .ok (.iconst 0, 1) := by decide +kernel
theorem d1_3 : decode jdk_42_method_3_code 3 = .ok (.aload_n 1, 1) := by decide +kernel
theorem d1_4 : decode jdk_42_method_3_code 4 = .ok (.arraylength, 1) := by decide +kernel
theorem d1_5 : decode jdk_42_method_3_code 5 = .ok (.aconst_null, 1) := by decide +kernel
theorem pd_3 : parseMethodDescriptor "([CIILjava/lang/Void;)V" = some ⟨[(.array .char), .int, .int, (.object "java/lang/Void")], none⟩ := by decide +kernel
theorem d1_6 : decode jdk_42_method_3_code 6 = .ok (.invokespecial 27, 3) := by decide +kernel
theorem d1_9 : decode jdk_42_method_3_code 9 = .ok (.return_, 1) := by decide +kernel
theorem pnn_18 : plainName "java/lang/Number" = true := by first | (simp [plainName, overriddenIn]; done) | decide +kernel
theorem pn_18 : plainFor (⟨"java/lang/Number", "<init>", "()V"⟩ : MethodName) = true := plainFor_of_name pnn_18
theorem d18_0 : decode jdk_18_method_1_code 0 = .ok (.aload_n 0, 1) := by decide +kernel
theorem d18_1 : decode jdk_18_method_1_code 1 = .ok (.invokespecial 1, 3) := by decide +kernel
theorem d18_4 : decode jdk_18_method_1_code 4 = .ok (.return_, 1) := by decide +kernel
theorem pnn_9 : plainName "java/lang/Record" = true := by first | (simp [plainName, overriddenIn]; done) | decide +kernel
theorem pn_9 : plainFor (⟨"java/lang/Record", "<init>", "()V"⟩ : MethodName) = true := plainFor_of_name pnn_9
theorem d9_0 : decode jdk_30_method_1_code 0 = .ok (.aload_n 0, 1) := by decide +kernel
theorem d9_1 : decode jdk_30_method_1_code 1 = .ok (.invokespecial 1, 3) := by decide +kernel
theorem d9_4 : decode jdk_30_method_1_code 4 = .ok (.return_, 1) := by decide +kernel
theorem pnn_10 : plainName "java/util/Objects" = true := by first | (simp [plainName, overriddenIn]; done) | decide +kernel
theorem pn_10 : plainFor (⟨"java/util/Objects", "requireNonNull", "(Ljava/lang/Object;Ljava/lang/String;)Ljava/lang/Object;"⟩ : MethodName) = true := plainFor_of_name pnn_10
theorem d10_0 : decode jdk_31_method_11_code 0 = .ok (.aload_n 0, 1) := by decide +kernel
theorem d10_1 : decode jdk_31_method_11_code 1 = .ok (.ifnonnull 12, 3) := by decide +kernel
theorem d10_13 : decode jdk_31_method_11_code 13 = .ok (.aload_n 0, 1) := by decide +kernel
theorem d10_14 : decode jdk_31_method_11_code 14 = .ok (.areturn, 1) := by decide +kernel
theorem pnn_16 : plainName "java/lang/String" = true := by first | (simp [plainName, overriddenIn]; done) | decide +kernel
theorem pn_16 : plainFor (⟨"java/lang/String", "equals", "(Ljava/lang/Object;)Z"⟩ : MethodName) = true := plainFor_of_name pnn_16
theorem d16_0 : decode jdk_42_method_66_code 0 = .ok (.aload_n 0, 1) := by decide +kernel
theorem d16_1 : decode jdk_42_method_66_code 1 = .ok (.aload_n 1, 1) := by decide +kernel
theorem d16_2 : decode jdk_42_method_66_code 2 = .ok (.if_acmp .ne 5, 3) := by decide +kernel
theorem d16_5 : decode jdk_42_method_66_code 5 = .ok (.iconst 1, 1) := by decide +kernel
theorem d16_6 : decode jdk_42_method_66_code 6 = .ok (.ireturn, 1) := by decide +kernel
theorem pnn_17 : plainName "java/lang/Integer" = true := by first | (simp [plainName, overriddenIn]; done) | decide +kernel
theorem pn_17 : plainFor (⟨"java/lang/Integer", "<init>", "(I)V"⟩ : MethodName) = true := plainFor_of_name pnn_17
theorem d17_0 : decode jdk_33_method_23_code 0 = .ok (.aload_n 0, 1) := by decide +kernel
theorem pd_4 : parseMethodDescriptor "()V" = some ⟨[], none⟩ := by decide +kernel
theorem d17_1 : decode jdk_33_method_23_code 1 = .ok (.invokespecial 202, 3) := by decide +kernel
theorem d17_4 : decode jdk_33_method_23_code 4 = .ok (.aload_n 0, 1) := by decide +kernel
theorem d17_5 : decode jdk_33_method_23_code 5 = .ok (.iload_n 1, 1) := by decide +kernel
theorem d17_6 : decode jdk_33_method_23_code 6 = .ok (.putfield 205, 3) := by decide +kernel
theorem d17_9 : decode jdk_33_method_23_code 9 = .ok (.return_, 1) := by decide +kernel
theorem pnn_7 : plainName "java/lang/Integer" = true := by first | (simp [plainName, overriddenIn]; done) | decide +kernel
theorem pn_7 : plainFor (⟨"java/lang/Integer", "valueOf", "(I)Ljava/lang/Integer;"⟩ : MethodName) = true := plainFor_of_name pnn_7
theorem d7_0 : decode jdk_33_method_22_code 0 = .ok (.iload_n 0, 1) := by decide +kernel
theorem d7_1 : decode jdk_33_method_22_code 1 = .ok (.bipush (-128), 2) := by decide +kernel
theorem d7_3 : decode jdk_33_method_22_code 3 = .ok (.if_icmp .lt 20, 3) := by decide +kernel
theorem d7_23 : decode jdk_33_method_22_code 23 = .ok (.new 1, 3) := by decide +kernel
theorem d7_26 : decode jdk_33_method_22_code 26 = .ok (.dup, 1) := by decide +kernel
theorem d7_27 : decode jdk_33_method_22_code 27 = .ok (.iload_n 0, 1) := by decide +kernel
theorem pd_5 : parseMethodDescriptor "(I)V" = some ⟨[.int], none⟩ := by decide +kernel
theorem d7_28 : decode jdk_33_method_22_code 28 = .ok (.invokespecial 199, 3) := by decide +kernel
theorem d7_31 : decode jdk_33_method_22_code 31 = .ok (.areturn, 1) := by decide +kernel
theorem d7_6 : decode jdk_33_method_22_code 6 = .ok (.iload_n 0, 1) := by decide +kernel
theorem d7_7 : decode jdk_33_method_22_code 7 = .ok (.getstatic 191, 3) := by decide +kernel
theorem d7_10 : decode jdk_33_method_22_code 10 = .ok (.if_icmp .gt 13, 3) := by decide +kernel
theorem d7_13 : decode jdk_33_method_22_code 13 = .ok (.getstatic 195, 3) := by decide +kernel
theorem d7_16 : decode jdk_33_method_22_code 16 = .ok (.iload_n 0, 1) := by decide +kernel
theorem d7_17 : decode jdk_33_method_22_code 17 = .ok (.sipush 128, 3) := by decide +kernel
theorem d7_20 : decode jdk_33_method_22_code 20 = .ok (.iadd, 1) := by decide +kernel
theorem d7_21 : decode jdk_33_method_22_code 21 = .ok (.aaload, 1) := by decide +kernel
theorem d7_22 : decode jdk_33_method_22_code 22 = .ok (.areturn, 1) := by decide +kernel
theorem pnn_12 : plainName "com/example/nikki/nikki/eventsourcing/Aggregate" = true := by first | (simp [plainName, overriddenIn]; done) | decide +kernel
theorem pn_12 : plainFor (⟨"com/example/nikki/nikki/eventsourcing/Aggregate", "identifier", "()Ljava/lang/String;"⟩ : MethodName) = true := plainFor_of_name pnn_12
theorem d12_0 : decode prog_19_method_5_code 0 = .ok (.aload_n 0, 1) := by decide +kernel
theorem d12_1 : decode prog_19_method_5_code 1 = .ok (.getfield 17, 3) := by decide +kernel
theorem d12_4 : decode prog_19_method_5_code 4 = .ok (.areturn, 1) := by decide +kernel
theorem pnn_14 : plainName "com/example/nikki/nikki/eventsourcing/Aggregate" = true := by first | (simp [plainName, overriddenIn]; done) | decide +kernel
theorem pn_14 : plainFor (⟨"com/example/nikki/nikki/eventsourcing/Aggregate", "version", "()J"⟩ : MethodName) = true := plainFor_of_name pnn_14
theorem d14_0 : decode prog_19_method_6_code 0 = .ok (.aload_n 0, 1) := by decide +kernel
theorem d14_1 : decode prog_19_method_6_code 1 = .ok (.getfield 22, 3) := by decide +kernel
theorem d14_4 : decode prog_19_method_6_code 4 = .ok (.lreturn, 1) := by decide +kernel
theorem pnn_13 : plainName "com/example/nikki/nikki/eventsourcing/Aggregate" = true := by first | (simp [plainName, overriddenIn]; done) | decide +kernel
theorem pn_13 : plainFor (⟨"com/example/nikki/nikki/eventsourcing/Aggregate", "root", "()Ljava/lang/Object;"⟩ : MethodName) = true := plainFor_of_name pnn_13
theorem d13_0 : decode prog_19_method_7_code 0 = .ok (.aload_n 0, 1) := by decide +kernel
theorem d13_1 : decode prog_19_method_7_code 1 = .ok (.getfield 26, 3) := by decide +kernel
theorem d13_4 : decode prog_19_method_7_code 4 = .ok (.areturn, 1) := by decide +kernel
theorem pnn_8 : plainName "com/example/nikki/nikki/eventsourcing/Aggregate" = true := by first | (simp [plainName, overriddenIn]; done) | decide +kernel
theorem pn_8 : plainFor (⟨"com/example/nikki/nikki/eventsourcing/Aggregate", "<init>", "(Ljava/lang/String;JLjava/lang/Object;)V"⟩ : MethodName) = true := plainFor_of_name pnn_8
theorem d8_0 : decode prog_19_method_1_code 0 = .ok (.aload_n 0, 1) := by decide +kernel
theorem d8_1 : decode prog_19_method_1_code 1 = .ok (.invokespecial 1, 3) := by decide +kernel
theorem d8_4 : decode prog_19_method_1_code 4 = .ok (.aload_n 1, 1) := by decide +kernel
theorem d8_5 : decode prog_19_method_1_code 5 = .ok (.ldc 7, 2) := by decide +kernel
theorem pd_6 : parseMethodDescriptor "(Ljava/lang/Object;Ljava/lang/String;)Ljava/lang/Object;" = some ⟨[(.object "java/lang/Object"), (.object "java/lang/String")], some (.object "java/lang/Object")⟩ := by decide +kernel
theorem d8_7 : decode prog_19_method_1_code 7 = .ok (.invokestatic 9, 3) := by decide +kernel
theorem d8_10 : decode prog_19_method_1_code 10 = .ok (.pop, 1) := by decide +kernel
theorem d8_11 : decode prog_19_method_1_code 11 = .ok (.aload 4, 2) := by decide +kernel
theorem d8_13 : decode prog_19_method_1_code 13 = .ok (.ldc 15, 2) := by decide +kernel
theorem d8_15 : decode prog_19_method_1_code 15 = .ok (.invokestatic 9, 3) := by decide +kernel
theorem d8_18 : decode prog_19_method_1_code 18 = .ok (.pop, 1) := by decide +kernel
theorem d8_19 : decode prog_19_method_1_code 19 = .ok (.aload_n 0, 1) := by decide +kernel
theorem d8_20 : decode prog_19_method_1_code 20 = .ok (.aload_n 1, 1) := by decide +kernel
theorem d8_21 : decode prog_19_method_1_code 21 = .ok (.putfield 17, 3) := by decide +kernel
theorem d8_24 : decode prog_19_method_1_code 24 = .ok (.aload_n 0, 1) := by decide +kernel
theorem d8_25 : decode prog_19_method_1_code 25 = .ok (.lload_n 2, 1) := by decide +kernel
theorem d8_26 : decode prog_19_method_1_code 26 = .ok (.putfield 22, 3) := by decide +kernel
theorem d8_29 : decode prog_19_method_1_code 29 = .ok (.aload_n 0, 1) := by decide +kernel
theorem d8_30 : decode prog_19_method_1_code 30 = .ok (.aload 4, 2) := by decide +kernel
theorem d8_32 : decode prog_19_method_1_code 32 = .ok (.putfield 26, 3) := by decide +kernel
theorem d8_35 : decode prog_19_method_1_code 35 = .ok (.return_, 1) := by decide +kernel
theorem pnn_11 : plainName "com/example/nikki/nikki/eventsourcing/HeldAggregate" = true := by first | (simp [plainName, overriddenIn]; done) | decide +kernel
theorem pn_11 : plainFor (⟨"com/example/nikki/nikki/eventsourcing/HeldAggregate", "<init>", "(Lcom/example/nikki/nikki/eventsourcing/Aggregate;J)V"⟩ : MethodName) = true := plainFor_of_name pnn_11
theorem d11_0 : decode prog_32_method_1_code 0 = .ok (.aload_n 0, 1) := by decide +kernel
theorem d11_1 : decode prog_32_method_1_code 1 = .ok (.invokespecial 1, 3) := by decide +kernel
theorem d11_4 : decode prog_32_method_1_code 4 = .ok (.aload_n 0, 1) := by decide +kernel
theorem d11_5 : decode prog_32_method_1_code 5 = .ok (.ldc2_w 9, 3) := by decide +kernel
theorem d11_8 : decode prog_32_method_1_code 8 = .ok (.putfield 11, 3) := by decide +kernel
theorem d11_11 : decode prog_32_method_1_code 11 = .ok (.aload_n 0, 1) := by decide +kernel
theorem d11_12 : decode prog_32_method_1_code 12 = .ok (.aload_n 1, 1) := by decide +kernel
theorem pd_7 : parseMethodDescriptor "()Ljava/lang/String;" = some ⟨[], some (.object "java/lang/String")⟩ := by decide +kernel
theorem d11_13 : decode prog_32_method_1_code 13 = .ok (.invokevirtual 17, 3) := by decide +kernel
theorem d11_16 : decode prog_32_method_1_code 16 = .ok (.putfield 23, 3) := by decide +kernel
theorem d11_19 : decode prog_32_method_1_code 19 = .ok (.aload_n 0, 1) := by decide +kernel
theorem d11_20 : decode prog_32_method_1_code 20 = .ok (.aload_n 1, 1) := by decide +kernel
theorem pd_8 : parseMethodDescriptor "()Ljava/lang/Object;" = some ⟨[], some (.object "java/lang/Object")⟩ := by decide +kernel
theorem d11_21 : decode prog_32_method_1_code 21 = .ok (.invokevirtual 26, 3) := by decide +kernel
theorem d11_24 : decode prog_32_method_1_code 24 = .ok (.putfield 30, 3) := by decide +kernel
theorem d11_27 : decode prog_32_method_1_code 27 = .ok (.aload_n 0, 1) := by decide +kernel
theorem d11_28 : decode prog_32_method_1_code 28 = .ok (.aload_n 1, 1) := by decide +kernel
theorem pd_9 : parseMethodDescriptor "()J" = some ⟨[], some .long⟩ := by decide +kernel
theorem d11_29 : decode prog_32_method_1_code 29 = .ok (.invokevirtual 33, 3) := by decide +kernel
theorem d11_32 : decode prog_32_method_1_code 32 = .ok (.putfield 37, 3) := by decide +kernel
theorem d11_35 : decode prog_32_method_1_code 35 = .ok (.aload_n 0, 1) := by decide +kernel
theorem d11_36 : decode prog_32_method_1_code 36 = .ok (.lload_n 2, 1) := by decide +kernel
theorem d11_37 : decode prog_32_method_1_code 37 = .ok (.putfield 39, 3) := by decide +kernel
theorem d11_40 : decode prog_32_method_1_code 40 = .ok (.return_, 1) := by decide +kernel
theorem pnn_15 : plainName "com/example/nikki/nikki/eventsourcing/HeldAggregate" = true := by first | (simp [plainName, overriddenIn]; done) | decide +kernel
theorem pn_15 : plainFor (⟨"com/example/nikki/nikki/eventsourcing/HeldAggregate", "state", "()Lcom/example/nikki/nikki/eventsourcing/Aggregate;"⟩ : MethodName) = true := plainFor_of_name pnn_15
theorem d15_0 : decode prog_32_method_2_code 0 = .ok (.new 18, 3) := by decide +kernel
theorem d15_3 : decode prog_32_method_2_code 3 = .ok (.dup, 1) := by decide +kernel
theorem d15_4 : decode prog_32_method_2_code 4 = .ok (.aload_n 0, 1) := by decide +kernel
theorem d15_5 : decode prog_32_method_2_code 5 = .ok (.getfield 23, 3) := by decide +kernel
theorem d15_8 : decode prog_32_method_2_code 8 = .ok (.aload_n 0, 1) := by decide +kernel
theorem d15_9 : decode prog_32_method_2_code 9 = .ok (.getfield 37, 3) := by decide +kernel
theorem d15_12 : decode prog_32_method_2_code 12 = .ok (.aload_n 0, 1) := by decide +kernel
theorem d15_13 : decode prog_32_method_2_code 13 = .ok (.getfield 30, 3) := by decide +kernel
theorem pd_10 : parseMethodDescriptor "(Ljava/lang/String;JLjava/lang/Object;)V" = some ⟨[(.object "java/lang/String"), .long, (.object "java/lang/Object")], none⟩ := by decide +kernel
theorem d15_16 : decode prog_32_method_2_code 16 = .ok (.invokespecial 42, 3) := by decide +kernel
theorem d15_19 : decode prog_32_method_2_code 19 = .ok (.areturn, 1) := by decide +kernel
theorem pnn_0 : plainName "com/example/nikki/nikki/eventsourcing/HeldAggregateStatePinLaw" = true := by first | (simp [plainName, overriddenIn]; done) | decide +kernel
theorem pn_0 : plainFor (⟨"com/example/nikki/nikki/eventsourcing/HeldAggregateStatePinLaw", "law", "(IIJJJI)Z"⟩ : MethodName) = true := plainFor_of_name pnn_0
theorem pd_11 : parseMethodDescriptor "([C)V" = some ⟨[(.array .char)], none⟩ := by decide +kernel
theorem pd_12 : parseMethodDescriptor "(I)Ljava/lang/Integer;" = some ⟨[.int], some (.object "java/lang/Integer")⟩ := by decide +kernel
theorem pd_13 : parseMethodDescriptor "(Lcom/example/nikki/nikki/eventsourcing/Aggregate;J)V" = some ⟨[(.object "com/example/nikki/nikki/eventsourcing/Aggregate"), .long], none⟩ := by decide +kernel
theorem pd_14 : parseMethodDescriptor "()Lcom/example/nikki/nikki/eventsourcing/Aggregate;" = some ⟨[], some (.object "com/example/nikki/nikki/eventsourcing/Aggregate")⟩ := by decide +kernel
theorem pd_15 : parseMethodDescriptor "(Ljava/lang/Object;)Z" = some ⟨[(.object "java/lang/Object")], some .boolean⟩ := by decide +kernel
/-- a char's low byte, as bastore keeps it -/
def own_b (x : Int32) : Int32 := nar .byte x.toInt8.toInt32
def own_Lat (c : Nat → Int32) (j : Nat) : Value := .int (own_b (c j))
theorem own_stf {F : Nat → Value} {d : Value} {i : Nat} (j : Nat) : (if j = i then F i else if j < i then F j else d) = if j < i + 1 then F j else d := by
  by_cases q : j = i
  · subst q; rw [if_pos rfl, if_pos (Nat.lt_succ_self j)]
  · rw [if_neg q]
    by_cases r : j < i
    · rw [if_pos r, if_pos (Nat.lt_succ_of_lt r)]
    · rw [if_neg r, if_neg (by omega)]
def own_NS (h : Heap) (ws : List Addr) : Prop := ∀ x ∈ ws, ∀ c, h[x]? = some c → c.vm.isStatics = false
theorem own_ns0 {h : Heap} : own_NS h [] := fun _ q => nomatch q
theorem own_nsE {Z : State} {h : Heap} {a : Addr} {C : String} {ws : List Addr} (E : Exa Z h a C) (r : own_NS h ws) : own_NS h (a :: ws) := fun x hx c hc => by
  rcases List.mem_cons.mp hx with rfl | q
  · obtain ⟨cell, k, h1, -, -, h4, -⟩ := E
    rw [hc] at h1; cases h1; exact h4
  · exact r x q c hc
theorem own_Sta.keep {Z : State} {h h' : Heap} {C n d : String} {v : Value} {ws : List Addr} (F : Sta Z h C n d v) (K : Keep h h' ws) (N : own_NS h ws) : Sta Z h' C n d v := by
  obtain ⟨cf, i, k, f, st, cell, h1, h2, h3, h4, h5, h6, h7⟩ := F
  refine ⟨cf, i, k, f, st, cell, h1, h2, h3, h4, K.2.1 st cell h5 (fun q => ?_), h6, h7⟩
  rw [N st q cell h5] at h6; cases h6

theorem own_wS {Z : State} {a0 : Array Value} (hw : ∀ d ∈ tables_1, d.before a0 Z = true) : ∀ d ∈ Bundle.stringAtoms, d.before a0 Z = true := by
  intro d hd
  simp only [Bundle.stringAtoms, List.mem_cons, List.not_mem_nil, or_false] at hd
  rcases hd with rfl | rfl | rfl | rfl | rfl | rfl | rfl
  · exact hw _ (List.mem_of_getElem? (i := 3) rfl)
  · exact hw _ (List.mem_of_getElem? (i := 2) rfl)
  · exact hw _ (List.mem_of_getElem? (i := 19) rfl)
  · exact hw _ (List.mem_of_getElem? (i := 29) rfl)
  · exact hw _ (List.mem_of_getElem? (i := 27) rfl)
  · exact hw _ (List.mem_of_getElem? (i := 50) rfl)
  · exact hw _ (List.mem_of_getElem? (i := 51) rfl)
set_option maxRecDepth 65536 in
set_option maxHeartbeats 40000000 in
theorem compress5_2 (l : Launch) (Z : State) (a0 : Array Value) (hw : ∀ d ∈ tables_1, d.before a0 Z = true) (r0 : Addr) (p1 : Int32) (r2 : Addr) (p3 : Int32) (p4 : Int32) (h0 : Heap) (n0 : Nat) (ka : ClassId) (kb : ClassId) (ch : Nat → Int32) (A : own_Ar Z h0 r0 ka .char 2 (fun j => .int (ch j))) (B : own_Ar Z h0 r2 kb .byte 2 (fun _ => .int (0 : Int32))) (ne : r0 ≠ r2) (g2 : n0 ≤ r2) (hp1 : p1 = 0) (hp3 : p3 = 0) (hp4 : p4 = 2) (hc : ∀ j, j < 2 → ¬ (255 : Int32) < ch j) :
    own_C l (⟨"java/lang/StringUTF16", "compress", "([CI[BII)I"⟩ : MethodName) jdk_52_method_21_code 7 (some .int) ({ frames := 0, cells := 0, slots := 0, locals := 0 } : Room) Z #[(.ref r0), (.int p1), (.ref r2), (.int p3), (.int p4)] h0 (fun v h L => v = some (.int (2 : Int32)) ∧ Fr n0 L ∧ Keep h0 h [r2] ∧ own_Ar Z h r2 kb .byte 2 (own_Lat ch)) := by
  refine own_enter pn_5 ?_
  intro p e s m below meth c s₁ X0 hx hby hml hown hnm hret hlk hZ e0
  replace hown : s.vm.findClass "java/lang/StringUTF16" = some m.cls := hown
  have ef : entryFrame m #[(.ref r0), (.int p1), (.ref r2), (.int p3), (.int p4)] 7 = mkF m 0 #[.val (.ref r0), .val (.int p1), .val (.ref r2), .val (.int p3), .val (.int p4), .unset, .unset] [] := by first | rfl | (simp [entryFrame, mkF, argsToLocals, Value.category, maxLocals]; done)
  refine own_cast ef ?_
  show own_Ends _ _ _ _ _ _ _ s₁ (mkF m 0 #[.val (.ref r0), .val (.int p1), .val (.ref r2), .val (.int p3), .val (.int p4), .unset, .unset] [])
  subst hp1 hp3 hp4
  show own_Ends _ _ _ _ _ _ _ s₁ (mkF m 0 #[.val (.ref r0), .val (.int (0 : Int32)), .val (.ref r2), .val (.int (0 : Int32)), .val (.int (2 : Int32)), .unset, .unset] [])
  have N0 := Fr.nil n0
  have K0 : Keep h0 h0 [r2] := Keep.refl _ _
  have B0 : own_Ar Z h0 r2 kb .byte 2 (fun j => if j < 0 then own_Lat ch j else .int (0 : Int32)) := B.cong (fun j _ => (if_neg (Nat.not_lt_zero j)).symm)
  refine own_go (fun _ k => XS.iconst X0.here hx rfl (hb hby d5_0) k) ?_
  show own_Ends _ _ _ _ _ _ _ s₁ (mkF m 1 #[.val (.ref r0), .val (.int (0 : Int32)), .val (.ref r2), .val (.int (0 : Int32)), .val (.int (2 : Int32)), .unset, .unset] [(.int (0 : Int32))])
  refine own_go (fun _ k => XS.istore X0.here hx rfl (hb hby d5_1) rfl (l' := #[.val (.ref r0), .val (.int (0 : Int32)), .val (.ref r2), .val (.int (0 : Int32)), .val (.int (2 : Int32)), .val (.int (0 : Int32)), .unset]) rfl k) ?_
  show own_Ends _ _ _ _ _ _ _ s₁ (mkF m 3 #[.val (.ref r0), .val (.int (0 : Int32)), .val (.ref r2), .val (.int (0 : Int32)), .val (.int (2 : Int32)), .val (.int (0 : Int32)), .unset] [])
  refine own_go (fun _ k => XS.iload X0.here hx rfl (hb hby d5_3) rfl k) ?_
  show own_Ends _ _ _ _ _ _ _ s₁ (mkF m 5 #[.val (.ref r0), .val (.int (0 : Int32)), .val (.ref r2), .val (.int (0 : Int32)), .val (.int (2 : Int32)), .val (.int (0 : Int32)), .unset] [(.int (0 : Int32))])
  refine own_go (fun _ k => XS.iload X0.here hx rfl (hb hby d5_5) rfl k) ?_
  show own_Ends _ _ _ _ _ _ _ s₁ (mkF m 7 #[.val (.ref r0), .val (.int (0 : Int32)), .val (.ref r2), .val (.int (0 : Int32)), .val (.int (2 : Int32)), .val (.int (0 : Int32)), .unset] [(.int (2 : Int32)), (.int (0 : Int32))])
  refine own_go (fun _ k => XS.icmpNo X0.here hx rfl (hb hby d5_7) rfl (tlt (by decide)).2.1 k) ?_
  show own_Ends _ _ _ _ _ _ _ s₁ (mkF m 10 #[.val (.ref r0), .val (.int (0 : Int32)), .val (.ref r2), .val (.int (0 : Int32)), .val (.int (2 : Int32)), .val (.int (0 : Int32)), .unset] [])
  refine own_go (fun _ k => XS.aloadN X0.here hx rfl (hb hby d5_10) rfl rfl k) ?_
  show own_Ends _ _ _ _ _ _ _ s₁ (mkF m 11 #[.val (.ref r0), .val (.int (0 : Int32)), .val (.ref r2), .val (.int (0 : Int32)), .val (.int (2 : Int32)), .val (.int (0 : Int32)), .unset] [(.ref r0)])
  refine own_go (fun _ k => XS.iloadN X0.here hx rfl (hb hby d5_11) rfl k) ?_
  show own_Ends _ _ _ _ _ _ _ s₁ (mkF m 12 #[.val (.ref r0), .val (.int (0 : Int32)), .val (.ref r2), .val (.int (0 : Int32)), .val (.int (2 : Int32)), .val (.int (0 : Int32)), .unset] [(.int (0 : Int32)), (.ref r0)])
  refine own_go (fun _ k => own_ldC X0 hx hZ e0 A (i := 0) (v := (.int (ch 0))) (by decide) (by decide) (by decide) rfl (g := (mkF m 12 #[.val (.ref r0), .val (.int (0 : Int32)), .val (.ref r2), .val (.int (0 : Int32)), .val (.int (2 : Int32)), .val (.int (0 : Int32)), .unset] [(.int (0 : Int32)), (.ref r0)])) rfl rfl (hb hby d5_12) _ k) ?_
  show own_Ends _ _ _ _ _ _ _ s₁ (mkF m 13 #[.val (.ref r0), .val (.int (0 : Int32)), .val (.ref r2), .val (.int (0 : Int32)), .val (.int (2 : Int32)), .val (.int (0 : Int32)), .unset] [(.int (ch 0))])
  refine own_go (fun _ k => XS.istore X0.here hx rfl (hb hby d5_13) rfl (l' := #[.val (.ref r0), .val (.int (0 : Int32)), .val (.ref r2), .val (.int (0 : Int32)), .val (.int (2 : Int32)), .val (.int (0 : Int32)), .val (.int (ch 0))]) rfl k) ?_
  show own_Ends _ _ _ _ _ _ _ s₁ (mkF m 15 #[.val (.ref r0), .val (.int (0 : Int32)), .val (.ref r2), .val (.int (0 : Int32)), .val (.int (2 : Int32)), .val (.int (0 : Int32)), .val (.int (ch 0))] [])
  refine own_go (fun _ k => XS.iload X0.here hx rfl (hb hby d5_15) rfl k) ?_
  show own_Ends _ _ _ _ _ _ _ s₁ (mkF m 17 #[.val (.ref r0), .val (.int (0 : Int32)), .val (.ref r2), .val (.int (0 : Int32)), .val (.int (2 : Int32)), .val (.int (0 : Int32)), .val (.int (ch 0))] [(.int (ch 0))])
  refine own_go (fun _ k => XS.sipush X0.here hx rfl (hb hby d5_17) k) ?_
  show own_Ends _ _ _ _ _ _ _ s₁ (mkF m 20 #[.val (.ref r0), .val (.int (0 : Int32)), .val (.ref r2), .val (.int (0 : Int32)), .val (.int (2 : Int32)), .val (.int (0 : Int32)), .val (.int (ch 0))] [(.int (255 : Int32)), (.int (ch 0))])
  refine own_go (fun _ k => XS.icmpYes X0.here hx rfl (pc0 := 20) (pc' := 26) rfl (hb hby d5_20) rfl (flt (hc 0 (by decide))).2.2.2 (by decide) (by decide) k) ?_
  show own_Ends _ _ _ _ _ _ _ s₁ (mkF m 26 #[.val (.ref r0), .val (.int (0 : Int32)), .val (.ref r2), .val (.int (0 : Int32)), .val (.int (2 : Int32)), .val (.int (0 : Int32)), .val (.int (ch 0))] [])
  refine own_go (fun _ k => XS.aloadN X0.here hx rfl (hb hby d5_26) rfl rfl k) ?_
  show own_Ends _ _ _ _ _ _ _ s₁ (mkF m 27 #[.val (.ref r0), .val (.int (0 : Int32)), .val (.ref r2), .val (.int (0 : Int32)), .val (.int (2 : Int32)), .val (.int (0 : Int32)), .val (.int (ch 0))] [(.ref r2)])
  refine own_go (fun _ k => XS.iloadN X0.here hx rfl (hb hby d5_27) rfl k) ?_
  show own_Ends _ _ _ _ _ _ _ s₁ (mkF m 28 #[.val (.ref r0), .val (.int (0 : Int32)), .val (.ref r2), .val (.int (0 : Int32)), .val (.int (2 : Int32)), .val (.int (0 : Int32)), .val (.int (ch 0))] [(.int (0 : Int32)), (.ref r2)])
  refine own_go (fun _ k => XS.iload X0.here hx rfl (hb hby d5_28) rfl k) ?_
  show own_Ends _ _ _ _ _ _ _ s₁ (mkF m 30 #[.val (.ref r0), .val (.int (0 : Int32)), .val (.ref r2), .val (.int (0 : Int32)), .val (.int (2 : Int32)), .val (.int (0 : Int32)), .val (.int (ch 0))] [(.int (ch 0)), (.int (0 : Int32)), (.ref r2)])
  refine own_go (fun _ k => XS.i2b X0.here hx rfl (hb hby d5_30) rfl k) ?_
  show own_Ends _ _ _ _ _ _ _ s₁ (mkF m 31 #[.val (.ref r0), .val (.int (0 : Int32)), .val (.ref r2), .val (.int (0 : Int32)), .val (.int (2 : Int32)), .val (.int (0 : Int32)), .val (.int (ch 0))] [(.int ((ch 0).toInt8.toInt32)), (.int (0 : Int32)), (.ref r2)])
  obtain ⟨T1, h1, X1, e1, W1, V1, st1⟩ := own_stB X0 hx hZ e0 B0 (i := 0) (by decide) (by decide) (by decide) (g := (mkF m 31 #[.val (.ref r0), .val (.int (0 : Int32)), .val (.ref r2), .val (.int (0 : Int32)), .val (.int (2 : Int32)), .val (.int (0 : Int32)), .val (.int (ch 0))] [(.int ((ch 0).toInt8.toInt32)), (.int (0 : Int32)), (.ref r2)])) rfl rfl (hb hby d5_31)
  have N1 := Fr.snoc X1 N0 g2
  have K_1 := K0.wr W1 (Or.inl (List.mem_of_getElem? (i := 0) rfl))
  have V_r0_1 := A.other W1 ne
  have Vf1 : own_Ar Z h1 r2 kb .byte 2 (fun j => if j < 1 then own_Lat ch j else .int (0 : Int32)) := V1.cong (fun j _ => own_stf (F := own_Lat ch) (i := 0) j)
  refine own_go st1 ?_
  show own_Ends _ _ _ _ _ _ _ T1 (mkF m 32 #[.val (.ref r0), .val (.int (0 : Int32)), .val (.ref r2), .val (.int (0 : Int32)), .val (.int (2 : Int32)), .val (.int (0 : Int32)), .val (.int (ch 0))] [])
  refine own_go (fun _ k => XS.iinc X1.here hx rfl (hb hby d5_32) rfl (l' := #[.val (.ref r0), .val (.int ((0 : Int32) + (1 : Int32))), .val (.ref r2), .val (.int (0 : Int32)), .val (.int (2 : Int32)), .val (.int (0 : Int32)), .val (.int (ch 0))]) rfl k) ?_
  show own_Ends _ _ _ _ _ _ _ T1 (mkF m 35 #[.val (.ref r0), .val (.int ((0 : Int32) + (1 : Int32))), .val (.ref r2), .val (.int (0 : Int32)), .val (.int (2 : Int32)), .val (.int (0 : Int32)), .val (.int (ch 0))] [])
  refine own_go (fun _ k => XS.iinc X1.here hx rfl (hb hby d5_35) rfl (l' := #[.val (.ref r0), .val (.int ((0 : Int32) + (1 : Int32))), .val (.ref r2), .val (.int ((0 : Int32) + (1 : Int32))), .val (.int (2 : Int32)), .val (.int (0 : Int32)), .val (.int (ch 0))]) rfl k) ?_
  show own_Ends _ _ _ _ _ _ _ T1 (mkF m 38 #[.val (.ref r0), .val (.int ((0 : Int32) + (1 : Int32))), .val (.ref r2), .val (.int ((0 : Int32) + (1 : Int32))), .val (.int (2 : Int32)), .val (.int (0 : Int32)), .val (.int (ch 0))] [])
  refine own_go (fun _ k => XS.iinc X1.here hx rfl (hb hby d5_38) rfl (l' := #[.val (.ref r0), .val (.int ((0 : Int32) + (1 : Int32))), .val (.ref r2), .val (.int ((0 : Int32) + (1 : Int32))), .val (.int (2 : Int32)), .val (.int ((0 : Int32) + (1 : Int32))), .val (.int (ch 0))]) rfl k) ?_
  show own_Ends _ _ _ _ _ _ _ T1 (mkF m 41 #[.val (.ref r0), .val (.int ((0 : Int32) + (1 : Int32))), .val (.ref r2), .val (.int ((0 : Int32) + (1 : Int32))), .val (.int (2 : Int32)), .val (.int ((0 : Int32) + (1 : Int32))), .val (.int (ch 0))] [])
  refine own_go (fun _ k => XS.goto X1.here hx rfl (pc0 := 41) (pc' := 3) rfl (hb hby d5_41) (by decide) (by decide) k) ?_
  show own_Ends _ _ _ _ _ _ _ T1 (mkF m 3 #[.val (.ref r0), .val (.int ((0 : Int32) + (1 : Int32))), .val (.ref r2), .val (.int ((0 : Int32) + (1 : Int32))), .val (.int (2 : Int32)), .val (.int ((0 : Int32) + (1 : Int32))), .val (.int (ch 0))] [])
  refine own_go (fun _ k => XS.iload X1.here hx rfl (hb hby d5_3) rfl k) ?_
  show own_Ends _ _ _ _ _ _ _ T1 (mkF m 5 #[.val (.ref r0), .val (.int ((0 : Int32) + (1 : Int32))), .val (.ref r2), .val (.int ((0 : Int32) + (1 : Int32))), .val (.int (2 : Int32)), .val (.int ((0 : Int32) + (1 : Int32))), .val (.int (ch 0))] [(.int ((0 : Int32) + (1 : Int32)))])
  refine own_go (fun _ k => XS.iload X1.here hx rfl (hb hby d5_5) rfl k) ?_
  show own_Ends _ _ _ _ _ _ _ T1 (mkF m 7 #[.val (.ref r0), .val (.int ((0 : Int32) + (1 : Int32))), .val (.ref r2), .val (.int ((0 : Int32) + (1 : Int32))), .val (.int (2 : Int32)), .val (.int ((0 : Int32) + (1 : Int32))), .val (.int (ch 0))] [(.int (2 : Int32)), (.int ((0 : Int32) + (1 : Int32)))])
  rw [show ((0 : Int32) + (1 : Int32)) = (1 : Int32) from (by decide)]
  show own_Ends _ _ _ _ _ _ _ T1 (mkF m 7 #[.val (.ref r0), .val (.int (1 : Int32)), .val (.ref r2), .val (.int (1 : Int32)), .val (.int (2 : Int32)), .val (.int (1 : Int32)), .val (.int (ch 0))] [(.int (2 : Int32)), (.int (1 : Int32))])
  refine own_go (fun _ k => XS.icmpNo X1.here hx rfl (hb hby d5_7) rfl (tlt (by decide)).2.1 k) ?_
  show own_Ends _ _ _ _ _ _ _ T1 (mkF m 10 #[.val (.ref r0), .val (.int (1 : Int32)), .val (.ref r2), .val (.int (1 : Int32)), .val (.int (2 : Int32)), .val (.int (1 : Int32)), .val (.int (ch 0))] [])
  refine own_go (fun _ k => XS.aloadN X1.here hx rfl (hb hby d5_10) rfl rfl k) ?_
  show own_Ends _ _ _ _ _ _ _ T1 (mkF m 11 #[.val (.ref r0), .val (.int (1 : Int32)), .val (.ref r2), .val (.int (1 : Int32)), .val (.int (2 : Int32)), .val (.int (1 : Int32)), .val (.int (ch 0))] [(.ref r0)])
  refine own_go (fun _ k => XS.iloadN X1.here hx rfl (hb hby d5_11) rfl k) ?_
  show own_Ends _ _ _ _ _ _ _ T1 (mkF m 12 #[.val (.ref r0), .val (.int (1 : Int32)), .val (.ref r2), .val (.int (1 : Int32)), .val (.int (2 : Int32)), .val (.int (1 : Int32)), .val (.int (ch 0))] [(.int (1 : Int32)), (.ref r0)])
  refine own_go (fun _ k => own_ldC X1 hx hZ e1 V_r0_1 (i := 1) (v := (.int (ch 1))) (by decide) (by decide) (by decide) rfl (g := (mkF m 12 #[.val (.ref r0), .val (.int (1 : Int32)), .val (.ref r2), .val (.int (1 : Int32)), .val (.int (2 : Int32)), .val (.int (1 : Int32)), .val (.int (ch 0))] [(.int (1 : Int32)), (.ref r0)])) rfl rfl (hb hby d5_12) _ k) ?_
  show own_Ends _ _ _ _ _ _ _ T1 (mkF m 13 #[.val (.ref r0), .val (.int (1 : Int32)), .val (.ref r2), .val (.int (1 : Int32)), .val (.int (2 : Int32)), .val (.int (1 : Int32)), .val (.int (ch 0))] [(.int (ch 1))])
  refine own_go (fun _ k => XS.istore X1.here hx rfl (hb hby d5_13) rfl (l' := #[.val (.ref r0), .val (.int (1 : Int32)), .val (.ref r2), .val (.int (1 : Int32)), .val (.int (2 : Int32)), .val (.int (1 : Int32)), .val (.int (ch 1))]) rfl k) ?_
  show own_Ends _ _ _ _ _ _ _ T1 (mkF m 15 #[.val (.ref r0), .val (.int (1 : Int32)), .val (.ref r2), .val (.int (1 : Int32)), .val (.int (2 : Int32)), .val (.int (1 : Int32)), .val (.int (ch 1))] [])
  refine own_go (fun _ k => XS.iload X1.here hx rfl (hb hby d5_15) rfl k) ?_
  show own_Ends _ _ _ _ _ _ _ T1 (mkF m 17 #[.val (.ref r0), .val (.int (1 : Int32)), .val (.ref r2), .val (.int (1 : Int32)), .val (.int (2 : Int32)), .val (.int (1 : Int32)), .val (.int (ch 1))] [(.int (ch 1))])
  refine own_go (fun _ k => XS.sipush X1.here hx rfl (hb hby d5_17) k) ?_
  show own_Ends _ _ _ _ _ _ _ T1 (mkF m 20 #[.val (.ref r0), .val (.int (1 : Int32)), .val (.ref r2), .val (.int (1 : Int32)), .val (.int (2 : Int32)), .val (.int (1 : Int32)), .val (.int (ch 1))] [(.int (255 : Int32)), (.int (ch 1))])
  refine own_go (fun _ k => XS.icmpYes X1.here hx rfl (pc0 := 20) (pc' := 26) rfl (hb hby d5_20) rfl (flt (hc 1 (by decide))).2.2.2 (by decide) (by decide) k) ?_
  show own_Ends _ _ _ _ _ _ _ T1 (mkF m 26 #[.val (.ref r0), .val (.int (1 : Int32)), .val (.ref r2), .val (.int (1 : Int32)), .val (.int (2 : Int32)), .val (.int (1 : Int32)), .val (.int (ch 1))] [])
  refine own_go (fun _ k => XS.aloadN X1.here hx rfl (hb hby d5_26) rfl rfl k) ?_
  show own_Ends _ _ _ _ _ _ _ T1 (mkF m 27 #[.val (.ref r0), .val (.int (1 : Int32)), .val (.ref r2), .val (.int (1 : Int32)), .val (.int (2 : Int32)), .val (.int (1 : Int32)), .val (.int (ch 1))] [(.ref r2)])
  refine own_go (fun _ k => XS.iloadN X1.here hx rfl (hb hby d5_27) rfl k) ?_
  show own_Ends _ _ _ _ _ _ _ T1 (mkF m 28 #[.val (.ref r0), .val (.int (1 : Int32)), .val (.ref r2), .val (.int (1 : Int32)), .val (.int (2 : Int32)), .val (.int (1 : Int32)), .val (.int (ch 1))] [(.int (1 : Int32)), (.ref r2)])
  refine own_go (fun _ k => XS.iload X1.here hx rfl (hb hby d5_28) rfl k) ?_
  show own_Ends _ _ _ _ _ _ _ T1 (mkF m 30 #[.val (.ref r0), .val (.int (1 : Int32)), .val (.ref r2), .val (.int (1 : Int32)), .val (.int (2 : Int32)), .val (.int (1 : Int32)), .val (.int (ch 1))] [(.int (ch 1)), (.int (1 : Int32)), (.ref r2)])
  refine own_go (fun _ k => XS.i2b X1.here hx rfl (hb hby d5_30) rfl k) ?_
  show own_Ends _ _ _ _ _ _ _ T1 (mkF m 31 #[.val (.ref r0), .val (.int (1 : Int32)), .val (.ref r2), .val (.int (1 : Int32)), .val (.int (2 : Int32)), .val (.int (1 : Int32)), .val (.int (ch 1))] [(.int ((ch 1).toInt8.toInt32)), (.int (1 : Int32)), (.ref r2)])
  obtain ⟨T2, h2, X2, e2, W2, V2, st2⟩ := own_stB X1 hx hZ e1 Vf1 (i := 1) (by decide) (by decide) (by decide) (g := (mkF m 31 #[.val (.ref r0), .val (.int (1 : Int32)), .val (.ref r2), .val (.int (1 : Int32)), .val (.int (2 : Int32)), .val (.int (1 : Int32)), .val (.int (ch 1))] [(.int ((ch 1).toInt8.toInt32)), (.int (1 : Int32)), (.ref r2)])) rfl rfl (hb hby d5_31)
  have N2 := Fr.snoc X2 N1 g2
  have K_2 := K_1.wr W2 (Or.inl (List.mem_of_getElem? (i := 0) rfl))
  have V_r0_2 := V_r0_1.other W2 ne
  have Vf2 : own_Ar Z h2 r2 kb .byte 2 (fun j => if j < 2 then own_Lat ch j else .int (0 : Int32)) := V2.cong (fun j _ => own_stf (F := own_Lat ch) (i := 1) j)
  refine own_go st2 ?_
  show own_Ends _ _ _ _ _ _ _ T2 (mkF m 32 #[.val (.ref r0), .val (.int (1 : Int32)), .val (.ref r2), .val (.int (1 : Int32)), .val (.int (2 : Int32)), .val (.int (1 : Int32)), .val (.int (ch 1))] [])
  refine own_go (fun _ k => XS.iinc X2.here hx rfl (hb hby d5_32) rfl (l' := #[.val (.ref r0), .val (.int ((1 : Int32) + (1 : Int32))), .val (.ref r2), .val (.int (1 : Int32)), .val (.int (2 : Int32)), .val (.int (1 : Int32)), .val (.int (ch 1))]) rfl k) ?_
  show own_Ends _ _ _ _ _ _ _ T2 (mkF m 35 #[.val (.ref r0), .val (.int ((1 : Int32) + (1 : Int32))), .val (.ref r2), .val (.int (1 : Int32)), .val (.int (2 : Int32)), .val (.int (1 : Int32)), .val (.int (ch 1))] [])
  refine own_go (fun _ k => XS.iinc X2.here hx rfl (hb hby d5_35) rfl (l' := #[.val (.ref r0), .val (.int ((1 : Int32) + (1 : Int32))), .val (.ref r2), .val (.int ((1 : Int32) + (1 : Int32))), .val (.int (2 : Int32)), .val (.int (1 : Int32)), .val (.int (ch 1))]) rfl k) ?_
  show own_Ends _ _ _ _ _ _ _ T2 (mkF m 38 #[.val (.ref r0), .val (.int ((1 : Int32) + (1 : Int32))), .val (.ref r2), .val (.int ((1 : Int32) + (1 : Int32))), .val (.int (2 : Int32)), .val (.int (1 : Int32)), .val (.int (ch 1))] [])
  refine own_go (fun _ k => XS.iinc X2.here hx rfl (hb hby d5_38) rfl (l' := #[.val (.ref r0), .val (.int ((1 : Int32) + (1 : Int32))), .val (.ref r2), .val (.int ((1 : Int32) + (1 : Int32))), .val (.int (2 : Int32)), .val (.int ((1 : Int32) + (1 : Int32))), .val (.int (ch 1))]) rfl k) ?_
  show own_Ends _ _ _ _ _ _ _ T2 (mkF m 41 #[.val (.ref r0), .val (.int ((1 : Int32) + (1 : Int32))), .val (.ref r2), .val (.int ((1 : Int32) + (1 : Int32))), .val (.int (2 : Int32)), .val (.int ((1 : Int32) + (1 : Int32))), .val (.int (ch 1))] [])
  refine own_go (fun _ k => XS.goto X2.here hx rfl (pc0 := 41) (pc' := 3) rfl (hb hby d5_41) (by decide) (by decide) k) ?_
  show own_Ends _ _ _ _ _ _ _ T2 (mkF m 3 #[.val (.ref r0), .val (.int ((1 : Int32) + (1 : Int32))), .val (.ref r2), .val (.int ((1 : Int32) + (1 : Int32))), .val (.int (2 : Int32)), .val (.int ((1 : Int32) + (1 : Int32))), .val (.int (ch 1))] [])
  refine own_go (fun _ k => XS.iload X2.here hx rfl (hb hby d5_3) rfl k) ?_
  show own_Ends _ _ _ _ _ _ _ T2 (mkF m 5 #[.val (.ref r0), .val (.int ((1 : Int32) + (1 : Int32))), .val (.ref r2), .val (.int ((1 : Int32) + (1 : Int32))), .val (.int (2 : Int32)), .val (.int ((1 : Int32) + (1 : Int32))), .val (.int (ch 1))] [(.int ((1 : Int32) + (1 : Int32)))])
  refine own_go (fun _ k => XS.iload X2.here hx rfl (hb hby d5_5) rfl k) ?_
  show own_Ends _ _ _ _ _ _ _ T2 (mkF m 7 #[.val (.ref r0), .val (.int ((1 : Int32) + (1 : Int32))), .val (.ref r2), .val (.int ((1 : Int32) + (1 : Int32))), .val (.int (2 : Int32)), .val (.int ((1 : Int32) + (1 : Int32))), .val (.int (ch 1))] [(.int (2 : Int32)), (.int ((1 : Int32) + (1 : Int32)))])
  rw [show ((1 : Int32) + (1 : Int32)) = (2 : Int32) from (by decide)]
  show own_Ends _ _ _ _ _ _ _ T2 (mkF m 7 #[.val (.ref r0), .val (.int (2 : Int32)), .val (.ref r2), .val (.int (2 : Int32)), .val (.int (2 : Int32)), .val (.int (2 : Int32)), .val (.int (ch 1))] [(.int (2 : Int32)), (.int (2 : Int32))])
  refine own_go (fun _ k => XS.icmpYes X2.here hx rfl (pc0 := 7) (pc' := 44) rfl (hb hby d5_7) rfl (flt (by decide)).2.1 (by decide) (by decide) k) ?_
  show own_Ends _ _ _ _ _ _ _ T2 (mkF m 44 #[.val (.ref r0), .val (.int (2 : Int32)), .val (.ref r2), .val (.int (2 : Int32)), .val (.int (2 : Int32)), .val (.int (2 : Int32)), .val (.int (ch 1))] [])
  refine own_go (fun _ k => XS.iload X2.here hx rfl (hb hby d5_44) rfl k) ?_
  show own_Ends _ _ _ _ _ _ _ T2 (mkF m 46 #[.val (.ref r0), .val (.int (2 : Int32)), .val (.ref r2), .val (.int (2 : Int32)), .val (.int (2 : Int32)), .val (.int (2 : Int32)), .val (.int (ch 1))] [(.int (2 : Int32))])
  exact own_retI X2 hx hlk hret (hb hby d5_46) (by decide) (by decide) (by rw [e2]; exact ⟨rfl, N2, K_2, Vf2.cong (fun j hj => if_pos hj)⟩)
set_option maxRecDepth 65536 in
set_option maxHeartbeats 40000000 in
theorem compress3_2 (l : Launch) (Z : State) (a0 : Array Value) (hw : ∀ d ∈ tables_1, d.before a0 Z = true) (r0 : Addr) (p1 : Int32) (p2 : Int32) (h0 : Heap) (n0 : Nat) (ka : ClassId) (ch : Nat → Int32) (Z0 : n0 ≤ h0.size) (A : own_Ar Z h0 r0 ka .char 2 (fun j => .int (ch j))) (hp1 : p1 = 0) (hp2 : p2 = 2) (hc : ∀ j, j < 2 → ¬ (255 : Int32) < ch j) :
    own_C l (⟨"java/lang/StringUTF16", "compress", "([CII)[B"⟩ : MethodName) jdk_52_method_16_code 6 (some (.array .byte)) ({ frames := 1, cells := 1, slots := 2, locals := 18 } : Room) Z #[(.ref r0), (.int p1), (.int p2)] h0 (fun v h L => ∃ (t : Addr) (kb : ClassId), v = some (.ref t) ∧ Fr n0 L ∧ Keep h0 h [] ∧ h0.size ≤ t ∧ own_Ar Z h t kb .byte 2 (own_Lat ch)) := by
  refine own_enter pn_4 ?_
  intro p e s m below meth c s₁ X0 hx hby hml hown hnm hret hlk hZ e0
  replace hown : s.vm.findClass "java/lang/StringUTF16" = some m.cls := hown
  have ef : entryFrame m #[(.ref r0), (.int p1), (.int p2)] 6 = mkF m 0 #[.val (.ref r0), .val (.int p1), .val (.int p2), .unset, .unset, .unset] [] := by first | rfl | (simp [entryFrame, mkF, argsToLocals, Value.category, maxLocals]; done)
  refine own_cast ef ?_
  show own_Ends _ _ _ _ _ _ _ s₁ (mkF m 0 #[.val (.ref r0), .val (.int p1), .val (.int p2), .unset, .unset, .unset] [])
  subst hp1 hp2
  show own_Ends _ _ _ _ _ _ _ s₁ (mkF m 0 #[.val (.ref r0), .val (.int (0 : Int32)), .val (.int (2 : Int32)), .unset, .unset, .unset] [])
  have N0 := Fr.nil n0
  have K0 : Keep h0 h0 [] := Keep.refl _ _
  refine own_go (fun _ k => XS.iloadN X0.here hx rfl (hb hby d4_0) rfl k) ?_
  show own_Ends _ _ _ _ _ _ _ s₁ (mkF m 1 #[.val (.ref r0), .val (.int (0 : Int32)), .val (.int (2 : Int32)), .unset, .unset, .unset] [(.int (2 : Int32))])
  obtain ⟨T3, h3, k3, X3, e3, E3, A3, st3⟩ := own_newP X0 hx hZ (aty := .byte) (hw _ (List.mem_of_getElem? (i := 19) rfl)) e0 (g := (mkF m 1 #[.val (.ref r0), .val (.int (0 : Int32)), .val (.int (2 : Int32)), .unset, .unset, .unset] [(.int (2 : Int32))])) rfl (hb hby d4_1) rfl (by decide) (n := 2) (by decide) (cap := 2) (by decide) (by decide) (by decide) (by decide)
  obtain ⟨t, gq3⟩ : ∃ z, z = h0.size := ⟨_, rfl⟩
  rw [← gq3] at A3 st3
  have ne_r0_t : r0 ≠ t := Nat.ne_of_lt (Nat.lt_of_lt_of_le A.lt (Nat.le_of_eq gq3.symm))
  have sz_t : h0.size ≤ t := Nat.le_trans K0.1 (Nat.le_of_eq gq3.symm)
  have g_t : n0 ≤ t := Nat.le_trans Z0 sz_t
  have K_3 := K0.ext E3
  have V_r0_3 := A.ext E3
  have V_t : own_Ar Z h3 t k3 .byte 2 (fun _ => (.int (0 : Int32))) := A3
  refine own_go st3 ?_
  show own_Ends _ _ _ _ _ _ _ T3 (mkF m 3 #[.val (.ref r0), .val (.int (0 : Int32)), .val (.int (2 : Int32)), .unset, .unset, .unset] [(.ref t)])
  refine own_go (fun _ k => XS.astoreN X3.here hx rfl (hb hby d4_3) rfl rfl (l' := #[.val (.ref r0), .val (.int (0 : Int32)), .val (.int (2 : Int32)), .val (.ref t), .unset, .unset]) rfl k) ?_
  show own_Ends _ _ _ _ _ _ _ T3 (mkF m 4 #[.val (.ref r0), .val (.int (0 : Int32)), .val (.int (2 : Int32)), .val (.ref t), .unset, .unset] [])
  refine own_go (fun _ k => XS.aloadN X3.here hx rfl (hb hby d4_4) rfl rfl k) ?_
  show own_Ends _ _ _ _ _ _ _ T3 (mkF m 5 #[.val (.ref r0), .val (.int (0 : Int32)), .val (.int (2 : Int32)), .val (.ref t), .unset, .unset] [(.ref r0)])
  refine own_go (fun _ k => XS.iloadN X3.here hx rfl (hb hby d4_5) rfl k) ?_
  show own_Ends _ _ _ _ _ _ _ T3 (mkF m 6 #[.val (.ref r0), .val (.int (0 : Int32)), .val (.int (2 : Int32)), .val (.ref t), .unset, .unset] [(.int (0 : Int32)), (.ref r0)])
  refine own_go (fun _ k => XS.aloadN X3.here hx rfl (hb hby d4_6) rfl rfl k) ?_
  show own_Ends _ _ _ _ _ _ _ T3 (mkF m 7 #[.val (.ref r0), .val (.int (0 : Int32)), .val (.int (2 : Int32)), .val (.ref t), .unset, .unset] [(.ref t), (.int (0 : Int32)), (.ref r0)])
  refine own_go (fun _ k => XS.iconst X3.here hx rfl (hb hby d4_7) k) ?_
  show own_Ends _ _ _ _ _ _ _ T3 (mkF m 8 #[.val (.ref r0), .val (.int (0 : Int32)), .val (.int (2 : Int32)), .val (.ref t), .unset, .unset] [(.int (0 : Int32)), (.ref t), (.int (0 : Int32)), (.ref r0)])
  refine own_go (fun _ k => XS.iloadN X3.here hx rfl (hb hby d4_8) rfl k) ?_
  show own_Ends _ _ _ _ _ _ _ T3 (mkF m 9 #[.val (.ref r0), .val (.int (0 : Int32)), .val (.int (2 : Int32)), .val (.ref t), .unset, .unset] [(.int (2 : Int32)), (.int (0 : Int32)), (.ref t), (.int (0 : Int32)), (.ref r0)])
  obtain ⟨v4, T4, L4, X4, hQ4, st4⟩ := own_callS X3 hx hZ hown (hw _ (List.mem_of_getElem? (i := 20) rfl)) (hw _ (List.mem_of_getElem? (i := 21) rfl)) (hw _ (List.mem_of_getElem? (i := 17) rfl)) (hw _ (List.mem_of_getElem? (i := 22) rfl)) (compress5_2 l Z a0 hw r0 (0 : Int32) t (0 : Int32) (2 : Int32) h3 n0 ka k3 ch V_r0_3 V_t ne_r0_t g_t rfl rfl rfl hc) e3 (g := (mkF m 9 #[.val (.ref r0), .val (.int (0 : Int32)), .val (.int (2 : Int32)), .val (.ref t), .unset, .unset] [(.int (2 : Int32)), (.int (0 : Int32)), (.ref t), (.int (0 : Int32)), (.ref r0)])) rfl (by rw [hml]; rfl) (argsL := [(.ref r0), (.int (0 : Int32)), (.ref t), (.int (0 : Int32)), (.int (2 : Int32))]) (rest := []) (lenOf pd_0 rfl) rfl rfl (W := 0) (by show 2 * 0 + _ ≤ _; exact Nat.le_of_eq rfl) (hb hby d4_9) (by decide) (by decide) (by decide) (by decide) (by decide)
  obtain ⟨rfl, N4q, K4, V4⟩ := hQ4
  refine own_go st4 ?_
  have N4 := Fr.app N0 N4q
  have K_4 := K_3.trans K4 (allS (Or.inr sz_t) all0)
  have V_r0_4 := V_r0_3.keep K4 (ninS ne_r0_t nin0)
  show own_Ends _ _ _ _ _ _ _ T4 (mkF m 12 #[.val (.ref r0), .val (.int (0 : Int32)), .val (.int (2 : Int32)), .val (.ref t), .unset, .unset] [(.int (2 : Int32))])
  refine own_go (fun _ k => XS.istore X4.here hx rfl (hb hby d4_12) rfl (l' := #[.val (.ref r0), .val (.int (0 : Int32)), .val (.int (2 : Int32)), .val (.ref t), .val (.int (2 : Int32)), .unset]) rfl k) ?_
  show own_Ends _ _ _ _ _ _ _ T4 (mkF m 14 #[.val (.ref r0), .val (.int (0 : Int32)), .val (.int (2 : Int32)), .val (.ref t), .val (.int (2 : Int32)), .unset] [])
  refine own_go (fun _ k => XS.iload X4.here hx rfl (hb hby d4_14) rfl k) ?_
  show own_Ends _ _ _ _ _ _ _ T4 (mkF m 16 #[.val (.ref r0), .val (.int (0 : Int32)), .val (.int (2 : Int32)), .val (.ref t), .val (.int (2 : Int32)), .unset] [(.int (2 : Int32))])
  refine own_go (fun _ k => XS.iloadN X4.here hx rfl (hb hby d4_16) rfl k) ?_
  show own_Ends _ _ _ _ _ _ _ T4 (mkF m 17 #[.val (.ref r0), .val (.int (0 : Int32)), .val (.int (2 : Int32)), .val (.ref t), .val (.int (2 : Int32)), .unset] [(.int (2 : Int32)), (.int (2 : Int32))])
  refine own_go (fun _ k => XS.icmpYes X4.here hx rfl (pc0 := 17) (pc' := 57) rfl (hb hby d4_17) rfl (teq (rfl)).1 (by decide) (by decide) k) ?_
  show own_Ends _ _ _ _ _ _ _ T4 (mkF m 57 #[.val (.ref r0), .val (.int (0 : Int32)), .val (.int (2 : Int32)), .val (.ref t), .val (.int (2 : Int32)), .unset] [])
  refine own_go (fun _ k => XS.aloadN X4.here hx rfl (hb hby d4_57) rfl rfl k) ?_
  show own_Ends _ _ _ _ _ _ _ T4 (mkF m 58 #[.val (.ref r0), .val (.int (0 : Int32)), .val (.int (2 : Int32)), .val (.ref t), .val (.int (2 : Int32)), .unset] [(.ref t)])
  exact own_retR X4 hx hlk hret rfl rfl rfl (hb hby d4_58) (by decide) (by decide) ⟨t, k3, rfl, N4, K_4, sz_t, V4⟩
set_option maxRecDepth 65536 in
set_option maxHeartbeats 40000000 in
theorem coderFrom_2_2 (l : Launch) (Z : State) (a0 : Array Value) (hw : ∀ d ∈ tables_1, d.before a0 Z = true) (r0 : Addr) (p1 : Int32) (h0 : Heap) (kb : ClassId) (fb : Nat → Value) (A : own_Ar Z h0 r0 kb .byte 2 fb) (hp1 : p1 = 2) :
    own_C l (⟨"java/lang/StringUTF16", "coderFromArrayLen", "([BI)B"⟩ : MethodName) jdk_52_method_15_code 2 (some .byte) ({ frames := 0, cells := 0, slots := 0, locals := 0 } : Room) Z #[(.ref r0), (.int p1)] h0 (fun v h L => v = some (.int (0 : Int32)) ∧ L = [] ∧ h = h0) := by
  refine own_enter pn_6 ?_
  intro p e s m below meth c s₁ X0 hx hby hml hown hnm hret hlk hZ e0
  replace hown : s.vm.findClass "java/lang/StringUTF16" = some m.cls := hown
  have ef : entryFrame m #[(.ref r0), (.int p1)] 2 = mkF m 0 #[.val (.ref r0), .val (.int p1)] [] := by first | rfl | (simp [entryFrame, mkF, argsToLocals, Value.category, maxLocals]; done)
  refine own_cast ef ?_
  show own_Ends _ _ _ _ _ _ _ s₁ (mkF m 0 #[.val (.ref r0), .val (.int p1)] [])
  subst hp1
  show own_Ends _ _ _ _ _ _ _ s₁ (mkF m 0 #[.val (.ref r0), .val (.int (2 : Int32))] [])
  refine own_go (fun _ k => XS.iloadN X0.here hx rfl (hb hby d6_0) rfl k) ?_
  show own_Ends _ _ _ _ _ _ _ s₁ (mkF m 1 #[.val (.ref r0), .val (.int (2 : Int32))] [(.int (2 : Int32))])
  refine own_go (fun _ k => XS.aloadN X0.here hx rfl (hb hby d6_1) rfl rfl k) ?_
  show own_Ends _ _ _ _ _ _ _ s₁ (mkF m 2 #[.val (.ref r0), .val (.int (2 : Int32))] [(.ref r0), (.int (2 : Int32))])
  refine own_go (fun _ k => own_len X0 hx hZ e0 A (z := (2 : Int32)) rfl (g := (mkF m 2 #[.val (.ref r0), .val (.int (2 : Int32))] [(.ref r0), (.int (2 : Int32))])) rfl rfl (hb hby d6_2) _ k) ?_
  show own_Ends _ _ _ _ _ _ _ s₁ (mkF m 3 #[.val (.ref r0), .val (.int (2 : Int32))] [(.int (2 : Int32)), (.int (2 : Int32))])
  refine own_go (fun _ k => XS.isub X0.here hx rfl (hb hby d6_3) rfl k) ?_
  show own_Ends _ _ _ _ _ _ _ s₁ (mkF m 4 #[.val (.ref r0), .val (.int (2 : Int32))] [(.int ((2 : Int32) - (2 : Int32)))])
  refine own_go (fun _ k => XS.bipush X0.here hx rfl (hb hby d6_4) k) ?_
  show own_Ends _ _ _ _ _ _ _ s₁ (mkF m 6 #[.val (.ref r0), .val (.int (2 : Int32))] [(.int (31 : Int32)), (.int ((2 : Int32) - (2 : Int32)))])
  refine own_go (fun _ k => XS.iushr X0.here hx rfl (hb hby d6_6) rfl k) ?_
  show own_Ends _ _ _ _ _ _ _ s₁ (mkF m 7 #[.val (.ref r0), .val (.int (2 : Int32))] [(.int ((((2 : Int32) - (2 : Int32)).toUInt32 >>> ((31 : Int32) &&& 31).toUInt32).toInt32))])
  refine own_go (fun _ k => XS.i2b X0.here hx rfl (hb hby d6_7) rfl k) ?_
  show own_Ends _ _ _ _ _ _ _ s₁ (mkF m 8 #[.val (.ref r0), .val (.int (2 : Int32))] [(.int (((((2 : Int32) - (2 : Int32)).toUInt32 >>> ((31 : Int32) &&& 31).toUInt32).toInt32).toInt8.toInt32))])
  rw [show (((((2 : Int32) - (2 : Int32)).toUInt32 >>> ((31 : Int32) &&& 31).toUInt32).toInt32).toInt8.toInt32) = (0 : Int32) from (by decide)]
  show own_Ends _ _ _ _ _ _ _ s₁ (mkF m 8 #[.val (.ref r0), .val (.int (2 : Int32))] [(.int (0 : Int32))])
  exact own_ret X0 hx hlk hret rfl (Or.inl ⟨rfl, by simp, _, rfl⟩) (hb hby d6_8) (by decide) (by decide) ⟨rfl, rfl, e0⟩
set_option maxRecDepth 65536 in
set_option maxHeartbeats 40000000 in
theorem strInit2_2 (l : Launch) (Z : State) (a0 : Array Value) (hw : ∀ d ∈ tables_1, d.before a0 Z = true) (o0 : Addr) (r1 : Addr) (p2 : Int32) (p3 : Int32) (h0 : Heap) (n0 : Nat) (ka : ClassId) (ch : Nat → Int32) (cs : Int32) (Z0 : n0 ≤ h0.size) (go : n0 ≤ o0) (E : Exa Z h0 o0 "java/lang/String") (Fv : Fld Z h0 o0 "java/lang/String" "value" "[B" .null) (Fc : Fld Z h0 o0 "java/lang/String" "coder" "B" (.int (0 : Int32))) (Sc : Sta Z h0 "java/lang/String" "COMPACT_STRINGS" "Z" (.int cs)) (hcs : ¬ cs = 0) (A : own_Ar Z h0 r1 ka .char 2 (fun j => .int (ch j))) (hp2 : p2 = 0) (hp3 : p3 = 2) (hc : ∀ j, j < 2 → ¬ (255 : Int32) < ch j) :
    own_C l (⟨"java/lang/String", "<init>", "([CIILjava/lang/Void;)V"⟩ : MethodName) jdk_42_method_149_code 6 none ({ frames := 2, cells := 1, slots := 2, locals := 40 } : Room) Z #[(.ref o0), (.ref r1), (.int p2), (.int p3), .null] h0 (fun v h L => ∃ (t : Addr) (kb : ClassId), v = none ∧ Fr n0 L ∧ Keep h0 h [o0] ∧ h0.size ≤ t ∧ own_Ar Z h t kb .byte 2 (own_Lat ch) ∧ Fld Z h o0 "java/lang/String" "value" "[B" (.ref t) ∧ Fld Z h o0 "java/lang/String" "coder" "B" (.int (0 : Int32)) ∧ Exa Z h o0 "java/lang/String") := by
  refine own_enter pn_2 ?_
  intro p e s m below meth c s₁ X0 hx hby hml hown hnm hret hlk hZ e0
  replace hown : s.vm.findClass "java/lang/String" = some m.cls := hown
  have ef : entryFrame m #[(.ref o0), (.ref r1), (.int p2), (.int p3), .null] 6 = mkF m 0 #[.val (.ref o0), .val (.ref r1), .val (.int p2), .val (.int p3), .val .null, .unset] [] := by first | rfl | (simp [entryFrame, mkF, argsToLocals, Value.category, maxLocals]; done)
  refine own_cast ef ?_
  show own_Ends _ _ _ _ _ _ _ s₁ (mkF m 0 #[.val (.ref o0), .val (.ref r1), .val (.int p2), .val (.int p3), .val .null, .unset] [])
  subst hp2 hp3
  show own_Ends _ _ _ _ _ _ _ s₁ (mkF m 0 #[.val (.ref o0), .val (.ref r1), .val (.int (0 : Int32)), .val (.int (2 : Int32)), .val .null, .unset] [])
  have N0 := Fr.nil n0
  have K0 : Keep h0 h0 [o0] := Keep.refl _ _
  refine own_go (fun _ k => XS.aloadN X0.here hx rfl (hb hby d2_0) rfl rfl k) ?_
  show own_Ends _ _ _ _ _ _ _ s₁ (mkF m 1 #[.val (.ref o0), .val (.ref r1), .val (.int (0 : Int32)), .val (.int (2 : Int32)), .val .null, .unset] [(.ref o0)])
  obtain ⟨T5, X5, e5, st5⟩ := initO X0 hx hZ hown (hw _ (List.mem_of_getElem? (i := 11) rfl)) (hw _ (List.mem_of_getElem? (i := 12) rfl)) (hw _ (List.mem_of_getElem? (i := 13) rfl)) e0 (g := (mkF m 1 #[.val (.ref o0), .val (.ref r1), .val (.int (0 : Int32)), .val (.int (2 : Int32)), .val .null, .unset] [(.ref o0)])) rfl (by rw [hml]; rfl) rfl (hb hby d2_1) (by decide) (W := 0) (by show 2 * 0 + _ ≤ _; exact Nat.le_of_eq rfl) (by decide)
  refine own_go st5 ?_
  show own_Ends _ _ _ _ _ _ _ T5 (mkF m 4 #[.val (.ref o0), .val (.ref r1), .val (.int (0 : Int32)), .val (.int (2 : Int32)), .val .null, .unset] [])
  refine own_go (fun _ k => XS.iloadN X5.here hx rfl (hb hby d2_4) rfl k) ?_
  show own_Ends _ _ _ _ _ _ _ T5 (mkF m 5 #[.val (.ref o0), .val (.ref r1), .val (.int (0 : Int32)), .val (.int (2 : Int32)), .val .null, .unset] [(.int (2 : Int32))])
  refine own_go (fun _ k => XS.ifYes X5.here hx rfl (pc0 := 5) (pc' := 27) rfl (hb hby d2_5) rfl ((if0 _ _).trans (feq (by decide)).2) (by decide) (by decide) k) ?_
  show own_Ends _ _ _ _ _ _ _ T5 (mkF m 27 #[.val (.ref o0), .val (.ref r1), .val (.int (0 : Int32)), .val (.int (2 : Int32)), .val .null, .unset] [])
  obtain ⟨T6, X6, e6, st6⟩ := getS2 X5 hx hZ hown (host := "") (Or.inl (hw _ (List.mem_of_getElem? (i := 14) rfl))) Via.refl e5 Sc (g := (mkF m 27 #[.val (.ref o0), .val (.ref r1), .val (.int (0 : Int32)), .val (.int (2 : Int32)), .val .null, .unset] [])) rfl (hb hby d2_27)
  refine own_go st6 ?_
  show own_Ends _ _ _ _ _ _ _ T6 (mkF m 30 #[.val (.ref o0), .val (.ref r1), .val (.int (0 : Int32)), .val (.int (2 : Int32)), .val .null, .unset] [(.int cs)])
  refine own_go (fun _ k => XS.ifNo X6.here hx rfl (hb hby d2_30) rfl ((if0 _ _).trans (feq hcs).1) k) ?_
  show own_Ends _ _ _ _ _ _ _ T6 (mkF m 33 #[.val (.ref o0), .val (.ref r1), .val (.int (0 : Int32)), .val (.int (2 : Int32)), .val .null, .unset] [])
  refine own_go (fun _ k => XS.aloadN X6.here hx rfl (hb hby d2_33) rfl rfl k) ?_
  show own_Ends _ _ _ _ _ _ _ T6 (mkF m 34 #[.val (.ref o0), .val (.ref r1), .val (.int (0 : Int32)), .val (.int (2 : Int32)), .val .null, .unset] [(.ref r1)])
  refine own_go (fun _ k => XS.iloadN X6.here hx rfl (hb hby d2_34) rfl k) ?_
  show own_Ends _ _ _ _ _ _ _ T6 (mkF m 35 #[.val (.ref o0), .val (.ref r1), .val (.int (0 : Int32)), .val (.int (2 : Int32)), .val .null, .unset] [(.int (0 : Int32)), (.ref r1)])
  refine own_go (fun _ k => XS.iloadN X6.here hx rfl (hb hby d2_35) rfl k) ?_
  show own_Ends _ _ _ _ _ _ _ T6 (mkF m 36 #[.val (.ref o0), .val (.ref r1), .val (.int (0 : Int32)), .val (.int (2 : Int32)), .val .null, .unset] [(.int (2 : Int32)), (.int (0 : Int32)), (.ref r1)])
  obtain ⟨v7, T7, L7, X7, hQ7, st7⟩ := own_callS X6 hx hZ hown (hw _ (List.mem_of_getElem? (i := 15) rfl)) (hw _ (List.mem_of_getElem? (i := 16) rfl)) (hw _ (List.mem_of_getElem? (i := 17) rfl)) (hw _ (List.mem_of_getElem? (i := 18) rfl)) (compress3_2 l Z a0 hw r1 (0 : Int32) (2 : Int32) h0 n0 ka ch Z0 A rfl rfl hc) e6 (g := (mkF m 36 #[.val (.ref o0), .val (.ref r1), .val (.int (0 : Int32)), .val (.int (2 : Int32)), .val .null, .unset] [(.int (2 : Int32)), (.int (0 : Int32)), (.ref r1)])) rfl (by rw [hml]; rfl) (argsL := [(.ref r1), (.int (0 : Int32)), (.int (2 : Int32))]) (rest := []) (lenOf pd_1 rfl) rfl rfl (W := 0) (by show 2 * 0 + _ ≤ _; exact Nat.le_of_eq rfl) (hb hby d2_36) (by decide) (by decide) (by decide) (by decide) (by decide)
  obtain ⟨t, kb, rfl, N7q, K7, s7, V7⟩ := hQ7
  refine own_go st7 ?_
  have N7 := Fr.app N0 N7q
  have K_7 := K0.trans K7 all0
  have E_o0_7 := E.keep K7
  have F_o0_value_7 := Fv.keep K7 nin0
  have F_o0_coder_7 := Fc.keep K7 nin0
  have S_java_lang_String_COMPACT_STRINGS_7 := own_Sta.keep Sc K7 own_ns0
  show own_Ends _ _ _ _ _ _ _ T7 (mkF m 39 #[.val (.ref o0), .val (.ref r1), .val (.int (0 : Int32)), .val (.int (2 : Int32)), .val .null, .unset] [(.ref t)])
  have ne_o0_t : o0 ≠ t := Nat.ne_of_lt (Nat.lt_of_lt_of_le E.lt s7)
  refine own_go (fun _ k => XS.astore X7.here hx rfl (hb hby d2_39) rfl rfl (l' := #[.val (.ref o0), .val (.ref r1), .val (.int (0 : Int32)), .val (.int (2 : Int32)), .val .null, .val (.ref t)]) rfl k) ?_
  show own_Ends _ _ _ _ _ _ _ T7 (mkF m 41 #[.val (.ref o0), .val (.ref r1), .val (.int (0 : Int32)), .val (.int (2 : Int32)), .val .null, .val (.ref t)] [])
  refine own_go (fun _ k => XS.aloadN X7.here hx rfl (hb hby d2_41) rfl rfl k) ?_
  show own_Ends _ _ _ _ _ _ _ T7 (mkF m 42 #[.val (.ref o0), .val (.ref r1), .val (.int (0 : Int32)), .val (.int (2 : Int32)), .val .null, .val (.ref t)] [(.ref o0)])
  refine own_go (fun _ k => XS.aload X7.here hx rfl (hb hby d2_42) rfl rfl k) ?_
  show own_Ends _ _ _ _ _ _ _ T7 (mkF m 44 #[.val (.ref o0), .val (.ref r1), .val (.int (0 : Int32)), .val (.int (2 : Int32)), .val .null, .val (.ref t)] [(.ref t), (.ref o0)])
  refine own_go (fun _ k => XS.iloadN X7.here hx rfl (hb hby d2_44) rfl k) ?_
  show own_Ends _ _ _ _ _ _ _ T7 (mkF m 45 #[.val (.ref o0), .val (.ref r1), .val (.int (0 : Int32)), .val (.int (2 : Int32)), .val .null, .val (.ref t)] [(.int (2 : Int32)), (.ref t), (.ref o0)])
  obtain ⟨v8, T8, L8, X8, hQ8, st8⟩ := own_callS X7 hx hZ hown (hw _ (List.mem_of_getElem? (i := 23) rfl)) (hw _ (List.mem_of_getElem? (i := 24) rfl)) (hw _ (List.mem_of_getElem? (i := 17) rfl)) (hw _ (List.mem_of_getElem? (i := 25) rfl)) (coderFrom_2_2 l Z a0 hw t (2 : Int32) T7.heap kb (own_Lat ch) V7 rfl) rfl (g := (mkF m 45 #[.val (.ref o0), .val (.ref r1), .val (.int (0 : Int32)), .val (.int (2 : Int32)), .val .null, .val (.ref t)] [(.int (2 : Int32)), (.ref t), (.ref o0)])) rfl (by rw [hml]; rfl) (argsL := [(.ref t), (.int (2 : Int32))]) (rest := [(.ref o0)]) (lenOf pd_2 rfl) rfl rfl (W := 1) (by show 2 * 0 + _ ≤ _; exact Nat.le_of_eq rfl) (hb hby d2_45) (by decide) (by decide) (by decide) (by decide) (by decide)
  obtain ⟨rfl, rfl, e8⟩ := hQ8
  refine own_go st8 ?_
  have N8 := Fr.app N7 (Fr.nil _)
  show own_Ends _ _ _ _ _ _ _ T8 (mkF m 48 #[.val (.ref o0), .val (.ref r1), .val (.int (0 : Int32)), .val (.int (2 : Int32)), .val .null, .val (.ref t)] [(.int (0 : Int32)), (.ref o0)])
  obtain ⟨T9, h9, X9, e9, W9, st9⟩ := putFN X8 hx hZ hown (hw _ (List.mem_of_getElem? (i := 26) rfl)) Via.refl e8 F_o0_coder_7 E_o0_7 (Or.inr ⟨(hw _ (List.mem_of_getElem? (i := 27) rfl)), rfl, hnm⟩) (hw _ (List.mem_of_getElem? (i := 2) rfl)) (ty := .byte) (v' := (.int (0 : Int32))) (by decide) rfl (by first | rfl | exact fits_nar_byte _) (g := (mkF m 48 #[.val (.ref o0), .val (.ref r1), .val (.int (0 : Int32)), .val (.int (2 : Int32)), .val .null, .val (.ref t)] [(.int (0 : Int32)), (.ref o0)])) rfl rfl (hb hby d2_48)
  have N9 := Fr.snoc X9 N8 go
  have K_9 := K_7.wr W9 (Or.inl (List.mem_of_getElem? (i := 0) rfl))
  have E_o0_9 := E_o0_7.wr W9
  have F_o0_value_9 := F_o0_value_7.other W9 (Or.inr (slot_ne (Or.inr (hw _ (List.mem_of_getElem? (i := 29) rfl))) (Or.inr (hw _ (List.mem_of_getElem? (i := 27) rfl))) (by decide) (t := (.array .byte)) (t' := .byte) (by decide) (by decide)))
  have F_o0_coder_9 := F_o0_coder_7.same W9
  have S_java_lang_String_COMPACT_STRINGS_9 := S_java_lang_String_COMPACT_STRINGS_7.wr W9
  have V_t_9 := V7.other W9 (Ne.symm ne_o0_t)
  refine own_go st9 ?_
  show own_Ends _ _ _ _ _ _ _ T9 (mkF m 51 #[.val (.ref o0), .val (.ref r1), .val (.int (0 : Int32)), .val (.int (2 : Int32)), .val .null, .val (.ref t)] [])
  refine own_go (fun _ k => XS.aloadN X9.here hx rfl (hb hby d2_51) rfl rfl k) ?_
  show own_Ends _ _ _ _ _ _ _ T9 (mkF m 52 #[.val (.ref o0), .val (.ref r1), .val (.int (0 : Int32)), .val (.int (2 : Int32)), .val .null, .val (.ref t)] [(.ref o0)])
  refine own_go (fun _ k => XS.aload X9.here hx rfl (hb hby d2_52) rfl rfl k) ?_
  show own_Ends _ _ _ _ _ _ _ T9 (mkF m 54 #[.val (.ref o0), .val (.ref r1), .val (.int (0 : Int32)), .val (.int (2 : Int32)), .val .null, .val (.ref t)] [(.ref t), (.ref o0)])
  obtain ⟨T10, h10, X10, e10, W10, st10⟩ := putF X9 hx hZ hown (host := "") (Or.inl (hw _ (List.mem_of_getElem? (i := 28) rfl))) Via.refl e9 F_o0_value_9 E_o0_9 (Or.inr ⟨(hw _ (List.mem_of_getElem? (i := 29) rfl)), rfl, hnm⟩) (hw _ (List.mem_of_getElem? (i := 2) rfl)) (ty := (.array .byte)) (by decide) rfl rfl (g := (mkF m 54 #[.val (.ref o0), .val (.ref r1), .val (.int (0 : Int32)), .val (.int (2 : Int32)), .val .null, .val (.ref t)] [(.ref t), (.ref o0)])) rfl rfl (hb hby d2_54)
  have N10 := Fr.snoc X10 N9 go
  have K_10 := K_9.wr W10 (Or.inl (List.mem_of_getElem? (i := 0) rfl))
  have E_o0_10 := E_o0_9.wr W10
  have F_o0_value_10 := F_o0_value_9.same W10
  have F_o0_coder_10 := F_o0_coder_9.other W10 (Or.inr (slot_ne (Or.inr (hw _ (List.mem_of_getElem? (i := 27) rfl))) (Or.inr (hw _ (List.mem_of_getElem? (i := 29) rfl))) (by decide) (t := .byte) (t' := (.array .byte)) (by decide) (by decide)))
  have S_java_lang_String_COMPACT_STRINGS_10 := S_java_lang_String_COMPACT_STRINGS_9.wr W10
  have V_t_10 := V_t_9.other W10 (Ne.symm ne_o0_t)
  refine own_go st10 ?_
  show own_Ends _ _ _ _ _ _ _ T10 (mkF m 57 #[.val (.ref o0), .val (.ref r1), .val (.int (0 : Int32)), .val (.int (2 : Int32)), .val .null, .val (.ref t)] [])
  exact own_retV X10 hx hlk hret (hb hby d2_57) (by decide) (by decide) (by rw [e10]; exact ⟨t, kb, rfl, N10, K_10, s7, V_t_10, F_o0_value_10, F_o0_coder_10, E_o0_10⟩)
set_option maxRecDepth 65536 in
set_option maxHeartbeats 40000000 in
theorem strInit1_2 (l : Launch) (Z : State) (a0 : Array Value) (hw : ∀ d ∈ tables_1, d.before a0 Z = true) (o0 : Addr) (r1 : Addr) (h0 : Heap) (n0 : Nat) (ka : ClassId) (ch : Nat → Int32) (cs : Int32) (Z0 : n0 ≤ h0.size) (go : n0 ≤ o0) (E : Exa Z h0 o0 "java/lang/String") (Fv : Fld Z h0 o0 "java/lang/String" "value" "[B" .null) (Fc : Fld Z h0 o0 "java/lang/String" "coder" "B" (.int (0 : Int32))) (Sc : Sta Z h0 "java/lang/String" "COMPACT_STRINGS" "Z" (.int cs)) (hcs : ¬ cs = 0) (A : own_Ar Z h0 r1 ka .char 2 (fun j => .int (ch j))) (hc : ∀ j, j < 2 → ¬ (255 : Int32) < ch j) :
    own_C l (⟨"java/lang/String", "<init>", "([C)V"⟩ : MethodName) jdk_42_method_3_code 2 none ({ frames := 3, cells := 1, slots := 2, locals := 58 } : Room) Z #[(.ref o0), (.ref r1)] h0 (fun v h L => ∃ (t : Addr) (kb : ClassId), v = none ∧ Fr n0 L ∧ Keep h0 h [o0] ∧ h0.size ≤ t ∧ own_Ar Z h t kb .byte 2 (own_Lat ch) ∧ Fld Z h o0 "java/lang/String" "value" "[B" (.ref t) ∧ Fld Z h o0 "java/lang/String" "coder" "B" (.int (0 : Int32)) ∧ Exa Z h o0 "java/lang/String") := by
  refine own_enter pn_1 ?_
  intro p e s m below meth c s₁ X0 hx hby hml hown hnm hret hlk hZ e0
  replace hown : s.vm.findClass "java/lang/String" = some m.cls := hown
  have ef : entryFrame m #[(.ref o0), (.ref r1)] 2 = mkF m 0 #[.val (.ref o0), .val (.ref r1)] [] := by first | rfl | (simp [entryFrame, mkF, argsToLocals, Value.category, maxLocals]; done)
  refine own_cast ef ?_
  show own_Ends _ _ _ _ _ _ _ s₁ (mkF m 0 #[.val (.ref o0), .val (.ref r1)] [])
  have N0 := Fr.nil n0
  have K0 : Keep h0 h0 [o0] := Keep.refl _ _
  refine own_go (fun _ k => XS.aloadN X0.here hx rfl (hb hby d1_0) rfl rfl k) ?_
  show own_Ends _ _ _ _ _ _ _ s₁ (mkF m 1 #[.val (.ref o0), .val (.ref r1)] [(.ref o0)])
  refine own_go (fun _ k => XS.aloadN X0.here hx rfl (hb hby d1_1) rfl rfl k) ?_
  show own_Ends _ _ _ _ _ _ _ s₁ (mkF m 2 #[.val (.ref o0), .val (.ref r1)] [(.ref r1), (.ref o0)])
  refine own_go (fun _ k => XS.iconst X0.here hx rfl (hb hby d1_2) k) ?_
  show own_Ends _ _ _ _ _ _ _ s₁ (mkF m 3 #[.val (.ref o0), .val (.ref r1)] [(.int (0 : Int32)), (.ref r1), (.ref o0)])
  refine own_go (fun _ k => XS.aloadN X0.here hx rfl (hb hby d1_3) rfl rfl k) ?_
  show own_Ends _ _ _ _ _ _ _ s₁ (mkF m 4 #[.val (.ref o0), .val (.ref r1)] [(.ref r1), (.int (0 : Int32)), (.ref r1), (.ref o0)])
  refine own_go (fun _ k => own_len X0 hx hZ e0 A (z := (2 : Int32)) rfl (g := (mkF m 4 #[.val (.ref o0), .val (.ref r1)] [(.ref r1), (.int (0 : Int32)), (.ref r1), (.ref o0)])) rfl rfl (hb hby d1_4) _ k) ?_
  show own_Ends _ _ _ _ _ _ _ s₁ (mkF m 5 #[.val (.ref o0), .val (.ref r1)] [(.int (2 : Int32)), (.int (0 : Int32)), (.ref r1), (.ref o0)])
  refine own_go (fun _ k => XS.aconstNull X0.here hx rfl (hb hby d1_5) k) ?_
  show own_Ends _ _ _ _ _ _ _ s₁ (mkF m 6 #[.val (.ref o0), .val (.ref r1)] [.null, (.int (2 : Int32)), (.int (0 : Int32)), (.ref r1), (.ref o0)])
  obtain ⟨v11, T11, L11, X11, hQ11, st11⟩ := own_callI X0 hx hZ hown rfl (hw _ (List.mem_of_getElem? (i := 7) rfl)) (hw _ (List.mem_of_getElem? (i := 8) rfl)) (hw _ (List.mem_of_getElem? (i := 3) rfl)) (hw _ (List.mem_of_getElem? (i := 10) rfl)) (strInit2_2 l Z a0 hw o0 r1 (0 : Int32) (2 : Int32) h0 n0 ka ch cs Z0 go E Fv Fc Sc hcs A rfl rfl hc) e0 (g := (mkF m 6 #[.val (.ref o0), .val (.ref r1)] [.null, (.int (2 : Int32)), (.int (0 : Int32)), (.ref r1), (.ref o0)])) rfl (by rw [hml]; rfl) (a := o0) (argsL := [(.ref r1), (.int (0 : Int32)), (.int (2 : Int32)), .null]) (rest := []) (lenOf pd_3 rfl) rfl rfl (W := 0) (by show 2 * 0 + _ ≤ _; exact Nat.le_of_eq rfl) (hb hby d1_6) (by decide) (by decide) (by decide) (by decide) (by decide)
  obtain ⟨t, kb, rfl, N11q, K11, s11, V11, Fv11, Fc11, E11⟩ := hQ11
  refine own_go st11 ?_
  have N11 := Fr.app N0 N11q
  have K_11 := K0.trans K11 (allS (Or.inl (List.mem_of_getElem? (i := 0) rfl)) all0)
  have E_o0_11 := E.keep K11
  have S_java_lang_String_COMPACT_STRINGS_11 := own_Sta.keep Sc K11 (own_nsE E own_ns0)
  show own_Ends _ _ _ _ _ _ _ T11 (mkF m 9 #[.val (.ref o0), .val (.ref r1)] [])
  exact own_retV X11 hx hlk hret (hb hby d1_9) (by decide) (by decide) ⟨t, kb, rfl, N11, K_11, s11, V11, Fv11, Fc11, E11⟩
set_option maxRecDepth 65536 in
set_option maxHeartbeats 40000000 in
theorem rm18 (l : Launch) (Z : State) (a0 : Array Value) (hw : ∀ d ∈ tables_1, d.before a0 Z = true) (o0 : Addr) (h0 : Heap) :
    own_C l (⟨"java/lang/Number", "<init>", "()V"⟩ : MethodName) jdk_18_method_1_code 1 none ({ frames := 1, cells := 0, slots := 0, locals := 13 } : Room) Z #[(.ref o0)] h0 (fun v h L => v = none ∧ L = [] ∧ h = h0) := by
  refine own_enter pn_18 ?_
  intro p e s m below meth c s₁ X0 hx hby hml hown hnm hret hlk hZ e0
  replace hown : s.vm.findClass "java/lang/Number" = some m.cls := hown
  have ef : entryFrame m #[(.ref o0)] 1 = mkF m 0 #[.val (.ref o0)] [] := by first | rfl | (simp [entryFrame, mkF, argsToLocals, Value.category, maxLocals]; done)
  refine own_cast ef ?_
  show own_Ends _ _ _ _ _ _ _ s₁ (mkF m 0 #[.val (.ref o0)] [])
  refine own_go (fun _ k => XS.aloadN X0.here hx rfl (hb hby d18_0) rfl rfl k) ?_
  show own_Ends _ _ _ _ _ _ _ s₁ (mkF m 1 #[.val (.ref o0)] [(.ref o0)])
  obtain ⟨T12, X12, e12, st12⟩ := initO X0 hx hZ hown (hw _ (List.mem_of_getElem? (i := 124) rfl)) (hw _ (List.mem_of_getElem? (i := 12) rfl)) (hw _ (List.mem_of_getElem? (i := 13) rfl)) e0 (g := (mkF m 1 #[.val (.ref o0)] [(.ref o0)])) rfl (by rw [hml]; rfl) rfl (hb hby d18_1) (by decide) (W := 0) (by show 2 * 0 + _ ≤ _; exact Nat.le_of_eq rfl) (by decide)
  refine own_go st12 ?_
  show own_Ends _ _ _ _ _ _ _ T12 (mkF m 4 #[.val (.ref o0)] [])
  exact own_retV X12 hx hlk hret (hb hby d18_4) (by decide) (by decide) ⟨rfl, rfl, e12⟩
set_option maxRecDepth 65536 in
set_option maxHeartbeats 40000000 in
theorem rm9 (l : Launch) (Z : State) (a0 : Array Value) (hw : ∀ d ∈ tables_1, d.before a0 Z = true) (o0 : Addr) (h0 : Heap) :
    own_C l (⟨"java/lang/Record", "<init>", "()V"⟩ : MethodName) jdk_30_method_1_code 1 none ({ frames := 1, cells := 0, slots := 0, locals := 13 } : Room) Z #[(.ref o0)] h0 (fun v h L => v = none ∧ L = [] ∧ h = h0) := by
  refine own_enter pn_9 ?_
  intro p e s m below meth c s₁ X0 hx hby hml hown hnm hret hlk hZ e0
  replace hown : s.vm.findClass "java/lang/Record" = some m.cls := hown
  have ef : entryFrame m #[(.ref o0)] 1 = mkF m 0 #[.val (.ref o0)] [] := by first | rfl | (simp [entryFrame, mkF, argsToLocals, Value.category, maxLocals]; done)
  refine own_cast ef ?_
  show own_Ends _ _ _ _ _ _ _ s₁ (mkF m 0 #[.val (.ref o0)] [])
  refine own_go (fun _ k => XS.aloadN X0.here hx rfl (hb hby d9_0) rfl rfl k) ?_
  show own_Ends _ _ _ _ _ _ _ s₁ (mkF m 1 #[.val (.ref o0)] [(.ref o0)])
  obtain ⟨T13, X13, e13, st13⟩ := initO X0 hx hZ hown (hw _ (List.mem_of_getElem? (i := 48) rfl)) (hw _ (List.mem_of_getElem? (i := 12) rfl)) (hw _ (List.mem_of_getElem? (i := 13) rfl)) e0 (g := (mkF m 1 #[.val (.ref o0)] [(.ref o0)])) rfl (by rw [hml]; rfl) rfl (hb hby d9_1) (by decide) (W := 0) (by show 2 * 0 + _ ≤ _; exact Nat.le_of_eq rfl) (by decide)
  refine own_go st13 ?_
  show own_Ends _ _ _ _ _ _ _ T13 (mkF m 4 #[.val (.ref o0)] [])
  exact own_retV X13 hx hlk hret (hb hby d9_4) (by decide) (by decide) ⟨rfl, rfl, e13⟩
set_option maxRecDepth 65536 in
set_option maxHeartbeats 40000000 in
theorem rm10 (l : Launch) (Z : State) (a0 : Array Value) (hw : ∀ d ∈ tables_1, d.before a0 Z = true) (r0 : Addr) (r1 : Addr) (h0 : Heap) :
    own_C l (⟨"java/util/Objects", "requireNonNull", "(Ljava/lang/Object;Ljava/lang/String;)Ljava/lang/Object;"⟩ : MethodName) jdk_31_method_11_code 2 (some (.object "java/lang/Object")) ({ frames := 0, cells := 0, slots := 0, locals := 0 } : Room) Z #[(.ref r0), (.ref r1)] h0 (fun v h L => v = some (.ref r0) ∧ L = [] ∧ h = h0) := by
  refine own_enter pn_10 ?_
  intro p e s m below meth c s₁ X0 hx hby hml hown hnm hret hlk hZ e0
  replace hown : s.vm.findClass "java/util/Objects" = some m.cls := hown
  have ef : entryFrame m #[(.ref r0), (.ref r1)] 2 = mkF m 0 #[.val (.ref r0), .val (.ref r1)] [] := by first | rfl | (simp [entryFrame, mkF, argsToLocals, Value.category, maxLocals]; done)
  refine own_cast ef ?_
  show own_Ends _ _ _ _ _ _ _ s₁ (mkF m 0 #[.val (.ref r0), .val (.ref r1)] [])
  refine own_go (fun _ k => XS.aloadN X0.here hx rfl (hb hby d10_0) rfl rfl k) ?_
  show own_Ends _ _ _ _ _ _ _ s₁ (mkF m 1 #[.val (.ref r0), .val (.ref r1)] [(.ref r0)])
  refine own_go (fun _ k => XS.ifnonnullYes X0.here hx rfl (pc0 := 1) (pc' := 13) rfl (hb hby d10_1) rfl (by decide) (by decide) k) ?_
  show own_Ends _ _ _ _ _ _ _ s₁ (mkF m 13 #[.val (.ref r0), .val (.ref r1)] [])
  refine own_go (fun _ k => XS.aloadN X0.here hx rfl (hb hby d10_13) rfl rfl k) ?_
  show own_Ends _ _ _ _ _ _ _ s₁ (mkF m 14 #[.val (.ref r0), .val (.ref r1)] [(.ref r0)])
  exact own_retR X0 hx hlk hret rfl rfl rfl (hb hby d10_14) (by decide) (by decide) ⟨rfl, rfl, e0⟩
set_option maxRecDepth 65536 in
set_option maxHeartbeats 40000000 in
theorem rm16 (l : Launch) (Z : State) (a0 : Array Value) (hw : ∀ d ∈ tables_1, d.before a0 Z = true) (o0 : Addr) (r1 : Addr) (h0 : Heap) (hr : o0 = r1) :
    own_C l (⟨"java/lang/String", "equals", "(Ljava/lang/Object;)Z"⟩ : MethodName) jdk_42_method_66_code 3 (some .boolean) ({ frames := 0, cells := 0, slots := 0, locals := 0 } : Room) Z #[(.ref o0), (.ref r1)] h0 (fun v h L => v = some (.int 1) ∧ L = [] ∧ h = h0) := by
  refine own_enter pn_16 ?_
  intro p e s m below meth c s₁ X0 hx hby hml hown hnm hret hlk hZ e0
  replace hown : s.vm.findClass "java/lang/String" = some m.cls := hown
  have ef : entryFrame m #[(.ref o0), (.ref r1)] 3 = mkF m 0 #[.val (.ref o0), .val (.ref r1), .unset] [] := by first | rfl | (simp [entryFrame, mkF, argsToLocals, Value.category, maxLocals]; done)
  refine own_cast ef ?_
  show own_Ends _ _ _ _ _ _ _ s₁ (mkF m 0 #[.val (.ref o0), .val (.ref r1), .unset] [])
  subst hr
  show own_Ends _ _ _ _ _ _ _ s₁ (mkF m 0 #[.val (.ref o0), .val (.ref o0), .unset] [])
  refine own_go (fun _ k => XS.aloadN X0.here hx rfl (hb hby d16_0) rfl rfl k) ?_
  show own_Ends _ _ _ _ _ _ _ s₁ (mkF m 1 #[.val (.ref o0), .val (.ref o0), .unset] [(.ref o0)])
  refine own_go (fun _ k => XS.aloadN X0.here hx rfl (hb hby d16_1) rfl rfl k) ?_
  show own_Ends _ _ _ _ _ _ _ s₁ (mkF m 2 #[.val (.ref o0), .val (.ref o0), .unset] [(.ref o0), (.ref o0)])
  refine own_go (fun _ k => Jvm.RoadKit.acmp (g := (mkF m 2 #[.val (.ref o0), .val (.ref o0), .unset] [(.ref o0), (.ref o0)])) X0 hx rfl rfl rfl (pc0 := 2) (pc' := 5) (same := true) rfl (hb hby d16_2) rfl ((decide_eq_true rfl)) (by decide) (by decide) k) ?_
  show own_Ends _ _ _ _ _ _ _ s₁ (mkF m 5 #[.val (.ref o0), .val (.ref o0), .unset] [])
  refine own_go (fun _ k => XS.iconst X0.here hx rfl (hb hby d16_5) k) ?_
  show own_Ends _ _ _ _ _ _ _ s₁ (mkF m 6 #[.val (.ref o0), .val (.ref o0), .unset] [(.int (1 : Int32))])
  exact own_retZ X0 hx hlk hret (by decide) (hb hby d16_6) (by decide) (by decide) ⟨rfl, rfl, e0⟩
set_option maxRecDepth 65536 in
set_option maxHeartbeats 40000000 in
theorem rm17 (l : Launch) (Z : State) (a0 : Array Value) (hw : ∀ d ∈ tables_1, d.before a0 Z = true) (o0 : Addr) (p1 : Int32) (h0 : Heap) (n0 : Nat) (go : n0 ≤ o0) (E : Exa Z h0 o0 "java/lang/Integer") (Fv : Fld Z h0 o0 "java/lang/Integer" "value" "I" (.int (0 : Int32))) :
    own_C l (⟨"java/lang/Integer", "<init>", "(I)V"⟩ : MethodName) jdk_33_method_23_code 2 none ({ frames := 2, cells := 0, slots := 0, locals := 30 } : Room) Z #[(.ref o0), (.int p1)] h0 (fun v h L => v = none ∧ Fr n0 L ∧ Keep h0 h [o0]) := by
  refine own_enter pn_17 ?_
  intro p e s m below meth c s₁ X0 hx hby hml hown hnm hret hlk hZ e0
  replace hown : s.vm.findClass "java/lang/Integer" = some m.cls := hown
  have ef : entryFrame m #[(.ref o0), (.int p1)] 2 = mkF m 0 #[.val (.ref o0), .val (.int p1)] [] := by first | rfl | (simp [entryFrame, mkF, argsToLocals, Value.category, maxLocals]; done)
  refine own_cast ef ?_
  show own_Ends _ _ _ _ _ _ _ s₁ (mkF m 0 #[.val (.ref o0), .val (.int p1)] [])
  have N0 := Fr.nil n0
  have K0 : Keep h0 h0 [o0] := Keep.refl _ _
  refine own_go (fun _ k => XS.aloadN X0.here hx rfl (hb hby d17_0) rfl rfl k) ?_
  show own_Ends _ _ _ _ _ _ _ s₁ (mkF m 1 #[.val (.ref o0), .val (.int p1)] [(.ref o0)])
  obtain ⟨v14, T14, L14, X14, hQ14, st14⟩ := own_callI X0 hx hZ hown rfl (hw _ (List.mem_of_getElem? (i := 118) rfl)) (hw _ (List.mem_of_getElem? (i := 119) rfl)) (hw _ (List.mem_of_getElem? (i := 122) rfl)) (hw _ (List.mem_of_getElem? (i := 123) rfl)) (rm18 l Z a0 hw o0 h0) e0 (g := (mkF m 1 #[.val (.ref o0), .val (.int p1)] [(.ref o0)])) rfl (by rw [hml]; rfl) (a := o0) (argsL := []) (rest := []) (lenOf pd_4 rfl) rfl rfl (W := 0) (by show 2 * 0 + _ ≤ _; exact Nat.le_of_eq rfl) (hb hby d17_1) (by decide) (by decide) (by decide) (by decide) (by decide)
  obtain ⟨rfl, rfl, e14⟩ := hQ14
  refine own_go st14 ?_
  have N14 := Fr.app N0 (Fr.nil _)
  show own_Ends _ _ _ _ _ _ _ T14 (mkF m 4 #[.val (.ref o0), .val (.int p1)] [])
  refine own_go (fun _ k => XS.aloadN X14.here hx rfl (hb hby d17_4) rfl rfl k) ?_
  show own_Ends _ _ _ _ _ _ _ T14 (mkF m 5 #[.val (.ref o0), .val (.int p1)] [(.ref o0)])
  refine own_go (fun _ k => XS.iloadN X14.here hx rfl (hb hby d17_5) rfl k) ?_
  show own_Ends _ _ _ _ _ _ _ T14 (mkF m 6 #[.val (.ref o0), .val (.int p1)] [(.int p1), (.ref o0)])
  obtain ⟨T15, h15, X15, e15, W15, st15⟩ := putF X14 hx hZ hown (host := "") (Or.inl (hw _ (List.mem_of_getElem? (i := 125) rfl))) Via.refl e14 Fv E (Or.inr ⟨(hw _ (List.mem_of_getElem? (i := 126) rfl)), rfl, hnm⟩) (hw _ (List.mem_of_getElem? (i := 113) rfl)) (ty := .int) (by decide) rfl rfl (g := (mkF m 6 #[.val (.ref o0), .val (.int p1)] [(.int p1), (.ref o0)])) rfl rfl (hb hby d17_6)
  have N15 := Fr.snoc X15 N14 go
  have K_15 := K0.wr W15 (Or.inl (List.mem_of_getElem? (i := 0) rfl))
  have E_o0_15 := E.wr W15
  have F_o0_value_15 := Fv.same W15
  refine own_go st15 ?_
  show own_Ends _ _ _ _ _ _ _ T15 (mkF m 9 #[.val (.ref o0), .val (.int p1)] [])
  exact own_retV X15 hx hlk hret (hb hby d17_9) (by decide) (by decide) (by rw [e15]; exact ⟨rfl, N15, K_15⟩)
theorem own_ixI {x : Int32} (h1 : ¬ x < -128) (h2 : ¬ (127 : Int32) < x) : ¬ x + 128 < 0 ∧ (x + 128).toNatClampNeg = (x.toInt + 128).toNat ∧ (x.toInt + 128).toNat < 256 := by
  rw [Int32.lt_iff_toInt_lt] at h1 h2
  have a := c_iadd x 128
  have r := rng32 (x + 128)
  have d1 : (-128 : Int32).toInt = -128 := by decide
  have d2 : (127 : Int32).toInt = 127 := by decide
  have d3 : (128 : Int32).toInt = 128 := by decide
  have d0 : (0 : Int32).toInt = 0 := by decide
  have e : (x + 128).toInt = x.toInt + 128 := by omega
  refine ⟨fun q => ?_, ?_, by omega⟩
  · rw [Int32.lt_iff_toInt_lt] at q; omega
  · show (x + 128).toInt.toNat = _
    rw [e]
theorem own_Bx {Z : State} {a : Addr} {c : Cell} {K d : String} {val : Int32 → Value} (B : Bxs Z a c K d 256 val) : ∃ f : Nat → Value, own_Ar Z Z.heap a c.cls (.object K) 256 f ∧ ∀ i, i < 256 → ∃ b, f i = .ref b := by
  obtain ⟨A, q, -, r⟩ := B
  have q' : c.slots.size = 256 := q
  refine ⟨fun i => (c.slots[i]?).getD .null, ⟨c, A, rfl, q', by decide, fun i hi => ?_⟩, fun i hi => ?_⟩
  · show _ = some ((c.slots[i]?).getD .null)
    rw [Array.getElem?_eq_getElem (by omega)]; rfl
  · obtain ⟨b, h1, -⟩ := r (Int32.ofNat i) (by
      have e := Int32.toInt_ofNat_small (n := i) (by omega)
      rintro (z | z)
      · rw [Int32.lt_iff_toInt_lt] at z
        have d0 : (0 : Int32).toInt = 0 := by decide
        omega
      · have : (Int32.ofNat i).toNatClampNeg = i := by simp only [Int32.toNatClampNeg, e]; rfl
        omega)
    have : (Int32.ofNat i).toNatClampNeg = i := by
      have e := Int32.toInt_ofNat_small (n := i) (by omega)
      simp only [Int32.toNatClampNeg, e]; rfl
    rw [this] at h1
    exact ⟨b, by show (c.slots[i]?).getD .null = _; rw [h1]; rfl⟩
set_option maxRecDepth 65536 in
set_option maxHeartbeats 40000000 in
theorem rm7 (l : Launch) (Z : State) (a0 : Array Value) (hw : ∀ d ∈ tables_1, d.before a0 Z = true) (p0 : Int32) (h0 : Heap) (n0 : Nat) (ca : Addr) (kc : ClassId) (fc : Nat → Value) (Z0 : n0 ≤ h0.size) (Sh : Sta Z h0 "java/lang/Integer$IntegerCache" "high" "I" (.int (127 : Int32))) (Sa : Sta Z h0 "java/lang/Integer$IntegerCache" "cache" "[Ljava/lang/Integer;" (.ref ca)) (Ac : own_Ar Z h0 ca kc (.object "java/lang/Integer") 256 fc) (hfc : ∀ i, i < 256 → ∃ b, fc i = .ref b) :
    own_C l (⟨"java/lang/Integer", "valueOf", "(I)Ljava/lang/Integer;"⟩ : MethodName) jdk_33_method_22_code 1 (some (.object "java/lang/Integer")) ({ frames := 3, cells := 1, slots := 1, locals := 46 } : Room) Z #[(.int p0)] h0 (fun v h L => ∃ r : Addr, v = some (.ref r) ∧ Fr n0 L ∧ Keep h0 h []) := by
  refine own_enter pn_7 ?_
  intro p e s m below meth c s₁ X0 hx hby hml hown hnm hret hlk hZ e0
  replace hown : s.vm.findClass "java/lang/Integer" = some m.cls := hown
  have ef : entryFrame m #[(.int p0)] 1 = mkF m 0 #[.val (.int p0)] [] := by first | rfl | (simp [entryFrame, mkF, argsToLocals, Value.category, maxLocals]; done)
  refine own_cast ef ?_
  show own_Ends _ _ _ _ _ _ _ s₁ (mkF m 0 #[.val (.int p0)] [])
  have N0 := Fr.nil n0
  have K0 : Keep h0 h0 [] := Keep.refl _ _
  refine own_go (fun _ k => XS.iloadN X0.here hx rfl (hb hby d7_0) rfl k) ?_
  show own_Ends _ _ _ _ _ _ _ s₁ (mkF m 1 #[.val (.int p0)] [(.int p0)])
  refine own_go (fun _ k => XS.bipush X0.here hx rfl (hb hby d7_1) k) ?_
  show own_Ends _ _ _ _ _ _ _ s₁ (mkF m 3 #[.val (.int p0)] [(.int (-128 : Int32)), (.int p0)])
  by_cases h1 : p0 < (-128 : Int32)
  · refine own_go (fun _ k => XS.icmpYes X0.here hx rfl (pc0 := 3) (pc' := 23) rfl (hb hby d7_3) rfl (tlt h1).1 (by decide) (by decide) k) ?_
    show own_Ends _ _ _ _ _ _ _ s₁ (mkF m 23 #[.val (.int p0)] [])
    obtain ⟨T16, h16, X16, e16, E16, A16, D16, -, st16⟩ := newO X0 hx hZ hown (hw _ (List.mem_of_getElem? (i := 112) rfl)) (hw _ (List.mem_of_getElem? (i := 113) rfl)) (hw _ (List.mem_of_getElem? (i := 32) rfl)) e0 (g := (mkF m 23 #[.val (.int p0)] [])) rfl (hb hby d7_23) (by decide) (by decide)
    obtain ⟨b, gq16⟩ : ∃ z, z = h0.size := ⟨_, rfl⟩
    rw [← gq16] at A16 D16 st16
    have ne_ca_b : ca ≠ b := Nat.ne_of_lt (Nat.lt_of_lt_of_le Ac.lt (Nat.le_of_eq gq16.symm))
    have sz_b : h0.size ≤ b := Nat.le_trans K0.1 (Nat.le_of_eq gq16.symm)
    have g_b : n0 ≤ b := Nat.le_trans Z0 sz_b
    have K_16 := K0.ext E16
    have S_java_lang_Integer_IntegerCache_high_16 := Sh.ext E16
    have S_java_lang_Integer_IntegerCache_cache_16 := Sa.ext E16
    have V_ca_16 := Ac.ext E16
    have F_value_b : Fld Z h16 b "java/lang/Integer" "value" "I" (.int (0 : Int32)) := D16 (Or.inr (hw _ (List.mem_of_getElem? (i := 126) rfl))) (ty := .int) (by decide)
    refine own_go st16 ?_
    show own_Ends _ _ _ _ _ _ _ T16 (mkF m 26 #[.val (.int p0)] [(.ref b)])
    refine own_go (fun _ k => XS.dup X16.here hx rfl (hb hby d7_26) rfl rfl k) ?_
    show own_Ends _ _ _ _ _ _ _ T16 (mkF m 27 #[.val (.int p0)] [(.ref b), (.ref b)])
    refine own_go (fun _ k => XS.iloadN X16.here hx rfl (hb hby d7_27) rfl k) ?_
    show own_Ends _ _ _ _ _ _ _ T16 (mkF m 28 #[.val (.int p0)] [(.int p0), (.ref b), (.ref b)])
    obtain ⟨v17, T17, L17, X17, hQ17, st17⟩ := own_callI X16 hx hZ hown rfl (hw _ (List.mem_of_getElem? (i := 114) rfl)) (hw _ (List.mem_of_getElem? (i := 115) rfl)) (hw _ (List.mem_of_getElem? (i := 32) rfl)) (hw _ (List.mem_of_getElem? (i := 117) rfl)) (rm17 l Z a0 hw b p0 h16 n0 g_b A16 F_value_b) e16 (g := (mkF m 28 #[.val (.int p0)] [(.int p0), (.ref b), (.ref b)])) rfl (by rw [hml]; rfl) (a := b) (argsL := [(.int p0)]) (rest := [(.ref b)]) (lenOf pd_5 rfl) rfl rfl (W := 1) (by show 2 * 0 + _ ≤ _; exact Nat.le_of_eq rfl) (hb hby d7_28) (by decide) (by decide) (by decide) (by decide) (by decide)
    obtain ⟨rfl, N17q, K17⟩ := hQ17
    refine own_go st17 ?_
    have N17 := Fr.app N0 N17q
    have K_17 := K_16.trans K17 (allS (Or.inr sz_b) all0)
    have S_java_lang_Integer_IntegerCache_high_17 := own_Sta.keep S_java_lang_Integer_IntegerCache_high_16 K17 (own_nsE A16 own_ns0)
    have S_java_lang_Integer_IntegerCache_cache_17 := own_Sta.keep S_java_lang_Integer_IntegerCache_cache_16 K17 (own_nsE A16 own_ns0)
    have V_ca_17 := V_ca_16.keep K17 (ninS ne_ca_b nin0)
    have E_b_17 := A16.keep K17
    show own_Ends _ _ _ _ _ _ _ T17 (mkF m 31 #[.val (.int p0)] [(.ref b)])
    exact own_retR X17 hx hlk hret rfl rfl rfl (hb hby d7_31) (by decide) (by decide) ⟨b, rfl, N17, K_17⟩
  · refine own_go (fun _ k => XS.icmpNo X0.here hx rfl (hb hby d7_3) rfl (flt h1).1 k) ?_
    show own_Ends _ _ _ _ _ _ _ s₁ (mkF m 6 #[.val (.int p0)] [])
    refine own_go (fun _ k => XS.iloadN X0.here hx rfl (hb hby d7_6) rfl k) ?_
    show own_Ends _ _ _ _ _ _ _ s₁ (mkF m 7 #[.val (.int p0)] [(.int p0)])
    obtain ⟨T18, X18, e18, st18⟩ := getS2 X0 hx hZ hown (host := "") (Or.inl (hw _ (List.mem_of_getElem? (i := 34) rfl))) Via.refl e0 Sh (g := (mkF m 7 #[.val (.int p0)] [(.int p0)])) rfl (hb hby d7_7)
    refine own_go st18 ?_
    show own_Ends _ _ _ _ _ _ _ T18 (mkF m 10 #[.val (.int p0)] [(.int (127 : Int32)), (.int p0)])
    by_cases h2 : (127 : Int32) < p0
    · refine own_go (fun _ k => XS.icmpYes X18.here hx rfl (pc0 := 10) (pc' := 23) rfl (hb hby d7_10) rfl (tlt h2).2.2.1 (by decide) (by decide) k) ?_
      show own_Ends _ _ _ _ _ _ _ T18 (mkF m 23 #[.val (.int p0)] [])
      obtain ⟨T19, h19, X19, e19, E19, A19, D19, -, st19⟩ := newO X18 hx hZ hown (hw _ (List.mem_of_getElem? (i := 112) rfl)) (hw _ (List.mem_of_getElem? (i := 113) rfl)) (hw _ (List.mem_of_getElem? (i := 32) rfl)) e18 (g := (mkF m 23 #[.val (.int p0)] [])) rfl (hb hby d7_23) (by decide) (by decide)
      obtain ⟨b, gq19⟩ : ∃ z, z = h0.size := ⟨_, rfl⟩
      rw [← gq19] at A19 D19 st19
      have ne_ca_b : ca ≠ b := Nat.ne_of_lt (Nat.lt_of_lt_of_le Ac.lt (Nat.le_of_eq gq19.symm))
      have sz_b : h0.size ≤ b := Nat.le_trans K0.1 (Nat.le_of_eq gq19.symm)
      have g_b : n0 ≤ b := Nat.le_trans Z0 sz_b
      have K_19 := K0.ext E19
      have S_java_lang_Integer_IntegerCache_high_19 := Sh.ext E19
      have S_java_lang_Integer_IntegerCache_cache_19 := Sa.ext E19
      have V_ca_19 := Ac.ext E19
      have F_value_b : Fld Z h19 b "java/lang/Integer" "value" "I" (.int (0 : Int32)) := D19 (Or.inr (hw _ (List.mem_of_getElem? (i := 126) rfl))) (ty := .int) (by decide)
      refine own_go st19 ?_
      show own_Ends _ _ _ _ _ _ _ T19 (mkF m 26 #[.val (.int p0)] [(.ref b)])
      refine own_go (fun _ k => XS.dup X19.here hx rfl (hb hby d7_26) rfl rfl k) ?_
      show own_Ends _ _ _ _ _ _ _ T19 (mkF m 27 #[.val (.int p0)] [(.ref b), (.ref b)])
      refine own_go (fun _ k => XS.iloadN X19.here hx rfl (hb hby d7_27) rfl k) ?_
      show own_Ends _ _ _ _ _ _ _ T19 (mkF m 28 #[.val (.int p0)] [(.int p0), (.ref b), (.ref b)])
      obtain ⟨v20, T20, L20, X20, hQ20, st20⟩ := own_callI X19 hx hZ hown rfl (hw _ (List.mem_of_getElem? (i := 114) rfl)) (hw _ (List.mem_of_getElem? (i := 115) rfl)) (hw _ (List.mem_of_getElem? (i := 32) rfl)) (hw _ (List.mem_of_getElem? (i := 117) rfl)) (rm17 l Z a0 hw b p0 h19 n0 g_b A19 F_value_b) e19 (g := (mkF m 28 #[.val (.int p0)] [(.int p0), (.ref b), (.ref b)])) rfl (by rw [hml]; rfl) (a := b) (argsL := [(.int p0)]) (rest := [(.ref b)]) (lenOf pd_5 rfl) rfl rfl (W := 1) (by show 2 * 0 + _ ≤ _; exact Nat.le_of_eq rfl) (hb hby d7_28) (by decide) (by decide) (by decide) (by decide) (by decide)
      obtain ⟨rfl, N20q, K20⟩ := hQ20
      refine own_go st20 ?_
      have N20 := Fr.app N0 N20q
      have K_20 := K_19.trans K20 (allS (Or.inr sz_b) all0)
      have S_java_lang_Integer_IntegerCache_high_20 := own_Sta.keep S_java_lang_Integer_IntegerCache_high_19 K20 (own_nsE A19 own_ns0)
      have S_java_lang_Integer_IntegerCache_cache_20 := own_Sta.keep S_java_lang_Integer_IntegerCache_cache_19 K20 (own_nsE A19 own_ns0)
      have V_ca_20 := V_ca_19.keep K20 (ninS ne_ca_b nin0)
      have E_b_20 := A19.keep K20
      show own_Ends _ _ _ _ _ _ _ T20 (mkF m 31 #[.val (.int p0)] [(.ref b)])
      exact own_retR X20 hx hlk hret rfl rfl rfl (hb hby d7_31) (by decide) (by decide) ⟨b, rfl, N20, K_20⟩
    · refine own_go (fun _ k => XS.icmpNo X18.here hx rfl (hb hby d7_10) rfl (flt h2).2.2.1 k) ?_
      show own_Ends _ _ _ _ _ _ _ T18 (mkF m 13 #[.val (.int p0)] [])
      obtain ⟨T21, X21, e21, st21⟩ := getS2 X18 hx hZ hown (host := "") (Or.inl (hw _ (List.mem_of_getElem? (i := 36) rfl))) Via.refl e18 Sa (g := (mkF m 13 #[.val (.int p0)] [])) rfl (hb hby d7_13)
      refine own_go st21 ?_
      show own_Ends _ _ _ _ _ _ _ T21 (mkF m 16 #[.val (.int p0)] [(.ref ca)])
      refine own_go (fun _ k => XS.iloadN X21.here hx rfl (hb hby d7_16) rfl k) ?_
      show own_Ends _ _ _ _ _ _ _ T21 (mkF m 17 #[.val (.int p0)] [(.int p0), (.ref ca)])
      refine own_go (fun _ k => XS.sipush X21.here hx rfl (hb hby d7_17) k) ?_
      show own_Ends _ _ _ _ _ _ _ T21 (mkF m 20 #[.val (.int p0)] [(.int (128 : Int32)), (.int p0), (.ref ca)])
      refine own_go (fun _ k => XS.iadd X21.here hx rfl (hb hby d7_20) rfl k) ?_
      show own_Ends _ _ _ _ _ _ _ T21 (mkF m 21 #[.val (.int p0)] [(.int (p0 + (128 : Int32))), (.ref ca)])
      obtain ⟨j1, j2, j3⟩ := own_ixI h1 h2
      obtain ⟨bq, hbq⟩ := hfc _ j3
      refine own_go (fun _ k => own_ldR X21 hx hZ e21 Ac rfl (i := ((p0.toInt + 128).toNat)) (v := (.ref bq)) j1 j2 j3 hbq (g := (mkF m 21 #[.val (.int p0)] [(.int (p0 + (128 : Int32))), (.ref ca)])) rfl rfl (hb hby d7_21) _ k) ?_
      show own_Ends _ _ _ _ _ _ _ T21 (mkF m 22 #[.val (.int p0)] [(.ref bq)])
      exact own_retR X21 hx hlk hret rfl rfl rfl (hb hby d7_22) (by decide) (by decide) (by rw [e21]; exact ⟨bq, rfl, N0, K0⟩)
set_option maxRecDepth 65536 in
set_option maxHeartbeats 40000000 in
theorem rm12 (l : Launch) (Z : State) (a0 : Array Value) (hw : ∀ d ∈ tables_1, d.before a0 Z = true) (o0 : Addr) (h0 : Heap) (x : Addr) (F : Fld Z h0 o0 "com/example/nikki/nikki/eventsourcing/Aggregate" "identifier" "Ljava/lang/String;" (.ref x)) :
    own_C l (⟨"com/example/nikki/nikki/eventsourcing/Aggregate", "identifier", "()Ljava/lang/String;"⟩ : MethodName) prog_19_method_5_code 1 (some (.object "java/lang/String")) ({ frames := 0, cells := 0, slots := 0, locals := 0 } : Room) Z #[(.ref o0)] h0 (fun v h L => v = some (.ref x) ∧ L = [] ∧ h = h0) := by
  refine own_enter pn_12 ?_
  intro p e s m below meth c s₁ X0 hx hby hml hown hnm hret hlk hZ e0
  replace hown : s.vm.findClass "com/example/nikki/nikki/eventsourcing/Aggregate" = some m.cls := hown
  have ef : entryFrame m #[(.ref o0)] 1 = mkF m 0 #[.val (.ref o0)] [] := by first | rfl | (simp [entryFrame, mkF, argsToLocals, Value.category, maxLocals]; done)
  refine own_cast ef ?_
  show own_Ends _ _ _ _ _ _ _ s₁ (mkF m 0 #[.val (.ref o0)] [])
  refine own_go (fun _ k => XS.aloadN X0.here hx rfl (hb hby d12_0) rfl rfl k) ?_
  show own_Ends _ _ _ _ _ _ _ s₁ (mkF m 1 #[.val (.ref o0)] [(.ref o0)])
  obtain ⟨T22, X22, e22, st22⟩ := getF X0 hx hZ hown (host := "") (Or.inl (hw _ (List.mem_of_getElem? (i := 57) rfl))) Via.refl e0 F (g := (mkF m 1 #[.val (.ref o0)] [(.ref o0)])) rfl rfl (hb hby d12_1)
  refine own_go st22 ?_
  show own_Ends _ _ _ _ _ _ _ T22 (mkF m 4 #[.val (.ref o0)] [(.ref x)])
  exact own_retR X22 hx hlk hret rfl rfl rfl (hb hby d12_4) (by decide) (by decide) ⟨rfl, rfl, e22⟩
set_option maxRecDepth 65536 in
set_option maxHeartbeats 40000000 in
theorem rm14 (l : Launch) (Z : State) (a0 : Array Value) (hw : ∀ d ∈ tables_1, d.before a0 Z = true) (o0 : Addr) (h0 : Heap) (x : Int64) (F : Fld Z h0 o0 "com/example/nikki/nikki/eventsourcing/Aggregate" "version" "J" (.long x)) :
    own_C l (⟨"com/example/nikki/nikki/eventsourcing/Aggregate", "version", "()J"⟩ : MethodName) prog_19_method_6_code 1 (some .long) ({ frames := 0, cells := 0, slots := 0, locals := 0 } : Room) Z #[(.ref o0)] h0 (fun v h L => v = some (.long x) ∧ L = [] ∧ h = h0) := by
  refine own_enter pn_14 ?_
  intro p e s m below meth c s₁ X0 hx hby hml hown hnm hret hlk hZ e0
  replace hown : s.vm.findClass "com/example/nikki/nikki/eventsourcing/Aggregate" = some m.cls := hown
  have ef : entryFrame m #[(.ref o0)] 1 = mkF m 0 #[.val (.ref o0)] [] := by first | rfl | (simp [entryFrame, mkF, argsToLocals, Value.category, maxLocals]; done)
  refine own_cast ef ?_
  show own_Ends _ _ _ _ _ _ _ s₁ (mkF m 0 #[.val (.ref o0)] [])
  refine own_go (fun _ k => XS.aloadN X0.here hx rfl (hb hby d14_0) rfl rfl k) ?_
  show own_Ends _ _ _ _ _ _ _ s₁ (mkF m 1 #[.val (.ref o0)] [(.ref o0)])
  obtain ⟨T23, X23, e23, st23⟩ := getF X0 hx hZ hown (host := "") (Or.inl (hw _ (List.mem_of_getElem? (i := 59) rfl))) Via.refl e0 F (g := (mkF m 1 #[.val (.ref o0)] [(.ref o0)])) rfl rfl (hb hby d14_1)
  refine own_go st23 ?_
  show own_Ends _ _ _ _ _ _ _ T23 (mkF m 4 #[.val (.ref o0)] [(.long x)])
  exact own_retJ X23 hx hlk hret (hb hby d14_4) (by decide) (by decide) ⟨rfl, rfl, e23⟩
set_option maxRecDepth 65536 in
set_option maxHeartbeats 40000000 in
theorem rm13 (l : Launch) (Z : State) (a0 : Array Value) (hw : ∀ d ∈ tables_1, d.before a0 Z = true) (o0 : Addr) (h0 : Heap) (x : Addr) (F : Fld Z h0 o0 "com/example/nikki/nikki/eventsourcing/Aggregate" "root" "Ljava/lang/Object;" (.ref x)) :
    own_C l (⟨"com/example/nikki/nikki/eventsourcing/Aggregate", "root", "()Ljava/lang/Object;"⟩ : MethodName) prog_19_method_7_code 1 (some (.object "java/lang/Object")) ({ frames := 0, cells := 0, slots := 0, locals := 0 } : Room) Z #[(.ref o0)] h0 (fun v h L => v = some (.ref x) ∧ L = [] ∧ h = h0) := by
  refine own_enter pn_13 ?_
  intro p e s m below meth c s₁ X0 hx hby hml hown hnm hret hlk hZ e0
  replace hown : s.vm.findClass "com/example/nikki/nikki/eventsourcing/Aggregate" = some m.cls := hown
  have ef : entryFrame m #[(.ref o0)] 1 = mkF m 0 #[.val (.ref o0)] [] := by first | rfl | (simp [entryFrame, mkF, argsToLocals, Value.category, maxLocals]; done)
  refine own_cast ef ?_
  show own_Ends _ _ _ _ _ _ _ s₁ (mkF m 0 #[.val (.ref o0)] [])
  refine own_go (fun _ k => XS.aloadN X0.here hx rfl (hb hby d13_0) rfl rfl k) ?_
  show own_Ends _ _ _ _ _ _ _ s₁ (mkF m 1 #[.val (.ref o0)] [(.ref o0)])
  obtain ⟨T24, X24, e24, st24⟩ := getF X0 hx hZ hown (host := "") (Or.inl (hw _ (List.mem_of_getElem? (i := 61) rfl))) Via.refl e0 F (g := (mkF m 1 #[.val (.ref o0)] [(.ref o0)])) rfl rfl (hb hby d13_1)
  refine own_go st24 ?_
  show own_Ends _ _ _ _ _ _ _ T24 (mkF m 4 #[.val (.ref o0)] [(.ref x)])
  exact own_retR X24 hx hlk hret rfl rfl rfl (hb hby d13_4) (by decide) (by decide) ⟨rfl, rfl, e24⟩
set_option maxRecDepth 65536 in
set_option maxHeartbeats 40000000 in
theorem rm8 (l : Launch) (Z : State) (a0 : Array Value) (hw : ∀ d ∈ tables_1, d.before a0 Z = true) (o0 : Addr) (r1 : Addr) (q2 : Int64) (r3 : Addr) (h0 : Heap) (n0 : Nat) (go : n0 ≤ o0) (E : Exa Z h0 o0 "com/example/nikki/nikki/eventsourcing/Aggregate") (Fidentifier : Fld Z h0 o0 "com/example/nikki/nikki/eventsourcing/Aggregate" "identifier" "Ljava/lang/String;" .null) (Fversion : Fld Z h0 o0 "com/example/nikki/nikki/eventsourcing/Aggregate" "version" "J" (.long (0 : Int64))) (Froot : Fld Z h0 o0 "com/example/nikki/nikki/eventsourcing/Aggregate" "root" "Ljava/lang/Object;" .null) :
    own_CS l (⟨"com/example/nikki/nikki/eventsourcing/Aggregate", "<init>", "(Ljava/lang/String;JLjava/lang/Object;)V"⟩ : MethodName) prog_19_method_1_code 5 none ({ frames := 2, cells := 4, slots := 64, locals := 30 } : Room) Z #[(.ref o0), (.ref r1), (.long q2), (.ref r3)] h0 (fun v h L => v = none ∧ Fr n0 L ∧ Keep h0 h [o0] ∧ Exa Z h o0 "com/example/nikki/nikki/eventsourcing/Aggregate" ∧ Fld Z h o0 "com/example/nikki/nikki/eventsourcing/Aggregate" "identifier" "Ljava/lang/String;" (.ref r1) ∧ Fld Z h o0 "com/example/nikki/nikki/eventsourcing/Aggregate" "version" "J" (.long q2) ∧ Fld Z h o0 "com/example/nikki/nikki/eventsourcing/Aggregate" "root" "Ljava/lang/Object;" (.ref r3)) := by
  refine own_enterS pn_8 ?_
  intro p e s m below meth c s₁ X0 hx hby hml hown hnm hret hlk hZ e0 SI0
  replace hown : (s.setVm s.vm).vm.findClass "com/example/nikki/nikki/eventsourcing/Aggregate" = some m.cls := hown
  have ef : entryFrame m #[(.ref o0), (.ref r1), (.long q2), (.ref r3)] 5 = mkF m 0 #[.val (.ref o0), .val (.ref r1), .val (.long q2), .second, .val (.ref r3)] [] := by first | rfl | (simp [entryFrame, mkF, argsToLocals, Value.category, maxLocals]; done)
  refine own_castS ef ?_
  have hk_0 : 0 ≤ h0.size := Nat.zero_le _
  show own_EndsS _ _ _ _ _ _ _ s₁ (mkF m 0 #[.val (.ref o0), .val (.ref r1), .val (.long q2), .second, .val (.ref r3)] [])
  have wS := own_wS hw
  have N0 := Fr.nil n0
  have K0 : Keep h0 h0 [o0] := Keep.refl _ _
  refine own_goS (fun _ k => XS.aloadN X0.here hx rfl (hb hby d8_0) rfl rfl k) ?_
  show own_EndsS _ _ _ _ _ _ _ s₁ (mkF m 1 #[.val (.ref o0), .val (.ref r1), .val (.long q2), .second, .val (.ref r3)] [(.ref o0)])
  obtain ⟨v25, T25, L25, X25, hQ25, st25⟩ := own_callI X0 hx hZ hown rfl (hw _ (List.mem_of_getElem? (i := 43) rfl)) (hw _ (List.mem_of_getElem? (i := 44) rfl)) (hw _ (List.mem_of_getElem? (i := 46) rfl)) (hw _ (List.mem_of_getElem? (i := 47) rfl)) (rm9 l Z a0 hw o0 h0) e0 (g := (mkF m 1 #[.val (.ref o0), .val (.ref r1), .val (.long q2), .second, .val (.ref r3)] [(.ref o0)])) rfl (by rw [hml]; rfl) (a := o0) (argsL := []) (rest := []) (lenOf pd_4 rfl) rfl rfl (W := 0) (by show 2 * 0 + _ ≤ _; exact Nat.le_of_eq rfl) (hb hby d8_1) (by decide) (by decide) (by decide) (by decide) (by decide)
  obtain ⟨rfl, rfl, e25⟩ := hQ25
  refine own_goS st25 ?_
  have N25 := Fr.app N0 (Fr.nil _)
  show own_EndsS _ _ _ _ _ _ _ T25 (mkF m 4 #[.val (.ref o0), .val (.ref r1), .val (.long q2), .second, .val (.ref r3)] [])
  refine own_goS (fun _ k => XS.aloadN X25.here hx rfl (hb hby d8_4) rfl rfl k) ?_
  show own_EndsS _ _ _ _ _ _ _ T25 (mkF m 5 #[.val (.ref o0), .val (.ref r1), .val (.long q2), .second, .val (.ref r3)] [(.ref r1)])
  obtain ⟨sa, T26, h26, k26, X26, e26, E26, SI26, hk26, hZ26, hown26, st26⟩ := ldcS X25 hx hZ hown (hw _ (List.mem_of_getElem? (i := 49) rfl)) wS e25 SI0 hk_0 (g := (mkF m 5 #[.val (.ref o0), .val (.ref r1), .val (.long q2), .second, .val (.ref r3)] [(.ref r1)])) rfl (hb hby d8_5) (n := 40) (by decide) (by decide) (by decide) (by decide)
  have K_26 := K0.ext E26
  have E_o0_26 := E.ext E26
  have F_o0_identifier_26 := Fidentifier.ext E26
  have F_o0_version_26 := Fversion.ext E26
  have F_o0_root_26 := Froot.ext E26
  refine own_goS st26 ?_
  show own_EndsS _ _ _ _ _ _ _ T26 (mkF m 7 #[.val (.ref o0), .val (.ref r1), .val (.long q2), .second, .val (.ref r3)] [(.ref sa), (.ref r1)])
  obtain ⟨v27, T27, L27, X27, hQ27, st27⟩ := own_callS X26 hx hZ26 hown26 (hw _ (List.mem_of_getElem? (i := 52) rfl)) (hw _ (List.mem_of_getElem? (i := 53) rfl)) (hw _ (List.mem_of_getElem? (i := 54) rfl)) (hw _ (List.mem_of_getElem? (i := 55) rfl)) (rm10 l Z a0 hw r1 sa h26) e26 (g := (mkF m 7 #[.val (.ref o0), .val (.ref r1), .val (.long q2), .second, .val (.ref r3)] [(.ref sa), (.ref r1)])) rfl (by rw [hml]; rfl) (argsL := [(.ref r1), (.ref sa)]) (rest := []) (lenOf pd_6 rfl) rfl rfl (W := 0) (by show 2 * 0 + _ ≤ _; exact Nat.le_of_eq rfl) (hb hby d8_7) (by decide) (by decide) (by decide) (by decide) (by decide)
  obtain ⟨rfl, rfl, e27⟩ := hQ27
  refine own_goS st27 ?_
  have N27 := Fr.app N25 (Fr.nil _)
  show own_EndsS _ _ _ _ _ _ _ T27 (mkF m 10 #[.val (.ref o0), .val (.ref r1), .val (.long q2), .second, .val (.ref r3)] [(.ref r1)])
  refine own_goS (fun _ k => XS.pop X27.here hx rfl (hb hby d8_10) rfl rfl k) ?_
  show own_EndsS _ _ _ _ _ _ _ T27 (mkF m 11 #[.val (.ref o0), .val (.ref r1), .val (.long q2), .second, .val (.ref r3)] [])
  refine own_goS (fun _ k => XS.aload X27.here hx rfl (hb hby d8_11) rfl rfl k) ?_
  show own_EndsS _ _ _ _ _ _ _ T27 (mkF m 13 #[.val (.ref o0), .val (.ref r1), .val (.long q2), .second, .val (.ref r3)] [(.ref r3)])
  obtain ⟨sb, T28, h28, k28, X28, e28, E28, SI28, hk28, hZ28, hown28, st28⟩ := ldcS X27 hx hZ26 hown26 (hw _ (List.mem_of_getElem? (i := 56) rfl)) wS e27 SI26 hk26 (g := (mkF m 13 #[.val (.ref o0), .val (.ref r1), .val (.long q2), .second, .val (.ref r3)] [(.ref r3)])) rfl (hb hby d8_13) (n := 16) (by decide) (by decide) (by decide) (by decide)
  have K_28 := K_26.ext E28
  have E_o0_28 := E_o0_26.ext E28
  have F_o0_identifier_28 := F_o0_identifier_26.ext E28
  have F_o0_version_28 := F_o0_version_26.ext E28
  have F_o0_root_28 := F_o0_root_26.ext E28
  refine own_goS st28 ?_
  show own_EndsS _ _ _ _ _ _ _ T28 (mkF m 15 #[.val (.ref o0), .val (.ref r1), .val (.long q2), .second, .val (.ref r3)] [(.ref sb), (.ref r3)])
  obtain ⟨v29, T29, L29, X29, hQ29, st29⟩ := own_callS X28 hx hZ28 hown28 (hw _ (List.mem_of_getElem? (i := 52) rfl)) (hw _ (List.mem_of_getElem? (i := 53) rfl)) (hw _ (List.mem_of_getElem? (i := 54) rfl)) (hw _ (List.mem_of_getElem? (i := 55) rfl)) (rm10 l Z a0 hw r3 sb h28) e28 (g := (mkF m 15 #[.val (.ref o0), .val (.ref r1), .val (.long q2), .second, .val (.ref r3)] [(.ref sb), (.ref r3)])) rfl (by rw [hml]; rfl) (argsL := [(.ref r3), (.ref sb)]) (rest := []) (lenOf pd_6 rfl) rfl rfl (W := 0) (by show 2 * 0 + _ ≤ _; exact Nat.le_of_eq rfl) (hb hby d8_15) (by decide) (by decide) (by decide) (by decide) (by decide)
  obtain ⟨rfl, rfl, e29⟩ := hQ29
  refine own_goS st29 ?_
  have N29 := Fr.app N27 (Fr.nil _)
  show own_EndsS _ _ _ _ _ _ _ T29 (mkF m 18 #[.val (.ref o0), .val (.ref r1), .val (.long q2), .second, .val (.ref r3)] [(.ref r3)])
  refine own_goS (fun _ k => XS.pop X29.here hx rfl (hb hby d8_18) rfl rfl k) ?_
  show own_EndsS _ _ _ _ _ _ _ T29 (mkF m 19 #[.val (.ref o0), .val (.ref r1), .val (.long q2), .second, .val (.ref r3)] [])
  refine own_goS (fun _ k => XS.aloadN X29.here hx rfl (hb hby d8_19) rfl rfl k) ?_
  show own_EndsS _ _ _ _ _ _ _ T29 (mkF m 20 #[.val (.ref o0), .val (.ref r1), .val (.long q2), .second, .val (.ref r3)] [(.ref o0)])
  refine own_goS (fun _ k => XS.aloadN X29.here hx rfl (hb hby d8_20) rfl rfl k) ?_
  show own_EndsS _ _ _ _ _ _ _ T29 (mkF m 21 #[.val (.ref o0), .val (.ref r1), .val (.long q2), .second, .val (.ref r3)] [(.ref r1), (.ref o0)])
  obtain ⟨T30, h30, X30, e30, W30, st30⟩ := putF X29 hx hZ28 hown28 (host := "") (Or.inl (hw _ (List.mem_of_getElem? (i := 57) rfl))) Via.refl e29 F_o0_identifier_28 E_o0_28 (Or.inr ⟨(hw _ (List.mem_of_getElem? (i := 58) rfl)), rfl, hnm⟩) (hw _ (List.mem_of_getElem? (i := 38) rfl)) (ty := (.object "java/lang/String")) (by decide) rfl rfl (g := (mkF m 21 #[.val (.ref o0), .val (.ref r1), .val (.long q2), .second, .val (.ref r3)] [(.ref r1), (.ref o0)])) rfl rfl (hb hby d8_21)
  have N30 := Fr.snoc X30 N29 go
  have K_30 := K_28.wr W30 (Or.inl (List.mem_of_getElem? (i := 0) rfl))
  have E_o0_30 := E_o0_28.wr W30
  have F_o0_identifier_30 := F_o0_identifier_28.same W30
  have F_o0_version_30 := F_o0_version_28.other W30 (Or.inr (slot_ne (Or.inr (hw _ (List.mem_of_getElem? (i := 60) rfl))) (Or.inr (hw _ (List.mem_of_getElem? (i := 58) rfl))) (by decide) (t := .long) (t' := (.object "java/lang/String")) (by decide) (by decide)))
  have F_o0_root_30 := F_o0_root_28.other W30 (Or.inr (slot_ne (Or.inr (hw _ (List.mem_of_getElem? (i := 62) rfl))) (Or.inr (hw _ (List.mem_of_getElem? (i := 58) rfl))) (by decide) (t := (.object "java/lang/Object")) (t' := (.object "java/lang/String")) (by decide) (by decide)))
  have hk_30 := Nat.le_trans hk28 (Nat.le_of_eq W30.size.symm)
  refine own_goS st30 ?_
  show own_EndsS _ _ _ _ _ _ _ T30 (mkF m 24 #[.val (.ref o0), .val (.ref r1), .val (.long q2), .second, .val (.ref r3)] [])
  refine own_goS (fun _ k => XS.aloadN X30.here hx rfl (hb hby d8_24) rfl rfl k) ?_
  show own_EndsS _ _ _ _ _ _ _ T30 (mkF m 25 #[.val (.ref o0), .val (.ref r1), .val (.long q2), .second, .val (.ref r3)] [(.ref o0)])
  refine own_goS (fun _ k => XS.lloadN X30.here hx rfl (hb hby d8_25) rfl k) ?_
  show own_EndsS _ _ _ _ _ _ _ T30 (mkF m 26 #[.val (.ref o0), .val (.ref r1), .val (.long q2), .second, .val (.ref r3)] [(.long q2), (.ref o0)])
  obtain ⟨T31, h31, X31, e31, W31, st31⟩ := putF X30 hx hZ28 hown28 (host := "") (Or.inl (hw _ (List.mem_of_getElem? (i := 59) rfl))) Via.refl e30 F_o0_version_30 E_o0_30 (Or.inr ⟨(hw _ (List.mem_of_getElem? (i := 60) rfl)), rfl, hnm⟩) (hw _ (List.mem_of_getElem? (i := 38) rfl)) (ty := .long) (by decide) rfl rfl (g := (mkF m 26 #[.val (.ref o0), .val (.ref r1), .val (.long q2), .second, .val (.ref r3)] [(.long q2), (.ref o0)])) rfl rfl (hb hby d8_26)
  have N31 := Fr.snoc X31 N30 go
  have K_31 := K_30.wr W31 (Or.inl (List.mem_of_getElem? (i := 0) rfl))
  have E_o0_31 := E_o0_30.wr W31
  have F_o0_identifier_31 := F_o0_identifier_30.other W31 (Or.inr (slot_ne (Or.inr (hw _ (List.mem_of_getElem? (i := 58) rfl))) (Or.inr (hw _ (List.mem_of_getElem? (i := 60) rfl))) (by decide) (t := (.object "java/lang/String")) (t' := .long) (by decide) (by decide)))
  have F_o0_version_31 := F_o0_version_30.same W31
  have F_o0_root_31 := F_o0_root_30.other W31 (Or.inr (slot_ne (Or.inr (hw _ (List.mem_of_getElem? (i := 62) rfl))) (Or.inr (hw _ (List.mem_of_getElem? (i := 60) rfl))) (by decide) (t := (.object "java/lang/Object")) (t' := .long) (by decide) (by decide)))
  have hk_31 := Nat.le_trans hk_30 (Nat.le_of_eq W31.size.symm)
  refine own_goS st31 ?_
  show own_EndsS _ _ _ _ _ _ _ T31 (mkF m 29 #[.val (.ref o0), .val (.ref r1), .val (.long q2), .second, .val (.ref r3)] [])
  refine own_goS (fun _ k => XS.aloadN X31.here hx rfl (hb hby d8_29) rfl rfl k) ?_
  show own_EndsS _ _ _ _ _ _ _ T31 (mkF m 30 #[.val (.ref o0), .val (.ref r1), .val (.long q2), .second, .val (.ref r3)] [(.ref o0)])
  refine own_goS (fun _ k => XS.aload X31.here hx rfl (hb hby d8_30) rfl rfl k) ?_
  show own_EndsS _ _ _ _ _ _ _ T31 (mkF m 32 #[.val (.ref o0), .val (.ref r1), .val (.long q2), .second, .val (.ref r3)] [(.ref r3), (.ref o0)])
  obtain ⟨T32, h32, X32, e32, W32, st32⟩ := putF X31 hx hZ28 hown28 (host := "") (Or.inl (hw _ (List.mem_of_getElem? (i := 61) rfl))) Via.refl e31 F_o0_root_31 E_o0_31 (Or.inr ⟨(hw _ (List.mem_of_getElem? (i := 62) rfl)), rfl, hnm⟩) (hw _ (List.mem_of_getElem? (i := 38) rfl)) (ty := (.object "java/lang/Object")) (by decide) rfl rfl (g := (mkF m 32 #[.val (.ref o0), .val (.ref r1), .val (.long q2), .second, .val (.ref r3)] [(.ref r3), (.ref o0)])) rfl rfl (hb hby d8_32)
  have N32 := Fr.snoc X32 N31 go
  have K_32 := K_31.wr W32 (Or.inl (List.mem_of_getElem? (i := 0) rfl))
  have E_o0_32 := E_o0_31.wr W32
  have F_o0_identifier_32 := F_o0_identifier_31.other W32 (Or.inr (slot_ne (Or.inr (hw _ (List.mem_of_getElem? (i := 58) rfl))) (Or.inr (hw _ (List.mem_of_getElem? (i := 62) rfl))) (by decide) (t := (.object "java/lang/String")) (t' := (.object "java/lang/Object")) (by decide) (by decide)))
  have F_o0_version_32 := F_o0_version_31.other W32 (Or.inr (slot_ne (Or.inr (hw _ (List.mem_of_getElem? (i := 60) rfl))) (Or.inr (hw _ (List.mem_of_getElem? (i := 62) rfl))) (by decide) (t := .long) (t' := (.object "java/lang/Object")) (by decide) (by decide)))
  have F_o0_root_32 := F_o0_root_31.same W32
  have hk_32 := Nat.le_trans hk_31 (Nat.le_of_eq W32.size.symm)
  refine own_goS st32 ?_
  show own_EndsS _ _ _ _ _ _ _ T32 (mkF m 35 #[.val (.ref o0), .val (.ref r1), .val (.long q2), .second, .val (.ref r3)] [])
  exact own_retSV X32 hx hlk SI28 (by rw [e32]; exact hk_32) hret (hb hby d8_35) (by decide) (by decide) (by rw [e32]; exact ⟨rfl, N32, K_32, E_o0_32, F_o0_identifier_32, F_o0_version_32, F_o0_root_32⟩)
set_option maxRecDepth 65536 in
set_option maxHeartbeats 40000000 in
theorem rm11 (l : Launch) (Z : State) (a0 : Array Value) (hw : ∀ d ∈ tables_1, d.before a0 Z = true) (o0 : Addr) (r1 : Addr) (q2 : Int64) (h0 : Heap) (n0 : Nat) (xi : Addr) (xv : Int64) (xr : Addr) (go : n0 ≤ o0) (E : Exa Z h0 o0 "com/example/nikki/nikki/eventsourcing/HeldAggregate") (EA : Exa Z h0 r1 "com/example/nikki/nikki/eventsourcing/Aggregate") (ne : r1 ≠ o0) (GdroppedAt : Fld Z h0 o0 "com/example/nikki/nikki/eventsourcing/HeldAggregate" "droppedAt" "J" (.long (0 : Int64))) (Gidentifier : Fld Z h0 o0 "com/example/nikki/nikki/eventsourcing/HeldAggregate" "identifier" "Ljava/lang/String;" .null) (Groot : Fld Z h0 o0 "com/example/nikki/nikki/eventsourcing/HeldAggregate" "root" "Ljava/lang/Object;" .null) (Gversion : Fld Z h0 o0 "com/example/nikki/nikki/eventsourcing/HeldAggregate" "version" "J" (.long (0 : Int64))) (GsnapshotSequenceNumber : Fld Z h0 o0 "com/example/nikki/nikki/eventsourcing/HeldAggregate" "snapshotSequenceNumber" "J" (.long (0 : Int64))) (Aidentifier : Fld Z h0 r1 "com/example/nikki/nikki/eventsourcing/Aggregate" "identifier" "Ljava/lang/String;" (.ref xi)) (Aversion : Fld Z h0 r1 "com/example/nikki/nikki/eventsourcing/Aggregate" "version" "J" (.long xv)) (Aroot : Fld Z h0 r1 "com/example/nikki/nikki/eventsourcing/Aggregate" "root" "Ljava/lang/Object;" (.ref xr)) :
    own_C l (⟨"com/example/nikki/nikki/eventsourcing/HeldAggregate", "<init>", "(Lcom/example/nikki/nikki/eventsourcing/Aggregate;J)V"⟩ : MethodName) prog_32_method_1_code 4 none ({ frames := 1, cells := 0, slots := 0, locals := 20 } : Room) Z #[(.ref o0), (.ref r1), (.long q2)] h0 (fun v h L => v = none ∧ Fr n0 L ∧ Keep h0 h [o0] ∧ Exa Z h o0 "com/example/nikki/nikki/eventsourcing/HeldAggregate" ∧ Fld Z h o0 "com/example/nikki/nikki/eventsourcing/HeldAggregate" "identifier" "Ljava/lang/String;" (.ref xi) ∧ Fld Z h o0 "com/example/nikki/nikki/eventsourcing/HeldAggregate" "version" "J" (.long xv) ∧ Fld Z h o0 "com/example/nikki/nikki/eventsourcing/HeldAggregate" "root" "Ljava/lang/Object;" (.ref xr)) := by
  refine own_enter pn_11 ?_
  intro p e s m below meth c s₁ X0 hx hby hml hown hnm hret hlk hZ e0
  replace hown : s.vm.findClass "com/example/nikki/nikki/eventsourcing/HeldAggregate" = some m.cls := hown
  have ef : entryFrame m #[(.ref o0), (.ref r1), (.long q2)] 4 = mkF m 0 #[.val (.ref o0), .val (.ref r1), .val (.long q2), .second] [] := by first | rfl | (simp [entryFrame, mkF, argsToLocals, Value.category, maxLocals]; done)
  refine own_cast ef ?_
  show own_Ends _ _ _ _ _ _ _ s₁ (mkF m 0 #[.val (.ref o0), .val (.ref r1), .val (.long q2), .second] [])
  have N0 := Fr.nil n0
  have K0 : Keep h0 h0 [o0] := Keep.refl _ _
  refine own_go (fun _ k => XS.aloadN X0.here hx rfl (hb hby d11_0) rfl rfl k) ?_
  show own_Ends _ _ _ _ _ _ _ s₁ (mkF m 1 #[.val (.ref o0), .val (.ref r1), .val (.long q2), .second] [(.ref o0)])
  obtain ⟨T33, X33, e33, st33⟩ := initO X0 hx hZ hown (hw _ (List.mem_of_getElem? (i := 69) rfl)) (hw _ (List.mem_of_getElem? (i := 12) rfl)) (hw _ (List.mem_of_getElem? (i := 13) rfl)) e0 (g := (mkF m 1 #[.val (.ref o0), .val (.ref r1), .val (.long q2), .second] [(.ref o0)])) rfl (by rw [hml]; rfl) rfl (hb hby d11_1) (by decide) (W := 0) (by show 2 * 0 + _ ≤ _; exact Nat.le_of_eq rfl) (by decide)
  refine own_go st33 ?_
  show own_Ends _ _ _ _ _ _ _ T33 (mkF m 4 #[.val (.ref o0), .val (.ref r1), .val (.long q2), .second] [])
  refine own_go (fun _ k => XS.aloadN X33.here hx rfl (hb hby d11_4) rfl rfl k) ?_
  show own_Ends _ _ _ _ _ _ _ T33 (mkF m 5 #[.val (.ref o0), .val (.ref r1), .val (.long q2), .second] [(.ref o0)])
  refine own_go (fun _ k => X33.ldc2Long hx hown (mvT hZ (hw _ (List.mem_of_getElem? (i := 70) rfl))) (g := (mkF m 5 #[.val (.ref o0), .val (.ref r1), .val (.long q2), .second] [(.ref o0)])) rfl (hb hby d11_5) _ k) ?_
  show own_Ends _ _ _ _ _ _ _ T33 (mkF m 8 #[.val (.ref o0), .val (.ref r1), .val (.long q2), .second] [(.long (9223372036854775807 : Int64)), (.ref o0)])
  obtain ⟨T34, h34, X34, e34, W34, st34⟩ := putF X33 hx hZ hown (host := "") (Or.inl (hw _ (List.mem_of_getElem? (i := 71) rfl))) Via.refl e33 GdroppedAt E (Or.inl (hw _ (List.mem_of_getElem? (i := 72) rfl))) (hw _ (List.mem_of_getElem? (i := 64) rfl)) (ty := .long) (by decide) rfl rfl (g := (mkF m 8 #[.val (.ref o0), .val (.ref r1), .val (.long q2), .second] [(.long (9223372036854775807 : Int64)), (.ref o0)])) rfl rfl (hb hby d11_8)
  have N34 := Fr.snoc X34 N0 go
  have K_34 := K0.wr W34 (Or.inl (List.mem_of_getElem? (i := 0) rfl))
  have E_o0_34 := E.wr W34
  have E_r1_34 := EA.wr W34
  have F_o0_droppedAt_34 := GdroppedAt.same W34
  have F_o0_identifier_34 := Gidentifier.other W34 (Or.inr (slot_ne (Or.inr (hw _ (List.mem_of_getElem? (i := 79) rfl))) (Or.inl (hw _ (List.mem_of_getElem? (i := 72) rfl))) (by decide) (t := (.object "java/lang/String")) (t' := .long) (by decide) (by decide)))
  have F_o0_root_34 := Groot.other W34 (Or.inr (slot_ne (Or.inr (hw _ (List.mem_of_getElem? (i := 86) rfl))) (Or.inl (hw _ (List.mem_of_getElem? (i := 72) rfl))) (by decide) (t := (.object "java/lang/Object")) (t' := .long) (by decide) (by decide)))
  have F_o0_version_34 := Gversion.other W34 (Or.inr (slot_ne (Or.inl (hw _ (List.mem_of_getElem? (i := 93) rfl))) (Or.inl (hw _ (List.mem_of_getElem? (i := 72) rfl))) (by decide) (t := .long) (t' := .long) (by decide) (by decide)))
  have F_o0_snapshotSequenceNumber_34 := GsnapshotSequenceNumber.other W34 (Or.inr (slot_ne (Or.inl (hw _ (List.mem_of_getElem? (i := 95) rfl))) (Or.inl (hw _ (List.mem_of_getElem? (i := 72) rfl))) (by decide) (t := .long) (t' := .long) (by decide) (by decide)))
  have F_r1_identifier_34 := Aidentifier.other W34 (Or.inl ne)
  have F_r1_version_34 := Aversion.other W34 (Or.inl ne)
  have F_r1_root_34 := Aroot.other W34 (Or.inl ne)
  refine own_go st34 ?_
  show own_Ends _ _ _ _ _ _ _ T34 (mkF m 11 #[.val (.ref o0), .val (.ref r1), .val (.long q2), .second] [])
  refine own_go (fun _ k => XS.aloadN X34.here hx rfl (hb hby d11_11) rfl rfl k) ?_
  show own_Ends _ _ _ _ _ _ _ T34 (mkF m 12 #[.val (.ref o0), .val (.ref r1), .val (.long q2), .second] [(.ref o0)])
  refine own_go (fun _ k => XS.aloadN X34.here hx rfl (hb hby d11_12) rfl rfl k) ?_
  show own_Ends _ _ _ _ _ _ _ T34 (mkF m 13 #[.val (.ref o0), .val (.ref r1), .val (.long q2), .second] [(.ref r1), (.ref o0)])
  obtain ⟨v35, T35, L35, X35, hQ35, st35⟩ := own_callV X34 hx hZ hown (hw _ (List.mem_of_getElem? (i := 73) rfl)) (hw _ (List.mem_of_getElem? (i := 74) rfl)) (hw _ (List.mem_of_getElem? (i := 76) rfl)) (hw _ (List.mem_of_getElem? (i := 75) rfl)) (hw _ (List.mem_of_getElem? (i := 39) rfl)) (hw _ (List.mem_of_getElem? (i := 77) rfl)) (rm12 l Z a0 hw r1 h34 xi F_r1_identifier_34) e34 (g := (mkF m 13 #[.val (.ref o0), .val (.ref r1), .val (.long q2), .second] [(.ref r1), (.ref o0)])) rfl (by rw [hml]; rfl) (a := r1) (argsL := []) (rest := [(.ref o0)]) (E_r1_34) (lenOf pd_7 rfl) rfl rfl (W := 1) (by show 2 * 0 + _ ≤ _; exact Nat.le_of_eq rfl) (hb hby d11_13) (by decide) (by decide) (by decide) (by decide) (by decide)
  obtain ⟨rfl, rfl, e35⟩ := hQ35
  refine own_go st35 ?_
  have N35 := Fr.app N34 (Fr.nil _)
  show own_Ends _ _ _ _ _ _ _ T35 (mkF m 16 #[.val (.ref o0), .val (.ref r1), .val (.long q2), .second] [(.ref xi), (.ref o0)])
  obtain ⟨T36, h36, X36, e36, W36, st36⟩ := putF X35 hx hZ hown (host := "") (Or.inl (hw _ (List.mem_of_getElem? (i := 78) rfl))) Via.refl e35 F_o0_identifier_34 E_o0_34 (Or.inr ⟨(hw _ (List.mem_of_getElem? (i := 79) rfl)), rfl, hnm⟩) (hw _ (List.mem_of_getElem? (i := 64) rfl)) (ty := (.object "java/lang/String")) (by decide) rfl rfl (g := (mkF m 16 #[.val (.ref o0), .val (.ref r1), .val (.long q2), .second] [(.ref xi), (.ref o0)])) rfl rfl (hb hby d11_16)
  have N36 := Fr.snoc X36 N35 go
  have K_36 := K_34.wr W36 (Or.inl (List.mem_of_getElem? (i := 0) rfl))
  have E_o0_36 := E_o0_34.wr W36
  have E_r1_36 := E_r1_34.wr W36
  have F_o0_droppedAt_36 := F_o0_droppedAt_34.other W36 (Or.inr (slot_ne (Or.inl (hw _ (List.mem_of_getElem? (i := 72) rfl))) (Or.inr (hw _ (List.mem_of_getElem? (i := 79) rfl))) (by decide) (t := .long) (t' := (.object "java/lang/String")) (by decide) (by decide)))
  have F_o0_identifier_36 := F_o0_identifier_34.same W36
  have F_o0_root_36 := F_o0_root_34.other W36 (Or.inr (slot_ne (Or.inr (hw _ (List.mem_of_getElem? (i := 86) rfl))) (Or.inr (hw _ (List.mem_of_getElem? (i := 79) rfl))) (by decide) (t := (.object "java/lang/Object")) (t' := (.object "java/lang/String")) (by decide) (by decide)))
  have F_o0_version_36 := F_o0_version_34.other W36 (Or.inr (slot_ne (Or.inl (hw _ (List.mem_of_getElem? (i := 93) rfl))) (Or.inr (hw _ (List.mem_of_getElem? (i := 79) rfl))) (by decide) (t := .long) (t' := (.object "java/lang/String")) (by decide) (by decide)))
  have F_o0_snapshotSequenceNumber_36 := F_o0_snapshotSequenceNumber_34.other W36 (Or.inr (slot_ne (Or.inl (hw _ (List.mem_of_getElem? (i := 95) rfl))) (Or.inr (hw _ (List.mem_of_getElem? (i := 79) rfl))) (by decide) (t := .long) (t' := (.object "java/lang/String")) (by decide) (by decide)))
  have F_r1_identifier_36 := F_r1_identifier_34.other W36 (Or.inl ne)
  have F_r1_version_36 := F_r1_version_34.other W36 (Or.inl ne)
  have F_r1_root_36 := F_r1_root_34.other W36 (Or.inl ne)
  refine own_go st36 ?_
  show own_Ends _ _ _ _ _ _ _ T36 (mkF m 19 #[.val (.ref o0), .val (.ref r1), .val (.long q2), .second] [])
  refine own_go (fun _ k => XS.aloadN X36.here hx rfl (hb hby d11_19) rfl rfl k) ?_
  show own_Ends _ _ _ _ _ _ _ T36 (mkF m 20 #[.val (.ref o0), .val (.ref r1), .val (.long q2), .second] [(.ref o0)])
  refine own_go (fun _ k => XS.aloadN X36.here hx rfl (hb hby d11_20) rfl rfl k) ?_
  show own_Ends _ _ _ _ _ _ _ T36 (mkF m 21 #[.val (.ref o0), .val (.ref r1), .val (.long q2), .second] [(.ref r1), (.ref o0)])
  obtain ⟨v37, T37, L37, X37, hQ37, st37⟩ := own_callV X36 hx hZ hown (hw _ (List.mem_of_getElem? (i := 80) rfl)) (hw _ (List.mem_of_getElem? (i := 81) rfl)) (hw _ (List.mem_of_getElem? (i := 83) rfl)) (hw _ (List.mem_of_getElem? (i := 82) rfl)) (hw _ (List.mem_of_getElem? (i := 39) rfl)) (hw _ (List.mem_of_getElem? (i := 84) rfl)) (rm13 l Z a0 hw r1 h36 xr F_r1_root_36) e36 (g := (mkF m 21 #[.val (.ref o0), .val (.ref r1), .val (.long q2), .second] [(.ref r1), (.ref o0)])) rfl (by rw [hml]; rfl) (a := r1) (argsL := []) (rest := [(.ref o0)]) (E_r1_36) (lenOf pd_8 rfl) rfl rfl (W := 1) (by show 2 * 0 + _ ≤ _; exact Nat.le_of_eq rfl) (hb hby d11_21) (by decide) (by decide) (by decide) (by decide) (by decide)
  obtain ⟨rfl, rfl, e37⟩ := hQ37
  refine own_go st37 ?_
  have N37 := Fr.app N36 (Fr.nil _)
  show own_Ends _ _ _ _ _ _ _ T37 (mkF m 24 #[.val (.ref o0), .val (.ref r1), .val (.long q2), .second] [(.ref xr), (.ref o0)])
  obtain ⟨T38, h38, X38, e38, W38, st38⟩ := putF X37 hx hZ hown (host := "") (Or.inl (hw _ (List.mem_of_getElem? (i := 85) rfl))) Via.refl e37 F_o0_root_36 E_o0_36 (Or.inr ⟨(hw _ (List.mem_of_getElem? (i := 86) rfl)), rfl, hnm⟩) (hw _ (List.mem_of_getElem? (i := 64) rfl)) (ty := (.object "java/lang/Object")) (by decide) rfl rfl (g := (mkF m 24 #[.val (.ref o0), .val (.ref r1), .val (.long q2), .second] [(.ref xr), (.ref o0)])) rfl rfl (hb hby d11_24)
  have N38 := Fr.snoc X38 N37 go
  have K_38 := K_36.wr W38 (Or.inl (List.mem_of_getElem? (i := 0) rfl))
  have E_o0_38 := E_o0_36.wr W38
  have E_r1_38 := E_r1_36.wr W38
  have F_o0_droppedAt_38 := F_o0_droppedAt_36.other W38 (Or.inr (slot_ne (Or.inl (hw _ (List.mem_of_getElem? (i := 72) rfl))) (Or.inr (hw _ (List.mem_of_getElem? (i := 86) rfl))) (by decide) (t := .long) (t' := (.object "java/lang/Object")) (by decide) (by decide)))
  have F_o0_identifier_38 := F_o0_identifier_36.other W38 (Or.inr (slot_ne (Or.inr (hw _ (List.mem_of_getElem? (i := 79) rfl))) (Or.inr (hw _ (List.mem_of_getElem? (i := 86) rfl))) (by decide) (t := (.object "java/lang/String")) (t' := (.object "java/lang/Object")) (by decide) (by decide)))
  have F_o0_root_38 := F_o0_root_36.same W38
  have F_o0_version_38 := F_o0_version_36.other W38 (Or.inr (slot_ne (Or.inl (hw _ (List.mem_of_getElem? (i := 93) rfl))) (Or.inr (hw _ (List.mem_of_getElem? (i := 86) rfl))) (by decide) (t := .long) (t' := (.object "java/lang/Object")) (by decide) (by decide)))
  have F_o0_snapshotSequenceNumber_38 := F_o0_snapshotSequenceNumber_36.other W38 (Or.inr (slot_ne (Or.inl (hw _ (List.mem_of_getElem? (i := 95) rfl))) (Or.inr (hw _ (List.mem_of_getElem? (i := 86) rfl))) (by decide) (t := .long) (t' := (.object "java/lang/Object")) (by decide) (by decide)))
  have F_r1_identifier_38 := F_r1_identifier_36.other W38 (Or.inl ne)
  have F_r1_version_38 := F_r1_version_36.other W38 (Or.inl ne)
  have F_r1_root_38 := F_r1_root_36.other W38 (Or.inl ne)
  refine own_go st38 ?_
  show own_Ends _ _ _ _ _ _ _ T38 (mkF m 27 #[.val (.ref o0), .val (.ref r1), .val (.long q2), .second] [])
  refine own_go (fun _ k => XS.aloadN X38.here hx rfl (hb hby d11_27) rfl rfl k) ?_
  show own_Ends _ _ _ _ _ _ _ T38 (mkF m 28 #[.val (.ref o0), .val (.ref r1), .val (.long q2), .second] [(.ref o0)])
  refine own_go (fun _ k => XS.aloadN X38.here hx rfl (hb hby d11_28) rfl rfl k) ?_
  show own_Ends _ _ _ _ _ _ _ T38 (mkF m 29 #[.val (.ref o0), .val (.ref r1), .val (.long q2), .second] [(.ref r1), (.ref o0)])
  obtain ⟨v39, T39, L39, X39, hQ39, st39⟩ := own_callV X38 hx hZ hown (hw _ (List.mem_of_getElem? (i := 87) rfl)) (hw _ (List.mem_of_getElem? (i := 88) rfl)) (hw _ (List.mem_of_getElem? (i := 90) rfl)) (hw _ (List.mem_of_getElem? (i := 89) rfl)) (hw _ (List.mem_of_getElem? (i := 39) rfl)) (hw _ (List.mem_of_getElem? (i := 91) rfl)) (rm14 l Z a0 hw r1 h38 xv F_r1_version_38) e38 (g := (mkF m 29 #[.val (.ref o0), .val (.ref r1), .val (.long q2), .second] [(.ref r1), (.ref o0)])) rfl (by rw [hml]; rfl) (a := r1) (argsL := []) (rest := [(.ref o0)]) (E_r1_38) (lenOf pd_9 rfl) rfl rfl (W := 1) (by show 2 * 0 + _ ≤ _; exact Nat.le_of_eq rfl) (hb hby d11_29) (by decide) (by decide) (by decide) (by decide) (by decide)
  obtain ⟨rfl, rfl, e39⟩ := hQ39
  refine own_go st39 ?_
  have N39 := Fr.app N38 (Fr.nil _)
  show own_Ends _ _ _ _ _ _ _ T39 (mkF m 32 #[.val (.ref o0), .val (.ref r1), .val (.long q2), .second] [(.long xv), (.ref o0)])
  obtain ⟨T40, h40, X40, e40, W40, st40⟩ := putF X39 hx hZ hown (host := "") (Or.inl (hw _ (List.mem_of_getElem? (i := 92) rfl))) Via.refl e39 F_o0_version_38 E_o0_38 (Or.inl (hw _ (List.mem_of_getElem? (i := 93) rfl))) (hw _ (List.mem_of_getElem? (i := 64) rfl)) (ty := .long) (by decide) rfl rfl (g := (mkF m 32 #[.val (.ref o0), .val (.ref r1), .val (.long q2), .second] [(.long xv), (.ref o0)])) rfl rfl (hb hby d11_32)
  have N40 := Fr.snoc X40 N39 go
  have K_40 := K_38.wr W40 (Or.inl (List.mem_of_getElem? (i := 0) rfl))
  have E_o0_40 := E_o0_38.wr W40
  have E_r1_40 := E_r1_38.wr W40
  have F_o0_droppedAt_40 := F_o0_droppedAt_38.other W40 (Or.inr (slot_ne (Or.inl (hw _ (List.mem_of_getElem? (i := 72) rfl))) (Or.inl (hw _ (List.mem_of_getElem? (i := 93) rfl))) (by decide) (t := .long) (t' := .long) (by decide) (by decide)))
  have F_o0_identifier_40 := F_o0_identifier_38.other W40 (Or.inr (slot_ne (Or.inr (hw _ (List.mem_of_getElem? (i := 79) rfl))) (Or.inl (hw _ (List.mem_of_getElem? (i := 93) rfl))) (by decide) (t := (.object "java/lang/String")) (t' := .long) (by decide) (by decide)))
  have F_o0_root_40 := F_o0_root_38.other W40 (Or.inr (slot_ne (Or.inr (hw _ (List.mem_of_getElem? (i := 86) rfl))) (Or.inl (hw _ (List.mem_of_getElem? (i := 93) rfl))) (by decide) (t := (.object "java/lang/Object")) (t' := .long) (by decide) (by decide)))
  have F_o0_version_40 := F_o0_version_38.same W40
  have F_o0_snapshotSequenceNumber_40 := F_o0_snapshotSequenceNumber_38.other W40 (Or.inr (slot_ne (Or.inl (hw _ (List.mem_of_getElem? (i := 95) rfl))) (Or.inl (hw _ (List.mem_of_getElem? (i := 93) rfl))) (by decide) (t := .long) (t' := .long) (by decide) (by decide)))
  have F_r1_identifier_40 := F_r1_identifier_38.other W40 (Or.inl ne)
  have F_r1_version_40 := F_r1_version_38.other W40 (Or.inl ne)
  have F_r1_root_40 := F_r1_root_38.other W40 (Or.inl ne)
  refine own_go st40 ?_
  show own_Ends _ _ _ _ _ _ _ T40 (mkF m 35 #[.val (.ref o0), .val (.ref r1), .val (.long q2), .second] [])
  refine own_go (fun _ k => XS.aloadN X40.here hx rfl (hb hby d11_35) rfl rfl k) ?_
  show own_Ends _ _ _ _ _ _ _ T40 (mkF m 36 #[.val (.ref o0), .val (.ref r1), .val (.long q2), .second] [(.ref o0)])
  refine own_go (fun _ k => XS.lloadN X40.here hx rfl (hb hby d11_36) rfl k) ?_
  show own_Ends _ _ _ _ _ _ _ T40 (mkF m 37 #[.val (.ref o0), .val (.ref r1), .val (.long q2), .second] [(.long q2), (.ref o0)])
  obtain ⟨T41, h41, X41, e41, W41, st41⟩ := putF X40 hx hZ hown (host := "") (Or.inl (hw _ (List.mem_of_getElem? (i := 94) rfl))) Via.refl e40 F_o0_snapshotSequenceNumber_40 E_o0_40 (Or.inl (hw _ (List.mem_of_getElem? (i := 95) rfl))) (hw _ (List.mem_of_getElem? (i := 64) rfl)) (ty := .long) (by decide) rfl rfl (g := (mkF m 37 #[.val (.ref o0), .val (.ref r1), .val (.long q2), .second] [(.long q2), (.ref o0)])) rfl rfl (hb hby d11_37)
  have N41 := Fr.snoc X41 N40 go
  have K_41 := K_40.wr W41 (Or.inl (List.mem_of_getElem? (i := 0) rfl))
  have E_o0_41 := E_o0_40.wr W41
  have E_r1_41 := E_r1_40.wr W41
  have F_o0_droppedAt_41 := F_o0_droppedAt_40.other W41 (Or.inr (slot_ne (Or.inl (hw _ (List.mem_of_getElem? (i := 72) rfl))) (Or.inl (hw _ (List.mem_of_getElem? (i := 95) rfl))) (by decide) (t := .long) (t' := .long) (by decide) (by decide)))
  have F_o0_identifier_41 := F_o0_identifier_40.other W41 (Or.inr (slot_ne (Or.inr (hw _ (List.mem_of_getElem? (i := 79) rfl))) (Or.inl (hw _ (List.mem_of_getElem? (i := 95) rfl))) (by decide) (t := (.object "java/lang/String")) (t' := .long) (by decide) (by decide)))
  have F_o0_root_41 := F_o0_root_40.other W41 (Or.inr (slot_ne (Or.inr (hw _ (List.mem_of_getElem? (i := 86) rfl))) (Or.inl (hw _ (List.mem_of_getElem? (i := 95) rfl))) (by decide) (t := (.object "java/lang/Object")) (t' := .long) (by decide) (by decide)))
  have F_o0_version_41 := F_o0_version_40.other W41 (Or.inr (slot_ne (Or.inl (hw _ (List.mem_of_getElem? (i := 93) rfl))) (Or.inl (hw _ (List.mem_of_getElem? (i := 95) rfl))) (by decide) (t := .long) (t' := .long) (by decide) (by decide)))
  have F_o0_snapshotSequenceNumber_41 := F_o0_snapshotSequenceNumber_40.same W41
  have F_r1_identifier_41 := F_r1_identifier_40.other W41 (Or.inl ne)
  have F_r1_version_41 := F_r1_version_40.other W41 (Or.inl ne)
  have F_r1_root_41 := F_r1_root_40.other W41 (Or.inl ne)
  refine own_go st41 ?_
  show own_Ends _ _ _ _ _ _ _ T41 (mkF m 40 #[.val (.ref o0), .val (.ref r1), .val (.long q2), .second] [])
  exact own_retV X41 hx hlk hret (hb hby d11_40) (by decide) (by decide) (by rw [e41]; exact ⟨rfl, N41, K_41, E_o0_41, F_o0_identifier_41, F_o0_version_41, F_o0_root_41⟩)
set_option maxRecDepth 65536 in
set_option maxHeartbeats 40000000 in
theorem rm15 (l : Launch) (Z : State) (a0 : Array Value) (hw : ∀ d ∈ tables_1, d.before a0 Z = true) (o0 : Addr) (h0 : Heap) (n0 : Nat) (xi : Addr) (xv : Int64) (xr : Addr) (Z0 : n0 ≤ h0.size) (E : Exa Z h0 o0 "com/example/nikki/nikki/eventsourcing/HeldAggregate") (Gidentifier : Fld Z h0 o0 "com/example/nikki/nikki/eventsourcing/HeldAggregate" "identifier" "Ljava/lang/String;" (.ref xi)) (Gversion : Fld Z h0 o0 "com/example/nikki/nikki/eventsourcing/HeldAggregate" "version" "J" (.long xv)) (Groot : Fld Z h0 o0 "com/example/nikki/nikki/eventsourcing/HeldAggregate" "root" "Ljava/lang/Object;" (.ref xr)) :
    own_CS l (⟨"com/example/nikki/nikki/eventsourcing/HeldAggregate", "state", "()Lcom/example/nikki/nikki/eventsourcing/Aggregate;"⟩ : MethodName) prog_32_method_2_code 1 (some (.object "com/example/nikki/nikki/eventsourcing/Aggregate")) ({ frames := 3, cells := 5, slots := 67, locals := 48 } : Room) Z #[(.ref o0)] h0 (fun v h L => ∃ r : Addr, v = some (.ref r) ∧ Fr n0 L ∧ Keep h0 h [] ∧ h0.size ≤ r ∧ Exa Z h r "com/example/nikki/nikki/eventsourcing/Aggregate" ∧ Fld Z h r "com/example/nikki/nikki/eventsourcing/Aggregate" "identifier" "Ljava/lang/String;" (.ref xi) ∧ Fld Z h r "com/example/nikki/nikki/eventsourcing/Aggregate" "version" "J" (.long xv) ∧ Fld Z h r "com/example/nikki/nikki/eventsourcing/Aggregate" "root" "Ljava/lang/Object;" (.ref xr)) := by
  refine own_enterS pn_15 ?_
  intro p e s m below meth c s₁ X0 hx hby hml hown hnm hret hlk hZ e0 SI0
  replace hown : (s.setVm s.vm).vm.findClass "com/example/nikki/nikki/eventsourcing/HeldAggregate" = some m.cls := hown
  have ef : entryFrame m #[(.ref o0)] 1 = mkF m 0 #[.val (.ref o0)] [] := by first | rfl | (simp [entryFrame, mkF, argsToLocals, Value.category, maxLocals]; done)
  refine own_castS ef ?_
  have hk_0 : 0 ≤ h0.size := Nat.zero_le _
  show own_EndsS _ _ _ _ _ _ _ s₁ (mkF m 0 #[.val (.ref o0)] [])
  have N0 := Fr.nil n0
  have K0 : Keep h0 h0 [] := Keep.refl _ _
  obtain ⟨T42, h42, X42, e42, E42, A42, D42, -, st42⟩ := newO X0 hx hZ hown (hw _ (List.mem_of_getElem? (i := 101) rfl)) (hw _ (List.mem_of_getElem? (i := 38) rfl)) (hw _ (List.mem_of_getElem? (i := 39) rfl)) e0 (g := (mkF m 0 #[.val (.ref o0)] [])) rfl (hb hby d15_0) (by decide) (by decide)
  obtain ⟨b, gq42⟩ : ∃ z, z = h0.size := ⟨_, rfl⟩
  rw [← gq42] at A42 D42 st42
  have ne_o0_b : o0 ≠ b := Nat.ne_of_lt (Nat.lt_of_lt_of_le E.lt (Nat.le_of_eq gq42.symm))
  have sz_b : h0.size ≤ b := Nat.le_trans K0.1 (Nat.le_of_eq gq42.symm)
  have g_b : n0 ≤ b := Nat.le_trans Z0 sz_b
  have hk_42 := Nat.le_trans hk_0 E42.1
  have K_42 := K0.ext E42
  have E_o0_42 := E.ext E42
  have F_o0_identifier_42 := Gidentifier.ext E42
  have F_o0_version_42 := Gversion.ext E42
  have F_o0_root_42 := Groot.ext E42
  have F_identifier_b : Fld Z h42 b "com/example/nikki/nikki/eventsourcing/Aggregate" "identifier" "Ljava/lang/String;" .null := D42 (Or.inr (hw _ (List.mem_of_getElem? (i := 58) rfl))) (ty := (.object "java/lang/String")) (by decide)
  have F_version_b : Fld Z h42 b "com/example/nikki/nikki/eventsourcing/Aggregate" "version" "J" (.long (0 : Int64)) := D42 (Or.inr (hw _ (List.mem_of_getElem? (i := 60) rfl))) (ty := .long) (by decide)
  have F_root_b : Fld Z h42 b "com/example/nikki/nikki/eventsourcing/Aggregate" "root" "Ljava/lang/Object;" .null := D42 (Or.inr (hw _ (List.mem_of_getElem? (i := 62) rfl))) (ty := (.object "java/lang/Object")) (by decide)
  refine own_goS st42 ?_
  show own_EndsS _ _ _ _ _ _ _ T42 (mkF m 3 #[.val (.ref o0)] [(.ref b)])
  refine own_goS (fun _ k => XS.dup X42.here hx rfl (hb hby d15_3) rfl rfl k) ?_
  show own_EndsS _ _ _ _ _ _ _ T42 (mkF m 4 #[.val (.ref o0)] [(.ref b), (.ref b)])
  refine own_goS (fun _ k => XS.aloadN X42.here hx rfl (hb hby d15_4) rfl rfl k) ?_
  show own_EndsS _ _ _ _ _ _ _ T42 (mkF m 5 #[.val (.ref o0)] [(.ref o0), (.ref b), (.ref b)])
  obtain ⟨T43, X43, e43, st43⟩ := getF X42 hx hZ hown (host := "") (Or.inl (hw _ (List.mem_of_getElem? (i := 78) rfl))) Via.refl e42 F_o0_identifier_42 (g := (mkF m 5 #[.val (.ref o0)] [(.ref o0), (.ref b), (.ref b)])) rfl rfl (hb hby d15_5)
  refine own_goS st43 ?_
  show own_EndsS _ _ _ _ _ _ _ T43 (mkF m 8 #[.val (.ref o0)] [(.ref xi), (.ref b), (.ref b)])
  refine own_goS (fun _ k => XS.aloadN X43.here hx rfl (hb hby d15_8) rfl rfl k) ?_
  show own_EndsS _ _ _ _ _ _ _ T43 (mkF m 9 #[.val (.ref o0)] [(.ref o0), (.ref xi), (.ref b), (.ref b)])
  obtain ⟨T44, X44, e44, st44⟩ := getF X43 hx hZ hown (host := "") (Or.inl (hw _ (List.mem_of_getElem? (i := 92) rfl))) Via.refl e43 F_o0_version_42 (g := (mkF m 9 #[.val (.ref o0)] [(.ref o0), (.ref xi), (.ref b), (.ref b)])) rfl rfl (hb hby d15_9)
  refine own_goS st44 ?_
  show own_EndsS _ _ _ _ _ _ _ T44 (mkF m 12 #[.val (.ref o0)] [(.long xv), (.ref xi), (.ref b), (.ref b)])
  refine own_goS (fun _ k => XS.aloadN X44.here hx rfl (hb hby d15_12) rfl rfl k) ?_
  show own_EndsS _ _ _ _ _ _ _ T44 (mkF m 13 #[.val (.ref o0)] [(.ref o0), (.long xv), (.ref xi), (.ref b), (.ref b)])
  obtain ⟨T45, X45, e45, st45⟩ := getF X44 hx hZ hown (host := "") (Or.inl (hw _ (List.mem_of_getElem? (i := 85) rfl))) Via.refl e44 F_o0_root_42 (g := (mkF m 13 #[.val (.ref o0)] [(.ref o0), (.long xv), (.ref xi), (.ref b), (.ref b)])) rfl rfl (hb hby d15_13)
  refine own_goS st45 ?_
  show own_EndsS _ _ _ _ _ _ _ T45 (mkF m 16 #[.val (.ref o0)] [(.ref xr), (.long xv), (.ref xi), (.ref b), (.ref b)])
  obtain ⟨v46, T46, L46, X46, hQ46, SI46, hZ46, hown46, st46⟩ := own_callSI X45 hx hZ SI0 (by rw [e45]; exact hk_42) hown rfl (hw _ (List.mem_of_getElem? (i := 102) rfl)) (hw _ (List.mem_of_getElem? (i := 41) rfl)) (hw _ (List.mem_of_getElem? (i := 39) rfl)) (hw _ (List.mem_of_getElem? (i := 42) rfl)) (rm8 l Z a0 hw b xi xv xr h42 n0 g_b A42 F_identifier_b F_version_b F_root_b) e45 (g := (mkF m 16 #[.val (.ref o0)] [(.ref xr), (.long xv), (.ref xi), (.ref b), (.ref b)])) rfl (by rw [hml]; rfl) (a := b) (argsL := [(.ref xi), (.long xv), (.ref xr)]) (rest := [(.ref b)]) (lenOf pd_10 rfl) rfl rfl (W := 1) (by show 2 * 0 + _ ≤ _; exact Nat.le_of_eq rfl) (hb hby d15_16) (by decide) (by decide) (by decide) (by decide) (by decide)
  obtain ⟨rfl, N46q, K46, E46, Fi46, Fv46, Fr46⟩ := hQ46
  refine own_goS st46 ?_
  have N46 := Fr.app N0 N46q
  have K_46 := K_42.trans K46 (allS (Or.inr sz_b) all0)
  have E_o0_46 := E_o0_42.keep K46
  have F_o0_identifier_46 := F_o0_identifier_42.keep K46 (ninS ne_o0_b nin0)
  have F_o0_version_46 := F_o0_version_42.keep K46 (ninS ne_o0_b nin0)
  have F_o0_root_46 := F_o0_root_42.keep K46 (ninS ne_o0_b nin0)
  have E_b_46 := A42.keep K46
  show own_EndsS _ _ _ _ _ _ _ T46 (mkF m 19 #[.val (.ref o0)] [(.ref b)])
  exact own_retS X46 hx hlk SI46 (Nat.le_refl _) hret rfl (Or.inr (Or.inr (Or.inr (Or.inr ⟨rfl, rfl, rfl⟩)))) (hb hby d15_19) (by decide) (by decide) ⟨b, rfl, N46, K_46, sz_b, E46, Fi46, Fv46, Fr46⟩
def own_c8 (x : Int32) : Int32 := nar .char ((x &&& (255 : Int32)).toUInt32.toUInt16.toUInt32.toInt32)
def own_ch2 (x y : Int32) (j : Nat) : Int32 := if j = 1 then own_c8 y else own_c8 x
theorem own_st2 (x y : Int32) (j : Nat) (hj : j < 2) : (if j = 1 then Value.int (nar .char ((y &&& (255 : Int32)).toUInt32.toUInt16.toUInt32.toInt32)) else if j = 0 then Value.int (nar .char ((x &&& (255 : Int32)).toUInt32.toUInt16.toUInt32.toInt32)) else Value.int (0 : Int32)) = .int (own_ch2 x y j) := by
  unfold own_ch2 own_c8
  by_cases q : j = 1
  · rw [if_pos q, if_pos q]
  · have r : j = 0 := by omega
    rw [if_neg q, if_neg q, if_pos r]
theorem own_c255 (x : Int32) : ¬ (255 : Int32) < own_c8 x := by
  have e : own_c8 x = x &&& 255 := by
    unfold own_c8
    rw [i2c_mask]
    exact i2c_mask x
  rw [e, Int32.lt_iff_toInt_lt]
  have := (c_and x 255 (by decide)).2
  omega
theorem own_ch255 (x y : Int32) (j : Nat) : ¬ (255 : Int32) < own_ch2 x y j := by
  unfold own_ch2
  split
  · exact own_c255 y
  · exact own_c255 x
set_option maxRecDepth 65536 in
set_option maxHeartbeats 40000000 in
theorem rm0 (l : Launch) (Z : State) (a0 : Array Value) (hw : ∀ d ∈ tables_1, d.before a0 Z = true) (p0 : Int32) (p1 : Int32) (q2 : Int64) (q3 : Int64) (q4 : Int64) (p5 : Int32) (h0 : Heap) (cs : Int32) (ca : Addr) (kc : ClassId) (fc : Nat → Value) (Sc : Sta Z h0 "java/lang/String" "COMPACT_STRINGS" "Z" (.int cs)) (hcs : ¬ cs = 0) (Sh : Sta Z h0 "java/lang/Integer$IntegerCache" "high" "I" (.int (127 : Int32))) (Sa : Sta Z h0 "java/lang/Integer$IntegerCache" "cache" "[Ljava/lang/Integer;" (.ref ca)) (Ac : own_Ar Z h0 ca kc (.object "java/lang/Integer") 256 fc) (hfc : ∀ i, i < 256 → ∃ b, fc i = .ref b) :
    own_CS l x code maxLocals ret room_1 Z #[(.int p0), (.int p1), (.long q2), (.long q3), (.long q4), (.int p5)] h0 (fun v h L => v = some (.int 1) ∧ Fr h0.size L) := by
  refine own_enterS pn_0 ?_
  intro p e s m below meth c s₁ X0 hx hby hml hown hnm hret hlk hZ e0 SI0
  have hml : c.maxLocals = 20 := hml
  replace hown : (s.setVm s.vm).vm.findClass "com/example/nikki/nikki/eventsourcing/HeldAggregateStatePinLaw" = some m.cls := hown
  have ef : entryFrame m #[(.int p0), (.int p1), (.long q2), (.long q3), (.long q4), (.int p5)] maxLocals = mkF m 0 #[.val (.int p0), .val (.int p1), .val (.long q2), .second, .val (.long q3), .second, .val (.long q4), .second, .val (.int p5), .unset, .unset, .unset, .unset, .unset, .unset, .unset, .unset, .unset, .unset, .unset] [] := by first | (simp [entryFrame, mkF, argsToLocals, Value.category, maxLocals]; done) | rfl
  refine own_castS ef ?_
  have hk_0 : 0 ≤ h0.size := Nat.zero_le _
  show own_EndsS _ _ _ _ _ _ _ s₁ (mkF m 0 #[.val (.int p0), .val (.int p1), .val (.long q2), .second, .val (.long q3), .second, .val (.long q4), .second, .val (.int p5), .unset, .unset, .unset, .unset, .unset, .unset, .unset, .unset, .unset, .unset, .unset] [])
  have N0 := Fr.nil h0.size
  have K0 : Keep h0 h0 [] := Keep.refl _ _
  refine own_goS (fun _ k => XS.iconst X0.here hx rfl (hb hby at_0) k) ?_
  show own_EndsS _ _ _ _ _ _ _ s₁ (mkF m 1 #[.val (.int p0), .val (.int p1), .val (.long q2), .second, .val (.long q3), .second, .val (.long q4), .second, .val (.int p5), .unset, .unset, .unset, .unset, .unset, .unset, .unset, .unset, .unset, .unset, .unset] [(.int (2 : Int32))])
  obtain ⟨T47, h47, k47, X47, e47, E47, A47, st47⟩ := own_newP X0 hx hZ (aty := .char) (hw _ (List.mem_of_getElem? (i := 0) rfl)) e0 (g := (mkF m 1 #[.val (.int p0), .val (.int p1), .val (.long q2), .second, .val (.long q3), .second, .val (.long q4), .second, .val (.int p5), .unset, .unset, .unset, .unset, .unset, .unset, .unset, .unset, .unset, .unset, .unset] [(.int (2 : Int32))])) rfl (hb hby at_1) rfl (by decide) (n := 2) (by decide) (cap := 2) (by decide) (by decide) (by decide) (by decide)
  obtain ⟨cb, gq47⟩ : ∃ z, z = h0.size := ⟨_, rfl⟩
  rw [← gq47] at A47 st47
  have ne_ca_cb : ca ≠ cb := Nat.ne_of_lt (Nat.lt_of_lt_of_le Ac.lt (Nat.le_of_eq gq47.symm))
  have sz_cb : h0.size ≤ cb := Nat.le_trans K0.1 (Nat.le_of_eq gq47.symm)
  have g_cb : h0.size ≤ cb := Nat.le_trans (Nat.le_refl _) sz_cb
  have hk_47 := Nat.le_trans hk_0 E47.1
  have K_47 := K0.ext E47
  have S_java_lang_String_COMPACT_STRINGS_47 := Sc.ext E47
  have S_java_lang_Integer_IntegerCache_high_47 := Sh.ext E47
  have S_java_lang_Integer_IntegerCache_cache_47 := Sa.ext E47
  have V_ca_47 := Ac.ext E47
  have V_cb : own_Ar Z h47 cb k47 .char 2 (fun _ => (.int (0 : Int32))) := A47
  refine own_goS st47 ?_
  show own_EndsS _ _ _ _ _ _ _ T47 (mkF m 3 #[.val (.int p0), .val (.int p1), .val (.long q2), .second, .val (.long q3), .second, .val (.long q4), .second, .val (.int p5), .unset, .unset, .unset, .unset, .unset, .unset, .unset, .unset, .unset, .unset, .unset] [(.ref cb)])
  refine own_goS (fun _ k => XS.astore X47.here hx rfl (hb hby at_3) rfl rfl (l' := #[.val (.int p0), .val (.int p1), .val (.long q2), .second, .val (.long q3), .second, .val (.long q4), .second, .val (.int p5), .val (.ref cb), .unset, .unset, .unset, .unset, .unset, .unset, .unset, .unset, .unset, .unset]) rfl k) ?_
  show own_EndsS _ _ _ _ _ _ _ T47 (mkF m 5 #[.val (.int p0), .val (.int p1), .val (.long q2), .second, .val (.long q3), .second, .val (.long q4), .second, .val (.int p5), .val (.ref cb), .unset, .unset, .unset, .unset, .unset, .unset, .unset, .unset, .unset, .unset] [])
  refine own_goS (fun _ k => XS.aload X47.here hx rfl (hb hby at_5) rfl rfl k) ?_
  show own_EndsS _ _ _ _ _ _ _ T47 (mkF m 7 #[.val (.int p0), .val (.int p1), .val (.long q2), .second, .val (.long q3), .second, .val (.long q4), .second, .val (.int p5), .val (.ref cb), .unset, .unset, .unset, .unset, .unset, .unset, .unset, .unset, .unset, .unset] [(.ref cb)])
  refine own_goS (fun _ k => XS.iconst X47.here hx rfl (hb hby at_7) k) ?_
  show own_EndsS _ _ _ _ _ _ _ T47 (mkF m 8 #[.val (.int p0), .val (.int p1), .val (.long q2), .second, .val (.long q3), .second, .val (.long q4), .second, .val (.int p5), .val (.ref cb), .unset, .unset, .unset, .unset, .unset, .unset, .unset, .unset, .unset, .unset] [(.int (0 : Int32)), (.ref cb)])
  refine own_goS (fun _ k => XS.iloadN X47.here hx rfl (hb hby at_8) rfl k) ?_
  show own_EndsS _ _ _ _ _ _ _ T47 (mkF m 9 #[.val (.int p0), .val (.int p1), .val (.long q2), .second, .val (.long q3), .second, .val (.long q4), .second, .val (.int p5), .val (.ref cb), .unset, .unset, .unset, .unset, .unset, .unset, .unset, .unset, .unset, .unset] [(.int p0), (.int (0 : Int32)), (.ref cb)])
  refine own_goS (fun _ k => XS.sipush X47.here hx rfl (hb hby at_9) k) ?_
  show own_EndsS _ _ _ _ _ _ _ T47 (mkF m 12 #[.val (.int p0), .val (.int p1), .val (.long q2), .second, .val (.long q3), .second, .val (.long q4), .second, .val (.int p5), .val (.ref cb), .unset, .unset, .unset, .unset, .unset, .unset, .unset, .unset, .unset, .unset] [(.int (255 : Int32)), (.int p0), (.int (0 : Int32)), (.ref cb)])
  refine own_goS (fun _ k => XS.iand X47.here hx rfl (hb hby at_12) rfl k) ?_
  show own_EndsS _ _ _ _ _ _ _ T47 (mkF m 13 #[.val (.int p0), .val (.int p1), .val (.long q2), .second, .val (.long q3), .second, .val (.long q4), .second, .val (.int p5), .val (.ref cb), .unset, .unset, .unset, .unset, .unset, .unset, .unset, .unset, .unset, .unset] [(.int (p0 &&& (255 : Int32))), (.int (0 : Int32)), (.ref cb)])
  refine own_goS (fun _ k => XS.i2c X47.here hx rfl (hb hby at_13) rfl k) ?_
  show own_EndsS _ _ _ _ _ _ _ T47 (mkF m 14 #[.val (.int p0), .val (.int p1), .val (.long q2), .second, .val (.long q3), .second, .val (.long q4), .second, .val (.int p5), .val (.ref cb), .unset, .unset, .unset, .unset, .unset, .unset, .unset, .unset, .unset, .unset] [(.int ((p0 &&& (255 : Int32)).toUInt32.toUInt16.toUInt32.toInt32)), (.int (0 : Int32)), (.ref cb)])
  obtain ⟨T48, h48, X48, e48, W48, V48, st48⟩ := own_stC X47 hx hZ e47 V_cb (i := 0) (by decide) (by decide) (by decide) (g := (mkF m 14 #[.val (.int p0), .val (.int p1), .val (.long q2), .second, .val (.long q3), .second, .val (.long q4), .second, .val (.int p5), .val (.ref cb), .unset, .unset, .unset, .unset, .unset, .unset, .unset, .unset, .unset, .unset] [(.int ((p0 &&& (255 : Int32)).toUInt32.toUInt16.toUInt32.toInt32)), (.int (0 : Int32)), (.ref cb)])) rfl rfl (hb hby at_14)
  have N48 := Fr.snoc X48 N0 g_cb
  have hk_48 := Nat.le_trans hk_47 (Nat.le_of_eq W48.size.symm)
  have K_48 := K_47.wr W48 (Or.inr sz_cb)
  have S_java_lang_String_COMPACT_STRINGS_48 := S_java_lang_String_COMPACT_STRINGS_47.wr W48
  have S_java_lang_Integer_IntegerCache_high_48 := S_java_lang_Integer_IntegerCache_high_47.wr W48
  have S_java_lang_Integer_IntegerCache_cache_48 := S_java_lang_Integer_IntegerCache_cache_47.wr W48
  have V_ca_48 := V_ca_47.other W48 ne_ca_cb
  refine own_goS st48 ?_
  show own_EndsS _ _ _ _ _ _ _ T48 (mkF m 15 #[.val (.int p0), .val (.int p1), .val (.long q2), .second, .val (.long q3), .second, .val (.long q4), .second, .val (.int p5), .val (.ref cb), .unset, .unset, .unset, .unset, .unset, .unset, .unset, .unset, .unset, .unset] [])
  refine own_goS (fun _ k => XS.aload X48.here hx rfl (hb hby at_15) rfl rfl k) ?_
  show own_EndsS _ _ _ _ _ _ _ T48 (mkF m 17 #[.val (.int p0), .val (.int p1), .val (.long q2), .second, .val (.long q3), .second, .val (.long q4), .second, .val (.int p5), .val (.ref cb), .unset, .unset, .unset, .unset, .unset, .unset, .unset, .unset, .unset, .unset] [(.ref cb)])
  refine own_goS (fun _ k => XS.iconst X48.here hx rfl (hb hby at_17) k) ?_
  show own_EndsS _ _ _ _ _ _ _ T48 (mkF m 18 #[.val (.int p0), .val (.int p1), .val (.long q2), .second, .val (.long q3), .second, .val (.long q4), .second, .val (.int p5), .val (.ref cb), .unset, .unset, .unset, .unset, .unset, .unset, .unset, .unset, .unset, .unset] [(.int (1 : Int32)), (.ref cb)])
  refine own_goS (fun _ k => XS.iloadN X48.here hx rfl (hb hby at_18) rfl k) ?_
  show own_EndsS _ _ _ _ _ _ _ T48 (mkF m 19 #[.val (.int p0), .val (.int p1), .val (.long q2), .second, .val (.long q3), .second, .val (.long q4), .second, .val (.int p5), .val (.ref cb), .unset, .unset, .unset, .unset, .unset, .unset, .unset, .unset, .unset, .unset] [(.int p0), (.int (1 : Int32)), (.ref cb)])
  refine own_goS (fun _ k => XS.bipush X48.here hx rfl (hb hby at_19) k) ?_
  show own_EndsS _ _ _ _ _ _ _ T48 (mkF m 21 #[.val (.int p0), .val (.int p1), .val (.long q2), .second, .val (.long q3), .second, .val (.long q4), .second, .val (.int p5), .val (.ref cb), .unset, .unset, .unset, .unset, .unset, .unset, .unset, .unset, .unset, .unset] [(.int (8 : Int32)), (.int p0), (.int (1 : Int32)), (.ref cb)])
  refine own_goS (fun _ k => XS.iushr X48.here hx rfl (hb hby at_21) rfl k) ?_
  show own_EndsS _ _ _ _ _ _ _ T48 (mkF m 22 #[.val (.int p0), .val (.int p1), .val (.long q2), .second, .val (.long q3), .second, .val (.long q4), .second, .val (.int p5), .val (.ref cb), .unset, .unset, .unset, .unset, .unset, .unset, .unset, .unset, .unset, .unset] [(.int ((p0.toUInt32 >>> ((8 : Int32) &&& 31).toUInt32).toInt32)), (.int (1 : Int32)), (.ref cb)])
  refine own_goS (fun _ k => XS.sipush X48.here hx rfl (hb hby at_22) k) ?_
  show own_EndsS _ _ _ _ _ _ _ T48 (mkF m 25 #[.val (.int p0), .val (.int p1), .val (.long q2), .second, .val (.long q3), .second, .val (.long q4), .second, .val (.int p5), .val (.ref cb), .unset, .unset, .unset, .unset, .unset, .unset, .unset, .unset, .unset, .unset] [(.int (255 : Int32)), (.int ((p0.toUInt32 >>> ((8 : Int32) &&& 31).toUInt32).toInt32)), (.int (1 : Int32)), (.ref cb)])
  refine own_goS (fun _ k => XS.iand X48.here hx rfl (hb hby at_25) rfl k) ?_
  show own_EndsS _ _ _ _ _ _ _ T48 (mkF m 26 #[.val (.int p0), .val (.int p1), .val (.long q2), .second, .val (.long q3), .second, .val (.long q4), .second, .val (.int p5), .val (.ref cb), .unset, .unset, .unset, .unset, .unset, .unset, .unset, .unset, .unset, .unset] [(.int (((p0.toUInt32 >>> ((8 : Int32) &&& 31).toUInt32).toInt32) &&& (255 : Int32))), (.int (1 : Int32)), (.ref cb)])
  refine own_goS (fun _ k => XS.i2c X48.here hx rfl (hb hby at_26) rfl k) ?_
  show own_EndsS _ _ _ _ _ _ _ T48 (mkF m 27 #[.val (.int p0), .val (.int p1), .val (.long q2), .second, .val (.long q3), .second, .val (.long q4), .second, .val (.int p5), .val (.ref cb), .unset, .unset, .unset, .unset, .unset, .unset, .unset, .unset, .unset, .unset] [(.int ((((p0.toUInt32 >>> ((8 : Int32) &&& 31).toUInt32).toInt32) &&& (255 : Int32)).toUInt32.toUInt16.toUInt32.toInt32)), (.int (1 : Int32)), (.ref cb)])
  obtain ⟨T49, h49, X49, e49, W49, V49, st49⟩ := own_stC X48 hx hZ e48 V48 (i := 1) (by decide) (by decide) (by decide) (g := (mkF m 27 #[.val (.int p0), .val (.int p1), .val (.long q2), .second, .val (.long q3), .second, .val (.long q4), .second, .val (.int p5), .val (.ref cb), .unset, .unset, .unset, .unset, .unset, .unset, .unset, .unset, .unset, .unset] [(.int ((((p0.toUInt32 >>> ((8 : Int32) &&& 31).toUInt32).toInt32) &&& (255 : Int32)).toUInt32.toUInt16.toUInt32.toInt32)), (.int (1 : Int32)), (.ref cb)])) rfl rfl (hb hby at_27)
  have N49 := Fr.snoc X49 N48 g_cb
  have hk_49 := Nat.le_trans hk_48 (Nat.le_of_eq W49.size.symm)
  have K_49 := K_48.wr W49 (Or.inr sz_cb)
  have S_java_lang_String_COMPACT_STRINGS_49 := S_java_lang_String_COMPACT_STRINGS_48.wr W49
  have S_java_lang_Integer_IntegerCache_high_49 := S_java_lang_Integer_IntegerCache_high_48.wr W49
  have S_java_lang_Integer_IntegerCache_cache_49 := S_java_lang_Integer_IntegerCache_cache_48.wr W49
  have V_ca_49 := V_ca_48.other W49 ne_ca_cb
  have Vf49 : own_Ar Z h49 cb k47 .char 2 (fun j => .int (own_ch2 p0 ((p0.toUInt32 >>> ((8 : Int32) &&& 31).toUInt32).toInt32) j)) := V49.cong (fun j hj => own_st2 p0 ((p0.toUInt32 >>> ((8 : Int32) &&& 31).toUInt32).toInt32) j hj)
  refine own_goS st49 ?_
  show own_EndsS _ _ _ _ _ _ _ T49 (mkF m 28 #[.val (.int p0), .val (.int p1), .val (.long q2), .second, .val (.long q3), .second, .val (.long q4), .second, .val (.int p5), .val (.ref cb), .unset, .unset, .unset, .unset, .unset, .unset, .unset, .unset, .unset, .unset] [])
  obtain ⟨T50, h50, X50, e50, E50, A50, D50, -, st50⟩ := newO X49 hx hZ hown (hw _ (List.mem_of_getElem? (i := 1) rfl)) (hw _ (List.mem_of_getElem? (i := 2) rfl)) (hw _ (List.mem_of_getElem? (i := 3) rfl)) e49 (g := (mkF m 28 #[.val (.int p0), .val (.int p1), .val (.long q2), .second, .val (.long q3), .second, .val (.long q4), .second, .val (.int p5), .val (.ref cb), .unset, .unset, .unset, .unset, .unset, .unset, .unset, .unset, .unset, .unset] [])) rfl (hb hby at_28) (by decide) (by decide)
  obtain ⟨sid, gq50⟩ : ∃ z, z = h49.size := ⟨_, rfl⟩
  rw [← gq50] at A50 D50 st50
  have ne_ca_sid : ca ≠ sid := Nat.ne_of_lt (Nat.lt_of_lt_of_le V_ca_49.lt (Nat.le_of_eq gq50.symm))
  have ne_cb_sid : cb ≠ sid := Nat.ne_of_lt (Nat.lt_of_lt_of_le Vf49.lt (Nat.le_of_eq gq50.symm))
  have sz_sid : h0.size ≤ sid := Nat.le_trans K_49.1 (Nat.le_of_eq gq50.symm)
  have g_sid : h0.size ≤ sid := Nat.le_trans (Nat.le_refl _) sz_sid
  have hk_50 := Nat.le_trans hk_49 E50.1
  have K_50 := K_49.ext E50
  have S_java_lang_String_COMPACT_STRINGS_50 := S_java_lang_String_COMPACT_STRINGS_49.ext E50
  have S_java_lang_Integer_IntegerCache_high_50 := S_java_lang_Integer_IntegerCache_high_49.ext E50
  have S_java_lang_Integer_IntegerCache_cache_50 := S_java_lang_Integer_IntegerCache_cache_49.ext E50
  have V_ca_50 := V_ca_49.ext E50
  have V_cb_50 := Vf49.ext E50
  have F_coder_sid : Fld Z h50 sid "java/lang/String" "coder" "B" (.int (0 : Int32)) := D50 (Or.inr (hw _ (List.mem_of_getElem? (i := 27) rfl))) (ty := .byte) (by decide)
  have F_value_sid : Fld Z h50 sid "java/lang/String" "value" "[B" .null := D50 (Or.inr (hw _ (List.mem_of_getElem? (i := 29) rfl))) (ty := (.array .byte)) (by decide)
  refine own_goS st50 ?_
  show own_EndsS _ _ _ _ _ _ _ T50 (mkF m 31 #[.val (.int p0), .val (.int p1), .val (.long q2), .second, .val (.long q3), .second, .val (.long q4), .second, .val (.int p5), .val (.ref cb), .unset, .unset, .unset, .unset, .unset, .unset, .unset, .unset, .unset, .unset] [(.ref sid)])
  refine own_goS (fun _ k => XS.dup X50.here hx rfl (hb hby at_31) rfl rfl k) ?_
  show own_EndsS _ _ _ _ _ _ _ T50 (mkF m 32 #[.val (.int p0), .val (.int p1), .val (.long q2), .second, .val (.long q3), .second, .val (.long q4), .second, .val (.int p5), .val (.ref cb), .unset, .unset, .unset, .unset, .unset, .unset, .unset, .unset, .unset, .unset] [(.ref sid), (.ref sid)])
  refine own_goS (fun _ k => XS.aload X50.here hx rfl (hb hby at_32) rfl rfl k) ?_
  show own_EndsS _ _ _ _ _ _ _ T50 (mkF m 34 #[.val (.int p0), .val (.int p1), .val (.long q2), .second, .val (.long q3), .second, .val (.long q4), .second, .val (.int p5), .val (.ref cb), .unset, .unset, .unset, .unset, .unset, .unset, .unset, .unset, .unset, .unset] [(.ref cb), (.ref sid), (.ref sid)])
  obtain ⟨v51, T51, L51, X51, hQ51, st51⟩ := own_callI X50 hx hZ hown rfl (hw _ (List.mem_of_getElem? (i := 4) rfl)) (hw _ (List.mem_of_getElem? (i := 5) rfl)) (hw _ (List.mem_of_getElem? (i := 3) rfl)) (hw _ (List.mem_of_getElem? (i := 6) rfl)) (strInit1_2 l Z a0 hw sid cb h50 h0.size k47 (own_ch2 p0 ((p0.toUInt32 >>> ((8 : Int32) &&& 31).toUInt32).toInt32)) cs K_50.1 g_sid A50 F_value_sid F_coder_sid S_java_lang_String_COMPACT_STRINGS_50 hcs V_cb_50 (fun j _ => own_ch255 _ _ j)) e50 (g := (mkF m 34 #[.val (.int p0), .val (.int p1), .val (.long q2), .second, .val (.long q3), .second, .val (.long q4), .second, .val (.int p5), .val (.ref cb), .unset, .unset, .unset, .unset, .unset, .unset, .unset, .unset, .unset, .unset] [(.ref cb), (.ref sid), (.ref sid)])) rfl (by rw [hml]; rfl) (a := sid) (argsL := [(.ref cb)]) (rest := [(.ref sid)]) (lenOf pd_11 rfl) rfl rfl (W := 1) (by show 2 * 0 + _ ≤ _; exact Nat.le_of_eq rfl) (hb hby at_34) (by decide) (by decide) (by decide) (by decide) (by decide)
  obtain ⟨_, _, rfl, N51q, K51, -, -, -, -, -⟩ := hQ51
  refine own_goS st51 ?_
  have N51 := Fr.app N49 N51q
  have hk_51 := Nat.le_trans hk_50 K51.1
  have K_51 := K_50.trans K51 (allS (Or.inr sz_sid) all0)
  have S_java_lang_String_COMPACT_STRINGS_51 := own_Sta.keep S_java_lang_String_COMPACT_STRINGS_50 K51 (own_nsE A50 own_ns0)
  have S_java_lang_Integer_IntegerCache_high_51 := own_Sta.keep S_java_lang_Integer_IntegerCache_high_50 K51 (own_nsE A50 own_ns0)
  have S_java_lang_Integer_IntegerCache_cache_51 := own_Sta.keep S_java_lang_Integer_IntegerCache_cache_50 K51 (own_nsE A50 own_ns0)
  have V_ca_51 := V_ca_50.keep K51 (ninS ne_ca_sid nin0)
  have V_cb_51 := V_cb_50.keep K51 (ninS ne_cb_sid nin0)
  have E_sid_51 := A50.keep K51
  show own_EndsS _ _ _ _ _ _ _ T51 (mkF m 37 #[.val (.int p0), .val (.int p1), .val (.long q2), .second, .val (.long q3), .second, .val (.long q4), .second, .val (.int p5), .val (.ref cb), .unset, .unset, .unset, .unset, .unset, .unset, .unset, .unset, .unset, .unset] [(.ref sid)])
  refine own_goS (fun _ k => XS.astore X51.here hx rfl (hb hby at_37) rfl rfl (l' := #[.val (.int p0), .val (.int p1), .val (.long q2), .second, .val (.long q3), .second, .val (.long q4), .second, .val (.int p5), .val (.ref cb), .val (.ref sid), .unset, .unset, .unset, .unset, .unset, .unset, .unset, .unset, .unset]) rfl k) ?_
  show own_EndsS _ _ _ _ _ _ _ T51 (mkF m 39 #[.val (.int p0), .val (.int p1), .val (.long q2), .second, .val (.long q3), .second, .val (.long q4), .second, .val (.int p5), .val (.ref cb), .val (.ref sid), .unset, .unset, .unset, .unset, .unset, .unset, .unset, .unset, .unset] [])
  refine own_goS (fun _ k => XS.iloadN X51.here hx rfl (hb hby at_39) rfl k) ?_
  show own_EndsS _ _ _ _ _ _ _ T51 (mkF m 40 #[.val (.int p0), .val (.int p1), .val (.long q2), .second, .val (.long q3), .second, .val (.long q4), .second, .val (.int p5), .val (.ref cb), .val (.ref sid), .unset, .unset, .unset, .unset, .unset, .unset, .unset, .unset, .unset] [(.int p1)])
  obtain ⟨v52, T52, L52, X52, hQ52, st52⟩ := own_callS X51 hx hZ hown (hw _ (List.mem_of_getElem? (i := 30) rfl)) (hw _ (List.mem_of_getElem? (i := 31) rfl)) (hw _ (List.mem_of_getElem? (i := 32) rfl)) (hw _ (List.mem_of_getElem? (i := 33) rfl)) (rm7 l Z a0 hw p1 T51.heap h0.size ca kc fc K_51.1 S_java_lang_Integer_IntegerCache_high_51 S_java_lang_Integer_IntegerCache_cache_51 V_ca_51 hfc) rfl (g := (mkF m 40 #[.val (.int p0), .val (.int p1), .val (.long q2), .second, .val (.long q3), .second, .val (.long q4), .second, .val (.int p5), .val (.ref cb), .val (.ref sid), .unset, .unset, .unset, .unset, .unset, .unset, .unset, .unset, .unset] [(.int p1)])) rfl (by rw [hml]; rfl) (argsL := [(.int p1)]) (rest := []) (lenOf pd_12 rfl) rfl rfl (W := 0) (by show 2 * 0 + _ ≤ _; exact Nat.le_of_eq rfl) (hb hby at_40) (by decide) (by decide) (by decide) (by decide) (by decide)
  obtain ⟨rt, rfl, N52q, K52⟩ := hQ52
  refine own_goS st52 ?_
  have N52 := Fr.app N51 N52q
  have hk_52 := Nat.le_trans hk_51 K52.1
  have K_52 := K_51.trans K52 all0
  have S_java_lang_String_COMPACT_STRINGS_52 := own_Sta.keep S_java_lang_String_COMPACT_STRINGS_51 K52 own_ns0
  have S_java_lang_Integer_IntegerCache_high_52 := own_Sta.keep S_java_lang_Integer_IntegerCache_high_51 K52 own_ns0
  have S_java_lang_Integer_IntegerCache_cache_52 := own_Sta.keep S_java_lang_Integer_IntegerCache_cache_51 K52 own_ns0
  have V_ca_52 := V_ca_51.keep K52 nin0
  have V_cb_52 := V_cb_51.keep K52 nin0
  have E_sid_52 := E_sid_51.keep K52
  show own_EndsS _ _ _ _ _ _ _ T52 (mkF m 43 #[.val (.int p0), .val (.int p1), .val (.long q2), .second, .val (.long q3), .second, .val (.long q4), .second, .val (.int p5), .val (.ref cb), .val (.ref sid), .unset, .unset, .unset, .unset, .unset, .unset, .unset, .unset, .unset] [(.ref rt)])
  refine own_goS (fun _ k => XS.astore X52.here hx rfl (hb hby at_43) rfl rfl (l' := #[.val (.int p0), .val (.int p1), .val (.long q2), .second, .val (.long q3), .second, .val (.long q4), .second, .val (.int p5), .val (.ref cb), .val (.ref sid), .val (.ref rt), .unset, .unset, .unset, .unset, .unset, .unset, .unset, .unset]) rfl k) ?_
  show own_EndsS _ _ _ _ _ _ _ T52 (mkF m 45 #[.val (.int p0), .val (.int p1), .val (.long q2), .second, .val (.long q3), .second, .val (.long q4), .second, .val (.int p5), .val (.ref cb), .val (.ref sid), .val (.ref rt), .unset, .unset, .unset, .unset, .unset, .unset, .unset, .unset] [])
  obtain ⟨T53, h53, X53, e53, E53, A53, D53, -, st53⟩ := newO X52 hx hZ hown (hw _ (List.mem_of_getElem? (i := 37) rfl)) (hw _ (List.mem_of_getElem? (i := 38) rfl)) (hw _ (List.mem_of_getElem? (i := 39) rfl)) rfl (g := (mkF m 45 #[.val (.int p0), .val (.int p1), .val (.long q2), .second, .val (.long q3), .second, .val (.long q4), .second, .val (.int p5), .val (.ref cb), .val (.ref sid), .val (.ref rt), .unset, .unset, .unset, .unset, .unset, .unset, .unset, .unset] [])) rfl (hb hby at_45) (by decide) (by decide)
  obtain ⟨ag, gq53⟩ : ∃ z, z = T52.heap.size := ⟨_, rfl⟩
  rw [← gq53] at A53 D53 st53
  have ne_sid_ag : sid ≠ ag := Nat.ne_of_lt (Nat.lt_of_lt_of_le E_sid_52.lt (Nat.le_of_eq gq53.symm))
  have sz_ag : h0.size ≤ ag := Nat.le_trans K_52.1 (Nat.le_of_eq gq53.symm)
  have g_ag : h0.size ≤ ag := Nat.le_trans (Nat.le_refl _) sz_ag
  have hk_53 := Nat.le_trans hk_52 E53.1
  have K_53 := K_52.ext E53
  have E_sid_53 := E_sid_52.ext E53
  have F_identifier_ag : Fld Z h53 ag "com/example/nikki/nikki/eventsourcing/Aggregate" "identifier" "Ljava/lang/String;" .null := D53 (Or.inr (hw _ (List.mem_of_getElem? (i := 58) rfl))) (ty := (.object "java/lang/String")) (by decide)
  have F_version_ag : Fld Z h53 ag "com/example/nikki/nikki/eventsourcing/Aggregate" "version" "J" (.long (0 : Int64)) := D53 (Or.inr (hw _ (List.mem_of_getElem? (i := 60) rfl))) (ty := .long) (by decide)
  have F_root_ag : Fld Z h53 ag "com/example/nikki/nikki/eventsourcing/Aggregate" "root" "Ljava/lang/Object;" .null := D53 (Or.inr (hw _ (List.mem_of_getElem? (i := 62) rfl))) (ty := (.object "java/lang/Object")) (by decide)
  refine own_goS st53 ?_
  show own_EndsS _ _ _ _ _ _ _ T53 (mkF m 48 #[.val (.int p0), .val (.int p1), .val (.long q2), .second, .val (.long q3), .second, .val (.long q4), .second, .val (.int p5), .val (.ref cb), .val (.ref sid), .val (.ref rt), .unset, .unset, .unset, .unset, .unset, .unset, .unset, .unset] [(.ref ag)])
  refine own_goS (fun _ k => XS.dup X53.here hx rfl (hb hby at_48) rfl rfl k) ?_
  show own_EndsS _ _ _ _ _ _ _ T53 (mkF m 49 #[.val (.int p0), .val (.int p1), .val (.long q2), .second, .val (.long q3), .second, .val (.long q4), .second, .val (.int p5), .val (.ref cb), .val (.ref sid), .val (.ref rt), .unset, .unset, .unset, .unset, .unset, .unset, .unset, .unset] [(.ref ag), (.ref ag)])
  refine own_goS (fun _ k => XS.aload X53.here hx rfl (hb hby at_49) rfl rfl k) ?_
  show own_EndsS _ _ _ _ _ _ _ T53 (mkF m 51 #[.val (.int p0), .val (.int p1), .val (.long q2), .second, .val (.long q3), .second, .val (.long q4), .second, .val (.int p5), .val (.ref cb), .val (.ref sid), .val (.ref rt), .unset, .unset, .unset, .unset, .unset, .unset, .unset, .unset] [(.ref sid), (.ref ag), (.ref ag)])
  refine own_goS (fun _ k => XS.lloadN X53.here hx rfl (hb hby at_51) rfl k) ?_
  show own_EndsS _ _ _ _ _ _ _ T53 (mkF m 52 #[.val (.int p0), .val (.int p1), .val (.long q2), .second, .val (.long q3), .second, .val (.long q4), .second, .val (.int p5), .val (.ref cb), .val (.ref sid), .val (.ref rt), .unset, .unset, .unset, .unset, .unset, .unset, .unset, .unset] [(.long q2), (.ref sid), (.ref ag), (.ref ag)])
  refine own_goS (fun _ k => XS.aload X53.here hx rfl (hb hby at_52) rfl rfl k) ?_
  show own_EndsS _ _ _ _ _ _ _ T53 (mkF m 54 #[.val (.int p0), .val (.int p1), .val (.long q2), .second, .val (.long q3), .second, .val (.long q4), .second, .val (.int p5), .val (.ref cb), .val (.ref sid), .val (.ref rt), .unset, .unset, .unset, .unset, .unset, .unset, .unset, .unset] [(.ref rt), (.long q2), (.ref sid), (.ref ag), (.ref ag)])
  obtain ⟨v54, T54, L54, X54, hQ54, SI54, hZ54, hown54, st54⟩ := own_callSI X53 hx hZ SI0 (by rw [e53]; exact hk_53) hown rfl (hw _ (List.mem_of_getElem? (i := 40) rfl)) (hw _ (List.mem_of_getElem? (i := 41) rfl)) (hw _ (List.mem_of_getElem? (i := 39) rfl)) (hw _ (List.mem_of_getElem? (i := 42) rfl)) (rm8 l Z a0 hw ag sid q2 rt h53 h0.size g_ag A53 F_identifier_ag F_version_ag F_root_ag) e53 (g := (mkF m 54 #[.val (.int p0), .val (.int p1), .val (.long q2), .second, .val (.long q3), .second, .val (.long q4), .second, .val (.int p5), .val (.ref cb), .val (.ref sid), .val (.ref rt), .unset, .unset, .unset, .unset, .unset, .unset, .unset, .unset] [(.ref rt), (.long q2), (.ref sid), (.ref ag), (.ref ag)])) rfl (by rw [hml]; rfl) (a := ag) (argsL := [(.ref sid), (.long q2), (.ref rt)]) (rest := [(.ref ag)]) (lenOf pd_10 rfl) rfl rfl (W := 1) (by show 2 * 0 + _ ≤ _; exact Nat.le_of_eq rfl) (hb hby at_54) (by decide) (by decide) (by decide) (by decide) (by decide)
  obtain ⟨rfl, N54q, K54, -, Fi54, Fv54, Fr54⟩ := hQ54
  refine own_goS st54 ?_
  have N54 := Fr.app N52 N54q
  have K_54 := K_53.trans K54 (allS (Or.inr sz_ag) all0)
  have E_sid_54 := E_sid_53.keep K54
  have E_ag_54 := A53.keep K54
  show own_EndsS _ _ _ _ _ _ _ T54 (mkF m 57 #[.val (.int p0), .val (.int p1), .val (.long q2), .second, .val (.long q3), .second, .val (.long q4), .second, .val (.int p5), .val (.ref cb), .val (.ref sid), .val (.ref rt), .unset, .unset, .unset, .unset, .unset, .unset, .unset, .unset] [(.ref ag)])
  refine own_goS (fun _ k => XS.astore X54.here hx rfl (hb hby at_57) rfl rfl (l' := #[.val (.int p0), .val (.int p1), .val (.long q2), .second, .val (.long q3), .second, .val (.long q4), .second, .val (.int p5), .val (.ref cb), .val (.ref sid), .val (.ref rt), .val (.ref ag), .unset, .unset, .unset, .unset, .unset, .unset, .unset]) rfl k) ?_
  show own_EndsS _ _ _ _ _ _ _ T54 (mkF m 59 #[.val (.int p0), .val (.int p1), .val (.long q2), .second, .val (.long q3), .second, .val (.long q4), .second, .val (.int p5), .val (.ref cb), .val (.ref sid), .val (.ref rt), .val (.ref ag), .unset, .unset, .unset, .unset, .unset, .unset, .unset] [])
  obtain ⟨T55, h55, X55, e55, E55, A55, D55, -, st55⟩ := newO X54 hx hZ54 hown54 (hw _ (List.mem_of_getElem? (i := 63) rfl)) (hw _ (List.mem_of_getElem? (i := 64) rfl)) (hw _ (List.mem_of_getElem? (i := 65) rfl)) rfl (g := (mkF m 59 #[.val (.int p0), .val (.int p1), .val (.long q2), .second, .val (.long q3), .second, .val (.long q4), .second, .val (.int p5), .val (.ref cb), .val (.ref sid), .val (.ref rt), .val (.ref ag), .unset, .unset, .unset, .unset, .unset, .unset, .unset] [])) rfl (hb hby at_59) (by decide) (by decide)
  obtain ⟨hd, gq55⟩ : ∃ z, z = T54.heap.size := ⟨_, rfl⟩
  rw [← gq55] at A55 D55 st55
  have ne_sid_hd : sid ≠ hd := Nat.ne_of_lt (Nat.lt_of_lt_of_le E_sid_54.lt (Nat.le_of_eq gq55.symm))
  have ne_ag_hd : ag ≠ hd := Nat.ne_of_lt (Nat.lt_of_lt_of_le E_ag_54.lt (Nat.le_of_eq gq55.symm))
  have sz_hd : h0.size ≤ hd := Nat.le_trans K_54.1 (Nat.le_of_eq gq55.symm)
  have g_hd : h0.size ≤ hd := Nat.le_trans (Nat.le_refl _) sz_hd
  have K_55 := K_54.ext E55
  have E_sid_55 := E_sid_54.ext E55
  have E_ag_55 := E_ag_54.ext E55
  have hk_55 := Nat.le_trans (Nat.le_refl _) E55.1
  have F_ag_identifier_55 := Fi54.ext E55
  have F_ag_version_55 := Fv54.ext E55
  have F_ag_root_55 := Fr54.ext E55
  have F_droppedAt_hd : Fld Z h55 hd "com/example/nikki/nikki/eventsourcing/HeldAggregate" "droppedAt" "J" (.long (0 : Int64)) := D55 (Or.inl (hw _ (List.mem_of_getElem? (i := 72) rfl))) (ty := .long) (by decide)
  have F_identifier_hd : Fld Z h55 hd "com/example/nikki/nikki/eventsourcing/HeldAggregate" "identifier" "Ljava/lang/String;" .null := D55 (Or.inr (hw _ (List.mem_of_getElem? (i := 79) rfl))) (ty := (.object "java/lang/String")) (by decide)
  have F_root_hd : Fld Z h55 hd "com/example/nikki/nikki/eventsourcing/HeldAggregate" "root" "Ljava/lang/Object;" .null := D55 (Or.inr (hw _ (List.mem_of_getElem? (i := 86) rfl))) (ty := (.object "java/lang/Object")) (by decide)
  have F_version_hd : Fld Z h55 hd "com/example/nikki/nikki/eventsourcing/HeldAggregate" "version" "J" (.long (0 : Int64)) := D55 (Or.inl (hw _ (List.mem_of_getElem? (i := 93) rfl))) (ty := .long) (by decide)
  have F_snapshotSequenceNumber_hd : Fld Z h55 hd "com/example/nikki/nikki/eventsourcing/HeldAggregate" "snapshotSequenceNumber" "J" (.long (0 : Int64)) := D55 (Or.inl (hw _ (List.mem_of_getElem? (i := 95) rfl))) (ty := .long) (by decide)
  refine own_goS st55 ?_
  show own_EndsS _ _ _ _ _ _ _ T55 (mkF m 62 #[.val (.int p0), .val (.int p1), .val (.long q2), .second, .val (.long q3), .second, .val (.long q4), .second, .val (.int p5), .val (.ref cb), .val (.ref sid), .val (.ref rt), .val (.ref ag), .unset, .unset, .unset, .unset, .unset, .unset, .unset] [(.ref hd)])
  refine own_goS (fun _ k => XS.dup X55.here hx rfl (hb hby at_62) rfl rfl k) ?_
  show own_EndsS _ _ _ _ _ _ _ T55 (mkF m 63 #[.val (.int p0), .val (.int p1), .val (.long q2), .second, .val (.long q3), .second, .val (.long q4), .second, .val (.int p5), .val (.ref cb), .val (.ref sid), .val (.ref rt), .val (.ref ag), .unset, .unset, .unset, .unset, .unset, .unset, .unset] [(.ref hd), (.ref hd)])
  refine own_goS (fun _ k => XS.aload X55.here hx rfl (hb hby at_63) rfl rfl k) ?_
  show own_EndsS _ _ _ _ _ _ _ T55 (mkF m 65 #[.val (.int p0), .val (.int p1), .val (.long q2), .second, .val (.long q3), .second, .val (.long q4), .second, .val (.int p5), .val (.ref cb), .val (.ref sid), .val (.ref rt), .val (.ref ag), .unset, .unset, .unset, .unset, .unset, .unset, .unset] [(.ref ag), (.ref hd), (.ref hd)])
  refine own_goS (fun _ k => XS.lload X55.here hx rfl (hb hby at_65) rfl k) ?_
  show own_EndsS _ _ _ _ _ _ _ T55 (mkF m 67 #[.val (.int p0), .val (.int p1), .val (.long q2), .second, .val (.long q3), .second, .val (.long q4), .second, .val (.int p5), .val (.ref cb), .val (.ref sid), .val (.ref rt), .val (.ref ag), .unset, .unset, .unset, .unset, .unset, .unset, .unset] [(.long q3), (.ref ag), (.ref hd), (.ref hd)])
  obtain ⟨v56, T56, L56, X56, hQ56, st56⟩ := own_callI X55 hx hZ54 hown54 rfl (hw _ (List.mem_of_getElem? (i := 66) rfl)) (hw _ (List.mem_of_getElem? (i := 67) rfl)) (hw _ (List.mem_of_getElem? (i := 65) rfl)) (hw _ (List.mem_of_getElem? (i := 68) rfl)) (rm11 l Z a0 hw hd ag q3 h55 h0.size sid q2 rt g_hd A55 E_ag_55 ne_ag_hd F_droppedAt_hd F_identifier_hd F_root_hd F_version_hd F_snapshotSequenceNumber_hd F_ag_identifier_55 F_ag_version_55 F_ag_root_55) e55 (g := (mkF m 67 #[.val (.int p0), .val (.int p1), .val (.long q2), .second, .val (.long q3), .second, .val (.long q4), .second, .val (.int p5), .val (.ref cb), .val (.ref sid), .val (.ref rt), .val (.ref ag), .unset, .unset, .unset, .unset, .unset, .unset, .unset] [(.long q3), (.ref ag), (.ref hd), (.ref hd)])) rfl (by rw [hml]; rfl) (a := hd) (argsL := [(.ref ag), (.long q3)]) (rest := [(.ref hd)]) (lenOf pd_13 rfl) rfl rfl (W := 1) (by show 2 * 0 + _ ≤ _; exact Nat.le_of_eq rfl) (hb hby at_67) (by decide) (by decide) (by decide) (by decide) (by decide)
  obtain ⟨rfl, N56q, K56, -, Fi56, Fv56, Fr56⟩ := hQ56
  refine own_goS st56 ?_
  have N56 := Fr.app N54 N56q
  have K_56 := K_55.trans K56 (allS (Or.inr sz_hd) all0)
  have E_sid_56 := E_sid_55.keep K56
  have E_ag_56 := E_ag_55.keep K56
  have hk_56 := Nat.le_trans hk_55 K56.1
  have F_ag_identifier_56 := F_ag_identifier_55.keep K56 (ninS ne_ag_hd nin0)
  have F_ag_version_56 := F_ag_version_55.keep K56 (ninS ne_ag_hd nin0)
  have F_ag_root_56 := F_ag_root_55.keep K56 (ninS ne_ag_hd nin0)
  have E_hd_56 := A55.keep K56
  show own_EndsS _ _ _ _ _ _ _ T56 (mkF m 70 #[.val (.int p0), .val (.int p1), .val (.long q2), .second, .val (.long q3), .second, .val (.long q4), .second, .val (.int p5), .val (.ref cb), .val (.ref sid), .val (.ref rt), .val (.ref ag), .unset, .unset, .unset, .unset, .unset, .unset, .unset] [(.ref hd)])
  refine own_goS (fun _ k => XS.astore X56.here hx rfl (hb hby at_70) rfl rfl (l' := #[.val (.int p0), .val (.int p1), .val (.long q2), .second, .val (.long q3), .second, .val (.long q4), .second, .val (.int p5), .val (.ref cb), .val (.ref sid), .val (.ref rt), .val (.ref ag), .val (.ref hd), .unset, .unset, .unset, .unset, .unset, .unset]) rfl k) ?_
  show own_EndsS _ _ _ _ _ _ _ T56 (mkF m 72 #[.val (.int p0), .val (.int p1), .val (.long q2), .second, .val (.long q3), .second, .val (.long q4), .second, .val (.int p5), .val (.ref cb), .val (.ref sid), .val (.ref rt), .val (.ref ag), .val (.ref hd), .unset, .unset, .unset, .unset, .unset, .unset] [])
  refine own_goS (fun _ k => XS.aload X56.here hx rfl (hb hby at_72) rfl rfl k) ?_
  show own_EndsS _ _ _ _ _ _ _ T56 (mkF m 74 #[.val (.int p0), .val (.int p1), .val (.long q2), .second, .val (.long q3), .second, .val (.long q4), .second, .val (.int p5), .val (.ref cb), .val (.ref sid), .val (.ref rt), .val (.ref ag), .val (.ref hd), .unset, .unset, .unset, .unset, .unset, .unset] [(.ref hd)])
  obtain ⟨v57, T57, L57, X57, hQ57, SI57, hZ57, hown57, st57⟩ := own_callSV X56 hx hZ54 SI54 hk_56 hown54 (hw _ (List.mem_of_getElem? (i := 96) rfl)) (hw _ (List.mem_of_getElem? (i := 97) rfl)) (hw _ (List.mem_of_getElem? (i := 99) rfl)) (hw _ (List.mem_of_getElem? (i := 98) rfl)) (hw _ (List.mem_of_getElem? (i := 65) rfl)) (hw _ (List.mem_of_getElem? (i := 100) rfl)) (rm15 l Z a0 hw hd T56.heap h0.size sid q2 rt K_56.1 E_hd_56 Fi56 Fv56 Fr56) rfl (g := (mkF m 74 #[.val (.int p0), .val (.int p1), .val (.long q2), .second, .val (.long q3), .second, .val (.long q4), .second, .val (.int p5), .val (.ref cb), .val (.ref sid), .val (.ref rt), .val (.ref ag), .val (.ref hd), .unset, .unset, .unset, .unset, .unset, .unset] [(.ref hd)])) rfl (by rw [hml]; rfl) (a := hd) (argsL := []) (rest := []) (E_hd_56) (lenOf pd_14 rfl) rfl rfl (W := 0) (by show 2 * 0 + _ ≤ _; exact Nat.le_of_eq rfl) (hb hby at_74) (by decide) (by decide) (by decide) (by decide) (by decide)
  obtain ⟨f1, rfl, N57q, K57, s57, E57, Fi57, Fv57, Fr57⟩ := hQ57
  refine own_goS st57 ?_
  have N57 := Fr.app N56 N57q
  have K_57 := K_56.trans K57 all0
  have E_sid_57 := E_sid_56.keep K57
  have E_ag_57 := E_ag_56.keep K57
  have F_ag_identifier_57 := F_ag_identifier_56.keep K57 nin0
  have F_ag_version_57 := F_ag_version_56.keep K57 nin0
  have F_ag_root_57 := F_ag_root_56.keep K57 nin0
  have E_hd_57 := E_hd_56.keep K57
  have F_hd_identifier_57 := Fi56.keep K57 nin0
  have F_hd_version_57 := Fv56.keep K57 nin0
  have F_hd_root_57 := Fr56.keep K57 nin0
  show own_EndsS _ _ _ _ _ _ _ T57 (mkF m 77 #[.val (.int p0), .val (.int p1), .val (.long q2), .second, .val (.long q3), .second, .val (.long q4), .second, .val (.int p5), .val (.ref cb), .val (.ref sid), .val (.ref rt), .val (.ref ag), .val (.ref hd), .unset, .unset, .unset, .unset, .unset, .unset] [(.ref f1)])
  have ne_hd_f1 : hd ≠ f1 := Nat.ne_of_lt (Nat.lt_of_lt_of_le E_hd_56.lt s57)
  refine own_goS (fun _ k => XS.astore X57.here hx rfl (hb hby at_77) rfl rfl (l' := #[.val (.int p0), .val (.int p1), .val (.long q2), .second, .val (.long q3), .second, .val (.long q4), .second, .val (.int p5), .val (.ref cb), .val (.ref sid), .val (.ref rt), .val (.ref ag), .val (.ref hd), .val (.ref f1), .unset, .unset, .unset, .unset, .unset]) rfl k) ?_
  show own_EndsS _ _ _ _ _ _ _ T57 (mkF m 79 #[.val (.int p0), .val (.int p1), .val (.long q2), .second, .val (.long q3), .second, .val (.long q4), .second, .val (.int p5), .val (.ref cb), .val (.ref sid), .val (.ref rt), .val (.ref ag), .val (.ref hd), .val (.ref f1), .unset, .unset, .unset, .unset, .unset] [])
  refine own_goS (fun _ k => XS.aload X57.here hx rfl (hb hby at_79) rfl rfl k) ?_
  show own_EndsS _ _ _ _ _ _ _ T57 (mkF m 81 #[.val (.int p0), .val (.int p1), .val (.long q2), .second, .val (.long q3), .second, .val (.long q4), .second, .val (.int p5), .val (.ref cb), .val (.ref sid), .val (.ref rt), .val (.ref ag), .val (.ref hd), .val (.ref f1), .unset, .unset, .unset, .unset, .unset] [(.ref f1)])
  obtain ⟨v58, T58, L58, X58, hQ58, st58⟩ := own_callV X57 hx hZ57 hown57 (hw _ (List.mem_of_getElem? (i := 103) rfl)) (hw _ (List.mem_of_getElem? (i := 74) rfl)) (hw _ (List.mem_of_getElem? (i := 76) rfl)) (hw _ (List.mem_of_getElem? (i := 75) rfl)) (hw _ (List.mem_of_getElem? (i := 39) rfl)) (hw _ (List.mem_of_getElem? (i := 77) rfl)) (rm12 l Z a0 hw f1 T57.heap sid Fi57) rfl (g := (mkF m 81 #[.val (.int p0), .val (.int p1), .val (.long q2), .second, .val (.long q3), .second, .val (.long q4), .second, .val (.int p5), .val (.ref cb), .val (.ref sid), .val (.ref rt), .val (.ref ag), .val (.ref hd), .val (.ref f1), .unset, .unset, .unset, .unset, .unset] [(.ref f1)])) rfl (by rw [hml]; rfl) (a := f1) (argsL := []) (rest := []) (E57) (lenOf pd_7 rfl) rfl rfl (W := 0) (by show 2 * 0 + _ ≤ _; exact Nat.le_of_eq rfl) (hb hby at_81) (by decide) (by decide) (by decide) (by decide) (by decide)
  obtain ⟨rfl, rfl, e58⟩ := hQ58
  refine own_goS st58 ?_
  have N58 := Fr.app N57 (Fr.nil _)
  show own_EndsS _ _ _ _ _ _ _ T58 (mkF m 84 #[.val (.int p0), .val (.int p1), .val (.long q2), .second, .val (.long q3), .second, .val (.long q4), .second, .val (.int p5), .val (.ref cb), .val (.ref sid), .val (.ref rt), .val (.ref ag), .val (.ref hd), .val (.ref f1), .unset, .unset, .unset, .unset, .unset] [(.ref sid)])
  refine own_goS (fun _ k => XS.aload X58.here hx rfl (hb hby at_84) rfl rfl k) ?_
  show own_EndsS _ _ _ _ _ _ _ T58 (mkF m 86 #[.val (.int p0), .val (.int p1), .val (.long q2), .second, .val (.long q3), .second, .val (.long q4), .second, .val (.int p5), .val (.ref cb), .val (.ref sid), .val (.ref rt), .val (.ref ag), .val (.ref hd), .val (.ref f1), .unset, .unset, .unset, .unset, .unset] [(.ref sid), (.ref sid)])
  obtain ⟨v59, T59, L59, X59, hQ59, st59⟩ := own_callV X58 hx hZ57 hown57 (hw _ (List.mem_of_getElem? (i := 104) rfl)) (hw _ (List.mem_of_getElem? (i := 105) rfl)) (hw _ (List.mem_of_getElem? (i := 107) rfl)) (hw _ (List.mem_of_getElem? (i := 106) rfl)) (hw _ (List.mem_of_getElem? (i := 3) rfl)) (hw _ (List.mem_of_getElem? (i := 108) rfl)) (rm16 l Z a0 hw sid sid T57.heap rfl) e58 (g := (mkF m 86 #[.val (.int p0), .val (.int p1), .val (.long q2), .second, .val (.long q3), .second, .val (.long q4), .second, .val (.int p5), .val (.ref cb), .val (.ref sid), .val (.ref rt), .val (.ref ag), .val (.ref hd), .val (.ref f1), .unset, .unset, .unset, .unset, .unset] [(.ref sid), (.ref sid)])) rfl (by rw [hml]; rfl) (a := sid) (argsL := [(.ref sid)]) (rest := []) (E_sid_57) (lenOf pd_15 rfl) rfl rfl (W := 0) (by show 2 * 0 + _ ≤ _; exact Nat.le_of_eq rfl) (hb hby at_86) (by decide) (by decide) (by decide) (by decide) (by decide)
  obtain ⟨rfl, rfl, e59⟩ := hQ59
  refine own_goS st59 ?_
  have N59 := Fr.app N58 (Fr.nil _)
  show own_EndsS _ _ _ _ _ _ _ T59 (mkF m 89 #[.val (.int p0), .val (.int p1), .val (.long q2), .second, .val (.long q3), .second, .val (.long q4), .second, .val (.int p5), .val (.ref cb), .val (.ref sid), .val (.ref rt), .val (.ref ag), .val (.ref hd), .val (.ref f1), .unset, .unset, .unset, .unset, .unset] [(.int (1 : Int32))])
  refine own_goS (fun _ k => XS.ifNo X59.here hx rfl (hb hby at_89) rfl ((if0 _ _).trans (feq (by decide)).1) k) ?_
  show own_EndsS _ _ _ _ _ _ _ T59 (mkF m 92 #[.val (.int p0), .val (.int p1), .val (.long q2), .second, .val (.long q3), .second, .val (.long q4), .second, .val (.int p5), .val (.ref cb), .val (.ref sid), .val (.ref rt), .val (.ref ag), .val (.ref hd), .val (.ref f1), .unset, .unset, .unset, .unset, .unset] [])
  refine own_goS (fun _ k => XS.aload X59.here hx rfl (hb hby at_92) rfl rfl k) ?_
  show own_EndsS _ _ _ _ _ _ _ T59 (mkF m 94 #[.val (.int p0), .val (.int p1), .val (.long q2), .second, .val (.long q3), .second, .val (.long q4), .second, .val (.int p5), .val (.ref cb), .val (.ref sid), .val (.ref rt), .val (.ref ag), .val (.ref hd), .val (.ref f1), .unset, .unset, .unset, .unset, .unset] [(.ref f1)])
  obtain ⟨v60, T60, L60, X60, hQ60, st60⟩ := own_callV X59 hx hZ57 hown57 (hw _ (List.mem_of_getElem? (i := 109) rfl)) (hw _ (List.mem_of_getElem? (i := 88) rfl)) (hw _ (List.mem_of_getElem? (i := 90) rfl)) (hw _ (List.mem_of_getElem? (i := 89) rfl)) (hw _ (List.mem_of_getElem? (i := 39) rfl)) (hw _ (List.mem_of_getElem? (i := 91) rfl)) (rm14 l Z a0 hw f1 T57.heap q2 Fv57) e59 (g := (mkF m 94 #[.val (.int p0), .val (.int p1), .val (.long q2), .second, .val (.long q3), .second, .val (.long q4), .second, .val (.int p5), .val (.ref cb), .val (.ref sid), .val (.ref rt), .val (.ref ag), .val (.ref hd), .val (.ref f1), .unset, .unset, .unset, .unset, .unset] [(.ref f1)])) rfl (by rw [hml]; rfl) (a := f1) (argsL := []) (rest := []) (E57) (lenOf pd_9 rfl) rfl rfl (W := 0) (by show 2 * 0 + _ ≤ _; exact Nat.le_of_eq rfl) (hb hby at_94) (by decide) (by decide) (by decide) (by decide) (by decide)
  obtain ⟨rfl, rfl, e60⟩ := hQ60
  refine own_goS st60 ?_
  have N60 := Fr.app N59 (Fr.nil _)
  show own_EndsS _ _ _ _ _ _ _ T60 (mkF m 97 #[.val (.int p0), .val (.int p1), .val (.long q2), .second, .val (.long q3), .second, .val (.long q4), .second, .val (.int p5), .val (.ref cb), .val (.ref sid), .val (.ref rt), .val (.ref ag), .val (.ref hd), .val (.ref f1), .unset, .unset, .unset, .unset, .unset] [(.long q2)])
  refine own_goS (fun _ k => XS.lloadN X60.here hx rfl (hb hby at_97) rfl k) ?_
  show own_EndsS _ _ _ _ _ _ _ T60 (mkF m 98 #[.val (.int p0), .val (.int p1), .val (.long q2), .second, .val (.long q3), .second, .val (.long q4), .second, .val (.int p5), .val (.ref cb), .val (.ref sid), .val (.ref rt), .val (.ref ag), .val (.ref hd), .val (.ref f1), .unset, .unset, .unset, .unset, .unset] [(.long q2), (.long q2)])
  refine own_goS (fun _ k => XS.lcmp X60.here hx rfl (hb hby at_98) rfl k) ?_
  show own_EndsS _ _ _ _ _ _ _ T60 (mkF m 99 #[.val (.int p0), .val (.int p1), .val (.long q2), .second, .val (.long q3), .second, .val (.long q4), .second, .val (.int p5), .val (.ref cb), .val (.ref sid), .val (.ref rt), .val (.ref ag), .val (.ref hd), .val (.ref f1), .unset, .unset, .unset, .unset, .unset] [(.int (lcmpW q2 q2))])
  refine own_goS (fun _ k => XS.ifNo X60.here hx rfl (hb hby at_99) rfl (own_let rfl).2 k) ?_
  show own_EndsS _ _ _ _ _ _ _ T60 (mkF m 102 #[.val (.int p0), .val (.int p1), .val (.long q2), .second, .val (.long q3), .second, .val (.long q4), .second, .val (.int p5), .val (.ref cb), .val (.ref sid), .val (.ref rt), .val (.ref ag), .val (.ref hd), .val (.ref f1), .unset, .unset, .unset, .unset, .unset] [])
  refine own_goS (fun _ k => XS.aload X60.here hx rfl (hb hby at_102) rfl rfl k) ?_
  show own_EndsS _ _ _ _ _ _ _ T60 (mkF m 104 #[.val (.int p0), .val (.int p1), .val (.long q2), .second, .val (.long q3), .second, .val (.long q4), .second, .val (.int p5), .val (.ref cb), .val (.ref sid), .val (.ref rt), .val (.ref ag), .val (.ref hd), .val (.ref f1), .unset, .unset, .unset, .unset, .unset] [(.ref f1)])
  obtain ⟨v61, T61, L61, X61, hQ61, st61⟩ := own_callV X60 hx hZ57 hown57 (hw _ (List.mem_of_getElem? (i := 110) rfl)) (hw _ (List.mem_of_getElem? (i := 81) rfl)) (hw _ (List.mem_of_getElem? (i := 83) rfl)) (hw _ (List.mem_of_getElem? (i := 82) rfl)) (hw _ (List.mem_of_getElem? (i := 39) rfl)) (hw _ (List.mem_of_getElem? (i := 84) rfl)) (rm13 l Z a0 hw f1 T57.heap rt Fr57) e60 (g := (mkF m 104 #[.val (.int p0), .val (.int p1), .val (.long q2), .second, .val (.long q3), .second, .val (.long q4), .second, .val (.int p5), .val (.ref cb), .val (.ref sid), .val (.ref rt), .val (.ref ag), .val (.ref hd), .val (.ref f1), .unset, .unset, .unset, .unset, .unset] [(.ref f1)])) rfl (by rw [hml]; rfl) (a := f1) (argsL := []) (rest := []) (E57) (lenOf pd_8 rfl) rfl rfl (W := 0) (by show 2 * 0 + _ ≤ _; exact Nat.le_of_eq rfl) (hb hby at_104) (by decide) (by decide) (by decide) (by decide) (by decide)
  obtain ⟨rfl, rfl, e61⟩ := hQ61
  refine own_goS st61 ?_
  have N61 := Fr.app N60 (Fr.nil _)
  show own_EndsS _ _ _ _ _ _ _ T61 (mkF m 107 #[.val (.int p0), .val (.int p1), .val (.long q2), .second, .val (.long q3), .second, .val (.long q4), .second, .val (.int p5), .val (.ref cb), .val (.ref sid), .val (.ref rt), .val (.ref ag), .val (.ref hd), .val (.ref f1), .unset, .unset, .unset, .unset, .unset] [(.ref rt)])
  refine own_goS (fun _ k => XS.aload X61.here hx rfl (hb hby at_107) rfl rfl k) ?_
  show own_EndsS _ _ _ _ _ _ _ T61 (mkF m 109 #[.val (.int p0), .val (.int p1), .val (.long q2), .second, .val (.long q3), .second, .val (.long q4), .second, .val (.int p5), .val (.ref cb), .val (.ref sid), .val (.ref rt), .val (.ref ag), .val (.ref hd), .val (.ref f1), .unset, .unset, .unset, .unset, .unset] [(.ref rt), (.ref rt)])
  refine own_goS (fun _ k => Jvm.RoadKit.acmp (g := (mkF m 109 #[.val (.int p0), .val (.int p1), .val (.long q2), .second, .val (.long q3), .second, .val (.long q4), .second, .val (.int p5), .val (.ref cb), .val (.ref sid), .val (.ref rt), .val (.ref ag), .val (.ref hd), .val (.ref f1), .unset, .unset, .unset, .unset, .unset] [(.ref rt), (.ref rt)])) X61 hx rfl rfl rfl (pc0 := 109) (pc' := 112) (same := true) rfl (hb hby at_109) rfl ((decide_eq_true rfl)) (by decide) (by decide) k) ?_
  show own_EndsS _ _ _ _ _ _ _ T61 (mkF m 112 #[.val (.int p0), .val (.int p1), .val (.long q2), .second, .val (.long q3), .second, .val (.long q4), .second, .val (.int p5), .val (.ref cb), .val (.ref sid), .val (.ref rt), .val (.ref ag), .val (.ref hd), .val (.ref f1), .unset, .unset, .unset, .unset, .unset] [])
  refine own_goS (fun _ k => XS.iconst X61.here hx rfl (hb hby at_112) k) ?_
  show own_EndsS _ _ _ _ _ _ _ T61 (mkF m 113 #[.val (.int p0), .val (.int p1), .val (.long q2), .second, .val (.long q3), .second, .val (.long q4), .second, .val (.int p5), .val (.ref cb), .val (.ref sid), .val (.ref rt), .val (.ref ag), .val (.ref hd), .val (.ref f1), .unset, .unset, .unset, .unset, .unset] [(.int (1 : Int32))])
  refine own_goS (fun _ k => XS.goto X61.here hx rfl (pc0 := 113) (pc' := 117) rfl (hb hby at_113) (by decide) (by decide) k) ?_
  show own_EndsS _ _ _ _ _ _ _ T61 (mkF m 117 #[.val (.int p0), .val (.int p1), .val (.long q2), .second, .val (.long q3), .second, .val (.long q4), .second, .val (.int p5), .val (.ref cb), .val (.ref sid), .val (.ref rt), .val (.ref ag), .val (.ref hd), .val (.ref f1), .unset, .unset, .unset, .unset, .unset] [(.int (1 : Int32))])
  refine own_goS (fun _ k => XS.istore X61.here hx rfl (hb hby at_117) rfl (l' := #[.val (.int p0), .val (.int p1), .val (.long q2), .second, .val (.long q3), .second, .val (.long q4), .second, .val (.int p5), .val (.ref cb), .val (.ref sid), .val (.ref rt), .val (.ref ag), .val (.ref hd), .val (.ref f1), .val (.int (1 : Int32)), .unset, .unset, .unset, .unset]) rfl k) ?_
  show own_EndsS _ _ _ _ _ _ _ T61 (mkF m 119 #[.val (.int p0), .val (.int p1), .val (.long q2), .second, .val (.long q3), .second, .val (.long q4), .second, .val (.int p5), .val (.ref cb), .val (.ref sid), .val (.ref rt), .val (.ref ag), .val (.ref hd), .val (.ref f1), .val (.int (1 : Int32)), .unset, .unset, .unset, .unset] [])
  refine own_goS (fun _ k => XS.iload X61.here hx rfl (hb hby at_119) rfl k) ?_
  show own_EndsS _ _ _ _ _ _ _ T61 (mkF m 121 #[.val (.int p0), .val (.int p1), .val (.long q2), .second, .val (.long q3), .second, .val (.long q4), .second, .val (.int p5), .val (.ref cb), .val (.ref sid), .val (.ref rt), .val (.ref ag), .val (.ref hd), .val (.ref f1), .val (.int (1 : Int32)), .unset, .unset, .unset, .unset] [(.int p5)])
  refine own_goS (fun _ k => XS.iconst X61.here hx rfl (hb hby at_121) k) ?_
  show own_EndsS _ _ _ _ _ _ _ T61 (mkF m 122 #[.val (.int p0), .val (.int p1), .val (.long q2), .second, .val (.long q3), .second, .val (.long q4), .second, .val (.int p5), .val (.ref cb), .val (.ref sid), .val (.ref rt), .val (.ref ag), .val (.ref hd), .val (.ref f1), .val (.int (1 : Int32)), .unset, .unset, .unset, .unset] [(.int (1 : Int32)), (.int p5)])
  refine own_goS (fun _ k => XS.iand X61.here hx rfl (hb hby at_122) rfl k) ?_
  show own_EndsS _ _ _ _ _ _ _ T61 (mkF m 123 #[.val (.int p0), .val (.int p1), .val (.long q2), .second, .val (.long q3), .second, .val (.long q4), .second, .val (.int p5), .val (.ref cb), .val (.ref sid), .val (.ref rt), .val (.ref ag), .val (.ref hd), .val (.ref f1), .val (.int (1 : Int32)), .unset, .unset, .unset, .unset] [(.int (p5 &&& (1 : Int32)))])
  by_cases hmv : (p5 &&& (1 : Int32)) = (0 : Int32)
  · refine own_goS (fun _ k => XS.ifYes X61.here hx rfl (pc0 := 123) (pc' := 130) rfl (hb hby at_123) rfl ((if0 _ _).trans (teq hmv).1) (by decide) (by decide) k) ?_
    show own_EndsS _ _ _ _ _ _ _ T61 (mkF m 130 #[.val (.int p0), .val (.int p1), .val (.long q2), .second, .val (.long q3), .second, .val (.long q4), .second, .val (.int p5), .val (.ref cb), .val (.ref sid), .val (.ref rt), .val (.ref ag), .val (.ref hd), .val (.ref f1), .val (.int (1 : Int32)), .unset, .unset, .unset, .unset] [])
    refine own_goS (fun _ k => XS.iconst X61.here hx rfl (hb hby at_130) k) ?_
    show own_EndsS _ _ _ _ _ _ _ T61 (mkF m 131 #[.val (.int p0), .val (.int p1), .val (.long q2), .second, .val (.long q3), .second, .val (.long q4), .second, .val (.int p5), .val (.ref cb), .val (.ref sid), .val (.ref rt), .val (.ref ag), .val (.ref hd), .val (.ref f1), .val (.int (1 : Int32)), .unset, .unset, .unset, .unset] [(.int (0 : Int32))])
    refine own_goS (fun _ k => XS.istore X61.here hx rfl (hb hby at_131) rfl (l' := #[.val (.int p0), .val (.int p1), .val (.long q2), .second, .val (.long q3), .second, .val (.long q4), .second, .val (.int p5), .val (.ref cb), .val (.ref sid), .val (.ref rt), .val (.ref ag), .val (.ref hd), .val (.ref f1), .val (.int (1 : Int32)), .val (.int (0 : Int32)), .unset, .unset, .unset]) rfl k) ?_
    show own_EndsS _ _ _ _ _ _ _ T61 (mkF m 133 #[.val (.int p0), .val (.int p1), .val (.long q2), .second, .val (.long q3), .second, .val (.long q4), .second, .val (.int p5), .val (.ref cb), .val (.ref sid), .val (.ref rt), .val (.ref ag), .val (.ref hd), .val (.ref f1), .val (.int (1 : Int32)), .val (.int (0 : Int32)), .unset, .unset, .unset] [])
    refine own_goS (fun _ k => XS.lloadN X61.here hx rfl (hb hby at_133) rfl k) ?_
    show own_EndsS _ _ _ _ _ _ _ T61 (mkF m 134 #[.val (.int p0), .val (.int p1), .val (.long q2), .second, .val (.long q3), .second, .val (.long q4), .second, .val (.int p5), .val (.ref cb), .val (.ref sid), .val (.ref rt), .val (.ref ag), .val (.ref hd), .val (.ref f1), .val (.int (1 : Int32)), .val (.int (0 : Int32)), .unset, .unset, .unset] [(.long q2)])
    refine own_goS (fun _ k => XS.lstore X61.here hx rfl (hb hby at_134) rfl (l' := #[.val (.int p0), .val (.int p1), .val (.long q2), .second, .val (.long q3), .second, .val (.long q4), .second, .val (.int p5), .val (.ref cb), .val (.ref sid), .val (.ref rt), .val (.ref ag), .val (.ref hd), .val (.ref f1), .val (.int (1 : Int32)), .val (.int (0 : Int32)), .val (.long q2), .second, .unset]) rfl k) ?_
    show own_EndsS _ _ _ _ _ _ _ T61 (mkF m 136 #[.val (.int p0), .val (.int p1), .val (.long q2), .second, .val (.long q3), .second, .val (.long q4), .second, .val (.int p5), .val (.ref cb), .val (.ref sid), .val (.ref rt), .val (.ref ag), .val (.ref hd), .val (.ref f1), .val (.int (1 : Int32)), .val (.int (0 : Int32)), .val (.long q2), .second, .unset] [])
    refine own_goS (fun _ k => XS.iload X61.here hx rfl (hb hby at_136) rfl k) ?_
    show own_EndsS _ _ _ _ _ _ _ T61 (mkF m 138 #[.val (.int p0), .val (.int p1), .val (.long q2), .second, .val (.long q3), .second, .val (.long q4), .second, .val (.int p5), .val (.ref cb), .val (.ref sid), .val (.ref rt), .val (.ref ag), .val (.ref hd), .val (.ref f1), .val (.int (1 : Int32)), .val (.int (0 : Int32)), .val (.long q2), .second, .unset] [(.int (0 : Int32))])
    refine own_goS (fun _ k => XS.ifYes X61.here hx rfl (pc0 := 138) (pc' := 152) rfl (hb hby at_138) rfl ((if0 _ _).trans (teq (rfl)).1) (by decide) (by decide) k) ?_
    show own_EndsS _ _ _ _ _ _ _ T61 (mkF m 152 #[.val (.int p0), .val (.int p1), .val (.long q2), .second, .val (.long q3), .second, .val (.long q4), .second, .val (.int p5), .val (.ref cb), .val (.ref sid), .val (.ref rt), .val (.ref ag), .val (.ref hd), .val (.ref f1), .val (.int (1 : Int32)), .val (.int (0 : Int32)), .val (.long q2), .second, .unset] [])
    refine own_goS (fun _ k => XS.aload X61.here hx rfl (hb hby at_152) rfl rfl k) ?_
    show own_EndsS _ _ _ _ _ _ _ T61 (mkF m 154 #[.val (.int p0), .val (.int p1), .val (.long q2), .second, .val (.long q3), .second, .val (.long q4), .second, .val (.int p5), .val (.ref cb), .val (.ref sid), .val (.ref rt), .val (.ref ag), .val (.ref hd), .val (.ref f1), .val (.int (1 : Int32)), .val (.int (0 : Int32)), .val (.long q2), .second, .unset] [(.ref hd)])
    obtain ⟨v62, T62, L62, X62, hQ62, SI62, hZ62, hown62, st62⟩ := own_callSV X61 hx hZ57 SI57 (by rw [e61]; exact (Nat.le_refl _)) hown57 (hw _ (List.mem_of_getElem? (i := 96) rfl)) (hw _ (List.mem_of_getElem? (i := 97) rfl)) (hw _ (List.mem_of_getElem? (i := 99) rfl)) (hw _ (List.mem_of_getElem? (i := 98) rfl)) (hw _ (List.mem_of_getElem? (i := 65) rfl)) (hw _ (List.mem_of_getElem? (i := 100) rfl)) (rm15 l Z a0 hw hd T57.heap h0.size sid q2 rt K_57.1 E_hd_57 F_hd_identifier_57 F_hd_version_57 F_hd_root_57) e61 (g := (mkF m 154 #[.val (.int p0), .val (.int p1), .val (.long q2), .second, .val (.long q3), .second, .val (.long q4), .second, .val (.int p5), .val (.ref cb), .val (.ref sid), .val (.ref rt), .val (.ref ag), .val (.ref hd), .val (.ref f1), .val (.int (1 : Int32)), .val (.int (0 : Int32)), .val (.long q2), .second, .unset] [(.ref hd)])) rfl (by rw [hml]; rfl) (a := hd) (argsL := []) (rest := []) (E_hd_57) (lenOf pd_14 rfl) rfl rfl (W := 0) (by show 2 * 0 + _ ≤ _; exact Nat.le_of_eq rfl) (hb hby at_154) (by decide) (by decide) (by decide) (by decide) (by decide)
    obtain ⟨f2, rfl, N62q, K62, s62, E62, Fi62, Fv62, Fr62⟩ := hQ62
    refine own_goS st62 ?_
    have N62 := Fr.app N61 N62q
    have K_62 := K_57.trans K62 all0
    have E_sid_62 := E_sid_57.keep K62
    have E_ag_62 := E_ag_57.keep K62
    have F_ag_identifier_62 := F_ag_identifier_57.keep K62 nin0
    have F_ag_version_62 := F_ag_version_57.keep K62 nin0
    have F_ag_root_62 := F_ag_root_57.keep K62 nin0
    have E_hd_62 := E_hd_57.keep K62
    have F_hd_identifier_62 := F_hd_identifier_57.keep K62 nin0
    have F_hd_version_62 := F_hd_version_57.keep K62 nin0
    have F_hd_root_62 := F_hd_root_57.keep K62 nin0
    have E_f1_62 := E57.keep K62
    have F_f1_identifier_62 := Fi57.keep K62 nin0
    have F_f1_version_62 := Fv57.keep K62 nin0
    have F_f1_root_62 := Fr57.keep K62 nin0
    show own_EndsS _ _ _ _ _ _ _ T62 (mkF m 157 #[.val (.int p0), .val (.int p1), .val (.long q2), .second, .val (.long q3), .second, .val (.long q4), .second, .val (.int p5), .val (.ref cb), .val (.ref sid), .val (.ref rt), .val (.ref ag), .val (.ref hd), .val (.ref f1), .val (.int (1 : Int32)), .val (.int (0 : Int32)), .val (.long q2), .second, .unset] [(.ref f2)])
    have ne_hd_f2 : hd ≠ f2 := Nat.ne_of_lt (Nat.lt_of_lt_of_le E_hd_57.lt s62)
    refine own_goS (fun _ k => XS.astore X62.here hx rfl (hb hby at_157) rfl rfl (l' := #[.val (.int p0), .val (.int p1), .val (.long q2), .second, .val (.long q3), .second, .val (.long q4), .second, .val (.int p5), .val (.ref cb), .val (.ref sid), .val (.ref rt), .val (.ref ag), .val (.ref hd), .val (.ref f1), .val (.int (1 : Int32)), .val (.int (0 : Int32)), .val (.long q2), .second, .val (.ref f2)]) rfl k) ?_
    show own_EndsS _ _ _ _ _ _ _ T62 (mkF m 159 #[.val (.int p0), .val (.int p1), .val (.long q2), .second, .val (.long q3), .second, .val (.long q4), .second, .val (.int p5), .val (.ref cb), .val (.ref sid), .val (.ref rt), .val (.ref ag), .val (.ref hd), .val (.ref f1), .val (.int (1 : Int32)), .val (.int (0 : Int32)), .val (.long q2), .second, .val (.ref f2)] [])
    refine own_goS (fun _ k => XS.iload X62.here hx rfl (hb hby at_159) rfl k) ?_
    show own_EndsS _ _ _ _ _ _ _ T62 (mkF m 161 #[.val (.int p0), .val (.int p1), .val (.long q2), .second, .val (.long q3), .second, .val (.long q4), .second, .val (.int p5), .val (.ref cb), .val (.ref sid), .val (.ref rt), .val (.ref ag), .val (.ref hd), .val (.ref f1), .val (.int (1 : Int32)), .val (.int (0 : Int32)), .val (.long q2), .second, .val (.ref f2)] [(.int (1 : Int32))])
    refine own_goS (fun _ k => XS.ifNo X62.here hx rfl (hb hby at_161) rfl ((if0 _ _).trans (feq (by decide)).1) k) ?_
    show own_EndsS _ _ _ _ _ _ _ T62 (mkF m 164 #[.val (.int p0), .val (.int p1), .val (.long q2), .second, .val (.long q3), .second, .val (.long q4), .second, .val (.int p5), .val (.ref cb), .val (.ref sid), .val (.ref rt), .val (.ref ag), .val (.ref hd), .val (.ref f1), .val (.int (1 : Int32)), .val (.int (0 : Int32)), .val (.long q2), .second, .val (.ref f2)] [])
    refine own_goS (fun _ k => XS.aload X62.here hx rfl (hb hby at_164) rfl rfl k) ?_
    show own_EndsS _ _ _ _ _ _ _ T62 (mkF m 166 #[.val (.int p0), .val (.int p1), .val (.long q2), .second, .val (.long q3), .second, .val (.long q4), .second, .val (.int p5), .val (.ref cb), .val (.ref sid), .val (.ref rt), .val (.ref ag), .val (.ref hd), .val (.ref f1), .val (.int (1 : Int32)), .val (.int (0 : Int32)), .val (.long q2), .second, .val (.ref f2)] [(.ref f2)])
    obtain ⟨v63, T63, L63, X63, hQ63, st63⟩ := own_callV X62 hx hZ62 hown62 (hw _ (List.mem_of_getElem? (i := 103) rfl)) (hw _ (List.mem_of_getElem? (i := 74) rfl)) (hw _ (List.mem_of_getElem? (i := 76) rfl)) (hw _ (List.mem_of_getElem? (i := 75) rfl)) (hw _ (List.mem_of_getElem? (i := 39) rfl)) (hw _ (List.mem_of_getElem? (i := 77) rfl)) (rm12 l Z a0 hw f2 T62.heap sid Fi62) rfl (g := (mkF m 166 #[.val (.int p0), .val (.int p1), .val (.long q2), .second, .val (.long q3), .second, .val (.long q4), .second, .val (.int p5), .val (.ref cb), .val (.ref sid), .val (.ref rt), .val (.ref ag), .val (.ref hd), .val (.ref f1), .val (.int (1 : Int32)), .val (.int (0 : Int32)), .val (.long q2), .second, .val (.ref f2)] [(.ref f2)])) rfl (by rw [hml]; rfl) (a := f2) (argsL := []) (rest := []) (E62) (lenOf pd_7 rfl) rfl rfl (W := 0) (by show 2 * 0 + _ ≤ _; exact Nat.le_of_eq rfl) (hb hby at_166) (by decide) (by decide) (by decide) (by decide) (by decide)
    obtain ⟨rfl, rfl, e63⟩ := hQ63
    refine own_goS st63 ?_
    have N63 := Fr.app N62 (Fr.nil _)
    show own_EndsS _ _ _ _ _ _ _ T63 (mkF m 169 #[.val (.int p0), .val (.int p1), .val (.long q2), .second, .val (.long q3), .second, .val (.long q4), .second, .val (.int p5), .val (.ref cb), .val (.ref sid), .val (.ref rt), .val (.ref ag), .val (.ref hd), .val (.ref f1), .val (.int (1 : Int32)), .val (.int (0 : Int32)), .val (.long q2), .second, .val (.ref f2)] [(.ref sid)])
    refine own_goS (fun _ k => XS.aload X63.here hx rfl (hb hby at_169) rfl rfl k) ?_
    show own_EndsS _ _ _ _ _ _ _ T63 (mkF m 171 #[.val (.int p0), .val (.int p1), .val (.long q2), .second, .val (.long q3), .second, .val (.long q4), .second, .val (.int p5), .val (.ref cb), .val (.ref sid), .val (.ref rt), .val (.ref ag), .val (.ref hd), .val (.ref f1), .val (.int (1 : Int32)), .val (.int (0 : Int32)), .val (.long q2), .second, .val (.ref f2)] [(.ref sid), (.ref sid)])
    obtain ⟨v64, T64, L64, X64, hQ64, st64⟩ := own_callV X63 hx hZ62 hown62 (hw _ (List.mem_of_getElem? (i := 104) rfl)) (hw _ (List.mem_of_getElem? (i := 105) rfl)) (hw _ (List.mem_of_getElem? (i := 107) rfl)) (hw _ (List.mem_of_getElem? (i := 106) rfl)) (hw _ (List.mem_of_getElem? (i := 3) rfl)) (hw _ (List.mem_of_getElem? (i := 108) rfl)) (rm16 l Z a0 hw sid sid T62.heap rfl) e63 (g := (mkF m 171 #[.val (.int p0), .val (.int p1), .val (.long q2), .second, .val (.long q3), .second, .val (.long q4), .second, .val (.int p5), .val (.ref cb), .val (.ref sid), .val (.ref rt), .val (.ref ag), .val (.ref hd), .val (.ref f1), .val (.int (1 : Int32)), .val (.int (0 : Int32)), .val (.long q2), .second, .val (.ref f2)] [(.ref sid), (.ref sid)])) rfl (by rw [hml]; rfl) (a := sid) (argsL := [(.ref sid)]) (rest := []) (E_sid_62) (lenOf pd_15 rfl) rfl rfl (W := 0) (by show 2 * 0 + _ ≤ _; exact Nat.le_of_eq rfl) (hb hby at_171) (by decide) (by decide) (by decide) (by decide) (by decide)
    obtain ⟨rfl, rfl, e64⟩ := hQ64
    refine own_goS st64 ?_
    have N64 := Fr.app N63 (Fr.nil _)
    show own_EndsS _ _ _ _ _ _ _ T64 (mkF m 174 #[.val (.int p0), .val (.int p1), .val (.long q2), .second, .val (.long q3), .second, .val (.long q4), .second, .val (.int p5), .val (.ref cb), .val (.ref sid), .val (.ref rt), .val (.ref ag), .val (.ref hd), .val (.ref f1), .val (.int (1 : Int32)), .val (.int (0 : Int32)), .val (.long q2), .second, .val (.ref f2)] [(.int (1 : Int32))])
    refine own_goS (fun _ k => XS.ifNo X64.here hx rfl (hb hby at_174) rfl ((if0 _ _).trans (feq (by decide)).1) k) ?_
    show own_EndsS _ _ _ _ _ _ _ T64 (mkF m 177 #[.val (.int p0), .val (.int p1), .val (.long q2), .second, .val (.long q3), .second, .val (.long q4), .second, .val (.int p5), .val (.ref cb), .val (.ref sid), .val (.ref rt), .val (.ref ag), .val (.ref hd), .val (.ref f1), .val (.int (1 : Int32)), .val (.int (0 : Int32)), .val (.long q2), .second, .val (.ref f2)] [])
    refine own_goS (fun _ k => XS.aload X64.here hx rfl (hb hby at_177) rfl rfl k) ?_
    show own_EndsS _ _ _ _ _ _ _ T64 (mkF m 179 #[.val (.int p0), .val (.int p1), .val (.long q2), .second, .val (.long q3), .second, .val (.long q4), .second, .val (.int p5), .val (.ref cb), .val (.ref sid), .val (.ref rt), .val (.ref ag), .val (.ref hd), .val (.ref f1), .val (.int (1 : Int32)), .val (.int (0 : Int32)), .val (.long q2), .second, .val (.ref f2)] [(.ref f2)])
    obtain ⟨v65, T65, L65, X65, hQ65, st65⟩ := own_callV X64 hx hZ62 hown62 (hw _ (List.mem_of_getElem? (i := 109) rfl)) (hw _ (List.mem_of_getElem? (i := 88) rfl)) (hw _ (List.mem_of_getElem? (i := 90) rfl)) (hw _ (List.mem_of_getElem? (i := 89) rfl)) (hw _ (List.mem_of_getElem? (i := 39) rfl)) (hw _ (List.mem_of_getElem? (i := 91) rfl)) (rm14 l Z a0 hw f2 T62.heap q2 Fv62) e64 (g := (mkF m 179 #[.val (.int p0), .val (.int p1), .val (.long q2), .second, .val (.long q3), .second, .val (.long q4), .second, .val (.int p5), .val (.ref cb), .val (.ref sid), .val (.ref rt), .val (.ref ag), .val (.ref hd), .val (.ref f1), .val (.int (1 : Int32)), .val (.int (0 : Int32)), .val (.long q2), .second, .val (.ref f2)] [(.ref f2)])) rfl (by rw [hml]; rfl) (a := f2) (argsL := []) (rest := []) (E62) (lenOf pd_9 rfl) rfl rfl (W := 0) (by show 2 * 0 + _ ≤ _; exact Nat.le_of_eq rfl) (hb hby at_179) (by decide) (by decide) (by decide) (by decide) (by decide)
    obtain ⟨rfl, rfl, e65⟩ := hQ65
    refine own_goS st65 ?_
    have N65 := Fr.app N64 (Fr.nil _)
    show own_EndsS _ _ _ _ _ _ _ T65 (mkF m 182 #[.val (.int p0), .val (.int p1), .val (.long q2), .second, .val (.long q3), .second, .val (.long q4), .second, .val (.int p5), .val (.ref cb), .val (.ref sid), .val (.ref rt), .val (.ref ag), .val (.ref hd), .val (.ref f1), .val (.int (1 : Int32)), .val (.int (0 : Int32)), .val (.long q2), .second, .val (.ref f2)] [(.long q2)])
    refine own_goS (fun _ k => XS.lload X65.here hx rfl (hb hby at_182) rfl k) ?_
    show own_EndsS _ _ _ _ _ _ _ T65 (mkF m 184 #[.val (.int p0), .val (.int p1), .val (.long q2), .second, .val (.long q3), .second, .val (.long q4), .second, .val (.int p5), .val (.ref cb), .val (.ref sid), .val (.ref rt), .val (.ref ag), .val (.ref hd), .val (.ref f1), .val (.int (1 : Int32)), .val (.int (0 : Int32)), .val (.long q2), .second, .val (.ref f2)] [(.long q2), (.long q2)])
    refine own_goS (fun _ k => XS.lcmp X65.here hx rfl (hb hby at_184) rfl k) ?_
    show own_EndsS _ _ _ _ _ _ _ T65 (mkF m 185 #[.val (.int p0), .val (.int p1), .val (.long q2), .second, .val (.long q3), .second, .val (.long q4), .second, .val (.int p5), .val (.ref cb), .val (.ref sid), .val (.ref rt), .val (.ref ag), .val (.ref hd), .val (.ref f1), .val (.int (1 : Int32)), .val (.int (0 : Int32)), .val (.long q2), .second, .val (.ref f2)] [(.int (lcmpW q2 q2))])
    refine own_goS (fun _ k => XS.ifNo X65.here hx rfl (hb hby at_185) rfl (own_let rfl).2 k) ?_
    show own_EndsS _ _ _ _ _ _ _ T65 (mkF m 188 #[.val (.int p0), .val (.int p1), .val (.long q2), .second, .val (.long q3), .second, .val (.long q4), .second, .val (.int p5), .val (.ref cb), .val (.ref sid), .val (.ref rt), .val (.ref ag), .val (.ref hd), .val (.ref f1), .val (.int (1 : Int32)), .val (.int (0 : Int32)), .val (.long q2), .second, .val (.ref f2)] [])
    refine own_goS (fun _ k => XS.aload X65.here hx rfl (hb hby at_188) rfl rfl k) ?_
    show own_EndsS _ _ _ _ _ _ _ T65 (mkF m 190 #[.val (.int p0), .val (.int p1), .val (.long q2), .second, .val (.long q3), .second, .val (.long q4), .second, .val (.int p5), .val (.ref cb), .val (.ref sid), .val (.ref rt), .val (.ref ag), .val (.ref hd), .val (.ref f1), .val (.int (1 : Int32)), .val (.int (0 : Int32)), .val (.long q2), .second, .val (.ref f2)] [(.ref f2)])
    obtain ⟨v66, T66, L66, X66, hQ66, st66⟩ := own_callV X65 hx hZ62 hown62 (hw _ (List.mem_of_getElem? (i := 110) rfl)) (hw _ (List.mem_of_getElem? (i := 81) rfl)) (hw _ (List.mem_of_getElem? (i := 83) rfl)) (hw _ (List.mem_of_getElem? (i := 82) rfl)) (hw _ (List.mem_of_getElem? (i := 39) rfl)) (hw _ (List.mem_of_getElem? (i := 84) rfl)) (rm13 l Z a0 hw f2 T62.heap rt Fr62) e65 (g := (mkF m 190 #[.val (.int p0), .val (.int p1), .val (.long q2), .second, .val (.long q3), .second, .val (.long q4), .second, .val (.int p5), .val (.ref cb), .val (.ref sid), .val (.ref rt), .val (.ref ag), .val (.ref hd), .val (.ref f1), .val (.int (1 : Int32)), .val (.int (0 : Int32)), .val (.long q2), .second, .val (.ref f2)] [(.ref f2)])) rfl (by rw [hml]; rfl) (a := f2) (argsL := []) (rest := []) (E62) (lenOf pd_8 rfl) rfl rfl (W := 0) (by show 2 * 0 + _ ≤ _; exact Nat.le_of_eq rfl) (hb hby at_190) (by decide) (by decide) (by decide) (by decide) (by decide)
    obtain ⟨rfl, rfl, e66⟩ := hQ66
    refine own_goS st66 ?_
    have N66 := Fr.app N65 (Fr.nil _)
    show own_EndsS _ _ _ _ _ _ _ T66 (mkF m 193 #[.val (.int p0), .val (.int p1), .val (.long q2), .second, .val (.long q3), .second, .val (.long q4), .second, .val (.int p5), .val (.ref cb), .val (.ref sid), .val (.ref rt), .val (.ref ag), .val (.ref hd), .val (.ref f1), .val (.int (1 : Int32)), .val (.int (0 : Int32)), .val (.long q2), .second, .val (.ref f2)] [(.ref rt)])
    refine own_goS (fun _ k => XS.aload X66.here hx rfl (hb hby at_193) rfl rfl k) ?_
    show own_EndsS _ _ _ _ _ _ _ T66 (mkF m 195 #[.val (.int p0), .val (.int p1), .val (.long q2), .second, .val (.long q3), .second, .val (.long q4), .second, .val (.int p5), .val (.ref cb), .val (.ref sid), .val (.ref rt), .val (.ref ag), .val (.ref hd), .val (.ref f1), .val (.int (1 : Int32)), .val (.int (0 : Int32)), .val (.long q2), .second, .val (.ref f2)] [(.ref rt), (.ref rt)])
    refine own_goS (fun _ k => Jvm.RoadKit.acmp (g := (mkF m 195 #[.val (.int p0), .val (.int p1), .val (.long q2), .second, .val (.long q3), .second, .val (.long q4), .second, .val (.int p5), .val (.ref cb), .val (.ref sid), .val (.ref rt), .val (.ref ag), .val (.ref hd), .val (.ref f1), .val (.int (1 : Int32)), .val (.int (0 : Int32)), .val (.long q2), .second, .val (.ref f2)] [(.ref rt), (.ref rt)])) X66 hx rfl rfl rfl (pc0 := 195) (pc' := 198) (same := true) rfl (hb hby at_195) rfl ((decide_eq_true rfl)) (by decide) (by decide) k) ?_
    show own_EndsS _ _ _ _ _ _ _ T66 (mkF m 198 #[.val (.int p0), .val (.int p1), .val (.long q2), .second, .val (.long q3), .second, .val (.long q4), .second, .val (.int p5), .val (.ref cb), .val (.ref sid), .val (.ref rt), .val (.ref ag), .val (.ref hd), .val (.ref f1), .val (.int (1 : Int32)), .val (.int (0 : Int32)), .val (.long q2), .second, .val (.ref f2)] [])
    refine own_goS (fun _ k => XS.aload X66.here hx rfl (hb hby at_198) rfl rfl k) ?_
    show own_EndsS _ _ _ _ _ _ _ T66 (mkF m 200 #[.val (.int p0), .val (.int p1), .val (.long q2), .second, .val (.long q3), .second, .val (.long q4), .second, .val (.int p5), .val (.ref cb), .val (.ref sid), .val (.ref rt), .val (.ref ag), .val (.ref hd), .val (.ref f1), .val (.int (1 : Int32)), .val (.int (0 : Int32)), .val (.long q2), .second, .val (.ref f2)] [(.ref f1)])
    obtain ⟨v67, T67, L67, X67, hQ67, st67⟩ := own_callV X66 hx hZ62 hown62 (hw _ (List.mem_of_getElem? (i := 109) rfl)) (hw _ (List.mem_of_getElem? (i := 88) rfl)) (hw _ (List.mem_of_getElem? (i := 90) rfl)) (hw _ (List.mem_of_getElem? (i := 89) rfl)) (hw _ (List.mem_of_getElem? (i := 39) rfl)) (hw _ (List.mem_of_getElem? (i := 91) rfl)) (rm14 l Z a0 hw f1 T62.heap q2 F_f1_version_62) e66 (g := (mkF m 200 #[.val (.int p0), .val (.int p1), .val (.long q2), .second, .val (.long q3), .second, .val (.long q4), .second, .val (.int p5), .val (.ref cb), .val (.ref sid), .val (.ref rt), .val (.ref ag), .val (.ref hd), .val (.ref f1), .val (.int (1 : Int32)), .val (.int (0 : Int32)), .val (.long q2), .second, .val (.ref f2)] [(.ref f1)])) rfl (by rw [hml]; rfl) (a := f1) (argsL := []) (rest := []) (E_f1_62) (lenOf pd_9 rfl) rfl rfl (W := 0) (by show 2 * 0 + _ ≤ _; exact Nat.le_of_eq rfl) (hb hby at_200) (by decide) (by decide) (by decide) (by decide) (by decide)
    obtain ⟨rfl, rfl, e67⟩ := hQ67
    refine own_goS st67 ?_
    have N67 := Fr.app N66 (Fr.nil _)
    show own_EndsS _ _ _ _ _ _ _ T67 (mkF m 203 #[.val (.int p0), .val (.int p1), .val (.long q2), .second, .val (.long q3), .second, .val (.long q4), .second, .val (.int p5), .val (.ref cb), .val (.ref sid), .val (.ref rt), .val (.ref ag), .val (.ref hd), .val (.ref f1), .val (.int (1 : Int32)), .val (.int (0 : Int32)), .val (.long q2), .second, .val (.ref f2)] [(.long q2)])
    refine own_goS (fun _ k => XS.lloadN X67.here hx rfl (hb hby at_203) rfl k) ?_
    show own_EndsS _ _ _ _ _ _ _ T67 (mkF m 204 #[.val (.int p0), .val (.int p1), .val (.long q2), .second, .val (.long q3), .second, .val (.long q4), .second, .val (.int p5), .val (.ref cb), .val (.ref sid), .val (.ref rt), .val (.ref ag), .val (.ref hd), .val (.ref f1), .val (.int (1 : Int32)), .val (.int (0 : Int32)), .val (.long q2), .second, .val (.ref f2)] [(.long q2), (.long q2)])
    refine own_goS (fun _ k => XS.lcmp X67.here hx rfl (hb hby at_204) rfl k) ?_
    show own_EndsS _ _ _ _ _ _ _ T67 (mkF m 205 #[.val (.int p0), .val (.int p1), .val (.long q2), .second, .val (.long q3), .second, .val (.long q4), .second, .val (.int p5), .val (.ref cb), .val (.ref sid), .val (.ref rt), .val (.ref ag), .val (.ref hd), .val (.ref f1), .val (.int (1 : Int32)), .val (.int (0 : Int32)), .val (.long q2), .second, .val (.ref f2)] [(.int (lcmpW q2 q2))])
    refine own_goS (fun _ k => XS.ifNo X67.here hx rfl (hb hby at_205) rfl (own_let rfl).2 k) ?_
    show own_EndsS _ _ _ _ _ _ _ T67 (mkF m 208 #[.val (.int p0), .val (.int p1), .val (.long q2), .second, .val (.long q3), .second, .val (.long q4), .second, .val (.int p5), .val (.ref cb), .val (.ref sid), .val (.ref rt), .val (.ref ag), .val (.ref hd), .val (.ref f1), .val (.int (1 : Int32)), .val (.int (0 : Int32)), .val (.long q2), .second, .val (.ref f2)] [])
    refine own_goS (fun _ k => XS.iconst X67.here hx rfl (hb hby at_208) k) ?_
    show own_EndsS _ _ _ _ _ _ _ T67 (mkF m 209 #[.val (.int p0), .val (.int p1), .val (.long q2), .second, .val (.long q3), .second, .val (.long q4), .second, .val (.int p5), .val (.ref cb), .val (.ref sid), .val (.ref rt), .val (.ref ag), .val (.ref hd), .val (.ref f1), .val (.int (1 : Int32)), .val (.int (0 : Int32)), .val (.long q2), .second, .val (.ref f2)] [(.int (1 : Int32))])
    refine own_goS (fun _ k => XS.goto X67.here hx rfl (pc0 := 209) (pc' := 213) rfl (hb hby at_209) (by decide) (by decide) k) ?_
    show own_EndsS _ _ _ _ _ _ _ T67 (mkF m 213 #[.val (.int p0), .val (.int p1), .val (.long q2), .second, .val (.long q3), .second, .val (.long q4), .second, .val (.int p5), .val (.ref cb), .val (.ref sid), .val (.ref rt), .val (.ref ag), .val (.ref hd), .val (.ref f1), .val (.int (1 : Int32)), .val (.int (0 : Int32)), .val (.long q2), .second, .val (.ref f2)] [(.int (1 : Int32))])
    refine own_goS (fun _ k => XS.istore X67.here hx rfl (hb hby at_213) rfl (l' := #[.val (.int p0), .val (.int p1), .val (.long q2), .second, .val (.long q3), .second, .val (.long q4), .second, .val (.int p5), .val (.ref cb), .val (.ref sid), .val (.ref rt), .val (.ref ag), .val (.ref hd), .val (.ref f1), .val (.int (1 : Int32)), .val (.int (0 : Int32)), .val (.long q2), .second, .val (.ref f2)]) rfl k) ?_
    show own_EndsS _ _ _ _ _ _ _ T67 (mkF m 215 #[.val (.int p0), .val (.int p1), .val (.long q2), .second, .val (.long q3), .second, .val (.long q4), .second, .val (.int p5), .val (.ref cb), .val (.ref sid), .val (.ref rt), .val (.ref ag), .val (.ref hd), .val (.ref f1), .val (.int (1 : Int32)), .val (.int (0 : Int32)), .val (.long q2), .second, .val (.ref f2)] [])
    refine own_goS (fun _ k => XS.iload X67.here hx rfl (hb hby at_215) rfl k) ?_
    show own_EndsS _ _ _ _ _ _ _ T67 (mkF m 217 #[.val (.int p0), .val (.int p1), .val (.long q2), .second, .val (.long q3), .second, .val (.long q4), .second, .val (.int p5), .val (.ref cb), .val (.ref sid), .val (.ref rt), .val (.ref ag), .val (.ref hd), .val (.ref f1), .val (.int (1 : Int32)), .val (.int (0 : Int32)), .val (.long q2), .second, .val (.ref f2)] [(.int (1 : Int32))])
    exact own_retS X67 hx hlk SI62 (by rw [e67]; exact (Nat.le_refl _)) hret rfl (Or.inl ⟨rfl, by simp, _, rfl⟩) (hb hby at_217) (by decide) (by decide) ⟨rfl, N67⟩
  · refine own_goS (fun _ k => XS.ifNo X61.here hx rfl (hb hby at_123) rfl ((if0 _ _).trans (feq hmv).1) k) ?_
    show own_EndsS _ _ _ _ _ _ _ T61 (mkF m 126 #[.val (.int p0), .val (.int p1), .val (.long q2), .second, .val (.long q3), .second, .val (.long q4), .second, .val (.int p5), .val (.ref cb), .val (.ref sid), .val (.ref rt), .val (.ref ag), .val (.ref hd), .val (.ref f1), .val (.int (1 : Int32)), .unset, .unset, .unset, .unset] [])
    refine own_goS (fun _ k => XS.iconst X61.here hx rfl (hb hby at_126) k) ?_
    show own_EndsS _ _ _ _ _ _ _ T61 (mkF m 127 #[.val (.int p0), .val (.int p1), .val (.long q2), .second, .val (.long q3), .second, .val (.long q4), .second, .val (.int p5), .val (.ref cb), .val (.ref sid), .val (.ref rt), .val (.ref ag), .val (.ref hd), .val (.ref f1), .val (.int (1 : Int32)), .unset, .unset, .unset, .unset] [(.int (1 : Int32))])
    refine own_goS (fun _ k => XS.goto X61.here hx rfl (pc0 := 127) (pc' := 131) rfl (hb hby at_127) (by decide) (by decide) k) ?_
    show own_EndsS _ _ _ _ _ _ _ T61 (mkF m 131 #[.val (.int p0), .val (.int p1), .val (.long q2), .second, .val (.long q3), .second, .val (.long q4), .second, .val (.int p5), .val (.ref cb), .val (.ref sid), .val (.ref rt), .val (.ref ag), .val (.ref hd), .val (.ref f1), .val (.int (1 : Int32)), .unset, .unset, .unset, .unset] [(.int (1 : Int32))])
    refine own_goS (fun _ k => XS.istore X61.here hx rfl (hb hby at_131) rfl (l' := #[.val (.int p0), .val (.int p1), .val (.long q2), .second, .val (.long q3), .second, .val (.long q4), .second, .val (.int p5), .val (.ref cb), .val (.ref sid), .val (.ref rt), .val (.ref ag), .val (.ref hd), .val (.ref f1), .val (.int (1 : Int32)), .val (.int (1 : Int32)), .unset, .unset, .unset]) rfl k) ?_
    show own_EndsS _ _ _ _ _ _ _ T61 (mkF m 133 #[.val (.int p0), .val (.int p1), .val (.long q2), .second, .val (.long q3), .second, .val (.long q4), .second, .val (.int p5), .val (.ref cb), .val (.ref sid), .val (.ref rt), .val (.ref ag), .val (.ref hd), .val (.ref f1), .val (.int (1 : Int32)), .val (.int (1 : Int32)), .unset, .unset, .unset] [])
    refine own_goS (fun _ k => XS.lloadN X61.here hx rfl (hb hby at_133) rfl k) ?_
    show own_EndsS _ _ _ _ _ _ _ T61 (mkF m 134 #[.val (.int p0), .val (.int p1), .val (.long q2), .second, .val (.long q3), .second, .val (.long q4), .second, .val (.int p5), .val (.ref cb), .val (.ref sid), .val (.ref rt), .val (.ref ag), .val (.ref hd), .val (.ref f1), .val (.int (1 : Int32)), .val (.int (1 : Int32)), .unset, .unset, .unset] [(.long q2)])
    refine own_goS (fun _ k => XS.lstore X61.here hx rfl (hb hby at_134) rfl (l' := #[.val (.int p0), .val (.int p1), .val (.long q2), .second, .val (.long q3), .second, .val (.long q4), .second, .val (.int p5), .val (.ref cb), .val (.ref sid), .val (.ref rt), .val (.ref ag), .val (.ref hd), .val (.ref f1), .val (.int (1 : Int32)), .val (.int (1 : Int32)), .val (.long q2), .second, .unset]) rfl k) ?_
    show own_EndsS _ _ _ _ _ _ _ T61 (mkF m 136 #[.val (.int p0), .val (.int p1), .val (.long q2), .second, .val (.long q3), .second, .val (.long q4), .second, .val (.int p5), .val (.ref cb), .val (.ref sid), .val (.ref rt), .val (.ref ag), .val (.ref hd), .val (.ref f1), .val (.int (1 : Int32)), .val (.int (1 : Int32)), .val (.long q2), .second, .unset] [])
    refine own_goS (fun _ k => XS.iload X61.here hx rfl (hb hby at_136) rfl k) ?_
    show own_EndsS _ _ _ _ _ _ _ T61 (mkF m 138 #[.val (.int p0), .val (.int p1), .val (.long q2), .second, .val (.long q3), .second, .val (.long q4), .second, .val (.int p5), .val (.ref cb), .val (.ref sid), .val (.ref rt), .val (.ref ag), .val (.ref hd), .val (.ref f1), .val (.int (1 : Int32)), .val (.int (1 : Int32)), .val (.long q2), .second, .unset] [(.int (1 : Int32))])
    refine own_goS (fun _ k => XS.ifNo X61.here hx rfl (hb hby at_138) rfl ((if0 _ _).trans (feq (by decide)).1) k) ?_
    show own_EndsS _ _ _ _ _ _ _ T61 (mkF m 141 #[.val (.int p0), .val (.int p1), .val (.long q2), .second, .val (.long q3), .second, .val (.long q4), .second, .val (.int p5), .val (.ref cb), .val (.ref sid), .val (.ref rt), .val (.ref ag), .val (.ref hd), .val (.ref f1), .val (.int (1 : Int32)), .val (.int (1 : Int32)), .val (.long q2), .second, .unset] [])
    refine own_goS (fun _ k => XS.aload X61.here hx rfl (hb hby at_141) rfl rfl k) ?_
    show own_EndsS _ _ _ _ _ _ _ T61 (mkF m 143 #[.val (.int p0), .val (.int p1), .val (.long q2), .second, .val (.long q3), .second, .val (.long q4), .second, .val (.int p5), .val (.ref cb), .val (.ref sid), .val (.ref rt), .val (.ref ag), .val (.ref hd), .val (.ref f1), .val (.int (1 : Int32)), .val (.int (1 : Int32)), .val (.long q2), .second, .unset] [(.ref hd)])
    refine own_goS (fun _ k => XS.lload X61.here hx rfl (hb hby at_143) rfl k) ?_
    show own_EndsS _ _ _ _ _ _ _ T61 (mkF m 145 #[.val (.int p0), .val (.int p1), .val (.long q2), .second, .val (.long q3), .second, .val (.long q4), .second, .val (.int p5), .val (.ref cb), .val (.ref sid), .val (.ref rt), .val (.ref ag), .val (.ref hd), .val (.ref f1), .val (.int (1 : Int32)), .val (.int (1 : Int32)), .val (.long q2), .second, .unset] [(.long q4), (.ref hd)])
    obtain ⟨T68, h68, X68, e68, W68, st68⟩ := putF X61 hx hZ57 hown57 (host := "") (Or.inl (hw _ (List.mem_of_getElem? (i := 111) rfl))) Via.refl e61 F_hd_version_57 E_hd_57 (Or.inl (hw _ (List.mem_of_getElem? (i := 93) rfl))) (hw _ (List.mem_of_getElem? (i := 64) rfl)) (ty := .long) (by decide) rfl rfl (g := (mkF m 145 #[.val (.int p0), .val (.int p1), .val (.long q2), .second, .val (.long q3), .second, .val (.long q4), .second, .val (.int p5), .val (.ref cb), .val (.ref sid), .val (.ref rt), .val (.ref ag), .val (.ref hd), .val (.ref f1), .val (.int (1 : Int32)), .val (.int (1 : Int32)), .val (.long q2), .second, .unset] [(.long q4), (.ref hd)])) rfl rfl (hb hby at_145)
    have N68 := Fr.snoc X68 N61 g_hd
    have K_68 := K_57.wr W68 (Or.inr sz_hd)
    have E_sid_68 := E_sid_57.wr W68
    have E_ag_68 := E_ag_57.wr W68
    have F_ag_identifier_68 := F_ag_identifier_57.other W68 (Or.inl ne_ag_hd)
    have F_ag_version_68 := F_ag_version_57.other W68 (Or.inl ne_ag_hd)
    have F_ag_root_68 := F_ag_root_57.other W68 (Or.inl ne_ag_hd)
    have E_hd_68 := E_hd_57.wr W68
    have F_hd_identifier_68 := F_hd_identifier_57.other W68 (Or.inr (slot_ne (Or.inr (hw _ (List.mem_of_getElem? (i := 79) rfl))) (Or.inl (hw _ (List.mem_of_getElem? (i := 93) rfl))) (by decide) (t := (.object "java/lang/String")) (t' := .long) (by decide) (by decide)))
    have F_hd_version_68 := F_hd_version_57.same W68
    have F_hd_root_68 := F_hd_root_57.other W68 (Or.inr (slot_ne (Or.inr (hw _ (List.mem_of_getElem? (i := 86) rfl))) (Or.inl (hw _ (List.mem_of_getElem? (i := 93) rfl))) (by decide) (t := (.object "java/lang/Object")) (t' := .long) (by decide) (by decide)))
    have hk_68 := Nat.le_trans (Nat.le_refl _) (Nat.le_of_eq W68.size.symm)
    have E_f1_68 := E57.wr W68
    have F_f1_identifier_68 := Fi57.other W68 (Or.inl (Ne.symm ne_hd_f1))
    have F_f1_version_68 := Fv57.other W68 (Or.inl (Ne.symm ne_hd_f1))
    have F_f1_root_68 := Fr57.other W68 (Or.inl (Ne.symm ne_hd_f1))
    refine own_goS st68 ?_
    show own_EndsS _ _ _ _ _ _ _ T68 (mkF m 148 #[.val (.int p0), .val (.int p1), .val (.long q2), .second, .val (.long q3), .second, .val (.long q4), .second, .val (.int p5), .val (.ref cb), .val (.ref sid), .val (.ref rt), .val (.ref ag), .val (.ref hd), .val (.ref f1), .val (.int (1 : Int32)), .val (.int (1 : Int32)), .val (.long q2), .second, .unset] [])
    refine own_goS (fun _ k => XS.lload X68.here hx rfl (hb hby at_148) rfl k) ?_
    show own_EndsS _ _ _ _ _ _ _ T68 (mkF m 150 #[.val (.int p0), .val (.int p1), .val (.long q2), .second, .val (.long q3), .second, .val (.long q4), .second, .val (.int p5), .val (.ref cb), .val (.ref sid), .val (.ref rt), .val (.ref ag), .val (.ref hd), .val (.ref f1), .val (.int (1 : Int32)), .val (.int (1 : Int32)), .val (.long q2), .second, .unset] [(.long q4)])
    refine own_goS (fun _ k => XS.lstore X68.here hx rfl (hb hby at_150) rfl (l' := #[.val (.int p0), .val (.int p1), .val (.long q2), .second, .val (.long q3), .second, .val (.long q4), .second, .val (.int p5), .val (.ref cb), .val (.ref sid), .val (.ref rt), .val (.ref ag), .val (.ref hd), .val (.ref f1), .val (.int (1 : Int32)), .val (.int (1 : Int32)), .val (.long q4), .second, .unset]) rfl k) ?_
    show own_EndsS _ _ _ _ _ _ _ T68 (mkF m 152 #[.val (.int p0), .val (.int p1), .val (.long q2), .second, .val (.long q3), .second, .val (.long q4), .second, .val (.int p5), .val (.ref cb), .val (.ref sid), .val (.ref rt), .val (.ref ag), .val (.ref hd), .val (.ref f1), .val (.int (1 : Int32)), .val (.int (1 : Int32)), .val (.long q4), .second, .unset] [])
    refine own_goS (fun _ k => XS.aload X68.here hx rfl (hb hby at_152) rfl rfl k) ?_
    show own_EndsS _ _ _ _ _ _ _ T68 (mkF m 154 #[.val (.int p0), .val (.int p1), .val (.long q2), .second, .val (.long q3), .second, .val (.long q4), .second, .val (.int p5), .val (.ref cb), .val (.ref sid), .val (.ref rt), .val (.ref ag), .val (.ref hd), .val (.ref f1), .val (.int (1 : Int32)), .val (.int (1 : Int32)), .val (.long q4), .second, .unset] [(.ref hd)])
    obtain ⟨v69, T69, L69, X69, hQ69, SI69, hZ69, hown69, st69⟩ := own_callSV X68 hx hZ57 SI57 (by rw [e68]; exact hk_68) hown57 (hw _ (List.mem_of_getElem? (i := 96) rfl)) (hw _ (List.mem_of_getElem? (i := 97) rfl)) (hw _ (List.mem_of_getElem? (i := 99) rfl)) (hw _ (List.mem_of_getElem? (i := 98) rfl)) (hw _ (List.mem_of_getElem? (i := 65) rfl)) (hw _ (List.mem_of_getElem? (i := 100) rfl)) (rm15 l Z a0 hw hd h68 h0.size sid q4 rt K_68.1 E_hd_68 F_hd_identifier_68 F_hd_version_68 F_hd_root_68) e68 (g := (mkF m 154 #[.val (.int p0), .val (.int p1), .val (.long q2), .second, .val (.long q3), .second, .val (.long q4), .second, .val (.int p5), .val (.ref cb), .val (.ref sid), .val (.ref rt), .val (.ref ag), .val (.ref hd), .val (.ref f1), .val (.int (1 : Int32)), .val (.int (1 : Int32)), .val (.long q4), .second, .unset] [(.ref hd)])) rfl (by rw [hml]; rfl) (a := hd) (argsL := []) (rest := []) (E_hd_68) (lenOf pd_14 rfl) rfl rfl (W := 0) (by show 2 * 0 + _ ≤ _; exact Nat.le_of_eq rfl) (hb hby at_154) (by decide) (by decide) (by decide) (by decide) (by decide)
    obtain ⟨f2, rfl, N69q, K69, s69, E69, Fi69, Fv69, Fr69⟩ := hQ69
    refine own_goS st69 ?_
    have N69 := Fr.app N68 N69q
    have K_69 := K_68.trans K69 all0
    have E_sid_69 := E_sid_68.keep K69
    have E_ag_69 := E_ag_68.keep K69
    have F_ag_identifier_69 := F_ag_identifier_68.keep K69 nin0
    have F_ag_version_69 := F_ag_version_68.keep K69 nin0
    have F_ag_root_69 := F_ag_root_68.keep K69 nin0
    have E_hd_69 := E_hd_68.keep K69
    have F_hd_identifier_69 := F_hd_identifier_68.keep K69 nin0
    have F_hd_version_69 := F_hd_version_68.keep K69 nin0
    have F_hd_root_69 := F_hd_root_68.keep K69 nin0
    have E_f1_69 := E_f1_68.keep K69
    have F_f1_identifier_69 := F_f1_identifier_68.keep K69 nin0
    have F_f1_version_69 := F_f1_version_68.keep K69 nin0
    have F_f1_root_69 := F_f1_root_68.keep K69 nin0
    show own_EndsS _ _ _ _ _ _ _ T69 (mkF m 157 #[.val (.int p0), .val (.int p1), .val (.long q2), .second, .val (.long q3), .second, .val (.long q4), .second, .val (.int p5), .val (.ref cb), .val (.ref sid), .val (.ref rt), .val (.ref ag), .val (.ref hd), .val (.ref f1), .val (.int (1 : Int32)), .val (.int (1 : Int32)), .val (.long q4), .second, .unset] [(.ref f2)])
    have ne_hd_f2 : hd ≠ f2 := Nat.ne_of_lt (Nat.lt_of_lt_of_le E_hd_68.lt s69)
    refine own_goS (fun _ k => XS.astore X69.here hx rfl (hb hby at_157) rfl rfl (l' := #[.val (.int p0), .val (.int p1), .val (.long q2), .second, .val (.long q3), .second, .val (.long q4), .second, .val (.int p5), .val (.ref cb), .val (.ref sid), .val (.ref rt), .val (.ref ag), .val (.ref hd), .val (.ref f1), .val (.int (1 : Int32)), .val (.int (1 : Int32)), .val (.long q4), .second, .val (.ref f2)]) rfl k) ?_
    show own_EndsS _ _ _ _ _ _ _ T69 (mkF m 159 #[.val (.int p0), .val (.int p1), .val (.long q2), .second, .val (.long q3), .second, .val (.long q4), .second, .val (.int p5), .val (.ref cb), .val (.ref sid), .val (.ref rt), .val (.ref ag), .val (.ref hd), .val (.ref f1), .val (.int (1 : Int32)), .val (.int (1 : Int32)), .val (.long q4), .second, .val (.ref f2)] [])
    refine own_goS (fun _ k => XS.iload X69.here hx rfl (hb hby at_159) rfl k) ?_
    show own_EndsS _ _ _ _ _ _ _ T69 (mkF m 161 #[.val (.int p0), .val (.int p1), .val (.long q2), .second, .val (.long q3), .second, .val (.long q4), .second, .val (.int p5), .val (.ref cb), .val (.ref sid), .val (.ref rt), .val (.ref ag), .val (.ref hd), .val (.ref f1), .val (.int (1 : Int32)), .val (.int (1 : Int32)), .val (.long q4), .second, .val (.ref f2)] [(.int (1 : Int32))])
    refine own_goS (fun _ k => XS.ifNo X69.here hx rfl (hb hby at_161) rfl ((if0 _ _).trans (feq (by decide)).1) k) ?_
    show own_EndsS _ _ _ _ _ _ _ T69 (mkF m 164 #[.val (.int p0), .val (.int p1), .val (.long q2), .second, .val (.long q3), .second, .val (.long q4), .second, .val (.int p5), .val (.ref cb), .val (.ref sid), .val (.ref rt), .val (.ref ag), .val (.ref hd), .val (.ref f1), .val (.int (1 : Int32)), .val (.int (1 : Int32)), .val (.long q4), .second, .val (.ref f2)] [])
    refine own_goS (fun _ k => XS.aload X69.here hx rfl (hb hby at_164) rfl rfl k) ?_
    show own_EndsS _ _ _ _ _ _ _ T69 (mkF m 166 #[.val (.int p0), .val (.int p1), .val (.long q2), .second, .val (.long q3), .second, .val (.long q4), .second, .val (.int p5), .val (.ref cb), .val (.ref sid), .val (.ref rt), .val (.ref ag), .val (.ref hd), .val (.ref f1), .val (.int (1 : Int32)), .val (.int (1 : Int32)), .val (.long q4), .second, .val (.ref f2)] [(.ref f2)])
    obtain ⟨v70, T70, L70, X70, hQ70, st70⟩ := own_callV X69 hx hZ69 hown69 (hw _ (List.mem_of_getElem? (i := 103) rfl)) (hw _ (List.mem_of_getElem? (i := 74) rfl)) (hw _ (List.mem_of_getElem? (i := 76) rfl)) (hw _ (List.mem_of_getElem? (i := 75) rfl)) (hw _ (List.mem_of_getElem? (i := 39) rfl)) (hw _ (List.mem_of_getElem? (i := 77) rfl)) (rm12 l Z a0 hw f2 T69.heap sid Fi69) rfl (g := (mkF m 166 #[.val (.int p0), .val (.int p1), .val (.long q2), .second, .val (.long q3), .second, .val (.long q4), .second, .val (.int p5), .val (.ref cb), .val (.ref sid), .val (.ref rt), .val (.ref ag), .val (.ref hd), .val (.ref f1), .val (.int (1 : Int32)), .val (.int (1 : Int32)), .val (.long q4), .second, .val (.ref f2)] [(.ref f2)])) rfl (by rw [hml]; rfl) (a := f2) (argsL := []) (rest := []) (E69) (lenOf pd_7 rfl) rfl rfl (W := 0) (by show 2 * 0 + _ ≤ _; exact Nat.le_of_eq rfl) (hb hby at_166) (by decide) (by decide) (by decide) (by decide) (by decide)
    obtain ⟨rfl, rfl, e70⟩ := hQ70
    refine own_goS st70 ?_
    have N70 := Fr.app N69 (Fr.nil _)
    show own_EndsS _ _ _ _ _ _ _ T70 (mkF m 169 #[.val (.int p0), .val (.int p1), .val (.long q2), .second, .val (.long q3), .second, .val (.long q4), .second, .val (.int p5), .val (.ref cb), .val (.ref sid), .val (.ref rt), .val (.ref ag), .val (.ref hd), .val (.ref f1), .val (.int (1 : Int32)), .val (.int (1 : Int32)), .val (.long q4), .second, .val (.ref f2)] [(.ref sid)])
    refine own_goS (fun _ k => XS.aload X70.here hx rfl (hb hby at_169) rfl rfl k) ?_
    show own_EndsS _ _ _ _ _ _ _ T70 (mkF m 171 #[.val (.int p0), .val (.int p1), .val (.long q2), .second, .val (.long q3), .second, .val (.long q4), .second, .val (.int p5), .val (.ref cb), .val (.ref sid), .val (.ref rt), .val (.ref ag), .val (.ref hd), .val (.ref f1), .val (.int (1 : Int32)), .val (.int (1 : Int32)), .val (.long q4), .second, .val (.ref f2)] [(.ref sid), (.ref sid)])
    obtain ⟨v71, T71, L71, X71, hQ71, st71⟩ := own_callV X70 hx hZ69 hown69 (hw _ (List.mem_of_getElem? (i := 104) rfl)) (hw _ (List.mem_of_getElem? (i := 105) rfl)) (hw _ (List.mem_of_getElem? (i := 107) rfl)) (hw _ (List.mem_of_getElem? (i := 106) rfl)) (hw _ (List.mem_of_getElem? (i := 3) rfl)) (hw _ (List.mem_of_getElem? (i := 108) rfl)) (rm16 l Z a0 hw sid sid T69.heap rfl) e70 (g := (mkF m 171 #[.val (.int p0), .val (.int p1), .val (.long q2), .second, .val (.long q3), .second, .val (.long q4), .second, .val (.int p5), .val (.ref cb), .val (.ref sid), .val (.ref rt), .val (.ref ag), .val (.ref hd), .val (.ref f1), .val (.int (1 : Int32)), .val (.int (1 : Int32)), .val (.long q4), .second, .val (.ref f2)] [(.ref sid), (.ref sid)])) rfl (by rw [hml]; rfl) (a := sid) (argsL := [(.ref sid)]) (rest := []) (E_sid_69) (lenOf pd_15 rfl) rfl rfl (W := 0) (by show 2 * 0 + _ ≤ _; exact Nat.le_of_eq rfl) (hb hby at_171) (by decide) (by decide) (by decide) (by decide) (by decide)
    obtain ⟨rfl, rfl, e71⟩ := hQ71
    refine own_goS st71 ?_
    have N71 := Fr.app N70 (Fr.nil _)
    show own_EndsS _ _ _ _ _ _ _ T71 (mkF m 174 #[.val (.int p0), .val (.int p1), .val (.long q2), .second, .val (.long q3), .second, .val (.long q4), .second, .val (.int p5), .val (.ref cb), .val (.ref sid), .val (.ref rt), .val (.ref ag), .val (.ref hd), .val (.ref f1), .val (.int (1 : Int32)), .val (.int (1 : Int32)), .val (.long q4), .second, .val (.ref f2)] [(.int (1 : Int32))])
    refine own_goS (fun _ k => XS.ifNo X71.here hx rfl (hb hby at_174) rfl ((if0 _ _).trans (feq (by decide)).1) k) ?_
    show own_EndsS _ _ _ _ _ _ _ T71 (mkF m 177 #[.val (.int p0), .val (.int p1), .val (.long q2), .second, .val (.long q3), .second, .val (.long q4), .second, .val (.int p5), .val (.ref cb), .val (.ref sid), .val (.ref rt), .val (.ref ag), .val (.ref hd), .val (.ref f1), .val (.int (1 : Int32)), .val (.int (1 : Int32)), .val (.long q4), .second, .val (.ref f2)] [])
    refine own_goS (fun _ k => XS.aload X71.here hx rfl (hb hby at_177) rfl rfl k) ?_
    show own_EndsS _ _ _ _ _ _ _ T71 (mkF m 179 #[.val (.int p0), .val (.int p1), .val (.long q2), .second, .val (.long q3), .second, .val (.long q4), .second, .val (.int p5), .val (.ref cb), .val (.ref sid), .val (.ref rt), .val (.ref ag), .val (.ref hd), .val (.ref f1), .val (.int (1 : Int32)), .val (.int (1 : Int32)), .val (.long q4), .second, .val (.ref f2)] [(.ref f2)])
    obtain ⟨v72, T72, L72, X72, hQ72, st72⟩ := own_callV X71 hx hZ69 hown69 (hw _ (List.mem_of_getElem? (i := 109) rfl)) (hw _ (List.mem_of_getElem? (i := 88) rfl)) (hw _ (List.mem_of_getElem? (i := 90) rfl)) (hw _ (List.mem_of_getElem? (i := 89) rfl)) (hw _ (List.mem_of_getElem? (i := 39) rfl)) (hw _ (List.mem_of_getElem? (i := 91) rfl)) (rm14 l Z a0 hw f2 T69.heap q4 Fv69) e71 (g := (mkF m 179 #[.val (.int p0), .val (.int p1), .val (.long q2), .second, .val (.long q3), .second, .val (.long q4), .second, .val (.int p5), .val (.ref cb), .val (.ref sid), .val (.ref rt), .val (.ref ag), .val (.ref hd), .val (.ref f1), .val (.int (1 : Int32)), .val (.int (1 : Int32)), .val (.long q4), .second, .val (.ref f2)] [(.ref f2)])) rfl (by rw [hml]; rfl) (a := f2) (argsL := []) (rest := []) (E69) (lenOf pd_9 rfl) rfl rfl (W := 0) (by show 2 * 0 + _ ≤ _; exact Nat.le_of_eq rfl) (hb hby at_179) (by decide) (by decide) (by decide) (by decide) (by decide)
    obtain ⟨rfl, rfl, e72⟩ := hQ72
    refine own_goS st72 ?_
    have N72 := Fr.app N71 (Fr.nil _)
    show own_EndsS _ _ _ _ _ _ _ T72 (mkF m 182 #[.val (.int p0), .val (.int p1), .val (.long q2), .second, .val (.long q3), .second, .val (.long q4), .second, .val (.int p5), .val (.ref cb), .val (.ref sid), .val (.ref rt), .val (.ref ag), .val (.ref hd), .val (.ref f1), .val (.int (1 : Int32)), .val (.int (1 : Int32)), .val (.long q4), .second, .val (.ref f2)] [(.long q4)])
    refine own_goS (fun _ k => XS.lload X72.here hx rfl (hb hby at_182) rfl k) ?_
    show own_EndsS _ _ _ _ _ _ _ T72 (mkF m 184 #[.val (.int p0), .val (.int p1), .val (.long q2), .second, .val (.long q3), .second, .val (.long q4), .second, .val (.int p5), .val (.ref cb), .val (.ref sid), .val (.ref rt), .val (.ref ag), .val (.ref hd), .val (.ref f1), .val (.int (1 : Int32)), .val (.int (1 : Int32)), .val (.long q4), .second, .val (.ref f2)] [(.long q4), (.long q4)])
    refine own_goS (fun _ k => XS.lcmp X72.here hx rfl (hb hby at_184) rfl k) ?_
    show own_EndsS _ _ _ _ _ _ _ T72 (mkF m 185 #[.val (.int p0), .val (.int p1), .val (.long q2), .second, .val (.long q3), .second, .val (.long q4), .second, .val (.int p5), .val (.ref cb), .val (.ref sid), .val (.ref rt), .val (.ref ag), .val (.ref hd), .val (.ref f1), .val (.int (1 : Int32)), .val (.int (1 : Int32)), .val (.long q4), .second, .val (.ref f2)] [(.int (lcmpW q4 q4))])
    refine own_goS (fun _ k => XS.ifNo X72.here hx rfl (hb hby at_185) rfl (own_let rfl).2 k) ?_
    show own_EndsS _ _ _ _ _ _ _ T72 (mkF m 188 #[.val (.int p0), .val (.int p1), .val (.long q2), .second, .val (.long q3), .second, .val (.long q4), .second, .val (.int p5), .val (.ref cb), .val (.ref sid), .val (.ref rt), .val (.ref ag), .val (.ref hd), .val (.ref f1), .val (.int (1 : Int32)), .val (.int (1 : Int32)), .val (.long q4), .second, .val (.ref f2)] [])
    refine own_goS (fun _ k => XS.aload X72.here hx rfl (hb hby at_188) rfl rfl k) ?_
    show own_EndsS _ _ _ _ _ _ _ T72 (mkF m 190 #[.val (.int p0), .val (.int p1), .val (.long q2), .second, .val (.long q3), .second, .val (.long q4), .second, .val (.int p5), .val (.ref cb), .val (.ref sid), .val (.ref rt), .val (.ref ag), .val (.ref hd), .val (.ref f1), .val (.int (1 : Int32)), .val (.int (1 : Int32)), .val (.long q4), .second, .val (.ref f2)] [(.ref f2)])
    obtain ⟨v73, T73, L73, X73, hQ73, st73⟩ := own_callV X72 hx hZ69 hown69 (hw _ (List.mem_of_getElem? (i := 110) rfl)) (hw _ (List.mem_of_getElem? (i := 81) rfl)) (hw _ (List.mem_of_getElem? (i := 83) rfl)) (hw _ (List.mem_of_getElem? (i := 82) rfl)) (hw _ (List.mem_of_getElem? (i := 39) rfl)) (hw _ (List.mem_of_getElem? (i := 84) rfl)) (rm13 l Z a0 hw f2 T69.heap rt Fr69) e72 (g := (mkF m 190 #[.val (.int p0), .val (.int p1), .val (.long q2), .second, .val (.long q3), .second, .val (.long q4), .second, .val (.int p5), .val (.ref cb), .val (.ref sid), .val (.ref rt), .val (.ref ag), .val (.ref hd), .val (.ref f1), .val (.int (1 : Int32)), .val (.int (1 : Int32)), .val (.long q4), .second, .val (.ref f2)] [(.ref f2)])) rfl (by rw [hml]; rfl) (a := f2) (argsL := []) (rest := []) (E69) (lenOf pd_8 rfl) rfl rfl (W := 0) (by show 2 * 0 + _ ≤ _; exact Nat.le_of_eq rfl) (hb hby at_190) (by decide) (by decide) (by decide) (by decide) (by decide)
    obtain ⟨rfl, rfl, e73⟩ := hQ73
    refine own_goS st73 ?_
    have N73 := Fr.app N72 (Fr.nil _)
    show own_EndsS _ _ _ _ _ _ _ T73 (mkF m 193 #[.val (.int p0), .val (.int p1), .val (.long q2), .second, .val (.long q3), .second, .val (.long q4), .second, .val (.int p5), .val (.ref cb), .val (.ref sid), .val (.ref rt), .val (.ref ag), .val (.ref hd), .val (.ref f1), .val (.int (1 : Int32)), .val (.int (1 : Int32)), .val (.long q4), .second, .val (.ref f2)] [(.ref rt)])
    refine own_goS (fun _ k => XS.aload X73.here hx rfl (hb hby at_193) rfl rfl k) ?_
    show own_EndsS _ _ _ _ _ _ _ T73 (mkF m 195 #[.val (.int p0), .val (.int p1), .val (.long q2), .second, .val (.long q3), .second, .val (.long q4), .second, .val (.int p5), .val (.ref cb), .val (.ref sid), .val (.ref rt), .val (.ref ag), .val (.ref hd), .val (.ref f1), .val (.int (1 : Int32)), .val (.int (1 : Int32)), .val (.long q4), .second, .val (.ref f2)] [(.ref rt), (.ref rt)])
    refine own_goS (fun _ k => Jvm.RoadKit.acmp (g := (mkF m 195 #[.val (.int p0), .val (.int p1), .val (.long q2), .second, .val (.long q3), .second, .val (.long q4), .second, .val (.int p5), .val (.ref cb), .val (.ref sid), .val (.ref rt), .val (.ref ag), .val (.ref hd), .val (.ref f1), .val (.int (1 : Int32)), .val (.int (1 : Int32)), .val (.long q4), .second, .val (.ref f2)] [(.ref rt), (.ref rt)])) X73 hx rfl rfl rfl (pc0 := 195) (pc' := 198) (same := true) rfl (hb hby at_195) rfl ((decide_eq_true rfl)) (by decide) (by decide) k) ?_
    show own_EndsS _ _ _ _ _ _ _ T73 (mkF m 198 #[.val (.int p0), .val (.int p1), .val (.long q2), .second, .val (.long q3), .second, .val (.long q4), .second, .val (.int p5), .val (.ref cb), .val (.ref sid), .val (.ref rt), .val (.ref ag), .val (.ref hd), .val (.ref f1), .val (.int (1 : Int32)), .val (.int (1 : Int32)), .val (.long q4), .second, .val (.ref f2)] [])
    refine own_goS (fun _ k => XS.aload X73.here hx rfl (hb hby at_198) rfl rfl k) ?_
    show own_EndsS _ _ _ _ _ _ _ T73 (mkF m 200 #[.val (.int p0), .val (.int p1), .val (.long q2), .second, .val (.long q3), .second, .val (.long q4), .second, .val (.int p5), .val (.ref cb), .val (.ref sid), .val (.ref rt), .val (.ref ag), .val (.ref hd), .val (.ref f1), .val (.int (1 : Int32)), .val (.int (1 : Int32)), .val (.long q4), .second, .val (.ref f2)] [(.ref f1)])
    obtain ⟨v74, T74, L74, X74, hQ74, st74⟩ := own_callV X73 hx hZ69 hown69 (hw _ (List.mem_of_getElem? (i := 109) rfl)) (hw _ (List.mem_of_getElem? (i := 88) rfl)) (hw _ (List.mem_of_getElem? (i := 90) rfl)) (hw _ (List.mem_of_getElem? (i := 89) rfl)) (hw _ (List.mem_of_getElem? (i := 39) rfl)) (hw _ (List.mem_of_getElem? (i := 91) rfl)) (rm14 l Z a0 hw f1 T69.heap q2 F_f1_version_69) e73 (g := (mkF m 200 #[.val (.int p0), .val (.int p1), .val (.long q2), .second, .val (.long q3), .second, .val (.long q4), .second, .val (.int p5), .val (.ref cb), .val (.ref sid), .val (.ref rt), .val (.ref ag), .val (.ref hd), .val (.ref f1), .val (.int (1 : Int32)), .val (.int (1 : Int32)), .val (.long q4), .second, .val (.ref f2)] [(.ref f1)])) rfl (by rw [hml]; rfl) (a := f1) (argsL := []) (rest := []) (E_f1_69) (lenOf pd_9 rfl) rfl rfl (W := 0) (by show 2 * 0 + _ ≤ _; exact Nat.le_of_eq rfl) (hb hby at_200) (by decide) (by decide) (by decide) (by decide) (by decide)
    obtain ⟨rfl, rfl, e74⟩ := hQ74
    refine own_goS st74 ?_
    have N74 := Fr.app N73 (Fr.nil _)
    show own_EndsS _ _ _ _ _ _ _ T74 (mkF m 203 #[.val (.int p0), .val (.int p1), .val (.long q2), .second, .val (.long q3), .second, .val (.long q4), .second, .val (.int p5), .val (.ref cb), .val (.ref sid), .val (.ref rt), .val (.ref ag), .val (.ref hd), .val (.ref f1), .val (.int (1 : Int32)), .val (.int (1 : Int32)), .val (.long q4), .second, .val (.ref f2)] [(.long q2)])
    refine own_goS (fun _ k => XS.lloadN X74.here hx rfl (hb hby at_203) rfl k) ?_
    show own_EndsS _ _ _ _ _ _ _ T74 (mkF m 204 #[.val (.int p0), .val (.int p1), .val (.long q2), .second, .val (.long q3), .second, .val (.long q4), .second, .val (.int p5), .val (.ref cb), .val (.ref sid), .val (.ref rt), .val (.ref ag), .val (.ref hd), .val (.ref f1), .val (.int (1 : Int32)), .val (.int (1 : Int32)), .val (.long q4), .second, .val (.ref f2)] [(.long q2), (.long q2)])
    refine own_goS (fun _ k => XS.lcmp X74.here hx rfl (hb hby at_204) rfl k) ?_
    show own_EndsS _ _ _ _ _ _ _ T74 (mkF m 205 #[.val (.int p0), .val (.int p1), .val (.long q2), .second, .val (.long q3), .second, .val (.long q4), .second, .val (.int p5), .val (.ref cb), .val (.ref sid), .val (.ref rt), .val (.ref ag), .val (.ref hd), .val (.ref f1), .val (.int (1 : Int32)), .val (.int (1 : Int32)), .val (.long q4), .second, .val (.ref f2)] [(.int (lcmpW q2 q2))])
    refine own_goS (fun _ k => XS.ifNo X74.here hx rfl (hb hby at_205) rfl (own_let rfl).2 k) ?_
    show own_EndsS _ _ _ _ _ _ _ T74 (mkF m 208 #[.val (.int p0), .val (.int p1), .val (.long q2), .second, .val (.long q3), .second, .val (.long q4), .second, .val (.int p5), .val (.ref cb), .val (.ref sid), .val (.ref rt), .val (.ref ag), .val (.ref hd), .val (.ref f1), .val (.int (1 : Int32)), .val (.int (1 : Int32)), .val (.long q4), .second, .val (.ref f2)] [])
    refine own_goS (fun _ k => XS.iconst X74.here hx rfl (hb hby at_208) k) ?_
    show own_EndsS _ _ _ _ _ _ _ T74 (mkF m 209 #[.val (.int p0), .val (.int p1), .val (.long q2), .second, .val (.long q3), .second, .val (.long q4), .second, .val (.int p5), .val (.ref cb), .val (.ref sid), .val (.ref rt), .val (.ref ag), .val (.ref hd), .val (.ref f1), .val (.int (1 : Int32)), .val (.int (1 : Int32)), .val (.long q4), .second, .val (.ref f2)] [(.int (1 : Int32))])
    refine own_goS (fun _ k => XS.goto X74.here hx rfl (pc0 := 209) (pc' := 213) rfl (hb hby at_209) (by decide) (by decide) k) ?_
    show own_EndsS _ _ _ _ _ _ _ T74 (mkF m 213 #[.val (.int p0), .val (.int p1), .val (.long q2), .second, .val (.long q3), .second, .val (.long q4), .second, .val (.int p5), .val (.ref cb), .val (.ref sid), .val (.ref rt), .val (.ref ag), .val (.ref hd), .val (.ref f1), .val (.int (1 : Int32)), .val (.int (1 : Int32)), .val (.long q4), .second, .val (.ref f2)] [(.int (1 : Int32))])
    refine own_goS (fun _ k => XS.istore X74.here hx rfl (hb hby at_213) rfl (l' := #[.val (.int p0), .val (.int p1), .val (.long q2), .second, .val (.long q3), .second, .val (.long q4), .second, .val (.int p5), .val (.ref cb), .val (.ref sid), .val (.ref rt), .val (.ref ag), .val (.ref hd), .val (.ref f1), .val (.int (1 : Int32)), .val (.int (1 : Int32)), .val (.long q4), .second, .val (.ref f2)]) rfl k) ?_
    show own_EndsS _ _ _ _ _ _ _ T74 (mkF m 215 #[.val (.int p0), .val (.int p1), .val (.long q2), .second, .val (.long q3), .second, .val (.long q4), .second, .val (.int p5), .val (.ref cb), .val (.ref sid), .val (.ref rt), .val (.ref ag), .val (.ref hd), .val (.ref f1), .val (.int (1 : Int32)), .val (.int (1 : Int32)), .val (.long q4), .second, .val (.ref f2)] [])
    refine own_goS (fun _ k => XS.iload X74.here hx rfl (hb hby at_215) rfl k) ?_
    show own_EndsS _ _ _ _ _ _ _ T74 (mkF m 217 #[.val (.int p0), .val (.int p1), .val (.long q2), .second, .val (.long q3), .second, .val (.long q4), .second, .val (.int p5), .val (.ref cb), .val (.ref sid), .val (.ref rt), .val (.ref ag), .val (.ref hd), .val (.ref f1), .val (.int (1 : Int32)), .val (.int (1 : Int32)), .val (.long q4), .second, .val (.ref f2)] [(.int (1 : Int32))])
    exact own_retS X74 hx hlk SI69 (by rw [e74]; exact (Nat.le_refl _)) hret rfl (Or.inl ⟨rfl, by simp, _, rfl⟩) (hb hby at_217) (by decide) (by decide) ⟨rfl, N74⟩
set_option maxRecDepth 65536 in
set_option maxHeartbeats 40000000 in
theorem comes_1 {Post : Tables → Env → Array Value → State → Outcome → State → Prop} (hpost : ∀ tb e args s v u, (limb_1_1.after args s (.returned v) u = true ∧ limb_1_2.after args s (.returned v) u = true ∧ True) → FramedW s (.returned v) u (Jvm.fieldLocs frame_1_writes args s ++ Jvm.arrayLocs frame_1_arrays args s ++ Jvm.staticLocs frame_1_statics s) 32 2176 → Post tb e args s (.returned v) u) :
    ArmFor flags0 classFile x code maxLocals ret World_1 tables_1 room_1 Calls_1 rest_1 Pre_1 Post := by
  intro l hfl _ _ p e ha hc hk s m args below hf hA hF happ hP
  obtain ⟨hcalls, hrest, hpre⟩ := hP
  obtain ⟨-, -, -, hnamed, -, -, -, hat⟩ := (Spec.applies_iff hf).mp happ
  obtain ⟨hg, hn⟩ := and_e (Cond.before_iff.mp (show (Jvm.Cond.and given_1 narrow_1).before args s = true from hpre))
  obtain ⟨g0, gr0⟩ := and_e hg
  obtain ⟨ga0, gr1⟩ := and_e gr0
  obtain ⟨ga1, gr2⟩ := and_e gr1
  obtain ⟨ga2, gr3⟩ := and_e gr2
  obtain ⟨ga3, gr4⟩ := and_e gr3
  obtain ⟨ga4, gr5⟩ := and_e gr4
  have ga5 := gr5
  obtain ⟨w0, w1, w2, w3, w4, w5, rfl⟩ : ∃ w0 w1 w2 w3 w4 w5 : Value, args = #[w0, w1, w2, w3, w4, w5] := by
    have hs : args.size = 6 := by simpa [Cond.value, given_1] using g0
    obtain ⟨L⟩ := args
    match L, hs with
    | [w0, w1, w2, w3, w4, w5], _ => exact ⟨w0, w1, w2, w3, w4, w5, rfl⟩
  have hw := fun d (hd : d ∈ tables_1) => atoms_spec (ws := Jvm.Cond.code x code maxLocals ret :: tables_1) hat d (List.mem_cons_of_mem _ hd)
  have hfit : Fit s := fun {y c} hc i hi => by
    obtain ⟨ha, rfl⟩ := Array.getElem?_eq_some_iff.mp hc
    have q := List.all_eq_true.mp ((Array.all_eq_true_iff_forall_mem.mp hF) _ (Array.getElem_mem ha)) i (List.mem_range.mpr hi)
    simpa [Array.getElem?_eq_getElem hi] using q
  obtain ⟨hsets, hown0⟩ := atoms_of _ (rest_1_c_eq ▸ (show rest_1_c.before _ s = true from hrest))
  have hr0 := Cond.before_iff.mp hown0
  obtain ⟨i0, ei0⟩ := is_v ga0
  obtain rfl : w0 = (.int i0) := Option.some.inj ei0
  obtain ⟨i1, ei1⟩ := is_v ga1
  obtain rfl : w1 = (.int i1) := Option.some.inj ei1
  obtain ⟨i2, ei2⟩ := isL_v ga2
  obtain rfl : w2 = (.long i2) := Option.some.inj ei2
  obtain ⟨i3, ei3⟩ := isL_v ga3
  obtain rfl : w3 = (.long i3) := Option.some.inj ei3
  obtain ⟨i4, ei4⟩ := isL_v ga4
  obtain rfl : w4 = (.long i4) := Option.some.inj ei4
  obtain ⟨i5, ei5⟩ := is_v ga5
  obtain rfl : w5 = (.int i5) := Option.some.inj ei5
  have n3 := not_v (Cond.before_iff.mp (hsets _ (List.mem_of_getElem? (i := 2) rfl)))
  obtain ⟨i7, e6⟩ := is_v (Cond.before_iff.mp (hsets _ (List.mem_of_getElem? (i := 1) rfl)))
  have hS : Sta s s.heap "java/lang/String" "COMPACT_STRINGS" "Z" (.int i7) := Sta.start e6 (Or.inl (hsets _ (List.mem_of_getElem? (i := 0) rfl)))
  have hcs : ¬ (i7 = (0 : Int32)) := gotF (Cond.eq_ints e6 (Term.int_eval (0))) n3
  have eh := eqv_i (Term.int_eval 127) (Cond.before_iff.mp (hsets _ (List.mem_of_getElem? (i := 12) rfl)))
  have hSh := Sta.start eh (Or.inl (hsets _ (List.mem_of_getElem? (i := 10) rfl)))
  have n13 := (Cond.before_iff.mp (hsets _ (List.mem_of_getElem? (i := 13) rfl)))
  have n15 := (Cond.before_iff.mp (hsets _ (List.mem_of_getElem? (i := 15) rfl)))
  obtain ⟨ca, ht⟩ := arr_v n13
  obtain ⟨cl, A⟩ := Arr.start ht n13
  have hatt := Arr.fin (Vm.Alike.refl _) A
  have hsz : cl.slots.size < 2 ^ 31 := by
    by_cases q : cl.slots.size < 2 ^ 31
    · exact q
    · exfalso
      have e : (Jvm.Term.length (Jvm.Term.static "java/lang/Integer$IntegerCache" "cache" "[Ljava/lang/Integer;")).eval #[.int i0, .int i1, .long i2, .long i3, .long i4, .int i5] s none [] s = none := by simp [Term.eval] at ht ⊢; simp [ht, hatt, q]
      simp [Cond.value, e] at n15
  have hlen : cl.slots.size.toInt32 = 256 := by
    have e := eqv_i (Term.int_eval 256) n15
    rw [len_f ht hatt hsz] at e
    injection e with e
    injection e
  have hti : ∀ idx : List Nat, (Jvm.Term.static "java/lang/Integer$IntegerCache" "cache" "[Ljava/lang/Integer;").eval #[.int i0, .int i1, .long i2, .long i3, .long i4, .int i5] s none idx s = some (.ref ca) := fun _ => ht
  have hB := Bxs.start (val := fun j => .int (j - 128)) hti A hsz hlen (by decide) (Cond.before_iff.mp (hsets _ (List.mem_of_getElem? (i := 16) rfl))) (fun X j hj hX => eqv_i (by simp [Term.eval, back32 hj]) hX)
  obtain ⟨fc, hAc, hfc⟩ := own_Bx hB
  have hSa := Sta.start ht (Or.inr ⟨hw _ (List.mem_of_getElem? (i := 35) rfl), (hsets _ (List.mem_of_getElem? (i := 11) rfl))⟩)
  obtain ⟨n, o, h1, h2, h3, _, L, rfl, ⟨rfl, N⟩, hq⟩ := rm0 l s _ hw i0 i1 i2 i3 i4 i5 s.heap i7 ca cl.cls fc hS hcs hSh hSa hAc hfc tables_1 p e ha hc hk s m _ below hf ((Spec.applies_iff_loose hf).mp happ).1 ⟨rfl, State.Warmed39.refl s, rfl⟩ trivial
  refine ⟨n, _, h1, h2, h3, hpost _ _ _ _ _ _ ⟨Cond.after_iff.mpr rfl, Cond.after_iff.mpr (eq_i res_at (Term.int_eval (1)) rfl), trivial⟩ ⟨hq.1, hq.2.1, hq.2.2.1, (hq.2.2.2.sift fun y hy => Or.inr (N y hy)).mono (by decide) (by decide)⟩⟩
theorem main_1_1 : Claimed_1_1 := comes_1 fun _ _ _ _ _ _ h hF => ⟨h.1, hF⟩
theorem main_1_2 : Claimed_1_2 := comes_1 fun _ _ _ _ _ _ h hF => ⟨h.2.1, hF⟩

end Jvm.Pilot.@@N@@
namespace Jvm.Pilot.@@N@@
open Jvm Jvm.ClassFile Sem Op Lib Jvm.Free Jvm.Stand Jvm.Pilot.@@N@@.Jvm.D
/-! MADE BY PROGRAM (witnessworld.py) out of the Statement's table words and the real class files: 27 classes; the members and pool entries that the words name. The judged class is class 1, her method 1. -/
namespace start1
open Jvm.ClassFile
def u (s : String) : CpInfo := .utf8 (stringToUtf16 s)
/-- a pool by its gaps: so many unusable entries, then the entry; so many at the end -/
def gap : Nat → List CpInfo → List CpInfo
  | 0, r => r
  | n + 1, r => .unusable :: gap n r
def poolList (es : List (Nat × CpInfo)) (last : Nat) : List CpInfo := es.foldr (fun e r => gap e.1 (e.2 :: r)) (gap last [])
def pool (es : List (Nat × CpInfo)) (last : Nat) : Array CpInfo := ⟨poolList es last⟩
def fileOf (pool : Array CpInfo) (this : Nat) (attrs : Array Attribute := #[]) (ms : Array MethodInfo := #[]) (fl : Nat := 33) (sup : Nat := 0) (ifs : Array Nat := #[]) (fds : Array FieldInfo := #[]) : ClassFile where
  minorVersion := 0
  majorVersion := 65
  constantPool := pool
  accessFlags := fl
  thisClass := this
  superClass := sup
  interfaces := ifs
  fields := fds
  methods := ms
  attributes := attrs
def plain (name : String) (sup : Option ClassId) : Class where
  name := name
  kind := .ordinary
  loader := none
  accessFlags := 33
  super := sup
  interfaces := #[]
  cf := none
  fields := #[]
  methods := #[]
  instanceTypes := #[]
  staticTypes := #[]
  resolved := #[]
  callSites := []
  init := .initialized
  statics := none
  mirror := none

def pool0 : Array CpInfo := pool [(5, u "<init>"), (0, u "()V"), (1, .class_ 10), (1, u "java/lang/Object")] 113

def k0c0 : Code := { maxStack := 0, maxLocals := 1, code := object_method_1_code, exceptionTable := #[], attributes := #[] }
def k0m0 : Method := { name := "<init>", desc := "()V", sig := { parameters := [], returnType := none }, accessFlags := 1, code := some k0c0 }
/-- java/lang/Object -/
def k0 : Class := { plain "java/lang/Object" none with
  accessFlags := 33
  interfaces := #[]
  cf := some (fileOf pool0 8 #[] #[{ accessFlags := 1, nameIndex := 5, descriptorIndex := 6, attributes := #[] }] 33 0 #[] #[])
  fields := #[]
  methods := #[k0m0]
  instanceTypes := #[]
  staticTypes := #[]
  resolved := Array.replicate 124 none
  statics := none }

def pool1 : Array CpInfo := pool [(2, .class_ 4), (1, u "java/lang/Object"), (0, u "<init>"), (0, u "()V"), (0, .class_ 8), (0, u "java/lang/String"), (0, .methodref 7 10), (0, .nameAndType 5 11), (0, u "([C)V"), (0, .methodref 13 14), (0, .class_ 15), (0, .nameAndType 16 17), (0, u "java/lang/Integer"), (0, u "valueOf"), (0, u "(I)Ljava/lang/Integer;"), (0, .class_ 19), (0, u "com/example/nikki/nikki/eventsourcing/Aggregate"), (0, .methodref 18 21), (0, .nameAndType 5 22), (0, u "(Ljava/lang/String;JLjava/lang/Object;)V"), (0, .class_ 24), (0, u "com/example/nikki/nikki/eventsourcing/HeldAggregate"), (0, .methodref 23 26), (0, .nameAndType 5 27), (0, u "(Lcom/example/nikki/nikki/eventsourcing/Aggregate;J)V"), (0, .methodref 23 29), (0, .nameAndType 30 31), (0, u "state"), (0, u "()Lcom/example/nikki/nikki/eventsourcing/Aggregate;"), (0, .methodref 18 33), (0, .nameAndType 34 35), (0, u "identifier"), (0, u "()Ljava/lang/String;"), (0, .methodref 7 37), (0, .nameAndType 38 39), (0, u "equals"), (0, u "(Ljava/lang/Object;)Z"), (0, .methodref 18 41), (0, .nameAndType 42 43), (0, u "version"), (0, u "()J"), (0, .methodref 18 45), (0, .nameAndType 46 47), (0, u "root"), (0, u "()Ljava/lang/Object;"), (0, .fieldref 23 49), (0, .nameAndType 42 50), (0, u "J"), (0, .class_ 52), (0, u "com/example/nikki/nikki/eventsourcing/HeldAggregateStatePinLaw"), (2, u "law"), (0, u "(IIJJJI)Z")] 5

def k1m0 : Method := { name := "<init>", desc := "()V", sig := { parameters := [], returnType := none }, accessFlags := 1, code := none }
def k1c1 : Code := { maxStack := 6, maxLocals := 20, code := code, exceptionTable := #[], attributes := #[] }
def k1m1 : Method := { name := "law", desc := "(IIJJJI)Z", sig := { parameters := [.int, .int, .long, .long, .long, .int], returnType := some .boolean }, accessFlags := 9, code := some k1c1 }
/-- com/example/nikki/nikki/eventsourcing/HeldAggregateStatePinLaw -/
def k1 : Class := { plain "com/example/nikki/nikki/eventsourcing/HeldAggregateStatePinLaw" (some 0) with
  accessFlags := 49
  interfaces := #[]
  cf := some (fileOf pool1 51 #[] #[{ accessFlags := 1, nameIndex := 5, descriptorIndex := 6, attributes := #[] }, { accessFlags := 9, nameIndex := 55, descriptorIndex := 56, attributes := #[] }] 49 2 #[] #[])
  fields := #[]
  methods := #[k1m0, k1m1]
  instanceTypes := #[]
  staticTypes := #[]
  resolved := Array.replicate 62 none
  statics := none }

def pool2 : Array CpInfo := pool [(1, .class_ 2), (0, u "java/io/Serializable"), (0, .class_ 4), (0, u "java/lang/Object")] 2

/-- java/io/Serializable -/
def k2 : Class := { plain "java/io/Serializable" (some 0) with
  accessFlags := 1537
  interfaces := #[]
  cf := some (fileOf pool2 1 #[] #[] 1537 3 #[] #[])
  fields := #[]
  methods := #[]
  instanceTypes := #[]
  staticTypes := #[]
  resolved := Array.replicate 7 none
  statics := none }

def pool3 : Array CpInfo := pool [(1, .class_ 2), (0, u "java/lang/Comparable"), (0, .class_ 4), (0, u "java/lang/Object")] 7

/-- java/lang/Comparable -/
def k3 : Class := { plain "java/lang/Comparable" (some 0) with
  accessFlags := 1537
  interfaces := #[]
  cf := some (fileOf pool3 1 #[] #[] 1537 3 #[] #[])
  fields := #[]
  methods := #[]
  instanceTypes := #[]
  staticTypes := #[]
  resolved := Array.replicate 12 none
  statics := none }

def pool4 : Array CpInfo := pool [(2, .class_ 4), (1, u "java/lang/CharSequence"), (42, .class_ 48), (0, u "java/lang/CharSequence$1CodePointIterator"), (10, .class_ 60), (0, u "java/lang/CharSequence$1CharIterator"), (5, .class_ 67), (0, u "java/lang/Object")] 63

/-- java/lang/CharSequence -/
def k4 : Class := { plain "java/lang/CharSequence" (some 0) with
  accessFlags := 1537
  interfaces := #[]
  cf := some (fileOf pool4 2 #[.nestMembers #[47, 59]] #[] 1537 66 #[] #[])
  fields := #[]
  methods := #[]
  instanceTypes := #[]
  staticTypes := #[]
  resolved := Array.replicate 131 none
  statics := none }

def pool5 : Array CpInfo := pool [(1, .class_ 2), (0, u "java/lang/constant/Constable"), (0, .class_ 4), (0, u "java/lang/Object")] 6

/-- java/lang/constant/Constable -/
def k5 : Class := { plain "java/lang/constant/Constable" (some 0) with
  accessFlags := 1537
  interfaces := #[]
  cf := some (fileOf pool5 1 #[] #[] 1537 3 #[] #[])
  fields := #[]
  methods := #[]
  instanceTypes := #[]
  staticTypes := #[]
  resolved := Array.replicate 11 none
  statics := none }

def pool6 : Array CpInfo := pool [(1, .class_ 2), (0, u "java/lang/constant/ConstantDesc"), (0, .class_ 4), (0, u "java/lang/Object")] 32

/-- java/lang/constant/ConstantDesc -/
def k6 : Class := { plain "java/lang/constant/ConstantDesc" (some 0) with
  accessFlags := 1537
  interfaces := #[]
  cf := some (fileOf pool6 1 #[] #[] 1537 3 #[] #[])
  fields := #[]
  methods := #[]
  instanceTypes := #[]
  staticTypes := #[]
  resolved := Array.replicate 37 none
  statics := none }

def pool7 : Array CpInfo := pool [(1, .methodref 2 3), (0, .class_ 4), (0, .nameAndType 5 6), (0, u "java/lang/Object"), (0, u "<init>"), (0, u "()V"), (2, .fieldref 10 11), (0, .class_ 12), (0, .nameAndType 13 14), (0, u "java/lang/String"), (0, u "value"), (0, u "[B"), (0, .fieldref 10 16), (0, .nameAndType 17 18), (0, u "coder"), (0, u "B"), (2, u "hash"), (0, u "I"), (2, u "hashIsZero"), (0, u "Z"), (0, .methodref 10 28), (0, .nameAndType 5 29), (0, u "([CIILjava/lang/Void;)V"), (8, .fieldref 10 39), (0, .nameAndType 40 26), (0, u "COMPACT_STRINGS"), (1, .class_ 44), (1, u "java/lang/StringUTF16"), (0, u "compress"), (1, .methodref 42 48), (0, .nameAndType 49 50), (0, u "coderFromArrayLen"), (0, u "([BI)B"), (126, .methodref 42 178), (0, .nameAndType 45 179), (0, u "([CII)[B"), (363, u "equals"), (29, u "(Ljava/lang/Object;)Z"), (1, .class_ 576), (0, u "java/lang/CharSequence"), (22, u "CASE_INSENSITIVE_ORDER"), (0, u "Ljava/util/Comparator;"), (409, u "([C)V"), (90, u "serialPersistentFields"), (0, u "[Ljava/io/ObjectStreamField;"), (0, .class_ 1104), (0, u "java/lang/String$CaseInsensitiveComparator"), (1, .class_ 1107), (0, u "java/io/Serializable"), (0, .class_ 1109), (0, u "java/lang/Comparable"), (0, .class_ 1111), (0, u "java/lang/constant/Constable"), (0, .class_ 1113), (0, u "java/lang/constant/ConstantDesc"), (2, u "serialVersionUID"), (0, u "J"), (3, u "REPL"), (0, u "C"), (2, u "LATIN1"), (1, u "UTF16")] 323

def k7m0 : Method := { name := "<init>", desc := "()V", sig := { parameters := [], returnType := none }, accessFlags := 1, code := none }
def k7c1 : Code := { maxStack := 5, maxLocals := 2, code := jdk_42_method_3_code, exceptionTable := #[], attributes := #[] }
def k7m1 : Method := { name := "<init>", desc := "([C)V", sig := { parameters := [(.array .char)], returnType := none }, accessFlags := 1, code := some k7c1 }
def k7c2 : Code := { maxStack := 2, maxLocals := 3, code := jdk_42_method_66_code, exceptionTable := #[], attributes := #[] }
def k7m2 : Method := { name := "equals", desc := "(Ljava/lang/Object;)Z", sig := { parameters := [(.object "java/lang/Object")], returnType := some .boolean }, accessFlags := 1, code := some k7c2 }
def k7c3 : Code := { maxStack := 4, maxLocals := 6, code := jdk_42_method_149_code, exceptionTable := #[], attributes := #[] }
def k7m3 : Method := { name := "<init>", desc := "([CIILjava/lang/Void;)V", sig := { parameters := [(.array .char), .int, .int, (.object "java/lang/Void")], returnType := none }, accessFlags := 2, code := some k7c3 }
/-- java/lang/String -/
def k7 : Class := { plain "java/lang/String" (some 0) with
  accessFlags := 49
  interfaces := #[2, 3, 4, 5, 6]
  cf := some (fileOf pool7 10 #[.nestMembers #[1103]] #[{ accessFlags := 1, nameIndex := 5, descriptorIndex := 6, attributes := #[] }, { accessFlags := 1, nameIndex := 5, descriptorIndex := 1010, attributes := #[] }, { accessFlags := 1, nameIndex := 543, descriptorIndex := 573, attributes := #[] }, { accessFlags := 2, nameIndex := 5, descriptorIndex := 29, attributes := #[] }] 49 2 #[1106, 1108, 575, 1110, 1112] #[{ accessFlags := 18, nameIndex := 13, descriptorIndex := 14, attributes := #[] }, { accessFlags := 18, nameIndex := 17, descriptorIndex := 18, attributes := #[] }, { accessFlags := 2, nameIndex := 21, descriptorIndex := 22, attributes := #[] }, { accessFlags := 2, nameIndex := 25, descriptorIndex := 26, attributes := #[] }, { accessFlags := 26, nameIndex := 1116, descriptorIndex := 1117, attributes := #[] }, { accessFlags := 24, nameIndex := 40, descriptorIndex := 26, attributes := #[] }, { accessFlags := 26, nameIndex := 1101, descriptorIndex := 1102, attributes := #[] }, { accessFlags := 26, nameIndex := 1121, descriptorIndex := 1122, attributes := #[] }, { accessFlags := 25, nameIndex := 599, descriptorIndex := 600, attributes := #[] }, { accessFlags := 24, nameIndex := 1125, descriptorIndex := 18, attributes := #[] }, { accessFlags := 24, nameIndex := 1127, descriptorIndex := 18, attributes := #[] }])
  fields := #[{ name := "value", type := (.array .byte), accessFlags := 18, slot := 0, constantValue := 0 }, { name := "coder", type := .byte, accessFlags := 18, slot := 1, constantValue := 0 }, { name := "hash", type := .int, accessFlags := 2, slot := 2, constantValue := 0 }, { name := "hashIsZero", type := .boolean, accessFlags := 2, slot := 3, constantValue := 0 }, { name := "serialVersionUID", type := .long, accessFlags := 26, slot := 0, constantValue := 0 }, { name := "COMPACT_STRINGS", type := .boolean, accessFlags := 24, slot := 1, constantValue := 0 }, { name := "serialPersistentFields", type := (.array (.object "java/io/ObjectStreamField")), accessFlags := 26, slot := 2, constantValue := 0 }, { name := "REPL", type := .char, accessFlags := 26, slot := 3, constantValue := 0 }, { name := "CASE_INSENSITIVE_ORDER", type := (.object "java/util/Comparator"), accessFlags := 25, slot := 4, constantValue := 0 }, { name := "LATIN1", type := .byte, accessFlags := 24, slot := 5, constantValue := 0 }, { name := "UTF16", type := .byte, accessFlags := 24, slot := 6, constantValue := 0 }]
  methods := #[k7m0, k7m1, k7m2, k7m3]
  instanceTypes := #[(.array .byte), .byte, .int, .boolean]
  staticTypes := #[.long, .boolean, (.array (.object "java/io/ObjectStreamField")), .char, (.object "java/util/Comparator"), .byte, .byte]
  resolved := Array.replicate 1451 none
  statics := some 0 }

def pool8 : Array CpInfo := pool [(6, .class_ 8), (1, u "java/lang/Object"), (0, u "<init>"), (0, u "()V"), (1, .class_ 14), (1, u "java/lang/StringUTF16"), (31, u "$assertionsDisabled"), (0, u "Z"), (13, u "HI_BYTE_SHIFT"), (0, u "I"), (2, u "LO_BYTE_SHIFT"), (49, .methodref 12 116), (0, .nameAndType 117 118), (0, u "compress"), (0, u "([CI[BII)I"), (3, u "([CII)[B"), (138, u "coderFromArrayLen"), (0, u "([BI)B"), (106, .class_ 371), (1, u "java/lang/StringUTF16$LinesSpliterator"), (58, u "MAX_LENGTH"), (196, .class_ 628), (0, u "java/lang/StringUTF16$CodePointsSpliterator"), (0, .class_ 630), (0, u "java/lang/StringUTF16$CharsSpliterator")] 4

def k8m0 : Method := { name := "<init>", desc := "()V", sig := { parameters := [], returnType := none }, accessFlags := 0, code := none }
def k8c1 : Code := { maxStack := 2, maxLocals := 2, code := jdk_52_method_15_code, exceptionTable := #[], attributes := #[] }
def k8m1 : Method := { name := "coderFromArrayLen", desc := "([BI)B", sig := { parameters := [(.array .byte), .int], returnType := some .byte }, accessFlags := 8, code := some k8c1 }
def k8c2 : Code := { maxStack := 5, maxLocals := 6, code := jdk_52_method_16_code, exceptionTable := #[], attributes := #[] }
def k8m2 : Method := { name := "compress", desc := "([CII)[B", sig := { parameters := [(.array .char), .int, .int], returnType := some (.array .byte) }, accessFlags := 9, code := some k8c2 }
def k8c3 : Code := { maxStack := 3, maxLocals := 7, code := jdk_52_method_21_code, exceptionTable := #[], attributes := #[] }
def k8m3 : Method := { name := "compress", desc := "([CI[BII)I", sig := { parameters := [(.array .char), .int, (.array .byte), .int, .int], returnType := some .int }, accessFlags := 9, code := some k8c3 }
/-- java/lang/StringUTF16 -/
def k8 : Class := { plain "java/lang/StringUTF16" (some 0) with
  accessFlags := 48
  interfaces := #[]
  cf := some (fileOf pool8 12 #[.nestMembers #[627, 629, 369]] #[{ accessFlags := 0, nameIndex := 9, descriptorIndex := 10, attributes := #[] }, { accessFlags := 8, nameIndex := 261, descriptorIndex := 262, attributes := #[] }, { accessFlags := 9, nameIndex := 117, descriptorIndex := 122, attributes := #[] }, { accessFlags := 9, nameIndex := 117, descriptorIndex := 118, attributes := #[] }] 48 6 #[] #[{ accessFlags := 26, nameIndex := 61, descriptorIndex := 62, attributes := #[] }, { accessFlags := 26, nameIndex := 65, descriptorIndex := 62, attributes := #[] }, { accessFlags := 24, nameIndex := 430, descriptorIndex := 62, attributes := #[] }, { accessFlags := 4120, nameIndex := 46, descriptorIndex := 47, attributes := #[] }])
  fields := #[{ name := "HI_BYTE_SHIFT", type := .int, accessFlags := 26, slot := 0, constantValue := 0 }, { name := "LO_BYTE_SHIFT", type := .int, accessFlags := 26, slot := 1, constantValue := 0 }, { name := "MAX_LENGTH", type := .int, accessFlags := 24, slot := 2, constantValue := 0 }, { name := "$assertionsDisabled", type := .boolean, accessFlags := 4120, slot := 3, constantValue := 0 }]
  methods := #[k8m0, k8m1, k8m2, k8m3]
  instanceTypes := #[]
  staticTypes := #[.int, .int, .int, .boolean]
  resolved := Array.replicate 635 none
  statics := none }

def pool9 : Array CpInfo := pool [(1, .methodref 2 3), (0, .class_ 4), (0, .nameAndType 5 6), (0, u "java/lang/Object"), (0, u "<init>"), (0, u "()V"), (1, .class_ 10), (1, u "java/lang/Number"), (2, .class_ 14), (0, u "java/io/Serializable"), (0, u "serialVersionUID"), (0, u "J")] 20

def k9c0 : Code := { maxStack := 1, maxLocals := 1, code := jdk_18_method_1_code, exceptionTable := #[], attributes := #[] }
def k9m0 : Method := { name := "<init>", desc := "()V", sig := { parameters := [], returnType := none }, accessFlags := 1, code := some k9c0 }
/-- java/lang/Number -/
def k9 : Class := { plain "java/lang/Number" (some 0) with
  accessFlags := 1057
  interfaces := #[2]
  cf := some (fileOf pool9 8 #[] #[{ accessFlags := 1, nameIndex := 5, descriptorIndex := 6, attributes := #[] }] 1057 2 #[13] #[{ accessFlags := 26, nameIndex := 15, descriptorIndex := 16, attributes := #[] }])
  fields := #[{ name := "serialVersionUID", type := .long, accessFlags := 26, slot := 0, constantValue := 0 }]
  methods := #[k9m0]
  instanceTypes := #[]
  staticTypes := #[.long]
  resolved := Array.replicate 37 none
  statics := none }

def pool10 : Array CpInfo := pool [(1, .class_ 2), (0, u "java/lang/Integer"), (16, u "digits"), (0, u "[C"), (46, u "<init>"), (17, u "DigitOnes"), (0, u "[B"), (2, u "DigitTens"), (10, .nameAndType 67 101), (0, u "()V"), (85, u "valueOf"), (0, u "(I)Ljava/lang/Integer;"), (0, .class_ 190), (0, u "java/lang/Integer$IntegerCache"), (0, .fieldref 189 192), (0, .nameAndType 193 194), (0, u "high"), (0, u "I"), (0, .fieldref 189 196), (0, .nameAndType 197 198), (0, u "cache"), (0, u "[Ljava/lang/Integer;"), (0, .methodref 1 200), (0, .nameAndType 67 201), (0, u "(I)V"), (0, .methodref 203 100), (0, .class_ 204), (0, u "java/lang/Number"), (0, .fieldref 1 206), (0, .nameAndType 207 194), (0, u "value"), (94, u "TYPE"), (0, u "Ljava/lang/Class;"), (0, .class_ 305), (0, u "java/lang/Comparable"), (0, .class_ 307), (0, u "java/lang/constant/Constable"), (0, .class_ 309), (0, u "java/lang/constant/ConstantDesc"), (0, u "MIN_VALUE"), (1, u "MAX_VALUE"), (3, u "SIZE"), (1, u "BYTES"), (1, u "serialVersionUID"), (0, u "J")] 131

def k10c0 : Code := { maxStack := 3, maxLocals := 1, code := jdk_33_method_22_code, exceptionTable := #[], attributes := #[] }
def k10m0 : Method := { name := "valueOf", desc := "(I)Ljava/lang/Integer;", sig := { parameters := [.int], returnType := some (.object "java/lang/Integer") }, accessFlags := 9, code := some k10c0 }
def k10c1 : Code := { maxStack := 2, maxLocals := 2, code := jdk_33_method_23_code, exceptionTable := #[], attributes := #[] }
def k10m1 : Method := { name := "<init>", desc := "(I)V", sig := { parameters := [.int], returnType := none }, accessFlags := 1, code := some k10c1 }
/-- java/lang/Integer -/
def k10 : Class := { plain "java/lang/Integer" (some 9) with
  accessFlags := 49
  interfaces := #[3, 5, 6]
  cf := some (fileOf pool10 1 #[.nestMembers #[189]] #[{ accessFlags := 9, nameIndex := 187, descriptorIndex := 188, attributes := #[] }, { accessFlags := 1, nameIndex := 67, descriptorIndex := 201, attributes := #[] }] 49 203 #[304, 306, 308] #[{ accessFlags := 25, nameIndex := 310, descriptorIndex := 194, attributes := #[] }, { accessFlags := 25, nameIndex := 312, descriptorIndex := 194, attributes := #[] }, { accessFlags := 25, nameIndex := 302, descriptorIndex := 303, attributes := #[] }, { accessFlags := 24, nameIndex := 19, descriptorIndex := 20, attributes := #[] }, { accessFlags := 24, nameIndex := 89, descriptorIndex := 86, attributes := #[] }, { accessFlags := 24, nameIndex := 85, descriptorIndex := 86, attributes := #[] }, { accessFlags := 18, nameIndex := 207, descriptorIndex := 194, attributes := #[] }, { accessFlags := 25, nameIndex := 316, descriptorIndex := 194, attributes := #[] }, { accessFlags := 25, nameIndex := 318, descriptorIndex := 194, attributes := #[] }, { accessFlags := 26, nameIndex := 320, descriptorIndex := 321, attributes := #[] }])
  fields := #[{ name := "MIN_VALUE", type := .int, accessFlags := 25, slot := 0, constantValue := 0 }, { name := "MAX_VALUE", type := .int, accessFlags := 25, slot := 1, constantValue := 0 }, { name := "TYPE", type := (.object "java/lang/Class"), accessFlags := 25, slot := 2, constantValue := 0 }, { name := "digits", type := (.array .char), accessFlags := 24, slot := 3, constantValue := 0 }, { name := "DigitTens", type := (.array .byte), accessFlags := 24, slot := 4, constantValue := 0 }, { name := "DigitOnes", type := (.array .byte), accessFlags := 24, slot := 5, constantValue := 0 }, { name := "value", type := .int, accessFlags := 18, slot := 0, constantValue := 0 }, { name := "SIZE", type := .int, accessFlags := 25, slot := 6, constantValue := 0 }, { name := "BYTES", type := .int, accessFlags := 25, slot := 7, constantValue := 0 }, { name := "serialVersionUID", type := .long, accessFlags := 26, slot := 8, constantValue := 0 }]
  methods := #[k10m0, k10m1]
  instanceTypes := #[.int]
  staticTypes := #[.int, .int, (.object "java/lang/Class"), (.array .char), (.array .byte), (.array .byte), .int, .int, .long]
  resolved := Array.replicate 453 none
  statics := none }

def pool11 : Array CpInfo := pool [(2, .class_ 4), (1, u "java/lang/Object"), (0, u "<init>"), (0, u "()V"), (0, .class_ 8), (0, u "java/lang/Integer"), (7, .class_ 18), (1, u "java/lang/Integer$IntegerCache"), (0, u "$assertionsDisabled"), (0, u "Z"), (26, u "high"), (0, u "I"), (8, u "archivedCache"), (0, u "[Ljava/lang/Integer;"), (12, u "cache"), (0, u "low")] 27

def k11m0 : Method := { name := "<init>", desc := "()V", sig := { parameters := [], returnType := none }, accessFlags := 2, code := none }
/-- java/lang/Integer$IntegerCache -/
def k11 : Class := { plain "java/lang/Integer$IntegerCache" (some 0) with
  accessFlags := 48
  interfaces := #[]
  cf := some (fileOf pool11 16 #[.nestHost 7] #[{ accessFlags := 2, nameIndex := 5, descriptorIndex := 6, attributes := #[] }] 48 2 #[] #[{ accessFlags := 24, nameIndex := 72, descriptorIndex := 48, attributes := #[] }, { accessFlags := 24, nameIndex := 47, descriptorIndex := 48, attributes := #[] }, { accessFlags := 24, nameIndex := 71, descriptorIndex := 58, attributes := #[] }, { accessFlags := 8, nameIndex := 57, descriptorIndex := 58, attributes := #[] }, { accessFlags := 4120, nameIndex := 19, descriptorIndex := 20, attributes := #[] }])
  fields := #[{ name := "low", type := .int, accessFlags := 24, slot := 0, constantValue := 0 }, { name := "high", type := .int, accessFlags := 24, slot := 1, constantValue := 0 }, { name := "cache", type := (.array (.object "java/lang/Integer")), accessFlags := 24, slot := 2, constantValue := 0 }, { name := "archivedCache", type := (.array (.object "java/lang/Integer")), accessFlags := 8, slot := 3, constantValue := 0 }, { name := "$assertionsDisabled", type := .boolean, accessFlags := 4120, slot := 4, constantValue := 0 }]
  methods := #[k11m0]
  instanceTypes := #[]
  staticTypes := #[.int, .int, (.array (.object "java/lang/Integer")), (.array (.object "java/lang/Integer")), .boolean]
  resolved := Array.replicate 100 none
  statics := some 1 }

def pool12 : Array CpInfo := pool [(1, .methodref 2 3), (0, .class_ 4), (0, .nameAndType 5 6), (0, u "java/lang/Object"), (0, u "<init>"), (0, u "()V"), (0, .class_ 8), (0, u "java/lang/Record")] 13

def k12c0 : Code := { maxStack := 1, maxLocals := 1, code := jdk_30_method_1_code, exceptionTable := #[], attributes := #[] }
def k12m0 : Method := { name := "<init>", desc := "()V", sig := { parameters := [], returnType := none }, accessFlags := 4, code := some k12c0 }
/-- java/lang/Record -/
def k12 : Class := { plain "java/lang/Record" (some 0) with
  accessFlags := 1057
  interfaces := #[]
  cf := some (fileOf pool12 7 #[] #[{ accessFlags := 4, nameIndex := 5, descriptorIndex := 6, attributes := #[] }] 1057 2 #[] #[])
  fields := #[]
  methods := #[k12m0]
  instanceTypes := #[]
  staticTypes := #[]
  resolved := Array.replicate 22 none
  statics := none }

def pool13 : Array CpInfo := pool [(1, .methodref 2 3), (0, .class_ 4), (0, .nameAndType 5 6), (0, u "java/lang/Record"), (0, u "<init>"), (0, u "()V"), (0, .string 8), (0, u "identifier"), (0, .methodref 10 11), (0, .class_ 12), (0, .nameAndType 13 14), (0, u "java/util/Objects"), (0, u "requireNonNull"), (0, u "(Ljava/lang/Object;Ljava/lang/String;)Ljava/lang/Object;"), (0, .string 16), (0, u "root"), (0, .fieldref 18 19), (0, .class_ 20), (0, .nameAndType 8 21), (0, u "com/example/nikki/nikki/eventsourcing/Aggregate"), (0, u "Ljava/lang/String;"), (0, .fieldref 18 23), (0, .nameAndType 24 25), (0, u "version"), (0, u "J"), (0, .fieldref 18 27), (0, .nameAndType 16 28), (0, u "Ljava/lang/Object;"), (14, u "(Ljava/lang/String;JLjava/lang/Object;)V"), (4, u "()Ljava/lang/String;"), (2, u "()J"), (0, u "()Ljava/lang/Object;")] 24

def k13c0 : Code := { maxStack := 3, maxLocals := 5, code := prog_19_method_1_code, exceptionTable := #[], attributes := #[] }
def k13m0 : Method := { name := "<init>", desc := "(Ljava/lang/String;JLjava/lang/Object;)V", sig := { parameters := [(.object "java/lang/String"), .long, (.object "java/lang/Object")], returnType := none }, accessFlags := 1, code := some k13c0 }
def k13c1 : Code := { maxStack := 1, maxLocals := 1, code := prog_19_method_5_code, exceptionTable := #[], attributes := #[] }
def k13m1 : Method := { name := "identifier", desc := "()Ljava/lang/String;", sig := { parameters := [], returnType := some (.object "java/lang/String") }, accessFlags := 1, code := some k13c1 }
def k13c2 : Code := { maxStack := 2, maxLocals := 1, code := prog_19_method_6_code, exceptionTable := #[], attributes := #[] }
def k13m2 : Method := { name := "version", desc := "()J", sig := { parameters := [], returnType := some .long }, accessFlags := 1, code := some k13c2 }
def k13c3 : Code := { maxStack := 1, maxLocals := 1, code := prog_19_method_7_code, exceptionTable := #[], attributes := #[] }
def k13m3 : Method := { name := "root", desc := "()Ljava/lang/Object;", sig := { parameters := [], returnType := some (.object "java/lang/Object") }, accessFlags := 1, code := some k13c3 }
/-- com/example/nikki/nikki/eventsourcing/Aggregate -/
def k13 : Class := { plain "com/example/nikki/nikki/eventsourcing/Aggregate" (some 12) with
  accessFlags := 49
  interfaces := #[]
  cf := some (fileOf pool13 18 #[] #[{ accessFlags := 1, nameIndex := 5, descriptorIndex := 43, attributes := #[] }, { accessFlags := 1, nameIndex := 8, descriptorIndex := 48, attributes := #[] }, { accessFlags := 1, nameIndex := 24, descriptorIndex := 51, attributes := #[] }, { accessFlags := 1, nameIndex := 16, descriptorIndex := 52, attributes := #[] }] 49 2 #[] #[{ accessFlags := 18, nameIndex := 8, descriptorIndex := 21, attributes := #[] }, { accessFlags := 18, nameIndex := 24, descriptorIndex := 25, attributes := #[] }, { accessFlags := 18, nameIndex := 16, descriptorIndex := 28, attributes := #[] }])
  fields := #[{ name := "identifier", type := (.object "java/lang/String"), accessFlags := 18, slot := 0, constantValue := 0 }, { name := "version", type := .long, accessFlags := 18, slot := 1, constantValue := 0 }, { name := "root", type := (.object "java/lang/Object"), accessFlags := 18, slot := 2, constantValue := 0 }]
  methods := #[k13m0, k13m1, k13m2, k13m3]
  instanceTypes := #[(.object "java/lang/String"), .long, (.object "java/lang/Object")]
  staticTypes := #[]
  resolved := Array.replicate 77 none
  statics := none }

def pool14 : Array CpInfo := pool [(2, .class_ 4), (1, u "java/lang/Object"), (0, u "<init>"), (0, u "()V"), (35, .class_ 44), (1, u "java/util/Objects"), (0, u "requireNonNull"), (48, u "(Ljava/lang/Object;Ljava/lang/String;)Ljava/lang/Object;")] 89

def k14m0 : Method := { name := "<init>", desc := "()V", sig := { parameters := [], returnType := none }, accessFlags := 2, code := none }
def k14c1 : Code := { maxStack := 3, maxLocals := 2, code := jdk_31_method_11_code, exceptionTable := #[], attributes := #[] }
def k14m1 : Method := { name := "requireNonNull", desc := "(Ljava/lang/Object;Ljava/lang/String;)Ljava/lang/Object;", sig := { parameters := [(.object "java/lang/Object"), (.object "java/lang/String")], returnType := some (.object "java/lang/Object") }, accessFlags := 9, code := some k14c1 }
/-- java/util/Objects -/
def k14 : Class := { plain "java/util/Objects" (some 0) with
  accessFlags := 49
  interfaces := #[]
  cf := some (fileOf pool14 42 #[] #[{ accessFlags := 2, nameIndex := 5, descriptorIndex := 6, attributes := #[] }, { accessFlags := 9, nameIndex := 45, descriptorIndex := 94, attributes := #[] }] 49 2 #[] #[])
  fields := #[]
  methods := #[k14m0, k14m1]
  instanceTypes := #[]
  staticTypes := #[]
  resolved := Array.replicate 184 none
  statics := none }

def pool15 : Array CpInfo := pool [(1, .methodref 2 3), (0, .class_ 4), (0, .nameAndType 5 6), (0, u "java/lang/Object"), (0, u "<init>"), (0, u "()V"), (2, .long 9223372036854775807), (1, .fieldref 12 13), (0, .class_ 14), (0, .nameAndType 15 16), (0, u "com/example/nikki/nikki/eventsourcing/HeldAggregate"), (0, u "droppedAt"), (0, u "J"), (0, .methodref 18 19), (0, .class_ 20), (0, .nameAndType 21 22), (0, u "com/example/nikki/nikki/eventsourcing/Aggregate"), (0, u "identifier"), (0, u "()Ljava/lang/String;"), (0, .fieldref 12 24), (0, .nameAndType 21 25), (0, u "Ljava/lang/String;"), (0, .methodref 18 27), (0, .nameAndType 28 29), (0, u "root"), (0, u "()Ljava/lang/Object;"), (0, .fieldref 12 31), (0, .nameAndType 28 32), (0, u "Ljava/lang/Object;"), (0, .methodref 18 34), (0, .nameAndType 35 36), (0, u "version"), (0, u "()J"), (0, .fieldref 12 38), (0, .nameAndType 35 16), (0, .fieldref 12 40), (0, .nameAndType 41 16), (0, u "snapshotSequenceNumber"), (0, .methodref 18 43), (0, .nameAndType 5 44), (0, u "(Ljava/lang/String;JLjava/lang/Object;)V"), (2, u "refusal"), (0, u "Ljava/lang/Throwable;"), (2, u "(Lcom/example/nikki/nikki/eventsourcing/Aggregate;J)V"), (3, u "state"), (0, u "()Lcom/example/nikki/nikki/eventsourcing/Aggregate;")] 12

def k15c0 : Code := { maxStack := 3, maxLocals := 4, code := prog_32_method_1_code, exceptionTable := #[], attributes := #[] }
def k15m0 : Method := { name := "<init>", desc := "(Lcom/example/nikki/nikki/eventsourcing/Aggregate;J)V", sig := { parameters := [(.object "com/example/nikki/nikki/eventsourcing/Aggregate"), .long], returnType := none }, accessFlags := 0, code := some k15c0 }
def k15c1 : Code := { maxStack := 6, maxLocals := 1, code := prog_32_method_2_code, exceptionTable := #[], attributes := #[] }
def k15m1 : Method := { name := "state", desc := "()Lcom/example/nikki/nikki/eventsourcing/Aggregate;", sig := { parameters := [], returnType := some (.object "com/example/nikki/nikki/eventsourcing/Aggregate") }, accessFlags := 0, code := some k15c1 }
/-- com/example/nikki/nikki/eventsourcing/HeldAggregate -/
def k15 : Class := { plain "com/example/nikki/nikki/eventsourcing/HeldAggregate" (some 0) with
  accessFlags := 32
  interfaces := #[]
  cf := some (fileOf pool15 12 #[] #[{ accessFlags := 0, nameIndex := 5, descriptorIndex := 51, attributes := #[] }, { accessFlags := 0, nameIndex := 55, descriptorIndex := 56, attributes := #[] }] 32 2 #[] #[{ accessFlags := 18, nameIndex := 21, descriptorIndex := 25, attributes := #[] }, { accessFlags := 18, nameIndex := 28, descriptorIndex := 32, attributes := #[] }, { accessFlags := 0, nameIndex := 35, descriptorIndex := 16, attributes := #[] }, { accessFlags := 2, nameIndex := 15, descriptorIndex := 16, attributes := #[] }, { accessFlags := 2, nameIndex := 47, descriptorIndex := 48, attributes := #[] }, { accessFlags := 0, nameIndex := 41, descriptorIndex := 16, attributes := #[] }])
  fields := #[{ name := "identifier", type := (.object "java/lang/String"), accessFlags := 18, slot := 0, constantValue := 0 }, { name := "root", type := (.object "java/lang/Object"), accessFlags := 18, slot := 1, constantValue := 0 }, { name := "version", type := .long, accessFlags := 0, slot := 2, constantValue := 0 }, { name := "droppedAt", type := .long, accessFlags := 2, slot := 3, constantValue := 0 }, { name := "refusal", type := (.object "java/lang/Throwable"), accessFlags := 2, slot := 4, constantValue := 0 }, { name := "snapshotSequenceNumber", type := .long, accessFlags := 0, slot := 5, constantValue := 0 }]
  methods := #[k15m0, k15m1]
  instanceTypes := #[(.object "java/lang/String"), (.object "java/lang/Object"), .long, .long, (.object "java/lang/Throwable"), .long]
  staticTypes := #[]
  resolved := Array.replicate 69 none
  statics := none }

def pool16 : Array CpInfo := pool [(4, .class_ 6), (1, u "java/lang/Object"), (0, u "<init>"), (0, u "()V"), (5, .class_ 16), (1, u "java/lang/StringLatin1"), (104, u "$assertionsDisabled"), (0, u "Z"), (98, .class_ 223), (1, u "java/lang/StringLatin1$LinesSpliterator"), (166, .class_ 391), (0, u "java/lang/StringLatin1$CharsSpliterator")] 3

def k16m0 : Method := { name := "<init>", desc := "()V", sig := { parameters := [], returnType := none }, accessFlags := 0, code := none }
/-- java/lang/StringLatin1 -/
def k16 : Class := { plain "java/lang/StringLatin1" (some 0) with
  accessFlags := 48
  interfaces := #[]
  cf := some (fileOf pool16 14 #[.nestMembers #[390, 221]] #[{ accessFlags := 0, nameIndex := 7, descriptorIndex := 8, attributes := #[] }] 48 4 #[] #[{ accessFlags := 4120, nameIndex := 121, descriptorIndex := 122, attributes := #[] }])
  fields := #[{ name := "$assertionsDisabled", type := .boolean, accessFlags := 4120, slot := 0, constantValue := 0 }]
  methods := #[k16m0]
  instanceTypes := #[]
  staticTypes := #[.boolean]
  resolved := Array.replicate 395 none
  statics := none }

def pool17 : Array CpInfo := pool [(2, .class_ 4), (1, u "java/lang/Object"), (0, u "<init>"), (0, u "()V"), (17, .class_ 26), (1, u "jdk/internal/util/Preconditions"), (28, .class_ 56), (0, u "jdk/internal/util/Preconditions$4"), (57, .class_ 115), (0, u "jdk/internal/util/Preconditions$1"), (7, u "SIOOBE_FORMATTER"), (0, u "Ljava/util/function/BiFunction;"), (0, .class_ 126), (0, u "jdk/internal/util/Preconditions$2"), (3, u "AIOOBE_FORMATTER"), (0, .class_ 132), (0, u "jdk/internal/util/Preconditions$3"), (3, u "IOOBE_FORMATTER")] 57

def k17m0 : Method := { name := "<init>", desc := "()V", sig := { parameters := [], returnType := none }, accessFlags := 1, code := none }
/-- jdk/internal/util/Preconditions -/
def k17 : Class := { plain "jdk/internal/util/Preconditions" (some 0) with
  accessFlags := 33
  interfaces := #[]
  cf := some (fileOf pool17 24 #[.nestMembers #[55, 131, 125, 114]] #[{ accessFlags := 1, nameIndex := 5, descriptorIndex := 6, attributes := #[] }] 33 2 #[] #[{ accessFlags := 25, nameIndex := 123, descriptorIndex := 124, attributes := #[] }, { accessFlags := 25, nameIndex := 130, descriptorIndex := 124, attributes := #[] }, { accessFlags := 25, nameIndex := 136, descriptorIndex := 124, attributes := #[] }])
  fields := #[{ name := "SIOOBE_FORMATTER", type := (.object "java/util/function/BiFunction"), accessFlags := 25, slot := 0, constantValue := 0 }, { name := "AIOOBE_FORMATTER", type := (.object "java/util/function/BiFunction"), accessFlags := 25, slot := 1, constantValue := 0 }, { name := "IOOBE_FORMATTER", type := (.object "java/util/function/BiFunction"), accessFlags := 25, slot := 2, constantValue := 0 }]
  methods := #[k17m0]
  instanceTypes := #[]
  staticTypes := #[(.object "java/util/function/BiFunction"), (.object "java/util/function/BiFunction"), (.object "java/util/function/BiFunction")]
  resolved := Array.replicate 194 none
  statics := some 2 }

def pool18 : Array CpInfo := pool [(9, u "<init>"), (6, .class_ 18), (1, u "java/lang/Object"), (0, u "()V"), (1, .class_ 23), (1, u "jdk/internal/util/ArraysSupport"), (0, u "LOG2_ARRAY_LONG_INDEX_SCALE"), (0, u "I"), (2, u "U"), (0, u "Ljdk/internal/misc/Unsafe;"), (8, u "BIG_ENDIAN"), (0, u "Z"), (8, u "LOG2_BYTE_BIT_SIZE"), (4, u "LOG2_ARRAY_INT_INDEX_SCALE"), (54, u "JLA"), (0, u "Ljdk/internal/access/JavaLangAccess;"), (11, u "LOG2_ARRAY_BOOLEAN_INDEX_SCALE"), (9, u "LOG2_ARRAY_BYTE_INDEX_SCALE"), (5, u "LOG2_ARRAY_CHAR_INDEX_SCALE"), (5, u "LOG2_ARRAY_SHORT_INDEX_SCALE"), (18, u "LOG2_ARRAY_FLOAT_INDEX_SCALE"), (24, u "LOG2_ARRAY_DOUBLE_INDEX_SCALE"), (89, u "T_BOOLEAN"), (2, u "T_CHAR"), (1, u "T_FLOAT"), (1, u "T_DOUBLE"), (1, u "T_BYTE"), (1, u "T_SHORT"), (1, u "T_INT"), (1, u "T_LONG"), (1, u "SOFT_MAX_ARRAY_LENGTH")] 83

def k18m0 : Method := { name := "<init>", desc := "()V", sig := { parameters := [], returnType := none }, accessFlags := 2, code := none }
/-- jdk/internal/util/ArraysSupport -/
def k18 : Class := { plain "jdk/internal/util/ArraysSupport" (some 0) with
  accessFlags := 33
  interfaces := #[]
  cf := some (fileOf pool18 21 #[] #[{ accessFlags := 2, nameIndex := 9, descriptorIndex := 19, attributes := #[] }] 33 16 #[] #[{ accessFlags := 24, nameIndex := 28, descriptorIndex := 29, attributes := #[] }, { accessFlags := 26, nameIndex := 38, descriptorIndex := 39, attributes := #[] }, { accessFlags := 25, nameIndex := 121, descriptorIndex := 25, attributes := #[] }, { accessFlags := 25, nameIndex := 131, descriptorIndex := 25, attributes := #[] }, { accessFlags := 25, nameIndex := 137, descriptorIndex := 25, attributes := #[] }, { accessFlags := 25, nameIndex := 143, descriptorIndex := 25, attributes := #[] }, { accessFlags := 25, nameIndex := 53, descriptorIndex := 25, attributes := #[] }, { accessFlags := 25, nameIndex := 24, descriptorIndex := 25, attributes := #[] }, { accessFlags := 25, nameIndex := 162, descriptorIndex := 25, attributes := #[] }, { accessFlags := 25, nameIndex := 187, descriptorIndex := 25, attributes := #[] }, { accessFlags := 26, nameIndex := 48, descriptorIndex := 25, attributes := #[] }, { accessFlags := 25, nameIndex := 277, descriptorIndex := 25, attributes := #[] }, { accessFlags := 25, nameIndex := 280, descriptorIndex := 25, attributes := #[] }, { accessFlags := 25, nameIndex := 282, descriptorIndex := 25, attributes := #[] }, { accessFlags := 25, nameIndex := 284, descriptorIndex := 25, attributes := #[] }, { accessFlags := 25, nameIndex := 286, descriptorIndex := 25, attributes := #[] }, { accessFlags := 25, nameIndex := 288, descriptorIndex := 25, attributes := #[] }, { accessFlags := 25, nameIndex := 290, descriptorIndex := 25, attributes := #[] }, { accessFlags := 25, nameIndex := 292, descriptorIndex := 25, attributes := #[] }, { accessFlags := 26, nameIndex := 108, descriptorIndex := 109, attributes := #[] }, { accessFlags := 25, nameIndex := 294, descriptorIndex := 25, attributes := #[] }])
  fields := #[{ name := "U", type := (.object "jdk/internal/misc/Unsafe"), accessFlags := 24, slot := 0, constantValue := 0 }, { name := "BIG_ENDIAN", type := .boolean, accessFlags := 26, slot := 1, constantValue := 0 }, { name := "LOG2_ARRAY_BOOLEAN_INDEX_SCALE", type := .int, accessFlags := 25, slot := 2, constantValue := 0 }, { name := "LOG2_ARRAY_BYTE_INDEX_SCALE", type := .int, accessFlags := 25, slot := 3, constantValue := 0 }, { name := "LOG2_ARRAY_CHAR_INDEX_SCALE", type := .int, accessFlags := 25, slot := 4, constantValue := 0 }, { name := "LOG2_ARRAY_SHORT_INDEX_SCALE", type := .int, accessFlags := 25, slot := 5, constantValue := 0 }, { name := "LOG2_ARRAY_INT_INDEX_SCALE", type := .int, accessFlags := 25, slot := 6, constantValue := 0 }, { name := "LOG2_ARRAY_LONG_INDEX_SCALE", type := .int, accessFlags := 25, slot := 7, constantValue := 0 }, { name := "LOG2_ARRAY_FLOAT_INDEX_SCALE", type := .int, accessFlags := 25, slot := 8, constantValue := 0 }, { name := "LOG2_ARRAY_DOUBLE_INDEX_SCALE", type := .int, accessFlags := 25, slot := 9, constantValue := 0 }, { name := "LOG2_BYTE_BIT_SIZE", type := .int, accessFlags := 26, slot := 10, constantValue := 0 }, { name := "T_BOOLEAN", type := .int, accessFlags := 25, slot := 11, constantValue := 0 }, { name := "T_CHAR", type := .int, accessFlags := 25, slot := 12, constantValue := 0 }, { name := "T_FLOAT", type := .int, accessFlags := 25, slot := 13, constantValue := 0 }, { name := "T_DOUBLE", type := .int, accessFlags := 25, slot := 14, constantValue := 0 }, { name := "T_BYTE", type := .int, accessFlags := 25, slot := 15, constantValue := 0 }, { name := "T_SHORT", type := .int, accessFlags := 25, slot := 16, constantValue := 0 }, { name := "T_INT", type := .int, accessFlags := 25, slot := 17, constantValue := 0 }, { name := "T_LONG", type := .int, accessFlags := 25, slot := 18, constantValue := 0 }, { name := "JLA", type := (.object "jdk/internal/access/JavaLangAccess"), accessFlags := 26, slot := 19, constantValue := 0 }, { name := "SOFT_MAX_ARRAY_LENGTH", type := .int, accessFlags := 25, slot := 20, constantValue := 0 }]
  methods := #[k18m0]
  instanceTypes := #[]
  staticTypes := #[(.object "jdk/internal/misc/Unsafe"), .boolean, .int, .int, .int, .int, .int, .int, .int, .int, .int, .int, .int, .int, .int, .int, .int, .int, .int, (.object "jdk/internal/access/JavaLangAccess"), .int]
  resolved := Array.replicate 378 none
  statics := none }

def pool19 : Array CpInfo := pool [(1, u "java/lang/Cloneable"), (0, .class_ 1), (0, u "java/lang/Object"), (0, .class_ 3)] 3

/-- java/lang/Cloneable -/
def k19 : Class := { plain "java/lang/Cloneable" (some 0) with
  accessFlags := 1537
  interfaces := #[]
  cf := some (fileOf pool19 2 #[] #[] 1537 4 #[] #[])
  fields := #[]
  methods := #[]
  instanceTypes := #[]
  staticTypes := #[]
  resolved := Array.replicate 8 none
  statics := none }

/-- the primitive byte -/
def k20 : Class := { plain "byte" none with kind := .primitive 'B', accessFlags := 0x411 }
/-- [B -/
def k21 : Class := { plain "[B" (some 0) with kind := .array 20 .byte, interfaces := #[19, 2], accessFlags := 1041 }

/-- the primitive char -/
def k22 : Class := { plain "char" none with kind := .primitive 'C', accessFlags := 0x411 }
/-- [C -/
def k23 : Class := { plain "[C" (some 0) with kind := .array 22 .char, interfaces := #[19, 2], accessFlags := 1041 }

/-- the primitive int -/
def k24 : Class := { plain "int" none with kind := .primitive 'I', accessFlags := 0x411 }
/-- [I -/
def k25 : Class := { plain "[I" (some 0) with kind := .array 24 .int, interfaces := #[19, 2], accessFlags := 1041 }

/-- [Ljava/lang/Integer; -/
def k26 : Class := { plain "[Ljava/lang/Integer;" (some 0) with kind := .array 10 (.object "java/lang/Integer"), interfaces := #[19, 2], accessFlags := 1041 }

def heap : Heap := #[{ cls := 7, slots := #[.long 0, .int 1, .null, .int 0, .null, .int 0, .int 0], vm := .statics 7 },
  { cls := 11, slots := #[.int 0, .int 127, .ref 3, .null, .int 0], vm := .statics 11 },
  { cls := 17, slots := #[.null, .null, .null], vm := .statics 17 },
  { cls := 26, slots := #[.ref 4, .ref 5, .ref 6, .ref 7, .ref 8, .ref 9, .ref 10, .ref 11, .ref 12, .ref 13, .ref 14, .ref 15, .ref 16, .ref 17, .ref 18, .ref 19, .ref 20, .ref 21, .ref 22, .ref 23, .ref 24, .ref 25, .ref 26, .ref 27, .ref 28, .ref 29, .ref 30, .ref 31, .ref 32, .ref 33, .ref 34, .ref 35, .ref 36, .ref 37, .ref 38, .ref 39, .ref 40, .ref 41, .ref 42, .ref 43, .ref 44, .ref 45, .ref 46, .ref 47, .ref 48, .ref 49, .ref 50, .ref 51, .ref 52, .ref 53, .ref 54, .ref 55, .ref 56, .ref 57, .ref 58, .ref 59, .ref 60, .ref 61, .ref 62, .ref 63, .ref 64, .ref 65, .ref 66, .ref 67, .ref 68, .ref 69, .ref 70, .ref 71, .ref 72, .ref 73, .ref 74, .ref 75, .ref 76, .ref 77, .ref 78, .ref 79, .ref 80, .ref 81, .ref 82, .ref 83, .ref 84, .ref 85, .ref 86, .ref 87, .ref 88, .ref 89, .ref 90, .ref 91, .ref 92, .ref 93, .ref 94, .ref 95, .ref 96, .ref 97, .ref 98, .ref 99, .ref 100, .ref 101, .ref 102, .ref 103, .ref 104, .ref 105, .ref 106, .ref 107, .ref 108, .ref 109, .ref 110, .ref 111, .ref 112, .ref 113, .ref 114, .ref 115, .ref 116, .ref 117, .ref 118, .ref 119, .ref 120, .ref 121, .ref 122, .ref 123, .ref 124, .ref 125, .ref 126, .ref 127, .ref 128, .ref 129, .ref 130, .ref 131, .ref 132, .ref 133, .ref 134, .ref 135, .ref 136, .ref 137, .ref 138, .ref 139, .ref 140, .ref 141, .ref 142, .ref 143, .ref 144, .ref 145, .ref 146, .ref 147, .ref 148, .ref 149, .ref 150, .ref 151, .ref 152, .ref 153, .ref 154, .ref 155, .ref 156, .ref 157, .ref 158, .ref 159, .ref 160, .ref 161, .ref 162, .ref 163, .ref 164, .ref 165, .ref 166, .ref 167, .ref 168, .ref 169, .ref 170, .ref 171, .ref 172, .ref 173, .ref 174, .ref 175, .ref 176, .ref 177, .ref 178, .ref 179, .ref 180, .ref 181, .ref 182, .ref 183, .ref 184, .ref 185, .ref 186, .ref 187, .ref 188, .ref 189, .ref 190, .ref 191, .ref 192, .ref 193, .ref 194, .ref 195, .ref 196, .ref 197, .ref 198, .ref 199, .ref 200, .ref 201, .ref 202, .ref 203, .ref 204, .ref 205, .ref 206, .ref 207, .ref 208, .ref 209, .ref 210, .ref 211, .ref 212, .ref 213, .ref 214, .ref 215, .ref 216, .ref 217, .ref 218, .ref 219, .ref 220, .ref 221, .ref 222, .ref 223, .ref 224, .ref 225, .ref 226, .ref 227, .ref 228, .ref 229, .ref 230, .ref 231, .ref 232, .ref 233, .ref 234, .ref 235, .ref 236, .ref 237, .ref 238, .ref 239, .ref 240, .ref 241, .ref 242, .ref 243, .ref 244, .ref 245, .ref 246, .ref 247, .ref 248, .ref 249, .ref 250, .ref 251, .ref 252, .ref 253, .ref 254, .ref 255, .ref 256, .ref 257, .ref 258, .ref 259], vm := .none },
  { cls := 10, slots := #[.int (-128)], vm := .none },
  { cls := 10, slots := #[.int (-127)], vm := .none },
  { cls := 10, slots := #[.int (-126)], vm := .none },
  { cls := 10, slots := #[.int (-125)], vm := .none },
  { cls := 10, slots := #[.int (-124)], vm := .none },
  { cls := 10, slots := #[.int (-123)], vm := .none },
  { cls := 10, slots := #[.int (-122)], vm := .none },
  { cls := 10, slots := #[.int (-121)], vm := .none },
  { cls := 10, slots := #[.int (-120)], vm := .none },
  { cls := 10, slots := #[.int (-119)], vm := .none },
  { cls := 10, slots := #[.int (-118)], vm := .none },
  { cls := 10, slots := #[.int (-117)], vm := .none },
  { cls := 10, slots := #[.int (-116)], vm := .none },
  { cls := 10, slots := #[.int (-115)], vm := .none },
  { cls := 10, slots := #[.int (-114)], vm := .none },
  { cls := 10, slots := #[.int (-113)], vm := .none },
  { cls := 10, slots := #[.int (-112)], vm := .none },
  { cls := 10, slots := #[.int (-111)], vm := .none },
  { cls := 10, slots := #[.int (-110)], vm := .none },
  { cls := 10, slots := #[.int (-109)], vm := .none },
  { cls := 10, slots := #[.int (-108)], vm := .none },
  { cls := 10, slots := #[.int (-107)], vm := .none },
  { cls := 10, slots := #[.int (-106)], vm := .none },
  { cls := 10, slots := #[.int (-105)], vm := .none },
  { cls := 10, slots := #[.int (-104)], vm := .none },
  { cls := 10, slots := #[.int (-103)], vm := .none },
  { cls := 10, slots := #[.int (-102)], vm := .none },
  { cls := 10, slots := #[.int (-101)], vm := .none },
  { cls := 10, slots := #[.int (-100)], vm := .none },
  { cls := 10, slots := #[.int (-99)], vm := .none },
  { cls := 10, slots := #[.int (-98)], vm := .none },
  { cls := 10, slots := #[.int (-97)], vm := .none },
  { cls := 10, slots := #[.int (-96)], vm := .none },
  { cls := 10, slots := #[.int (-95)], vm := .none },
  { cls := 10, slots := #[.int (-94)], vm := .none },
  { cls := 10, slots := #[.int (-93)], vm := .none },
  { cls := 10, slots := #[.int (-92)], vm := .none },
  { cls := 10, slots := #[.int (-91)], vm := .none },
  { cls := 10, slots := #[.int (-90)], vm := .none },
  { cls := 10, slots := #[.int (-89)], vm := .none },
  { cls := 10, slots := #[.int (-88)], vm := .none },
  { cls := 10, slots := #[.int (-87)], vm := .none },
  { cls := 10, slots := #[.int (-86)], vm := .none },
  { cls := 10, slots := #[.int (-85)], vm := .none },
  { cls := 10, slots := #[.int (-84)], vm := .none },
  { cls := 10, slots := #[.int (-83)], vm := .none },
  { cls := 10, slots := #[.int (-82)], vm := .none },
  { cls := 10, slots := #[.int (-81)], vm := .none },
  { cls := 10, slots := #[.int (-80)], vm := .none },
  { cls := 10, slots := #[.int (-79)], vm := .none },
  { cls := 10, slots := #[.int (-78)], vm := .none },
  { cls := 10, slots := #[.int (-77)], vm := .none },
  { cls := 10, slots := #[.int (-76)], vm := .none },
  { cls := 10, slots := #[.int (-75)], vm := .none },
  { cls := 10, slots := #[.int (-74)], vm := .none },
  { cls := 10, slots := #[.int (-73)], vm := .none },
  { cls := 10, slots := #[.int (-72)], vm := .none },
  { cls := 10, slots := #[.int (-71)], vm := .none },
  { cls := 10, slots := #[.int (-70)], vm := .none },
  { cls := 10, slots := #[.int (-69)], vm := .none },
  { cls := 10, slots := #[.int (-68)], vm := .none },
  { cls := 10, slots := #[.int (-67)], vm := .none },
  { cls := 10, slots := #[.int (-66)], vm := .none },
  { cls := 10, slots := #[.int (-65)], vm := .none },
  { cls := 10, slots := #[.int (-64)], vm := .none },
  { cls := 10, slots := #[.int (-63)], vm := .none },
  { cls := 10, slots := #[.int (-62)], vm := .none },
  { cls := 10, slots := #[.int (-61)], vm := .none },
  { cls := 10, slots := #[.int (-60)], vm := .none },
  { cls := 10, slots := #[.int (-59)], vm := .none },
  { cls := 10, slots := #[.int (-58)], vm := .none },
  { cls := 10, slots := #[.int (-57)], vm := .none },
  { cls := 10, slots := #[.int (-56)], vm := .none },
  { cls := 10, slots := #[.int (-55)], vm := .none },
  { cls := 10, slots := #[.int (-54)], vm := .none },
  { cls := 10, slots := #[.int (-53)], vm := .none },
  { cls := 10, slots := #[.int (-52)], vm := .none },
  { cls := 10, slots := #[.int (-51)], vm := .none },
  { cls := 10, slots := #[.int (-50)], vm := .none },
  { cls := 10, slots := #[.int (-49)], vm := .none },
  { cls := 10, slots := #[.int (-48)], vm := .none },
  { cls := 10, slots := #[.int (-47)], vm := .none },
  { cls := 10, slots := #[.int (-46)], vm := .none },
  { cls := 10, slots := #[.int (-45)], vm := .none },
  { cls := 10, slots := #[.int (-44)], vm := .none },
  { cls := 10, slots := #[.int (-43)], vm := .none },
  { cls := 10, slots := #[.int (-42)], vm := .none },
  { cls := 10, slots := #[.int (-41)], vm := .none },
  { cls := 10, slots := #[.int (-40)], vm := .none },
  { cls := 10, slots := #[.int (-39)], vm := .none },
  { cls := 10, slots := #[.int (-38)], vm := .none },
  { cls := 10, slots := #[.int (-37)], vm := .none },
  { cls := 10, slots := #[.int (-36)], vm := .none },
  { cls := 10, slots := #[.int (-35)], vm := .none },
  { cls := 10, slots := #[.int (-34)], vm := .none },
  { cls := 10, slots := #[.int (-33)], vm := .none },
  { cls := 10, slots := #[.int (-32)], vm := .none },
  { cls := 10, slots := #[.int (-31)], vm := .none },
  { cls := 10, slots := #[.int (-30)], vm := .none },
  { cls := 10, slots := #[.int (-29)], vm := .none },
  { cls := 10, slots := #[.int (-28)], vm := .none },
  { cls := 10, slots := #[.int (-27)], vm := .none },
  { cls := 10, slots := #[.int (-26)], vm := .none },
  { cls := 10, slots := #[.int (-25)], vm := .none },
  { cls := 10, slots := #[.int (-24)], vm := .none },
  { cls := 10, slots := #[.int (-23)], vm := .none },
  { cls := 10, slots := #[.int (-22)], vm := .none },
  { cls := 10, slots := #[.int (-21)], vm := .none },
  { cls := 10, slots := #[.int (-20)], vm := .none },
  { cls := 10, slots := #[.int (-19)], vm := .none },
  { cls := 10, slots := #[.int (-18)], vm := .none },
  { cls := 10, slots := #[.int (-17)], vm := .none },
  { cls := 10, slots := #[.int (-16)], vm := .none },
  { cls := 10, slots := #[.int (-15)], vm := .none },
  { cls := 10, slots := #[.int (-14)], vm := .none },
  { cls := 10, slots := #[.int (-13)], vm := .none },
  { cls := 10, slots := #[.int (-12)], vm := .none },
  { cls := 10, slots := #[.int (-11)], vm := .none },
  { cls := 10, slots := #[.int (-10)], vm := .none },
  { cls := 10, slots := #[.int (-9)], vm := .none },
  { cls := 10, slots := #[.int (-8)], vm := .none },
  { cls := 10, slots := #[.int (-7)], vm := .none },
  { cls := 10, slots := #[.int (-6)], vm := .none },
  { cls := 10, slots := #[.int (-5)], vm := .none },
  { cls := 10, slots := #[.int (-4)], vm := .none },
  { cls := 10, slots := #[.int (-3)], vm := .none },
  { cls := 10, slots := #[.int (-2)], vm := .none },
  { cls := 10, slots := #[.int (-1)], vm := .none },
  { cls := 10, slots := #[.int (0)], vm := .none },
  { cls := 10, slots := #[.int (1)], vm := .none },
  { cls := 10, slots := #[.int (2)], vm := .none },
  { cls := 10, slots := #[.int (3)], vm := .none },
  { cls := 10, slots := #[.int (4)], vm := .none },
  { cls := 10, slots := #[.int (5)], vm := .none },
  { cls := 10, slots := #[.int (6)], vm := .none },
  { cls := 10, slots := #[.int (7)], vm := .none },
  { cls := 10, slots := #[.int (8)], vm := .none },
  { cls := 10, slots := #[.int (9)], vm := .none },
  { cls := 10, slots := #[.int (10)], vm := .none },
  { cls := 10, slots := #[.int (11)], vm := .none },
  { cls := 10, slots := #[.int (12)], vm := .none },
  { cls := 10, slots := #[.int (13)], vm := .none },
  { cls := 10, slots := #[.int (14)], vm := .none },
  { cls := 10, slots := #[.int (15)], vm := .none },
  { cls := 10, slots := #[.int (16)], vm := .none },
  { cls := 10, slots := #[.int (17)], vm := .none },
  { cls := 10, slots := #[.int (18)], vm := .none },
  { cls := 10, slots := #[.int (19)], vm := .none },
  { cls := 10, slots := #[.int (20)], vm := .none },
  { cls := 10, slots := #[.int (21)], vm := .none },
  { cls := 10, slots := #[.int (22)], vm := .none },
  { cls := 10, slots := #[.int (23)], vm := .none },
  { cls := 10, slots := #[.int (24)], vm := .none },
  { cls := 10, slots := #[.int (25)], vm := .none },
  { cls := 10, slots := #[.int (26)], vm := .none },
  { cls := 10, slots := #[.int (27)], vm := .none },
  { cls := 10, slots := #[.int (28)], vm := .none },
  { cls := 10, slots := #[.int (29)], vm := .none },
  { cls := 10, slots := #[.int (30)], vm := .none },
  { cls := 10, slots := #[.int (31)], vm := .none },
  { cls := 10, slots := #[.int (32)], vm := .none },
  { cls := 10, slots := #[.int (33)], vm := .none },
  { cls := 10, slots := #[.int (34)], vm := .none },
  { cls := 10, slots := #[.int (35)], vm := .none },
  { cls := 10, slots := #[.int (36)], vm := .none },
  { cls := 10, slots := #[.int (37)], vm := .none },
  { cls := 10, slots := #[.int (38)], vm := .none },
  { cls := 10, slots := #[.int (39)], vm := .none },
  { cls := 10, slots := #[.int (40)], vm := .none },
  { cls := 10, slots := #[.int (41)], vm := .none },
  { cls := 10, slots := #[.int (42)], vm := .none },
  { cls := 10, slots := #[.int (43)], vm := .none },
  { cls := 10, slots := #[.int (44)], vm := .none },
  { cls := 10, slots := #[.int (45)], vm := .none },
  { cls := 10, slots := #[.int (46)], vm := .none },
  { cls := 10, slots := #[.int (47)], vm := .none },
  { cls := 10, slots := #[.int (48)], vm := .none },
  { cls := 10, slots := #[.int (49)], vm := .none },
  { cls := 10, slots := #[.int (50)], vm := .none },
  { cls := 10, slots := #[.int (51)], vm := .none },
  { cls := 10, slots := #[.int (52)], vm := .none },
  { cls := 10, slots := #[.int (53)], vm := .none },
  { cls := 10, slots := #[.int (54)], vm := .none },
  { cls := 10, slots := #[.int (55)], vm := .none },
  { cls := 10, slots := #[.int (56)], vm := .none },
  { cls := 10, slots := #[.int (57)], vm := .none },
  { cls := 10, slots := #[.int (58)], vm := .none },
  { cls := 10, slots := #[.int (59)], vm := .none },
  { cls := 10, slots := #[.int (60)], vm := .none },
  { cls := 10, slots := #[.int (61)], vm := .none },
  { cls := 10, slots := #[.int (62)], vm := .none },
  { cls := 10, slots := #[.int (63)], vm := .none },
  { cls := 10, slots := #[.int (64)], vm := .none },
  { cls := 10, slots := #[.int (65)], vm := .none },
  { cls := 10, slots := #[.int (66)], vm := .none },
  { cls := 10, slots := #[.int (67)], vm := .none },
  { cls := 10, slots := #[.int (68)], vm := .none },
  { cls := 10, slots := #[.int (69)], vm := .none },
  { cls := 10, slots := #[.int (70)], vm := .none },
  { cls := 10, slots := #[.int (71)], vm := .none },
  { cls := 10, slots := #[.int (72)], vm := .none },
  { cls := 10, slots := #[.int (73)], vm := .none },
  { cls := 10, slots := #[.int (74)], vm := .none },
  { cls := 10, slots := #[.int (75)], vm := .none },
  { cls := 10, slots := #[.int (76)], vm := .none },
  { cls := 10, slots := #[.int (77)], vm := .none },
  { cls := 10, slots := #[.int (78)], vm := .none },
  { cls := 10, slots := #[.int (79)], vm := .none },
  { cls := 10, slots := #[.int (80)], vm := .none },
  { cls := 10, slots := #[.int (81)], vm := .none },
  { cls := 10, slots := #[.int (82)], vm := .none },
  { cls := 10, slots := #[.int (83)], vm := .none },
  { cls := 10, slots := #[.int (84)], vm := .none },
  { cls := 10, slots := #[.int (85)], vm := .none },
  { cls := 10, slots := #[.int (86)], vm := .none },
  { cls := 10, slots := #[.int (87)], vm := .none },
  { cls := 10, slots := #[.int (88)], vm := .none },
  { cls := 10, slots := #[.int (89)], vm := .none },
  { cls := 10, slots := #[.int (90)], vm := .none },
  { cls := 10, slots := #[.int (91)], vm := .none },
  { cls := 10, slots := #[.int (92)], vm := .none },
  { cls := 10, slots := #[.int (93)], vm := .none },
  { cls := 10, slots := #[.int (94)], vm := .none },
  { cls := 10, slots := #[.int (95)], vm := .none },
  { cls := 10, slots := #[.int (96)], vm := .none },
  { cls := 10, slots := #[.int (97)], vm := .none },
  { cls := 10, slots := #[.int (98)], vm := .none },
  { cls := 10, slots := #[.int (99)], vm := .none },
  { cls := 10, slots := #[.int (100)], vm := .none },
  { cls := 10, slots := #[.int (101)], vm := .none },
  { cls := 10, slots := #[.int (102)], vm := .none },
  { cls := 10, slots := #[.int (103)], vm := .none },
  { cls := 10, slots := #[.int (104)], vm := .none },
  { cls := 10, slots := #[.int (105)], vm := .none },
  { cls := 10, slots := #[.int (106)], vm := .none },
  { cls := 10, slots := #[.int (107)], vm := .none },
  { cls := 10, slots := #[.int (108)], vm := .none },
  { cls := 10, slots := #[.int (109)], vm := .none },
  { cls := 10, slots := #[.int (110)], vm := .none },
  { cls := 10, slots := #[.int (111)], vm := .none },
  { cls := 10, slots := #[.int (112)], vm := .none },
  { cls := 10, slots := #[.int (113)], vm := .none },
  { cls := 10, slots := #[.int (114)], vm := .none },
  { cls := 10, slots := #[.int (115)], vm := .none },
  { cls := 10, slots := #[.int (116)], vm := .none },
  { cls := 10, slots := #[.int (117)], vm := .none },
  { cls := 10, slots := #[.int (118)], vm := .none },
  { cls := 10, slots := #[.int (119)], vm := .none },
  { cls := 10, slots := #[.int (120)], vm := .none },
  { cls := 10, slots := #[.int (121)], vm := .none },
  { cls := 10, slots := #[.int (122)], vm := .none },
  { cls := 10, slots := #[.int (123)], vm := .none },
  { cls := 10, slots := #[.int (124)], vm := .none },
  { cls := 10, slots := #[.int (125)], vm := .none },
  { cls := 10, slots := #[.int (126)], vm := .none },
  { cls := 10, slots := #[.int (127)], vm := .none }]
def classes : Array Class := #[k0, k1, k2, k3, k4, k5, k6, k7, k8, k9, k10, k11, k12, k13, k14, k15, k16, k17, k18, k19, k20, k21, k22, k23, k24, k25, k26]
def interned : List (Array UInt16 × Addr) := []
def slotsUsed : Nat := 527
def theMethod : MethodId := ⟨1, 1⟩
def args0 : Array Value := #[.int 5, .int 5, .long 5, .long 5, .long 5, .int 5]
def aboutOver (below : List Frame) : State where
  vm := { classes := classes, interned := interned.toArray }
  heap := heap
  slotsUsed := slotsUsed
  threads := #[{ frames := .invoking theMethod args0 :: below }]
def below0 : List Frame := [.native { method := ⟨0, 0⟩, args := #[] }]
def about1 : State := aboutOver below0
def p0 : Program := .bare "" "" ""
def e0 : Env := launch0.env 0 0 0
theorem w_frames : about1.frames = Frame.invoking theMethod args0 :: below0 := rfl
set_option maxRecDepth 65536 in
theorem w_args : argsFit about1.vm theMethod args0 = true := by decide +kernel
set_option maxRecDepth 65536 in
theorem w_heap : heapFits about1 = true := by decide +kernel
set_option maxRecDepth 65536 in
theorem w_runnable : about1.curStatus? = some .runnable := by decide +kernel
set_option maxRecDepth 65536 in
theorem w_alone : about1.alone = true := by decide +kernel
set_option maxRecDepth 65536 in
theorem w_named : about1.methodNamed? x = some theMethod := by decide +kernel
set_option maxRecDepth 65536 in
theorem w_hears : about1.hears theMethod below0 = true := by decide +kernel
set_option maxRecDepth 65536 in
theorem w_ripe : about1.ripe theMethod args0 below0 = true := by decide +kernel
theorem w_running : about1.status = .running := rfl
set_option maxRecDepth 65536 in
theorem w_room : about1.hasRoom e0.platform room_1 = true :=
  launch0.hasRoom_least _ room_1 (by decide +kernel) (by decide +kernel) (by decide +kernel) (by decide +kernel) (by decide +kernel) (by decide +kernel)
theorem allAtoms_all (ts : List Jvm.Cond) (a : Array Jvm.Value) (st : Jvm.State) : (allAtoms ts).before a st = ts.all (fun c => c.before a st) := by
  induction ts with
  | nil => rfl
  | cons c t ih =>
    show (Jvm.Cond.and c (allAtoms t)).before a st = _
    rw [Jvm.Cond.before_and, ih, List.all_cons]
def words1 : List Jvm.Cond := Jvm.Cond.code x code maxLocals ret :: tables_1
/-- a 'code' word, met by the world's own term for the bytes: nothing is compared byte by byte -/
theorem code_word {y : MethodName} {bytes : ByteArray} {mx : Nat} {rt : Option FieldType} {a : Array Value} {s : State} {m : MethodId} {meth : Method} {c : Code} (h1 : s.methodNamed? y = some m) (h2 : s.vm.method? m = some meth) (h3 : meth.code = some c) (h4 : c.code = bytes)
    (h5 : (c.maxLocals == mx && c.exceptionTable.isEmpty && decide (c.maxStack ≤ mostOperands) && decide (meth.sig.returnType = rt) && !meth.locks && decide (parseMethodDescriptor y.desc = some meth.sig)) = true) : (Jvm.Cond.code y bytes mx rt).before a s = true := by
  simp only [Bool.and_eq_true, beq_iff_eq, Bool.not_eq_true', decide_eq_true_eq] at h5
  obtain ⟨⟨⟨⟨⟨g1, g2⟩, g3⟩, g4⟩, g5⟩, g6⟩ := h5
  simp [Cond.before, Cond.holds, Cond.value, h1, h2, h3, h4, g1, g2, g3, g4, g5, g6]
def isCode : Jvm.Cond → Bool
  | .code _ _ _ _ => true
  | _ => false
theorem all_split {L : List Jvm.Cond} {P : Jvm.Cond → Bool} (h1 : L.all (fun c => isCode c || P c) = true) (h2 : ∀ c ∈ L.filter isCode, P c = true) : L.all P = true := by
  refine List.all_eq_true.mpr fun c hc => ?_
  have h := List.all_eq_true.mp h1 c hc
  rcases Bool.eq_false_or_eq_true (isCode c) with hi | hi
  · exact h2 c (List.mem_filter.mpr ⟨hc, hi⟩)
  · simpa [hi] using h
set_option maxRecDepth 65536 in
theorem w_c0 : (Jvm.Cond.code x code maxLocals ret).before args0 about1 = true := code_word (m := ⟨1, 1⟩) (meth := k1m1) (c := k1c1) (by decide +kernel) rfl rfl rfl (by decide +kernel)
set_option maxRecDepth 65536 in
theorem w_c1 : (Jvm.Cond.code ({ cls := "java/lang/String", name := "<init>", desc := "([C)V" } : Jvm.MethodName) jdk_42_method_3_code (2 : Nat) (Option.none : Option Jvm.ClassFile.FieldType)).before args0 about1 = true := code_word (m := ⟨7, 1⟩) (meth := k7m1) (c := k7c1) (by decide +kernel) rfl rfl rfl (by decide +kernel)
set_option maxRecDepth 65536 in
theorem w_c2 : (Jvm.Cond.code ({ cls := "java/lang/String", name := "<init>", desc := "([CIILjava/lang/Void;)V" } : Jvm.MethodName) jdk_42_method_149_code (6 : Nat) (Option.none : Option Jvm.ClassFile.FieldType)).before args0 about1 = true := code_word (m := ⟨7, 3⟩) (meth := k7m3) (c := k7c3) (by decide +kernel) rfl rfl rfl (by decide +kernel)
set_option maxRecDepth 65536 in
theorem w_c3 : (Jvm.Cond.code ({ cls := "java/lang/Object", name := "<init>", desc := "()V" } : Jvm.MethodName) object_method_1_code (1 : Nat) (Option.none : Option Jvm.ClassFile.FieldType)).before args0 about1 = true := code_word (m := ⟨0, 0⟩) (meth := k0m0) (c := k0c0) (by decide +kernel) rfl rfl rfl (by decide +kernel)
set_option maxRecDepth 65536 in
theorem w_c4 : (Jvm.Cond.code ({ cls := "java/lang/StringUTF16", name := "compress", desc := "([CII)[B" } : Jvm.MethodName) jdk_52_method_16_code (6 : Nat) (Option.some (Jvm.ClassFile.FieldType.array Jvm.ClassFile.FieldType.byte))).before args0 about1 = true := code_word (m := ⟨8, 2⟩) (meth := k8m2) (c := k8c2) (by decide +kernel) rfl rfl rfl (by decide +kernel)
set_option maxRecDepth 65536 in
theorem w_c5 : (Jvm.Cond.code ({ cls := "java/lang/StringUTF16", name := "compress", desc := "([CI[BII)I" } : Jvm.MethodName) jdk_52_method_21_code (7 : Nat) (Option.some Jvm.ClassFile.FieldType.int)).before args0 about1 = true := code_word (m := ⟨8, 3⟩) (meth := k8m3) (c := k8c3) (by decide +kernel) rfl rfl rfl (by decide +kernel)
set_option maxRecDepth 65536 in
theorem w_c6 : (Jvm.Cond.code ({ cls := "java/lang/StringUTF16", name := "coderFromArrayLen", desc := "([BI)B" } : Jvm.MethodName) jdk_52_method_15_code (2 : Nat) (Option.some Jvm.ClassFile.FieldType.byte)).before args0 about1 = true := code_word (m := ⟨8, 1⟩) (meth := k8m1) (c := k8c1) (by decide +kernel) rfl rfl rfl (by decide +kernel)
set_option maxRecDepth 65536 in
theorem w_c7 : (Jvm.Cond.code ({ cls := "java/lang/Integer", name := "valueOf", desc := "(I)Ljava/lang/Integer;" } : Jvm.MethodName) jdk_33_method_22_code (1 : Nat) (Option.some (Jvm.ClassFile.FieldType.object "java/lang/Integer"))).before args0 about1 = true := code_word (m := ⟨10, 0⟩) (meth := k10m0) (c := k10c0) (by decide +kernel) rfl rfl rfl (by decide +kernel)
set_option maxRecDepth 65536 in
theorem w_c8 : (Jvm.Cond.code ({ cls := "com/example/nikki/nikki/eventsourcing/Aggregate", name := "<init>", desc := "(Ljava/lang/String;JLjava/lang/Object;)V" } : Jvm.MethodName) prog_19_method_1_code (5 : Nat) (Option.none : Option Jvm.ClassFile.FieldType)).before args0 about1 = true := code_word (m := ⟨13, 0⟩) (meth := k13m0) (c := k13c0) (by decide +kernel) rfl rfl rfl (by decide +kernel)
set_option maxRecDepth 65536 in
theorem w_c9 : (Jvm.Cond.code ({ cls := "java/lang/Record", name := "<init>", desc := "()V" } : Jvm.MethodName) jdk_30_method_1_code (1 : Nat) (Option.none : Option Jvm.ClassFile.FieldType)).before args0 about1 = true := code_word (m := ⟨12, 0⟩) (meth := k12m0) (c := k12c0) (by decide +kernel) rfl rfl rfl (by decide +kernel)
set_option maxRecDepth 65536 in
theorem w_c10 : (Jvm.Cond.code ({ cls := "java/util/Objects", name := "requireNonNull", desc := "(Ljava/lang/Object;Ljava/lang/String;)Ljava/lang/Object;" } : Jvm.MethodName) jdk_31_method_11_code (2 : Nat) (Option.some (Jvm.ClassFile.FieldType.object "java/lang/Object"))).before args0 about1 = true := code_word (m := ⟨14, 1⟩) (meth := k14m1) (c := k14c1) (by decide +kernel) rfl rfl rfl (by decide +kernel)
set_option maxRecDepth 65536 in
theorem w_c11 : (Jvm.Cond.code ({ cls := "com/example/nikki/nikki/eventsourcing/HeldAggregate", name := "<init>", desc := "(Lcom/example/nikki/nikki/eventsourcing/Aggregate;J)V" } : Jvm.MethodName) prog_32_method_1_code (4 : Nat) (Option.none : Option Jvm.ClassFile.FieldType)).before args0 about1 = true := code_word (m := ⟨15, 0⟩) (meth := k15m0) (c := k15c0) (by decide +kernel) rfl rfl rfl (by decide +kernel)
set_option maxRecDepth 65536 in
theorem w_c12 : (Jvm.Cond.code ({ cls := "com/example/nikki/nikki/eventsourcing/Aggregate", name := "identifier", desc := "()Ljava/lang/String;" } : Jvm.MethodName) prog_19_method_5_code (1 : Nat) (Option.some (Jvm.ClassFile.FieldType.object "java/lang/String"))).before args0 about1 = true := code_word (m := ⟨13, 1⟩) (meth := k13m1) (c := k13c1) (by decide +kernel) rfl rfl rfl (by decide +kernel)
set_option maxRecDepth 65536 in
theorem w_c13 : (Jvm.Cond.code ({ cls := "com/example/nikki/nikki/eventsourcing/Aggregate", name := "root", desc := "()Ljava/lang/Object;" } : Jvm.MethodName) prog_19_method_7_code (1 : Nat) (Option.some (Jvm.ClassFile.FieldType.object "java/lang/Object"))).before args0 about1 = true := code_word (m := ⟨13, 3⟩) (meth := k13m3) (c := k13c3) (by decide +kernel) rfl rfl rfl (by decide +kernel)
set_option maxRecDepth 65536 in
theorem w_c14 : (Jvm.Cond.code ({ cls := "com/example/nikki/nikki/eventsourcing/Aggregate", name := "version", desc := "()J" } : Jvm.MethodName) prog_19_method_6_code (1 : Nat) (Option.some Jvm.ClassFile.FieldType.long)).before args0 about1 = true := code_word (m := ⟨13, 2⟩) (meth := k13m2) (c := k13c2) (by decide +kernel) rfl rfl rfl (by decide +kernel)
set_option maxRecDepth 65536 in
theorem w_c15 : (Jvm.Cond.code ({ cls := "com/example/nikki/nikki/eventsourcing/HeldAggregate", name := "state", desc := "()Lcom/example/nikki/nikki/eventsourcing/Aggregate;" } : Jvm.MethodName) prog_32_method_2_code (1 : Nat) (Option.some (Jvm.ClassFile.FieldType.object "com/example/nikki/nikki/eventsourcing/Aggregate"))).before args0 about1 = true := code_word (m := ⟨15, 1⟩) (meth := k15m1) (c := k15c1) (by decide +kernel) rfl rfl rfl (by decide +kernel)
set_option maxRecDepth 65536 in
theorem w_c16 : (Jvm.Cond.code ({ cls := "java/lang/String", name := "equals", desc := "(Ljava/lang/Object;)Z" } : Jvm.MethodName) jdk_42_method_66_code (3 : Nat) (Option.some Jvm.ClassFile.FieldType.boolean)).before args0 about1 = true := code_word (m := ⟨7, 2⟩) (meth := k7m2) (c := k7c2) (by decide +kernel) rfl rfl rfl (by decide +kernel)
set_option maxRecDepth 65536 in
theorem w_c17 : (Jvm.Cond.code ({ cls := "java/lang/Integer", name := "<init>", desc := "(I)V" } : Jvm.MethodName) jdk_33_method_23_code (2 : Nat) (Option.none : Option Jvm.ClassFile.FieldType)).before args0 about1 = true := code_word (m := ⟨10, 1⟩) (meth := k10m1) (c := k10c1) (by decide +kernel) rfl rfl rfl (by decide +kernel)
set_option maxRecDepth 65536 in
theorem w_c18 : (Jvm.Cond.code ({ cls := "java/lang/Number", name := "<init>", desc := "()V" } : Jvm.MethodName) jdk_18_method_1_code (1 : Nat) (Option.none : Option Jvm.ClassFile.FieldType)).before args0 about1 = true := code_word (m := ⟨9, 0⟩) (meth := k9m0) (c := k9c0) (by decide +kernel) rfl rfl rfl (by decide +kernel)
def codes1 : List Jvm.Cond := [Jvm.Cond.code x code maxLocals ret, Jvm.Cond.code ({ cls := "java/lang/String", name := "<init>", desc := "([C)V" } : Jvm.MethodName) jdk_42_method_3_code (2 : Nat) (Option.none : Option Jvm.ClassFile.FieldType), Jvm.Cond.code ({ cls := "java/lang/String", name := "<init>", desc := "([CIILjava/lang/Void;)V" } : Jvm.MethodName) jdk_42_method_149_code (6 : Nat) (Option.none : Option Jvm.ClassFile.FieldType), Jvm.Cond.code ({ cls := "java/lang/Object", name := "<init>", desc := "()V" } : Jvm.MethodName) object_method_1_code (1 : Nat) (Option.none : Option Jvm.ClassFile.FieldType), Jvm.Cond.code ({ cls := "java/lang/StringUTF16", name := "compress", desc := "([CII)[B" } : Jvm.MethodName) jdk_52_method_16_code (6 : Nat) (Option.some (Jvm.ClassFile.FieldType.array Jvm.ClassFile.FieldType.byte)), Jvm.Cond.code ({ cls := "java/lang/StringUTF16", name := "compress", desc := "([CI[BII)I" } : Jvm.MethodName) jdk_52_method_21_code (7 : Nat) (Option.some Jvm.ClassFile.FieldType.int), Jvm.Cond.code ({ cls := "java/lang/StringUTF16", name := "coderFromArrayLen", desc := "([BI)B" } : Jvm.MethodName) jdk_52_method_15_code (2 : Nat) (Option.some Jvm.ClassFile.FieldType.byte), Jvm.Cond.code ({ cls := "java/lang/Integer", name := "valueOf", desc := "(I)Ljava/lang/Integer;" } : Jvm.MethodName) jdk_33_method_22_code (1 : Nat) (Option.some (Jvm.ClassFile.FieldType.object "java/lang/Integer")), Jvm.Cond.code ({ cls := "com/example/nikki/nikki/eventsourcing/Aggregate", name := "<init>", desc := "(Ljava/lang/String;JLjava/lang/Object;)V" } : Jvm.MethodName) prog_19_method_1_code (5 : Nat) (Option.none : Option Jvm.ClassFile.FieldType), Jvm.Cond.code ({ cls := "java/lang/Record", name := "<init>", desc := "()V" } : Jvm.MethodName) jdk_30_method_1_code (1 : Nat) (Option.none : Option Jvm.ClassFile.FieldType), Jvm.Cond.code ({ cls := "java/util/Objects", name := "requireNonNull", desc := "(Ljava/lang/Object;Ljava/lang/String;)Ljava/lang/Object;" } : Jvm.MethodName) jdk_31_method_11_code (2 : Nat) (Option.some (Jvm.ClassFile.FieldType.object "java/lang/Object")), Jvm.Cond.code ({ cls := "com/example/nikki/nikki/eventsourcing/HeldAggregate", name := "<init>", desc := "(Lcom/example/nikki/nikki/eventsourcing/Aggregate;J)V" } : Jvm.MethodName) prog_32_method_1_code (4 : Nat) (Option.none : Option Jvm.ClassFile.FieldType), Jvm.Cond.code ({ cls := "com/example/nikki/nikki/eventsourcing/Aggregate", name := "identifier", desc := "()Ljava/lang/String;" } : Jvm.MethodName) prog_19_method_5_code (1 : Nat) (Option.some (Jvm.ClassFile.FieldType.object "java/lang/String")), Jvm.Cond.code ({ cls := "com/example/nikki/nikki/eventsourcing/Aggregate", name := "root", desc := "()Ljava/lang/Object;" } : Jvm.MethodName) prog_19_method_7_code (1 : Nat) (Option.some (Jvm.ClassFile.FieldType.object "java/lang/Object")), Jvm.Cond.code ({ cls := "com/example/nikki/nikki/eventsourcing/Aggregate", name := "version", desc := "()J" } : Jvm.MethodName) prog_19_method_6_code (1 : Nat) (Option.some Jvm.ClassFile.FieldType.long), Jvm.Cond.code ({ cls := "com/example/nikki/nikki/eventsourcing/HeldAggregate", name := "state", desc := "()Lcom/example/nikki/nikki/eventsourcing/Aggregate;" } : Jvm.MethodName) prog_32_method_2_code (1 : Nat) (Option.some (Jvm.ClassFile.FieldType.object "com/example/nikki/nikki/eventsourcing/Aggregate")), Jvm.Cond.code ({ cls := "java/lang/String", name := "equals", desc := "(Ljava/lang/Object;)Z" } : Jvm.MethodName) jdk_42_method_66_code (3 : Nat) (Option.some Jvm.ClassFile.FieldType.boolean), Jvm.Cond.code ({ cls := "java/lang/Integer", name := "<init>", desc := "(I)V" } : Jvm.MethodName) jdk_33_method_23_code (2 : Nat) (Option.none : Option Jvm.ClassFile.FieldType), Jvm.Cond.code ({ cls := "java/lang/Number", name := "<init>", desc := "()V" } : Jvm.MethodName) jdk_18_method_1_code (1 : Nat) (Option.none : Option Jvm.ClassFile.FieldType)]
set_option maxRecDepth 65536 in
theorem codes_eq : words1.filter isCode = codes1 := rfl
theorem w_codes : ∀ c ∈ words1.filter isCode, c.before args0 about1 = true := by
  rw [codes_eq]
  intro c hc
  simp only [codes1, List.mem_cons, List.not_mem_nil, or_false] at hc
  rcases hc with rfl | rfl | rfl | rfl | rfl | rfl | rfl | rfl | rfl | rfl | rfl | rfl | rfl | rfl | rfl | rfl | rfl | rfl | rfl
  · exact w_c0
  · exact w_c1
  · exact w_c2
  · exact w_c3
  · exact w_c4
  · exact w_c5
  · exact w_c6
  · exact w_c7
  · exact w_c8
  · exact w_c9
  · exact w_c10
  · exact w_c11
  · exact w_c12
  · exact w_c13
  · exact w_c14
  · exact w_c15
  · exact w_c16
  · exact w_c17
  · exact w_c18
set_option maxRecDepth 65536 in
theorem w_t1 : (words1.take 24).all (fun c => isCode c || c.before args0 about1) = true := by decide +kernel
set_option maxRecDepth 65536 in
theorem w_t2 : ((words1.drop 24).take 24).all (fun c => isCode c || c.before args0 about1) = true := by decide +kernel
set_option maxRecDepth 65536 in
theorem w_t3 : (((words1.drop 24).drop 24).take 24).all (fun c => isCode c || c.before args0 about1) = true := by decide +kernel
set_option maxRecDepth 65536 in
theorem w_t4 : ((((words1.drop 24).drop 24).drop 24).take 24).all (fun c => isCode c || c.before args0 about1) = true := by decide +kernel
set_option maxRecDepth 65536 in
theorem w_t5 : (((((words1.drop 24).drop 24).drop 24).drop 24).take 24).all (fun c => isCode c || c.before args0 about1) = true := by decide +kernel
set_option maxRecDepth 65536 in
theorem w_t6 : (((((words1.drop 24).drop 24).drop 24).drop 24).drop 24).all (fun c => isCode c || c.before args0 about1) = true := by decide +kernel
theorem w_tables : (allAtoms (Jvm.Cond.code x code maxLocals ret :: tables_1)).before args0 about1 = true := by
  rw [allAtoms_all]
  show words1.all (fun c => c.before args0 about1) = true
  refine all_split ?_ w_codes
  rw [← List.take_append_drop 24 words1, List.all_append, w_t1, ← List.take_append_drop 24 (words1.drop 24), List.all_append, w_t2, ← List.take_append_drop 24 ((words1.drop 24).drop 24), List.all_append, w_t3, ← List.take_append_drop 24 (((words1.drop 24).drop 24).drop 24), List.all_append, w_t4, ← List.take_append_drop 24 ((((words1.drop 24).drop 24).drop 24).drop 24), List.all_append, w_t5, w_t6]
  rfl
set_option maxRecDepth 65536 in
theorem w_rest : rest_1_c.before args0 about1 = true := by decide +kernel
set_option maxRecDepth 65536 in
theorem w_case : (Jvm.Cond.and given_1 narrow_1).before args0 about1 = true := by decide +kernel
theorem w_applies : (headSpec (Jvm.Cond.code x code maxLocals ret :: tables_1) room_1).applies x e0.platform about1 = true :=
  (Spec.applies_iff w_frames).mpr ⟨w_running, w_runnable, w_alone, w_named, w_hears, w_ripe, w_room, w_tables⟩
theorem atStart : AtStart classFile x code maxLocals ret World_1 tables_1 room_1 Calls_1 rest_1 Pre_1 launch0 p0 e0 about1 theMethod args0 below0 :=
  ⟨lists_1, trivial, launch0.admits_env _ _ _, launch0.least_env, fairChoices_fair.cas, fairChoices_fair.clock, w_frames, w_args, w_heap, w_applies, trivial, w_rest, w_case⟩
end start1
theorem witness_1 : WitnessClaimed_1 := ⟨start1.p0, start1.e0, start1.about1, start1.theMethod, start1.args0, start1.below0, start1.atStart⟩
end Jvm.Pilot.@@N@@
