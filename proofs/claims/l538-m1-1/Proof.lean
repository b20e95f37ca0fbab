import JvmDerived
import JvmDerived.Pilot.@@N@@Statement
import JvmDerived.Pilot.@@N@@Code
set_option linter.unusedVariables false
set_option linter.unusedSimpArgs false
namespace Jvm.Pilot.@@N@@
open Jvm Jvm.ClassFile Sem Op Lib Jvm.Free Jvm.Stand Jvm.LawKit Jvm.RoadKit Bundle Jvm.Pilot.@@N@@.Jvm.D
section OwnLayer
variable {p : Program} {l : Launch} {e : Env} {R : Room} {s : State} {m : MethodId} {args : Array Value} {below : List Frame} {meth : Method} {c : Code} {T : State} {locs : List Loc} {cells slots : Nat} {Z : State} {a0 : Array Value} {h : Heap}
/-- from here the body comes to its return, and Q holds of what it returns, of the heap and of the places written -/
def own_Ends (p : Program) (e : Env) (s : State) (below : List Frame) (C S : Nat) (Q : Option Value → Heap → List Loc → Prop) (T : State) (g : JFrame) : Prop :=
  ∃ s₂ o, Steps p.tables e below (T.setTop g) s₂ ∧ s₂.status = .running ∧ Ended s₂ below o ∧ ∃ v L, o = .returned v ∧ Q v s₂.heap L ∧ FrameEnd s o s₂ L C S
theorem own_go {C S : Nat} {Q : Option Value → Heap → List Loc → Prop} {T' : State} {g g' : JFrame} (st : ∀ t, Steps p.tables e below (T'.setTop g') t → Steps p.tables e below (T.setTop g) t) (k : own_Ends p e s below C S Q T' g') : own_Ends p e s below C S Q T g := by
  obtain ⟨s₂, o, h, r⟩ := k
  exact ⟨s₂, o, st _ h, r⟩
theorem own_cast {C S : Nat} {Q : Option Value → Heap → List Loc → Prop} {g g' : JFrame} (q : g = g') (k : own_Ends p e s below C S Q T g') : own_Ends p e s below C S Q T g := q ▸ k
/-- a body's contract -/
def own_C (l : Launch) (y : MethodName) (bytes : ByteArray) (maxL : Nat) (ret : Option FieldType) (rm : Room) (Z : State) (A : Array Value) (h : Heap) (Q : Option Value → Heap → List Loc → Prop) : Prop :=
  ∀ ws : List Jvm.Cond, MetFree l y (head1 (Jvm.Cond.code y bytes maxL ret :: ws) rm) (fun a U => a = A ∧ Z.Warmed39 U.vm ∧ U.heap = h) (fun _ _ _ _ _ => True) (fun _ U o U' => ∃ v L, o = .returned v ∧ Q v U'.heap L ∧ FrameEnd U o U' L rm.cells rm.slots)
theorem own_enter {y : MethodName} {bytes : ByteArray} {maxL : Nat} {ret : Option FieldType} {rm : Room} {A : Array Value} {Q : Option Value → Heap → List Loc → Prop} (hp : plainFor y = true)
    (body : ∀ (p : Program) (e : Env) (s : State) (m : MethodId) (below : List Frame) (meth : Method) (c : Code) (s₁ : State), Stand p l e rm s m A below meth c s₁ [] 0 0 → p.tables.exec = Jvm.exec → c.code = bytes → c.maxLocals = maxL → s.vm.findClass y.cls = some m.cls → meth.name = y.name → meth.sig.returnType = ret → meth.locks = false → Z.Warmed39 s.vm → s₁.heap = h →
      own_Ends p e s below rm.cells rm.slots Q s₁ (entryFrame m A maxL)) : own_C l y bytes maxL ret rm Z A h Q := by
  intro ws
  refine MetFree.of_bodySF hp hisR ?_
  intro p e s m args below meth c s₁ Bd hml hP hK
  obtain ⟨rfl, hZ, hh⟩ := hP
  exact body p e s m below meth c s₁ (Stand.of_body Bd) Bd.exec Bd.bytes hml (findClass_of_methodNamed Bd.named) (name_of_methodNamed Bd.named Bd.method).1 Bd.returns Bd.notSynchronized hZ (by rw [← hh, Bd.state]; rfl)
theorem own_ret (X : Stand p l e R s m args below meth c T locs cells slots) (hx : p.tables.exec = Jvm.exec) (hlk : meth.locks = false) {Q : Option Value → Heap → List Loc → Prop} {C S pc : Nat} {Ls : Array Slot} {w : Value} {t : FieldType} {i : Instr} {rest : List Value} (hret : meth.sig.returnType = some t) (hn : narrow t w = w)
    (hi : (i = .ireturn ∧ (t = .int ∨ t = .boolean ∨ t = .byte ∨ t = .char ∨ t = .short) ∧ ∃ z, w = .int z) ∨ (i = .lreturn ∧ t = .long ∧ ∃ z, w = .long z) ∨ (i = .dreturn ∧ t = .double ∧ ∃ z, w = .double z) ∨ (i = .freturn ∧ t = .float ∧ ∃ z, w = .float z) ∨ (i = .areturn ∧ t.isReference = true ∧ w.isRef = true))
    (hd : decode c.code pc = .ok (i, 1)) (hc : cells ≤ C) (hs : slots ≤ S) (hq : Q (some w) T.heap locs) : own_Ends p e s below C S Q T (mkF m pc Ls (w :: rest)) := by
  obtain ⟨fs, hr, hrun, hended, hW, hsame⟩ := X.leave (v := some w) (fun h => by rw [hret] at h; cases h) hlk
  exact ⟨_, _, retOut X hx hret hn hi hd hr, hrun, hended, _, _, rfl, hq, ⟨_, rfl⟩, hW, hsame.mono hc hs⟩
theorem own_retI (X : Stand p l e R s m args below meth c T locs cells slots) (hx : p.tables.exec = Jvm.exec) (hlk : meth.locks = false) {Q : Option Value → Heap → List Loc → Prop} {C S pc : Nat} {Ls : Array Slot} {z : Int32} {rest : List Value} (hret : meth.sig.returnType = some .int)
    (hd : decode c.code pc = .ok (.ireturn, 1)) (hc : cells ≤ C) (hs : slots ≤ S) (hq : Q (some (.int z)) T.heap locs) : own_Ends p e s below C S Q T (mkF m pc Ls (.int z :: rest)) :=
  own_ret X hx hlk hret rfl (Or.inl ⟨rfl, Or.inl rfl, z, rfl⟩) hd hc hs hq
theorem own_retZ (X : Stand p l e R s m args below meth c T locs cells slots) (hx : p.tables.exec = Jvm.exec) (hlk : meth.locks = false) {Q : Option Value → Heap → List Loc → Prop} {C S pc : Nat} {Ls : Array Slot} {z : Int32} {rest : List Value} (hret : meth.sig.returnType = some .boolean) (hz : z = 0 ∨ z = 1)
    (hd : decode c.code pc = .ok (.ireturn, 1)) (hc : cells ≤ C) (hs : slots ≤ S) (hq : Q (some (.int z)) T.heap locs) : own_Ends p e s below C S Q T (mkF m pc Ls (.int z :: rest)) :=
  own_ret X hx hlk hret (by rcases hz with rfl | rfl <;> rfl) (Or.inl ⟨rfl, Or.inr (Or.inl rfl), z, rfl⟩) hd hc hs hq
theorem own_retJ (X : Stand p l e R s m args below meth c T locs cells slots) (hx : p.tables.exec = Jvm.exec) (hlk : meth.locks = false) {Q : Option Value → Heap → List Loc → Prop} {C S pc : Nat} {Ls : Array Slot} {z : Int64} {rest : List Value} (hret : meth.sig.returnType = some .long)
    (hd : decode c.code pc = .ok (.lreturn, 1)) (hc : cells ≤ C) (hs : slots ≤ S) (hq : Q (some (.long z)) T.heap locs) : own_Ends p e s below C S Q T (mkF m pc Ls (.long z :: rest)) :=
  own_ret X hx hlk hret rfl (Or.inr (Or.inl ⟨rfl, rfl, z, rfl⟩)) hd hc hs hq
theorem own_retR (X : Stand p l e R s m args below meth c T locs cells slots) (hx : p.tables.exec = Jvm.exec) (hlk : meth.locks = false) {Q : Option Value → Heap → List Loc → Prop} {C S pc : Nat} {Ls : Array Slot} {w : Value} {t : FieldType} {rest : List Value} (hret : meth.sig.returnType = some t) (ht : t.isReference = true) (hn : narrow t w = w) (hw : w.isRef = true)
    (hd : decode c.code pc = .ok (.areturn, 1)) (hc : cells ≤ C) (hs : slots ≤ S) (hq : Q (some w) T.heap locs) : own_Ends p e s below C S Q T (mkF m pc Ls (w :: rest)) :=
  own_ret X hx hlk hret hn (Or.inr (Or.inr (Or.inr (Or.inr ⟨rfl, ht, hw⟩)))) hd hc hs hq
theorem own_retV (X : Stand p l e R s m args below meth c T locs cells slots) (hx : p.tables.exec = Jvm.exec) (hlk : meth.locks = false) {Q : Option Value → Heap → List Loc → Prop} {C S pc : Nat} {Ls : Array Slot} (hret : meth.sig.returnType = none)
    (hd : decode c.code pc = .ok (.return_, 1)) (hc : cells ≤ C) (hs : slots ≤ S) (hq : Q none T.heap locs) : own_Ends p e s below C S Q T (mkF m pc Ls []) := by
  obtain ⟨fs, hr, hrun, hended, hW, hsame⟩ := X.leave (v := none) (fun _ => rfl) hlk
  exact ⟨_, _, X.returnOut hx hret hd hr, hrun, hended, _, _, rfl, hq, ⟨_, rfl⟩, hW, hsame.mono hc hs⟩
theorem own_callS (X : Stand p l e R s m args below meth c T locs cells slots) (hx : p.tables.exec = Jvm.exec) (hZ : Z.Warmed39 s.vm) {own : String} {index : Nat} {y : MethodName} {bytes : ByteArray} {maxL W : Nat} {ret : Option FieldType} {rm : Room} {A : Array Value} {Q : Option Value → Heap → List Loc → Prop}
    (hown : s.vm.findClass own = some m.cls) (wl : (Cond.methodLink own index y).before a0 Z = true) (ws : (Cond.static y).before a0 Z = true) (wz : (Cond.initialized y.cls).before a0 Z = true) (wc : (Cond.code y bytes maxL ret).before a0 Z = true)
    (hM : own_C l y bytes maxL ret rm Z A h Q) (eT : T.heap = h) {g : JFrame} (hg : g.method = m) (hsize : g.locals.size = c.maxLocals) {argsL rest : List Value} (hlen : ∀ sig, parseMethodDescriptor y.desc = some sig → argsL.length = sig.parameters.length) (hstack : g.stack = argsL.reverse ++ rest) (hA : argsL.toArray = A)
    (hW : 2 * g.monitorRoom + (rest.map fun v => v.category).sum ≤ W) (hd : decode c.code g.pc = .ok (.invokestatic index, 3)) (hy : y.cls ≠ "java/lang/invoke/MethodHandle" ∧ y.cls ≠ "java/lang/invoke/VarHandle")
    (hf : rm.frames + 1 ≤ R.frames) (hl : W + (maxL + 11) + rm.locals ≤ R.locals) (hc : cells + rm.cells ≤ R.cells) (hs : slots + rm.slots ≤ R.slots) :
    ∃ v T' L, Stand p l e R s m args below meth c T' (locs ++ L) (cells + rm.cells) (slots + rm.slots) ∧ Q v T'.heap L ∧ ∀ target, Steps p.tables e below (T'.setTop { g with pc := g.pc + 3, stack := v.toList ++ rest }) target → Steps p.tables e below (T.setTop g) target := by
  obtain ⟨v, vm₁, ⟨T', L', k', n'⟩, -, X', ⟨L, hQ, l1, l2, l3⟩, st⟩ := Jvm.LawKit.callS X hx hown (mvT hZ wl) (mvT hZ ws) (mvT hZ wz) (mvT hZ wc) hy (backOf (W := W) (hM []) hZ wc wz hf hl) hg hsize hlen hstack hW hd (fun _ _ => ⟨hA, eT, hc, hs⟩)
  dsimp only [Pt.U, Pt.locs, Pt.cells, Pt.slots] at X' l1 l2 l3 st hQ
  subst l1 l2 l3
  exact ⟨v, T', L, X', hQ, st⟩
theorem own_callI (X : Stand p l e R s m args below meth c T locs cells slots) (hx : p.tables.exec = Jvm.exec) (hZ : Z.Warmed39 s.vm) {own : String} {index : Nat} {y : MethodName} {bytes : ByteArray} {maxL W : Nat} {rm : Room} {A : Array Value} {Q : Option Value → Heap → List Loc → Prop}
    (hown : s.vm.findClass own = some m.cls) (hy1 : y.name = "<init>") (wl : (Cond.methodLink own index y).before a0 Z = true) (ws : (Cond.instanceMethod y).before a0 Z = true) (wz : (Cond.initialized y.cls).before a0 Z = true) (wc : (Cond.code y bytes maxL none).before a0 Z = true)
    (hM : own_C l y bytes maxL none rm Z A h Q) (eT : T.heap = h) {g : JFrame} (hg : g.method = m) (hsize : g.locals.size = c.maxLocals) {a : Addr} {argsL rest : List Value} (hlen : ∀ sig, parseMethodDescriptor y.desc = some sig → argsL.length = sig.parameters.length) (hstack : g.stack = argsL.reverse ++ .ref a :: rest) (hA : (.ref a :: argsL).toArray = A)
    (hW : 2 * g.monitorRoom + (rest.map fun v => v.category).sum ≤ W) (hd : decode c.code g.pc = .ok (.invokespecial index, 3)) (hy : y.cls ≠ "java/lang/invoke/MethodHandle" ∧ y.cls ≠ "java/lang/invoke/VarHandle")
    (hf : rm.frames + 1 ≤ R.frames) (hl : W + (maxL + 11) + rm.locals ≤ R.locals) (hc : cells + rm.cells ≤ R.cells) (hs : slots + rm.slots ≤ R.slots) :
    ∃ v T' L, Stand p l e R s m args below meth c T' (locs ++ L) (cells + rm.cells) (slots + rm.slots) ∧ Q v T'.heap L ∧ ∀ target, Steps p.tables e below (T'.setTop { g with pc := g.pc + 3, stack := v.toList ++ rest }) target → Steps p.tables e below (T.setTop g) target := by
  obtain ⟨v, vm₁, ⟨T', L', k', n'⟩, -, X', ⟨L, hQ, l1, l2, l3⟩, st⟩ := X.specialBack hx hy1 hown (mvT hZ wl) (mvT hZ ws) (mvT hZ wc) hy (backOf (W := W) (hM []) hZ wc wz hf hl) hg hsize (Steps.refl _) hlen hstack hW hd (fun _ _ => ⟨hA, eT, hc, hs⟩)
  dsimp only [Pt.U, Pt.locs, Pt.cells, Pt.slots] at X' l1 l2 l3 st hQ
  subst l1 l2 l3
  exact ⟨v, T', L, X', hQ, fun _ k => st.trans k⟩
theorem own_callV (X : Stand p l e R s m args below meth c T locs cells slots) (hx : p.tables.exec = Jvm.exec) (hZ : Z.Warmed39 s.vm) {own K : String} {index : Nat} {y : MethodName} {bytes : ByteArray} {maxL W : Nat} {ret : Option FieldType} {rm : Room} {A : Array Value} {Q : Option Value → Heap → List Loc → Prop}
    (hown : s.vm.findClass own = some m.cls) (wl : (Cond.methodLink own index y).before a0 Z = true) (wd : (Cond.declares y).before a0 Z = true) (wsel : (Cond.selects K y y).before a0 Z = true) (ws : (Cond.instanceMethod y).before a0 Z = true) (wz : (Cond.initialized y.cls).before a0 Z = true) (wc : (Cond.code y bytes maxL ret).before a0 Z = true)
    (hM : own_C l y bytes maxL ret rm Z A h Q) (eT : T.heap = h) {g : JFrame} (hg : g.method = m) (hsize : g.locals.size = c.maxLocals) {a : Addr} {argsL rest : List Value} (hE : Exa Z h a K) (hlen : ∀ sig, parseMethodDescriptor y.desc = some sig → argsL.length = sig.parameters.length) (hstack : g.stack = argsL.reverse ++ .ref a :: rest) (hA : (.ref a :: argsL).toArray = A)
    (hW : 2 * g.monitorRoom + (rest.map fun v => v.category).sum ≤ W) (hd : decode c.code g.pc = .ok (.invokevirtual index, 3)) (hy : y.cls ≠ "java/lang/invoke/MethodHandle" ∧ y.cls ≠ "java/lang/invoke/VarHandle")
    (hf : rm.frames + 1 ≤ R.frames) (hl : W + (maxL + 11) + rm.locals ≤ R.locals) (hc : cells + rm.cells ≤ R.cells) (hs : slots + rm.slots ≤ R.slots) :
    ∃ v T' L, Stand p l e R s m args below meth c T' (locs ++ L) (cells + rm.cells) (slots + rm.slots) ∧ Q v T'.heap L ∧ ∀ target, Steps p.tables e below (T'.setTop { g with pc := g.pc + 3, stack := v.toList ++ rest }) target → Steps p.tables e below (T.setTop g) target := by
  obtain ⟨cq, kq, qa, qb, qc⟩ := isOf hZ eT hE
  obtain ⟨v, vm₁, ⟨T', L', k', n'⟩, -, X', ⟨L, hQ, l1, l2, l3⟩, st⟩ := X.virtualBack hx hown (mvT hZ wl) (mvT hZ wd) (notFace_of_selects (args := #[]) (mvT hZ wsel)) (mvT hZ wsel) (mvT hZ ws) hy (backOf (W := W) (hM []) hZ wc wz hf hl) qa qc hg hsize (Steps.refl _) hlen hstack hW hd (fun _ _ => ⟨hA, eT, hc, hs⟩)
  dsimp only [Pt.U, Pt.locs, Pt.cells, Pt.slots] at X' l1 l2 l3 st hQ
  subst l1 l2 l3
  exact ⟨v, T', L, X', hQ, fun _ k => st.trans k⟩
theorem own_callP (X : Stand p l e R s m args below meth c T locs cells slots) (hx : p.tables.exec = Jvm.exec) (hZ : Z.Warmed39 s.vm) {own K : String} {index kk : Nat} {y : MethodName} {bytes : ByteArray} {maxL W : Nat} {ret : Option FieldType} {rm : Room} {A : Array Value} {Q : Option Value → Heap → List Loc → Prop}
    (hown : s.vm.findClass own = some m.cls) (wl : (Cond.methodLink own index y).before a0 Z = true) (wp : (Cond.privateMethod y).before a0 Z = true) (wi : (Cond.instantiable y.cls kk).before a0 Z = true) (ws : (Cond.instanceMethod y).before a0 Z = true) (wz : (Cond.initialized y.cls).before a0 Z = true) (wc : (Cond.code y bytes maxL ret).before a0 Z = true)
    (hM : own_C l y bytes maxL ret rm Z A h Q) (eT : T.heap = h) {g : JFrame} (hg : g.method = m) (hsize : g.locals.size = c.maxLocals) {a : Addr} {argsL rest : List Value} (hE : Exa Z h a K) (hlen : ∀ sig, parseMethodDescriptor y.desc = some sig → argsL.length = sig.parameters.length) (hstack : g.stack = argsL.reverse ++ .ref a :: rest) (hA : (.ref a :: argsL).toArray = A)
    (hW : 2 * g.monitorRoom + (rest.map fun v => v.category).sum ≤ W) (hd : decode c.code g.pc = .ok (.invokevirtual index, 3)) (hy : y.cls ≠ "java/lang/invoke/MethodHandle" ∧ y.cls ≠ "java/lang/invoke/VarHandle")
    (hf : rm.frames + 1 ≤ R.frames) (hl : W + (maxL + 11) + rm.locals ≤ R.locals) (hc : cells + rm.cells ≤ R.cells) (hs : slots + rm.slots ≤ R.slots) :
    ∃ v T' L, Stand p l e R s m args below meth c T' (locs ++ L) (cells + rm.cells) (slots + rm.slots) ∧ Q v T'.heap L ∧ ∀ target, Steps p.tables e below (T'.setTop { g with pc := g.pc + 3, stack := v.toList ++ rest }) target → Steps p.tables e below (T.setTop g) target := by
  obtain ⟨cq, q1, q2⟩ := hE.cell
  have hpriv : s.PrivateAt y := Cond.privateMethod_at (mvP hZ wp (args := #[]))
  obtain ⟨cc, kc, i1, i2, -, i4, -⟩ := Cond.instantiable_spec (mvT (args := #[]) hZ wi)
  have hni : kc.isInterface = false := (Bool.or_eq_false_iff.mp i4).1
  have hsel : (Cond.selects y.cls y y).before args s = true := selects_self_of_private i1 i2 hni hpriv (mvT hZ ws) hy
  obtain ⟨v, vm₁, ⟨T', L', k', n'⟩, -, X', ⟨L, hQ, l1, l2, l3⟩, st⟩ := X.privateBack hx hown (mvT hZ wl) (mvT hZ ws) hsel hpriv (mvT hZ wc) hy (backOf (W := W) (hM []) hZ wc wz hf hl) hg hsize (Steps.refl _) (by rw [eT]; exact q1) q2 hlen hstack hW hd (fun _ _ => ⟨hA, eT, hc, hs⟩)
  dsimp only [Pt.U, Pt.locs, Pt.cells, Pt.slots] at X' l1 l2 l3 st hQ
  subst l1 l2 l3
  exact ⟨v, T', L, X', hQ, fun _ k => st.trans k⟩
end OwnLayer
theorem own_lct {x y : Int64} (q : x < y) : ifCond.holds .lt (lcmpW x y) = true ∧ ifCond.holds .ge (lcmpW x y) = false := by
  have r := (lw_lt x y).mpr q
  exact ⟨(if0 _ _).trans (tlt r).1, (if0 _ _).trans (tlt r).2.1⟩
theorem own_lcf {x y : Int64} (q : ¬ x < y) : ifCond.holds .lt (lcmpW x y) = false ∧ ifCond.holds .ge (lcmpW x y) = true := by
  have r : ¬ lcmpW x y < 0 := fun z => q ((lw_lt x y).mp z)
  exact ⟨(if0 _ _).trans (flt r).1, (if0 _ _).trans (flt r).2.1⟩
theorem own_lgt {x y : Int64} (q : y < x) : ifCond.holds .gt (lcmpW x y) = true ∧ ifCond.holds .le (lcmpW x y) = false := by
  have r := (lw_gt x y).mpr q
  exact ⟨(if0 _ _).trans (tlt r).2.2.1, (if0 _ _).trans (tlt r).2.2.2⟩
theorem own_lgf {x y : Int64} (q : ¬ y < x) : ifCond.holds .gt (lcmpW x y) = false ∧ ifCond.holds .le (lcmpW x y) = true := by
  have r : ¬ 0 < lcmpW x y := fun z => q ((lw_gt x y).mp z)
  exact ⟨(if0 _ _).trans (flt r).2.2.1, (if0 _ _).trans (flt r).2.2.2⟩
theorem own_let {x y : Int64} (q : x = y) : ifCond.holds .eq (lcmpW x y) = true ∧ ifCond.holds .ne (lcmpW x y) = false := by
  have r := (lw_eq x y).mpr q
  exact ⟨(if0 _ _).trans (teq r).1, (if0 _ _).trans (teq r).2⟩
theorem own_lef {x y : Int64} (q : ¬ x = y) : ifCond.holds .eq (lcmpW x y) = false ∧ ifCond.holds .ne (lcmpW x y) = true := by
  have r : ¬ lcmpW x y = 0 := fun z => q ((lw_eq x y).mp z)
  exact ⟨(if0 _ _).trans (feq r).1, (if0 _ _).trans (feq r).2⟩
section OwnArrays
variable {p : Program} {l : Launch} {e : Env} {R : Room} {s : State} {m : MethodId} {args : Array Value} {below : List Frame} {meth : Method} {c : Code} {T : State} {locs : List Loc} {cells slots : Nat} {Z : State} {a0 : Array Value} {h h' : Heap} {a b : Addr} {k : ClassId} {ty : FieldType} {n i sl : Nat} {f : Nat → Value} {v : Value} {ws : List Addr}
/-- an array by its length and what each place holds -/
def own_Ar (Z : State) (h : Heap) (a : Addr) (k : ClassId) (ty : FieldType) (n : Nat) (f : Nat → Value) : Prop := ∃ c : Cell, Arr Z h a c ty ∧ c.cls = k ∧ c.slots.size = n ∧ n < 2 ^ 31 ∧ ∀ i, i < n → c.slots[i]? = some (f i)
theorem own_Ar.lt (F : own_Ar Z h a k ty n f) : a < h.size := by obtain ⟨c, A, -⟩ := F; exact A.lt
theorem own_Ar.ext (F : own_Ar Z h a k ty n f) (E : Ext h h') : own_Ar Z h' a k ty n f := by obtain ⟨c, A, r⟩ := F; exact ⟨c, A.ext E, r⟩
theorem own_Ar.other (F : own_Ar Z h a k ty n f) (W : Wr h h' b sl v) (q : a ≠ b) : own_Ar Z h' a k ty n f := by obtain ⟨c, A, r⟩ := F; exact ⟨c, A.other W q, r⟩
theorem own_Ar.keep (F : own_Ar Z h a k ty n f) (K : Keep h h' ws) (q : a ∉ ws) : own_Ar Z h' a k ty n f := by obtain ⟨c, A, r⟩ := F; exact ⟨c, ⟨K.2.1 a c A.1 q, A.2⟩, r⟩
theorem own_Ar.cong (F : own_Ar Z h a k ty n f) {g : Nat → Value} (q : ∀ i, i < n → f i = g i) : own_Ar Z h a k ty n g := by
  obtain ⟨c, A, r1, r2, r3, r4⟩ := F
  exact ⟨c, A, r1, r2, r3, fun i hi => by rw [r4 i hi, q i hi]⟩
theorem own_Ar.set (F : own_Ar Z h a k ty n f) (W : Wr h h' a i v) : own_Ar Z h' a k ty n (fun j => if j = i then v else f j) := by
  obtain ⟨c, A, r1, r2, r3, r4⟩ := F
  refine ⟨c.setSlot i v, A.same W, r1, by rw [sz_set]; exact r2, r3, fun j hj => ?_⟩
  show _ = some (if j = i then v else f j)
  by_cases q : j = i
  · subst q
    rw [if_pos rfl]
    show (c.slots.setIfInBounds j v)[j]? = some v
    simp [r2, hj]
  · rw [if_neg q]
    show (c.slots.setIfInBounds i v)[j]? = some (f j)
    rw [Array.getElem?_setIfInBounds_ne (fun z => q z.symm)]
    exact r4 j hj
theorem own_in {c : Cell} {j : Int32} (hj : ¬ j < 0) (hi : j.toNatClampNeg = i) (r : c.slots.size = n) (hn : i < n) : ¬ (j < 0 ∨ c.slots.size ≤ j.toNatClampNeg) := by
  rintro (q | q)
  · exact hj q
  · rw [hi, r] at q; exact absurd hn (Nat.not_lt.mpr q)
theorem own_len (X : Stand p l e R s m args below meth c T locs cells slots) (hx : p.tables.exec = Jvm.exec) (hZ : Z.Warmed39 s.vm) (eT : T.heap = h) (F : own_Ar Z h a k ty n f) {z : Int32} (hz : Int32.ofNat n = z) {g : JFrame} (hg : g.method = m) {rest : List Value} (hs : g.stack = .ref a :: rest) (hd : decode c.code g.pc = .ok (.arraylength, 1)) (target : State)
    (kt : Steps p.tables e below (T.setTop { g with pc := g.pc + 1, stack := .int z :: rest }) target) : Steps p.tables e below (T.setTop g) target := by
  obtain ⟨cl, A, -, r2, r3, -⟩ := F
  refine X.arraylength hx (by rw [eT]; exact A.1) (State.isArrayOf_alike hZ.alike A.2.1) hg hs hd _ ?_
  have q : cl.slots.size.toInt32 = z := by rw [r2]; exact hz
  rw [q]; exact kt
theorem own_ldI (X : Stand p l e R s m args below meth c T locs cells slots) (hx : p.tables.exec = Jvm.exec) (hZ : Z.Warmed39 s.vm) (eT : T.heap = h) (F : own_Ar Z h a k .int n f) {j : Int32} (hj : ¬ j < 0) (hi : j.toNatClampNeg = i) (hn : i < n) (hv : f i = v) {g : JFrame} (hg : g.method = m) {rest : List Value} (hs : g.stack = .int j :: .ref a :: rest) (hd : decode c.code g.pc = .ok (.iaload, 1)) (target : State)
    (kt : Steps p.tables e below (T.setTop { g with pc := g.pc + 1, stack := v :: rest }) target) : Steps p.tables e below (T.setTop g) target := by
  obtain ⟨cl, A, -, r2, r3, r4⟩ := F
  exact X.iaload hx (by rw [eT]; exact A.1) (State.isArrayOf_alike hZ.alike A.2.1) A.2.2 (own_in hj hi r2 hn) (by rw [hi, r4 i hn, hv]) hg hs hd _ kt
theorem own_ldJ (X : Stand p l e R s m args below meth c T locs cells slots) (hx : p.tables.exec = Jvm.exec) (hZ : Z.Warmed39 s.vm) (eT : T.heap = h) (F : own_Ar Z h a k .long n f) {j : Int32} (hj : ¬ j < 0) (hi : j.toNatClampNeg = i) (hn : i < n) (hv : f i = v) {g : JFrame} (hg : g.method = m) {rest : List Value} (hs : g.stack = .int j :: .ref a :: rest) (hd : decode c.code g.pc = .ok (.laload, 1)) (target : State)
    (kt : Steps p.tables e below (T.setTop { g with pc := g.pc + 1, stack := v :: rest }) target) : Steps p.tables e below (T.setTop g) target := by
  obtain ⟨cl, A, -, r2, r3, r4⟩ := F
  exact X.laload hx (by rw [eT]; exact A.1) (State.isArrayOf_alike hZ.alike A.2.1) A.2.2 (own_in hj hi r2 hn) (by rw [hi, r4 i hn, hv]) hg hs hd _ kt
theorem own_ldC (X : Stand p l e R s m args below meth c T locs cells slots) (hx : p.tables.exec = Jvm.exec) (hZ : Z.Warmed39 s.vm) (eT : T.heap = h) (F : own_Ar Z h a k .char n f) {j : Int32} (hj : ¬ j < 0) (hi : j.toNatClampNeg = i) (hn : i < n) (hv : f i = v) {g : JFrame} (hg : g.method = m) {rest : List Value} (hs : g.stack = .int j :: .ref a :: rest) (hd : decode c.code g.pc = .ok (.caload, 1)) (target : State)
    (kt : Steps p.tables e below (T.setTop { g with pc := g.pc + 1, stack := v :: rest }) target) : Steps p.tables e below (T.setTop g) target := by
  obtain ⟨cl, A, -, r2, r3, r4⟩ := F
  exact X.caload hx (by rw [eT]; exact A.1) (State.isArrayOf_alike hZ.alike A.2.1) A.2.2 (own_in hj hi r2 hn) (by rw [hi, r4 i hn, hv]) hg hs hd _ kt
theorem own_ldB (X : Stand p l e R s m args below meth c T locs cells slots) (hx : p.tables.exec = Jvm.exec) (hZ : Z.Warmed39 s.vm) (eT : T.heap = h) (F : own_Ar Z h a k .byte n f) {j : Int32} (hj : ¬ j < 0) (hi : j.toNatClampNeg = i) (hn : i < n) (hv : f i = v) {g : JFrame} (hg : g.method = m) {rest : List Value} (hs : g.stack = .int j :: .ref a :: rest) (hd : decode c.code g.pc = .ok (.baload, 1)) (target : State)
    (kt : Steps p.tables e below (T.setTop { g with pc := g.pc + 1, stack := v :: rest }) target) : Steps p.tables e below (T.setTop g) target := by
  obtain ⟨cl, A, -, r2, r3, r4⟩ := F
  exact X.baloadBytes hx (by rw [eT]; exact A.1) (State.isArrayOf_alike hZ.alike A.2.1) A.2.2 (own_in hj hi r2 hn) (by rw [hi, r4 i hn, hv]) hg hs hd _ kt
theorem own_ldZ (X : Stand p l e R s m args below meth c T locs cells slots) (hx : p.tables.exec = Jvm.exec) (hZ : Z.Warmed39 s.vm) (eT : T.heap = h) (F : own_Ar Z h a k .boolean n f) {j : Int32} (hj : ¬ j < 0) (hi : j.toNatClampNeg = i) (hn : i < n) (hv : f i = v) {g : JFrame} (hg : g.method = m) {rest : List Value} (hs : g.stack = .int j :: .ref a :: rest) (hd : decode c.code g.pc = .ok (.baload, 1)) (target : State)
    (kt : Steps p.tables e below (T.setTop { g with pc := g.pc + 1, stack := v :: rest }) target) : Steps p.tables e below (T.setTop g) target := by
  obtain ⟨cl, A, -, r2, r3, r4⟩ := F
  exact X.baloadBooleans hx (by rw [eT]; exact A.1) (State.isArrayOf_alike hZ.alike A.2.1) A.2.2 (own_in hj hi r2 hn) (by rw [hi, r4 i hn, hv]) hg hs hd _ kt
theorem own_ldR (X : Stand p l e R s m args below meth c T locs cells slots) (hx : p.tables.exec = Jvm.exec) (hZ : Z.Warmed39 s.vm) (eT : T.heap = h) (F : own_Ar Z h a k ty n f) (ht : ty.isReference = true) {j : Int32} (hj : ¬ j < 0) (hi : j.toNatClampNeg = i) (hn : i < n) (hv : f i = v) {g : JFrame} (hg : g.method = m) {rest : List Value} (hs : g.stack = .int j :: .ref a :: rest) (hd : decode c.code g.pc = .ok (.aaload, 1)) (target : State)
    (kt : Steps p.tables e below (T.setTop { g with pc := g.pc + 1, stack := v :: rest }) target) : Steps p.tables e below (T.setTop g) target := by
  obtain ⟨cl, A, -, r2, r3, r4⟩ := F
  exact X.aaload hx (by rw [eT]; exact A.1) (State.isArrayOf_alike hZ.alike A.2.1) ht A.2.2 (own_in hj hi r2 hn) (by rw [hi, r4 i hn, hv]) hg hs hd _ kt
theorem own_newP (X : Stand p l e R s m args below meth c T locs cells slots) (hx : p.tables.exec = Jvm.exec) (hZ : Z.Warmed39 s.vm) {aty : ArrayType} (w : (Cond.arrayClass (newarray.typeOf aty)).before a0 Z = true) (eT : T.heap = h) {g : JFrame} (hg : g.method = m) (hd : decode c.code g.pc = .ok (.newarray aty, 2)) {z : Int32} {rest : List Value} (hs : g.stack = .int z :: rest)
    (hz : ¬ z < 0) (hzn : z.toNatClampNeg = n) {cap : Nat} (hcap : n ≤ cap) (hb : cap * 8 ≤ 536870912) (hc : cells + 1 ≤ R.cells) (hl : slots + cap ≤ R.slots) :
    ∃ T' h' k, Stand p l e R s m args below meth c T' locs (cells + 1) (slots + cap) ∧ T'.heap = h' ∧ Ext h h' ∧ own_Ar Z h' h.size k (newarray.typeOf aty) n (fun _ => defaultValue (newarray.typeOf aty)) ∧
      ∀ target, Steps p.tables e below (T'.setTop { g with pc := g.pc + 2, stack := .ref h.size :: rest }) target → Steps p.tables e below (T.setTop g) target := by
  obtain ⟨T', h', cA, X', e', E, A, st⟩ := newP X hx hZ w eT hg hd hs hz (cap := cap) (by rw [hzn]; exact hcap) hb hc hl
  refine ⟨T', h', cA, X', e', E, ⟨_, A, rfl, (sz_new _ _ _).trans hzn, by omega, fun i hi => ?_⟩, st⟩
  have hs : i < z.toNatClampNeg := by rw [hzn]; exact hi
  simp [newA, hs, defaultValue]
theorem own_stI (X : Stand p l e R s m args below meth c T locs cells slots) (hx : p.tables.exec = Jvm.exec) (hZ : Z.Warmed39 s.vm) (eT : T.heap = h) (F : own_Ar Z h a k .int n f) {j x : Int32} (hj : ¬ j < 0) (hi : j.toNatClampNeg = i) (hn : i < n) {g : JFrame} (hg : g.method = m) {rest : List Value} (hs : g.stack = .int x :: .int j :: .ref a :: rest) (hd : decode c.code g.pc = .ok (.iastore, 1)) :
    ∃ T' h', Stand p l e R s m args below meth c T' (locs ++ [⟨a, i⟩]) cells slots ∧ T'.heap = h' ∧ Wr h h' a i (.int x) ∧ own_Ar Z h' a k .int n (fun j => if j = i then .int x else f j) ∧ ∀ target, Steps p.tables e below (T'.setTop { g with pc := g.pc + 1, stack := rest }) target → Steps p.tables e below (T.setTop g) target := by
  obtain ⟨cl, A, r1, r2, r3, r4⟩ := F
  obtain ⟨T', h', X', e', W, st⟩ := stI X hx hZ eT A (own_in hj hi r2 hn) hg hs hd
  rw [hi] at X' W
  exact ⟨T', h', X', e', W, own_Ar.set ⟨cl, A, r1, r2, r3, r4⟩ W, st⟩
theorem own_stJ (X : Stand p l e R s m args below meth c T locs cells slots) (hx : p.tables.exec = Jvm.exec) (hZ : Z.Warmed39 s.vm) (eT : T.heap = h) (F : own_Ar Z h a k .long n f) {j : Int32} {x : Int64} (hj : ¬ j < 0) (hi : j.toNatClampNeg = i) (hn : i < n) {g : JFrame} (hg : g.method = m) {rest : List Value} (hs : g.stack = .long x :: .int j :: .ref a :: rest) (hd : decode c.code g.pc = .ok (.lastore, 1)) :
    ∃ T' h', Stand p l e R s m args below meth c T' (locs ++ [⟨a, i⟩]) cells slots ∧ T'.heap = h' ∧ Wr h h' a i (.long x) ∧ own_Ar Z h' a k .long n (fun j => if j = i then .long x else f j) ∧ ∀ target, Steps p.tables e below (T'.setTop { g with pc := g.pc + 1, stack := rest }) target → Steps p.tables e below (T.setTop g) target := by
  obtain ⟨cl, A, r1, r2, r3, r4⟩ := F
  obtain ⟨T', h', X', e', W, st⟩ := stJ X hx hZ eT A (own_in hj hi r2 hn) hg hs hd
  rw [hi] at X' W
  exact ⟨T', h', X', e', W, own_Ar.set ⟨cl, A, r1, r2, r3, r4⟩ W, st⟩
theorem own_stB (X : Stand p l e R s m args below meth c T locs cells slots) (hx : p.tables.exec = Jvm.exec) (hZ : Z.Warmed39 s.vm) (eT : T.heap = h) (F : own_Ar Z h a k .byte n f) {j x : Int32} (hj : ¬ j < 0) (hi : j.toNatClampNeg = i) (hn : i < n) {g : JFrame} (hg : g.method = m) {rest : List Value} (hs : g.stack = .int x :: .int j :: .ref a :: rest) (hd : decode c.code g.pc = .ok (.bastore, 1)) :
    ∃ T' h', Stand p l e R s m args below meth c T' (locs ++ [⟨a, i⟩]) cells slots ∧ T'.heap = h' ∧ Wr h h' a i (.int (nar .byte x)) ∧ own_Ar Z h' a k .byte n (fun j => if j = i then .int (nar .byte x) else f j) ∧ ∀ target, Steps p.tables e below (T'.setTop { g with pc := g.pc + 1, stack := rest }) target → Steps p.tables e below (T.setTop g) target := by
  obtain ⟨cl, A, r1, r2, r3, r4⟩ := F
  obtain ⟨T', h', X', e', W, st⟩ := stB X hx hZ eT A (own_in hj hi r2 hn) hg hs hd
  rw [hi] at X' W
  exact ⟨T', h', X', e', W, own_Ar.set ⟨cl, A, r1, r2, r3, r4⟩ W, st⟩
theorem own_stZ (X : Stand p l e R s m args below meth c T locs cells slots) (hx : p.tables.exec = Jvm.exec) (hZ : Z.Warmed39 s.vm) (eT : T.heap = h) (F : own_Ar Z h a k .boolean n f) {j x : Int32} (hj : ¬ j < 0) (hi : j.toNatClampNeg = i) (hn : i < n) {g : JFrame} (hg : g.method = m) {rest : List Value} (hs : g.stack = .int x :: .int j :: .ref a :: rest) (hd : decode c.code g.pc = .ok (.bastore, 1)) :
    ∃ T' h', Stand p l e R s m args below meth c T' (locs ++ [⟨a, i⟩]) cells slots ∧ T'.heap = h' ∧ Wr h h' a i (.int (nar .boolean x)) ∧ own_Ar Z h' a k .boolean n (fun j => if j = i then .int (nar .boolean x) else f j) ∧ ∀ target, Steps p.tables e below (T'.setTop { g with pc := g.pc + 1, stack := rest }) target → Steps p.tables e below (T.setTop g) target := by
  obtain ⟨cl, A, r1, r2, r3, r4⟩ := F
  obtain ⟨T', h', X', e', W, st⟩ := stZ X hx hZ eT A (own_in hj hi r2 hn) hg hs hd
  rw [hi] at X' W
  exact ⟨T', h', X', e', W, own_Ar.set ⟨cl, A, r1, r2, r3, r4⟩ W, st⟩
theorem own_stC (X : Stand p l e R s m args below meth c T locs cells slots) (hx : p.tables.exec = Jvm.exec) (hZ : Z.Warmed39 s.vm) (eT : T.heap = h) (F : own_Ar Z h a k .char n f) {j x : Int32} (hj : ¬ j < 0) (hi : j.toNatClampNeg = i) (hn : i < n) {g : JFrame} (hg : g.method = m) {rest : List Value} (hs : g.stack = .int x :: .int j :: .ref a :: rest) (hd : decode c.code g.pc = .ok (.castore, 1)) :
    ∃ T' h', Stand p l e R s m args below meth c T' (locs ++ [⟨a, i⟩]) cells slots ∧ T'.heap = h' ∧ Wr h h' a i (.int (nar .char x)) ∧ own_Ar Z h' a k .char n (fun j => if j = i then .int (nar .char x) else f j) ∧ ∀ target, Steps p.tables e below (T'.setTop { g with pc := g.pc + 1, stack := rest }) target → Steps p.tables e below (T.setTop g) target := by
  obtain ⟨cl, A, r1, r2, r3, r4⟩ := F
  obtain ⟨T', h', X', e', W, st⟩ := stC X hx hZ eT A (own_in hj hi r2 hn) hg hs hd
  rw [hi] at X' W
  exact ⟨T', h', X', e', W, own_Ar.set ⟨cl, A, r1, r2, r3, r4⟩ W, st⟩
theorem own_stR (X : Stand p l e R s m args below meth c T locs cells slots) (hx : p.tables.exec = Jvm.exec) (hZ : Z.Warmed39 s.vm) (eT : T.heap = h) (F : own_Ar Z h a k ty n f) (ht : ty.isReference = true) {j : Int32} (S : Sto Z h a v) (hj : ¬ j < 0) (hi : j.toNatClampNeg = i) (hn : i < n) {g : JFrame} (hg : g.method = m) {rest : List Value} (hs : g.stack = v :: .int j :: .ref a :: rest) (hd : decode c.code g.pc = .ok (.aastore, 1)) :
    ∃ T' h', Stand p l e R s m args below meth c T' (locs ++ [⟨a, i⟩]) cells slots ∧ T'.heap = h' ∧ Wr h h' a i v ∧ own_Ar Z h' a k ty n (fun j => if j = i then v else f j) ∧ ∀ target, Steps p.tables e below (T'.setTop { g with pc := g.pc + 1, stack := rest }) target → Steps p.tables e below (T.setTop g) target := by
  obtain ⟨cl, A, r1, r2, r3, r4⟩ := F
  obtain ⟨T', h', X', e', W, st⟩ := stR X hx hZ eT A (own_in hj hi r2 hn) ht S hg hs hd
  rw [hi] at X' W
  exact ⟨T', h', X', e', W, own_Ar.set ⟨cl, A, r1, r2, r3, r4⟩ W, st⟩
theorem own_newR (X : Stand p l e R s m args below meth c T locs cells slots) (hx : p.tables.exec = Jvm.exec) (hZ : Z.Warmed39 s.vm) {own C : String} {index : Nat} (hown : s.vm.findClass own = some m.cls) (w1 : (Cond.classLink own index C).before a0 Z = true) (w2 : (Cond.arrayOver (.object C)).before a0 Z = true)
    (eT : T.heap = h) {g : JFrame} (hg : g.method = m) (hd : decode c.code g.pc = .ok (.anewarray index, 3)) {z : Int32} {rest : List Value} (hs : g.stack = .int z :: rest) (hz : ¬ z < 0) (hzn : z.toNatClampNeg = n) {cap : Nat} (hcap : n ≤ cap) (hb : cap * 8 ≤ 536870912) (hc : cells + 1 ≤ R.cells) (hl : slots + cap ≤ R.slots) :
    ∃ T' h' k, Stand p l e R s m args below meth c T' locs (cells + 1) (slots + cap) ∧ T'.heap = h' ∧ Ext h h' ∧ own_Ar Z h' h.size k (.object C) n (fun _ => .null) ∧ Ovr Z k C ∧
      ∀ target, Steps p.tables e below (T'.setTop { g with pc := g.pc + 3, stack := .ref h.size :: rest }) target → Steps p.tables e below (T.setTop g) target := by
  obtain ⟨T', h', cA, X', e', E, A, O, st⟩ := newR X hx hZ hown w1 w2 eT hg hd hs hz (cap := cap) (by rw [hzn]; exact hcap) hb hc hl
  refine ⟨T', h', cA, X', e', E, ⟨_, A, rfl, (sz_new _ _ _).trans hzn, by omega, fun i hi => ?_⟩, O, st⟩
  have hs : i < z.toNatClampNeg := by rw [hzn]; exact hi
  simp [newA, hs, defaultValue]
theorem own_Ar.sto {C : String} {y : Addr} (F : own_Ar Z h a k ty n f) (O : Ovr Z k C) (I : Ins Z h y C true) : Sto Z h a (.ref y) := by
  obtain ⟨cl, A, r1, -⟩ := F
  exact Sto.of A (r1 ▸ O) I
end OwnArrays
theorem pnn_1 : plainName "com/example/prefixleap/prefixleap/core/PrefixTable" = true := by first | (simp [plainName, overriddenIn]; done) | decide +kernel
theorem pn_1 : plainFor (⟨"com/example/prefixleap/prefixleap/core/PrefixTable", "shifted", "([I)[I"⟩ : MethodName) = true := plainFor_of_name pnn_1
theorem d1_0 : decode prog_12_method_4_code 0 = .ok (.aload_n 0, 1) := by decide +kernel
theorem d1_1 : decode prog_12_method_4_code 1 = .ok (.arraylength, 1) := by decide +kernel
theorem d1_2 : decode prog_12_method_4_code 2 = .ok (.newarray .int, 2) := by decide +kernel
theorem d1_4 : decode prog_12_method_4_code 4 = .ok (.astore_n 1, 1) := by decide +kernel
theorem d1_5 : decode prog_12_method_4_code 5 = .ok (.aload_n 0, 1) := by decide +kernel
theorem d1_6 : decode prog_12_method_4_code 6 = .ok (.arraylength, 1) := by decide +kernel
theorem d1_7 : decode prog_12_method_4_code 7 = .ok (.ifCond .le 18, 3) := by decide +kernel
theorem d1_25 : decode prog_12_method_4_code 25 = .ok (.aload_n 1, 1) := by decide +kernel
theorem d1_26 : decode prog_12_method_4_code 26 = .ok (.areturn, 1) := by decide +kernel
theorem d1_10 : decode prog_12_method_4_code 10 = .ok (.aload_n 1, 1) := by decide +kernel
theorem d1_11 : decode prog_12_method_4_code 11 = .ok (.iconst 0, 1) := by decide +kernel
theorem d1_12 : decode prog_12_method_4_code 12 = .ok (.iconst (-1), 1) := by decide +kernel
theorem d1_13 : decode prog_12_method_4_code 13 = .ok (.iastore, 1) := by decide +kernel
theorem d1_14 : decode prog_12_method_4_code 14 = .ok (.aload_n 0, 1) := by decide +kernel
theorem d1_15 : decode prog_12_method_4_code 15 = .ok (.iconst 0, 1) := by decide +kernel
theorem d1_16 : decode prog_12_method_4_code 16 = .ok (.aload_n 1, 1) := by decide +kernel
theorem d1_17 : decode prog_12_method_4_code 17 = .ok (.iconst 1, 1) := by decide +kernel
theorem d1_18 : decode prog_12_method_4_code 18 = .ok (.aload_n 0, 1) := by decide +kernel
theorem d1_19 : decode prog_12_method_4_code 19 = .ok (.arraylength, 1) := by decide +kernel
theorem d1_20 : decode prog_12_method_4_code 20 = .ok (.iconst 1, 1) := by decide +kernel
theorem d1_21 : decode prog_12_method_4_code 21 = .ok (.isub, 1) := by decide +kernel
theorem d1_22 : decode prog_12_method_4_code 22 = .ok (.invokestatic 26, 3) := by decide +kernel
theorem pnn_2 : plainName "com/example/prefixleap/prefixleap/core/PrefixTableShiftedPinLaw" = true := by first | (simp [plainName, overriddenIn]; done) | decide +kernel
theorem pn_2 : plainFor (⟨"com/example/prefixleap/prefixleap/core/PrefixTableShiftedPinLaw", "slot", "([I[I[III)Z"⟩ : MethodName) = true := plainFor_of_name pnn_2
theorem d2_0 : decode method_3_code 0 = .ok (.iload_n 3, 1) := by decide +kernel
theorem d2_1 : decode method_3_code 1 = .ok (.iload 4, 2) := by decide +kernel
theorem d2_3 : decode method_3_code 3 = .ok (.if_icmp .lt 5, 3) := by decide +kernel
theorem d2_6 : decode method_3_code 6 = .ok (.iconst 1, 1) := by decide +kernel
theorem d2_7 : decode method_3_code 7 = .ok (.ireturn, 1) := by decide +kernel
theorem d2_8 : decode method_3_code 8 = .ok (.aload_n 0, 1) := by decide +kernel
theorem d2_9 : decode method_3_code 9 = .ok (.iload_n 3, 1) := by decide +kernel
theorem d2_10 : decode method_3_code 10 = .ok (.iaload, 1) := by decide +kernel
theorem d2_11 : decode method_3_code 11 = .ok (.aload_n 2, 1) := by decide +kernel
theorem d2_12 : decode method_3_code 12 = .ok (.iload_n 3, 1) := by decide +kernel
theorem d2_13 : decode method_3_code 13 = .ok (.iaload, 1) := by decide +kernel
theorem d2_14 : decode method_3_code 14 = .ok (.if_icmp .eq 5, 3) := by decide +kernel
theorem d2_19 : decode method_3_code 19 = .ok (.iload_n 3, 1) := by decide +kernel
theorem d2_20 : decode method_3_code 20 = .ok (.ifCond .ne 7, 3) := by decide +kernel
theorem d2_23 : decode method_3_code 23 = .ok (.iconst (-1), 1) := by decide +kernel
theorem d2_24 : decode method_3_code 24 = .ok (.goto 8, 3) := by decide +kernel
theorem d2_32 : decode method_3_code 32 = .ok (.istore 5, 2) := by decide +kernel
theorem d2_34 : decode method_3_code 34 = .ok (.aload_n 1, 1) := by decide +kernel
theorem d2_35 : decode method_3_code 35 = .ok (.iload_n 3, 1) := by decide +kernel
theorem d2_36 : decode method_3_code 36 = .ok (.iaload, 1) := by decide +kernel
theorem d2_37 : decode method_3_code 37 = .ok (.iload 5, 2) := by decide +kernel
theorem d2_39 : decode method_3_code 39 = .ok (.if_icmp .ne 7, 3) := by decide +kernel
theorem d2_42 : decode method_3_code 42 = .ok (.iconst 1, 1) := by decide +kernel
theorem d2_43 : decode method_3_code 43 = .ok (.goto 4, 3) := by decide +kernel
theorem d2_47 : decode method_3_code 47 = .ok (.ireturn, 1) := by decide +kernel
theorem d2_27 : decode method_3_code 27 = .ok (.aload_n 2, 1) := by decide +kernel
theorem d2_28 : decode method_3_code 28 = .ok (.iload_n 3, 1) := by decide +kernel
theorem d2_29 : decode method_3_code 29 = .ok (.iconst 1, 1) := by decide +kernel
theorem d2_30 : decode method_3_code 30 = .ok (.isub, 1) := by decide +kernel
theorem d2_31 : decode method_3_code 31 = .ok (.iaload, 1) := by decide +kernel
theorem pnn_0 : plainName "com/example/prefixleap/prefixleap/core/PrefixTableShiftedPinLaw" = true := by first | (simp [plainName, overriddenIn]; done) | decide +kernel
theorem pn_0 : plainFor (⟨"com/example/prefixleap/prefixleap/core/PrefixTableShiftedPinLaw", "law", "(IIIIII)Z"⟩ : MethodName) = true := plainFor_of_name pnn_0
theorem pd_0 : parseMethodDescriptor "([I)[I" = some ⟨[(.array .int)], some (.array .int)⟩ := by decide +kernel
theorem pd_1 : parseMethodDescriptor "([I[I[III)Z" = some ⟨[(.array .int), (.array .int), (.array .int), .int, .int], some .boolean⟩ := by decide +kernel
section OwnCopy
variable {p : Program} {l : Launch} {e : Env} {R : Room} {s : State} {m : MethodId} {args : Array Value} {below : List Frame} {meth : Method} {c : Code} {T : State} {locs : List Loc} {cells slots : Nat} {Z : State} {a0 : Array Value} {h h' : Heap} {a b : Addr} {k k' : ClassId} {ty : FieldType} {n n' : Nat} {f f' : Nat → Value}
theorem own_ofn {n : Nat} (h : n < 2 ^ 31) : ¬ Int32.ofNat n < 0 ∧ (Int32.ofNat n).toNatClampNeg = n := by
  have e : (Int32.ofNat n).toInt = n := Int32.toInt_ofNat_small h
  have q : ¬ Int32.ofNat n < 0 := by
    intro q
    rw [Int32.lt_iff_toInt_lt, e] at q
    have d : (0 : Int32).toInt = 0 := by decide
    omega
  have := nat_of q
  exact ⟨q, by omega⟩
theorem own_getD_map {n i : Nat} (hi : i < n) (f : Nat → Value) (d : Value) : ((List.range n).map f).getD i d = f i := by
  simp [List.getD, hi]
theorem own_Ar.arv (F : own_Ar Z h a k ty n f) (d : Value) (hf : ∀ i, i < n → fits ty (f i) = true) : Arv Z h a k ty (Int32.ofNat n) ((List.range n).map f) d := by
  obtain ⟨cl, A, r1, r2, r3, r4⟩ := F
  have o := own_ofn r3
  refine ⟨cl, A, r1, by rw [r2, o.2], o.1, fun i hi => ?_, fun i hi => ?_⟩
  · rw [r2] at hi
    rw [own_getD_map hi, r4 i hi]
  · rw [r2] at hi
    rw [own_getD_map hi]; exact hf i hi
theorem own_of_arv {z : Int32} {vs : List Value} {d : Value} (F : Arv Z h a k ty z vs d) (hz : z.toNatClampNeg = n) (hn : n < 2 ^ 31) : own_Ar Z h a k ty n (fun i => vs.getD i d) := by
  obtain ⟨cl, A, r1, r2, r3, r4, -⟩ := F
  exact ⟨cl, A, r1, by rw [r2, hz], hn, fun i hi => r4 i (by rw [r2, hz]; exact hi)⟩
theorem own_splice {n n' sp dp nn i : Nat} (f f' : Nat → Value) (d : Value) (h1 : sp + nn ≤ n) (h2 : dp + nn ≤ n') (hi : i < n') :
    (((List.range n').map f').take dp ++ ((List.range nn).map fun i => ((List.range n).map f).getD (sp + i) d) ++ ((List.range n').map f').drop (dp + nn)).getD i d = if dp ≤ i ∧ i < dp + nn then f (sp + (i - dp)) else f' i := by
  have l1 : (((List.range n').map f').take dp).length = dp := by simp; omega
  simp only [List.getD]
  have l2 : ((List.range nn).map fun i => ((List.range n).map f)[sp + i]?.getD d).length = nn := by simp
  by_cases q1 : i < dp
  · rw [if_neg (by omega), List.append_assoc, List.getElem?_append_left (by rw [l1]; exact q1), List.getElem?_take_of_lt q1]
    simp [hi]
  · by_cases q2 : i < dp + nn
    · rw [if_pos ⟨by omega, q2⟩, List.getElem?_append_left (by rw [List.length_append, l1, l2]; omega), List.getElem?_append_right (by rw [l1]; omega), l1]
      have q3 : i - dp < nn := by omega
      have q4 : sp + (i - dp) < n := by omega
      simp [q3, q4]
    · rw [if_neg (by omega), List.getElem?_append_right (by rw [List.length_append, l1, l2]; omega), List.length_append, l1, l2, List.getElem?_drop]
      have q3 : dp + nn + (i - (dp + nn)) = i := by omega
      rw [q3]
      simp [hi]
theorem own_cpI (X : Stand p l e R s m args below meth c T locs cells slots) (hx : p.tables.exec = Jvm.exec) (hZ : Z.Warmed39 s.vm) {own : String} {index : Nat} (hown : s.vm.findClass own = some m.cls)
    (w1 : (Cond.methodLink own index Jvm.Stand.acN).before a0 Z = true) (w2 : (Cond.native Jvm.Stand.acN).before a0 Z = true) (w3 : (Cond.static Jvm.Stand.acN).before a0 Z = true) (w4 : (Cond.initialized "java/lang/System").before a0 Z = true) (eT : T.heap = h)
    (A : own_Ar Z h a k ty n f) (B : own_Ar Z h b k' ty n' f') (hp : refKind ty = false) (hf : ∀ i, i < n → fits ty (f i) = true) (hf' : ∀ i, i < n' → fits ty (f' i) = true) {spz dpz nz : Int32} {sp dp nn : Nat} (h1 : ¬ spz < 0) (h2 : ¬ dpz < 0) (h3 : ¬ nz < 0) (e1 : spz.toNatClampNeg = sp) (e2 : dpz.toNatClampNeg = dp) (e3 : nz.toNatClampNeg = nn)
    (h4 : sp + nn ≤ n) (h5 : dp + nn ≤ n') {n0 : Nat} (N : Fr n0 locs) (ge : n0 ≤ b)
    {g : JFrame} (hg : g.method = m) (hsize : g.locals.size = c.maxLocals) {rest : List Value} (hs : g.stack = .int nz :: .int dpz :: .ref b :: .int spz :: .ref a :: rest) (hd : decode c.code g.pc = .ok (.invokestatic index, 3))
    (hfr : 1 ≤ R.frames) {W : Nat} (hW : 2 * g.monitorRoom + (rest.map fun v => v.category).sum ≤ W) (hlo : W + (nativeFrameWords "java/lang/System" "arraycopy" 5 + 11) ≤ R.locals) :
    ∃ T' h' L, Stand p l e R s m args below meth c T' L cells slots ∧ T'.heap = h' ∧ Fr n0 L ∧ Keep h h' [b] ∧ own_Ar Z h' b k' ty n' (fun i => if dp ≤ i ∧ i < dp + nn then f (sp + (i - dp)) else f' i) ∧
      ∀ target, Steps p.tables e below (T'.setTop { g with pc := g.pc + 3, stack := rest }) target → Steps p.tables e below (T.setTop g) target := by
  have hn : n < 2 ^ 31 := by obtain ⟨_, _, _, _, r, _⟩ := A; exact r
  have hn' : n' < 2 ^ 31 := by obtain ⟨_, _, _, _, r, _⟩ := B; exact r
  subst e1 e2 e3
  obtain ⟨T', h', L, X', e', N', K', V', st⟩ := cpA X hx hZ hown w1 w2 w3 w4 eT (A.arv (.int 0) hf) (B.arv (.int 0) hf') (Or.inl ⟨rfl, hp⟩) h1 h2 h3 (by rw [(own_ofn hn).2]; exact h4) (by rw [(own_ofn hn').2]; exact h5) rfl (by simpa using h5) N ge hg hsize hs hd hfr hW hlo
  refine ⟨T', h', L, X', e', N', K', (own_of_arv V' (own_ofn hn').2 hn').cong fun i hi => ?_, st⟩
  exact own_splice f f' (.int 0) h4 h5 hi
theorem own_fit_set {f : Nat → Value} {k : Nat} {x : Int32} (h : ∀ i, fits .int (f i) = true) : ∀ i, fits .int ((fun j => if j = k then Value.int x else f j) i) = true := fun i => by
  show fits .int (if i = k then Value.int x else f i) = true
  split
  · rfl
  · exact h i
theorem own_fit0 : ∀ i : Nat, fits .int ((fun _ => Value.int (0 : Int32)) i) = true := fun _ => rfl
end OwnCopy

theorem own_mod6 (x : Int32) : (x &&& 2147483647) % (6 : Int32) = 0 ∨ (x &&& 2147483647) % (6 : Int32) = 1 ∨ (x &&& 2147483647) % (6 : Int32) = 2 ∨ (x &&& 2147483647) % (6 : Int32) = 3 ∨ (x &&& 2147483647) % (6 : Int32) = 4 ∨ (x &&& 2147483647) % (6 : Int32) = 5 := by
  have a := c_and x 2147483647 (by decide)
  have e := (c_irem (x &&& 2147483647) 6 6 (by decide)).1 a.1
  have d0 : (0 : Int32).toInt = 0 := by decide
  have d1 : (1 : Int32).toInt = 1 := by decide
  have d2 : (2 : Int32).toInt = 2 := by decide
  have d3 : (3 : Int32).toInt = 3 := by decide
  have d4 : (4 : Int32).toInt = 4 := by decide
  have d5 : (5 : Int32).toInt = 5 := by decide
  simp only [← Int32.toInt_inj, e, d0, d1, d2, d3, d4, d5]
  omega
set_option maxRecDepth 65536 in
set_option maxHeartbeats 40000000 in
theorem rm1_0 (l : Launch) (Z : State) (a0 : Array Value) (hw : ∀ d ∈ tables_1, d.before a0 Z = true) (r0 : Addr) (h0 : Heap) (n0 : Nat) (kc : ClassId) (f : Nat → Value) (Z0 : n0 ≤ h0.size) (V : own_Ar Z h0 r0 kc .int 0 f) (hf : ∀ i, i < 0 → fits .int (f i) = true) :
    own_C l (⟨"com/example/prefixleap/prefixleap/core/PrefixTable", "shifted", "([I)[I"⟩ : MethodName) prog_12_method_4_code 2 (some (.array .int)) ({ frames := 1, cells := 1, slots := 0, locals := 40 } : Room) Z #[(.ref r0)] h0 (fun v h L => ∃ (b : Addr) (kb : ClassId) (g : Nat → Value), v = some (.ref b) ∧ Fr n0 L ∧ Keep h0 h [] ∧ own_Ar Z h b kb .int 0 g ∧ h0.size ≤ b) := by
  refine own_enter pn_1 ?_
  intro p e s m below meth c s₁ X0 hx hby hml hown hnm hret hlk hZ e0
  replace hown : s.vm.findClass "com/example/prefixleap/prefixleap/core/PrefixTable" = some m.cls := hown
  have ef : entryFrame m #[(.ref r0)] 2 = mkF m 0 #[.val (.ref r0), .unset] [] := by first | rfl | (simp [entryFrame, mkF, argsToLocals, Value.category, maxLocals]; done)
  refine own_cast ef ?_
  show own_Ends _ _ _ _ _ _ _ s₁ (mkF m 0 #[.val (.ref r0), .unset] [])
  have N0 := Fr.nil n0
  have K0 : Keep h0 h0 [] := Keep.refl _ _
  refine own_go (fun _ k => XS.aloadN X0.here hx rfl (hb hby d1_0) rfl rfl k) ?_
  show own_Ends _ _ _ _ _ _ _ s₁ (mkF m 1 #[.val (.ref r0), .unset] [(.ref r0)])
  refine own_go (fun _ k => own_len X0 hx hZ e0 V (z := (0 : Int32)) rfl (g := (mkF m 1 #[.val (.ref r0), .unset] [(.ref r0)])) rfl rfl (hb hby d1_1) _ k) ?_
  show own_Ends _ _ _ _ _ _ _ s₁ (mkF m 2 #[.val (.ref r0), .unset] [(.int (0 : Int32))])
  obtain ⟨T1, h1, k1, X1, e1, E1, A1, st1⟩ := own_newP X0 hx hZ (aty := .int) (hw _ (List.mem_of_getElem? (i := 1) rfl)) e0 (g := (mkF m 2 #[.val (.ref r0), .unset] [(.int (0 : Int32))])) rfl (hb hby d1_2) rfl (by decide) (n := 0) (by decide) (cap := 0) (by decide) (by decide) (by decide) (by decide)
  obtain ⟨b, gq1⟩ : ∃ z, z = h0.size := ⟨_, rfl⟩
  rw [← gq1] at A1 st1
  have ne_r0_b : r0 ≠ b := Nat.ne_of_lt (Nat.lt_of_lt_of_le V.lt (Nat.le_of_eq gq1.symm))
  have sz_b : h0.size ≤ b := Nat.le_trans K0.1 (Nat.le_of_eq gq1.symm)
  have g_b : n0 ≤ b := Nat.le_trans Z0 sz_b
  have K_1 := K0.ext E1
  have V_r0_1 := V.ext E1
  have V_b : own_Ar Z h1 b k1 .int 0 (fun _ => (.int (0 : Int32))) := A1
  refine own_go st1 ?_
  show own_Ends _ _ _ _ _ _ _ T1 (mkF m 4 #[.val (.ref r0), .unset] [(.ref b)])
  refine own_go (fun _ k => XS.astoreN X1.here hx rfl (hb hby d1_4) rfl rfl (l' := #[.val (.ref r0), .val (.ref b)]) rfl k) ?_
  show own_Ends _ _ _ _ _ _ _ T1 (mkF m 5 #[.val (.ref r0), .val (.ref b)] [])
  refine own_go (fun _ k => XS.aloadN X1.here hx rfl (hb hby d1_5) rfl rfl k) ?_
  show own_Ends _ _ _ _ _ _ _ T1 (mkF m 6 #[.val (.ref r0), .val (.ref b)] [(.ref r0)])
  refine own_go (fun _ k => own_len X1 hx hZ e1 V_r0_1 (z := (0 : Int32)) rfl (g := (mkF m 6 #[.val (.ref r0), .val (.ref b)] [(.ref r0)])) rfl rfl (hb hby d1_6) _ k) ?_
  show own_Ends _ _ _ _ _ _ _ T1 (mkF m 7 #[.val (.ref r0), .val (.ref b)] [(.int (0 : Int32))])
  refine own_go (fun _ k => XS.ifYes X1.here hx rfl (pc0 := 7) (pc' := 25) rfl (hb hby d1_7) rfl ((if0 _ _).trans (flt (by decide)).2.2.2) (by decide) (by decide) k) ?_
  show own_Ends _ _ _ _ _ _ _ T1 (mkF m 25 #[.val (.ref r0), .val (.ref b)] [])
  refine own_go (fun _ k => XS.aloadN X1.here hx rfl (hb hby d1_25) rfl rfl k) ?_
  show own_Ends _ _ _ _ _ _ _ T1 (mkF m 26 #[.val (.ref r0), .val (.ref b)] [(.ref b)])
  exact own_retR X1 hx hlk hret rfl rfl rfl (hb hby d1_26) (by decide) (by decide) (by rw [e1]; exact ⟨b, k1, (fun _ => (.int (0 : Int32))), rfl, N0, K_1, V_b, sz_b⟩)
set_option maxRecDepth 65536 in
set_option maxHeartbeats 40000000 in
theorem rm1_1 (l : Launch) (Z : State) (a0 : Array Value) (hw : ∀ d ∈ tables_1, d.before a0 Z = true) (r0 : Addr) (h0 : Heap) (n0 : Nat) (kc : ClassId) (f : Nat → Value) (Z0 : n0 ≤ h0.size) (V : own_Ar Z h0 r0 kc .int 1 f) (hf : ∀ i, i < 1 → fits .int (f i) = true) :
    own_C l (⟨"com/example/prefixleap/prefixleap/core/PrefixTable", "shifted", "([I)[I"⟩ : MethodName) prog_12_method_4_code 2 (some (.array .int)) ({ frames := 1, cells := 1, slots := 1, locals := 40 } : Room) Z #[(.ref r0)] h0 (fun v h L => ∃ (b : Addr) (kb : ClassId) (g : Nat → Value), v = some (.ref b) ∧ Fr n0 L ∧ Keep h0 h [] ∧ own_Ar Z h b kb .int 1 g ∧ h0.size ≤ b ∧ g 0 = .int (-1)) := by
  refine own_enter pn_1 ?_
  intro p e s m below meth c s₁ X0 hx hby hml hown hnm hret hlk hZ e0
  replace hown : s.vm.findClass "com/example/prefixleap/prefixleap/core/PrefixTable" = some m.cls := hown
  have ef : entryFrame m #[(.ref r0)] 2 = mkF m 0 #[.val (.ref r0), .unset] [] := by first | rfl | (simp [entryFrame, mkF, argsToLocals, Value.category, maxLocals]; done)
  refine own_cast ef ?_
  show own_Ends _ _ _ _ _ _ _ s₁ (mkF m 0 #[.val (.ref r0), .unset] [])
  have N0 := Fr.nil n0
  have K0 : Keep h0 h0 [] := Keep.refl _ _
  refine own_go (fun _ k => XS.aloadN X0.here hx rfl (hb hby d1_0) rfl rfl k) ?_
  show own_Ends _ _ _ _ _ _ _ s₁ (mkF m 1 #[.val (.ref r0), .unset] [(.ref r0)])
  refine own_go (fun _ k => own_len X0 hx hZ e0 V (z := (1 : Int32)) rfl (g := (mkF m 1 #[.val (.ref r0), .unset] [(.ref r0)])) rfl rfl (hb hby d1_1) _ k) ?_
  show own_Ends _ _ _ _ _ _ _ s₁ (mkF m 2 #[.val (.ref r0), .unset] [(.int (1 : Int32))])
  obtain ⟨T2, h2, k2, X2, e2, E2, A2, st2⟩ := own_newP X0 hx hZ (aty := .int) (hw _ (List.mem_of_getElem? (i := 1) rfl)) e0 (g := (mkF m 2 #[.val (.ref r0), .unset] [(.int (1 : Int32))])) rfl (hb hby d1_2) rfl (by decide) (n := 1) (by decide) (cap := 1) (by decide) (by decide) (by decide) (by decide)
  obtain ⟨b, gq2⟩ : ∃ z, z = h0.size := ⟨_, rfl⟩
  rw [← gq2] at A2 st2
  have ne_r0_b : r0 ≠ b := Nat.ne_of_lt (Nat.lt_of_lt_of_le V.lt (Nat.le_of_eq gq2.symm))
  have sz_b : h0.size ≤ b := Nat.le_trans K0.1 (Nat.le_of_eq gq2.symm)
  have g_b : n0 ≤ b := Nat.le_trans Z0 sz_b
  have K_2 := K0.ext E2
  have V_r0_2 := V.ext E2
  have V_b : own_Ar Z h2 b k2 .int 1 (fun _ => (.int (0 : Int32))) := A2
  refine own_go st2 ?_
  show own_Ends _ _ _ _ _ _ _ T2 (mkF m 4 #[.val (.ref r0), .unset] [(.ref b)])
  refine own_go (fun _ k => XS.astoreN X2.here hx rfl (hb hby d1_4) rfl rfl (l' := #[.val (.ref r0), .val (.ref b)]) rfl k) ?_
  show own_Ends _ _ _ _ _ _ _ T2 (mkF m 5 #[.val (.ref r0), .val (.ref b)] [])
  refine own_go (fun _ k => XS.aloadN X2.here hx rfl (hb hby d1_5) rfl rfl k) ?_
  show own_Ends _ _ _ _ _ _ _ T2 (mkF m 6 #[.val (.ref r0), .val (.ref b)] [(.ref r0)])
  refine own_go (fun _ k => own_len X2 hx hZ e2 V_r0_2 (z := (1 : Int32)) rfl (g := (mkF m 6 #[.val (.ref r0), .val (.ref b)] [(.ref r0)])) rfl rfl (hb hby d1_6) _ k) ?_
  show own_Ends _ _ _ _ _ _ _ T2 (mkF m 7 #[.val (.ref r0), .val (.ref b)] [(.int (1 : Int32))])
  refine own_go (fun _ k => XS.ifNo X2.here hx rfl (hb hby d1_7) rfl ((if0 _ _).trans (tlt (by decide)).2.2.2) k) ?_
  show own_Ends _ _ _ _ _ _ _ T2 (mkF m 10 #[.val (.ref r0), .val (.ref b)] [])
  refine own_go (fun _ k => XS.aloadN X2.here hx rfl (hb hby d1_10) rfl rfl k) ?_
  show own_Ends _ _ _ _ _ _ _ T2 (mkF m 11 #[.val (.ref r0), .val (.ref b)] [(.ref b)])
  refine own_go (fun _ k => XS.iconst X2.here hx rfl (hb hby d1_11) k) ?_
  show own_Ends _ _ _ _ _ _ _ T2 (mkF m 12 #[.val (.ref r0), .val (.ref b)] [(.int (0 : Int32)), (.ref b)])
  refine own_go (fun _ k => XS.iconst X2.here hx rfl (hb hby d1_12) k) ?_
  show own_Ends _ _ _ _ _ _ _ T2 (mkF m 13 #[.val (.ref r0), .val (.ref b)] [(.int (-1 : Int32)), (.int (0 : Int32)), (.ref b)])
  obtain ⟨T3, h3, X3, e3, W3, V3, st3⟩ := own_stI X2 hx hZ e2 V_b (i := 0) (by decide) (by decide) (by decide) (g := (mkF m 13 #[.val (.ref r0), .val (.ref b)] [(.int (-1 : Int32)), (.int (0 : Int32)), (.ref b)])) rfl rfl (hb hby d1_13)
  have N3 := Fr.snoc X3 N0 g_b
  have K_3 := K_2.wr W3 (Or.inr sz_b)
  have V_r0_3 := V_r0_2.other W3 ne_r0_b
  refine own_go st3 ?_
  show own_Ends _ _ _ _ _ _ _ T3 (mkF m 14 #[.val (.ref r0), .val (.ref b)] [])
  refine own_go (fun _ k => XS.aloadN X3.here hx rfl (hb hby d1_14) rfl rfl k) ?_
  show own_Ends _ _ _ _ _ _ _ T3 (mkF m 15 #[.val (.ref r0), .val (.ref b)] [(.ref r0)])
  refine own_go (fun _ k => XS.iconst X3.here hx rfl (hb hby d1_15) k) ?_
  show own_Ends _ _ _ _ _ _ _ T3 (mkF m 16 #[.val (.ref r0), .val (.ref b)] [(.int (0 : Int32)), (.ref r0)])
  refine own_go (fun _ k => XS.aloadN X3.here hx rfl (hb hby d1_16) rfl rfl k) ?_
  show own_Ends _ _ _ _ _ _ _ T3 (mkF m 17 #[.val (.ref r0), .val (.ref b)] [(.ref b), (.int (0 : Int32)), (.ref r0)])
  refine own_go (fun _ k => XS.iconst X3.here hx rfl (hb hby d1_17) k) ?_
  show own_Ends _ _ _ _ _ _ _ T3 (mkF m 18 #[.val (.ref r0), .val (.ref b)] [(.int (1 : Int32)), (.ref b), (.int (0 : Int32)), (.ref r0)])
  refine own_go (fun _ k => XS.aloadN X3.here hx rfl (hb hby d1_18) rfl rfl k) ?_
  show own_Ends _ _ _ _ _ _ _ T3 (mkF m 19 #[.val (.ref r0), .val (.ref b)] [(.ref r0), (.int (1 : Int32)), (.ref b), (.int (0 : Int32)), (.ref r0)])
  refine own_go (fun _ k => own_len X3 hx hZ e3 V_r0_3 (z := (1 : Int32)) rfl (g := (mkF m 19 #[.val (.ref r0), .val (.ref b)] [(.ref r0), (.int (1 : Int32)), (.ref b), (.int (0 : Int32)), (.ref r0)])) rfl rfl (hb hby d1_19) _ k) ?_
  show own_Ends _ _ _ _ _ _ _ T3 (mkF m 20 #[.val (.ref r0), .val (.ref b)] [(.int (1 : Int32)), (.int (1 : Int32)), (.ref b), (.int (0 : Int32)), (.ref r0)])
  refine own_go (fun _ k => XS.iconst X3.here hx rfl (hb hby d1_20) k) ?_
  show own_Ends _ _ _ _ _ _ _ T3 (mkF m 21 #[.val (.ref r0), .val (.ref b)] [(.int (1 : Int32)), (.int (1 : Int32)), (.int (1 : Int32)), (.ref b), (.int (0 : Int32)), (.ref r0)])
  refine own_go (fun _ k => XS.isub X3.here hx rfl (hb hby d1_21) rfl k) ?_
  show own_Ends _ _ _ _ _ _ _ T3 (mkF m 22 #[.val (.ref r0), .val (.ref b)] [(.int ((1 : Int32) - (1 : Int32))), (.int (1 : Int32)), (.ref b), (.int (0 : Int32)), (.ref r0)])
  obtain ⟨T4, h4, L4, X4, e4, N4, K4, V4, st4⟩ := own_cpI X3 hx hZ hown (hw _ (List.mem_of_getElem? (i := 10) rfl)) (hw _ (List.mem_of_getElem? (i := 13) rfl)) (hw _ (List.mem_of_getElem? (i := 11) rfl)) (hw _ (List.mem_of_getElem? (i := 12) rfl)) e3 V_r0_3 V3 rfl hf (fun i _ => by show fits .int (if i = 0 then Value.int _ else _) = true; split <;> rfl) (sp := 0) (dp := 1) (nn := 0) (by decide) (by decide) (by decide) (by decide) (by decide) (by decide) (by decide) (by decide) N3 g_b (g := (mkF m 22 #[.val (.ref r0), .val (.ref b)] [(.int ((1 : Int32) - (1 : Int32))), (.int (1 : Int32)), (.ref b), (.int (0 : Int32)), (.ref r0)])) rfl (by rw [hml]; rfl) rfl (hb hby d1_22) (by decide) (W := 0) (by show 2 * 0 + _ ≤ _; exact Nat.le_of_eq rfl) (by decide)
  have K_4 := K_3.trans K4 (allS (Or.inr sz_b) all0)
  have V_r0_4 := V_r0_3.keep K4 (ninS ne_r0_b nin0)
  refine own_go st4 ?_
  show own_Ends _ _ _ _ _ _ _ T4 (mkF m 25 #[.val (.ref r0), .val (.ref b)] [])
  refine own_go (fun _ k => XS.aloadN X4.here hx rfl (hb hby d1_25) rfl rfl k) ?_
  show own_Ends _ _ _ _ _ _ _ T4 (mkF m 26 #[.val (.ref r0), .val (.ref b)] [(.ref b)])
  exact own_retR X4 hx hlk hret rfl rfl rfl (hb hby d1_26) (by decide) (by decide) (by rw [e4]; exact ⟨b, k2, (fun i => if 1 ≤ i ∧ i < 1 + 0 then f (0 + (i - 1)) else (fun j => if j = 0 then (.int (-1 : Int32)) else (fun _ => (.int (0 : Int32))) j) i), rfl, N4, K_4, V4, sz_b, by first | rfl | simp⟩)
set_option maxRecDepth 65536 in
set_option maxHeartbeats 40000000 in
theorem rm1_2 (l : Launch) (Z : State) (a0 : Array Value) (hw : ∀ d ∈ tables_1, d.before a0 Z = true) (r0 : Addr) (h0 : Heap) (n0 : Nat) (kc : ClassId) (f : Nat → Value) (Z0 : n0 ≤ h0.size) (V : own_Ar Z h0 r0 kc .int 2 f) (hf : ∀ i, i < 2 → fits .int (f i) = true) :
    own_C l (⟨"com/example/prefixleap/prefixleap/core/PrefixTable", "shifted", "([I)[I"⟩ : MethodName) prog_12_method_4_code 2 (some (.array .int)) ({ frames := 1, cells := 1, slots := 2, locals := 40 } : Room) Z #[(.ref r0)] h0 (fun v h L => ∃ (b : Addr) (kb : ClassId) (g : Nat → Value), v = some (.ref b) ∧ Fr n0 L ∧ Keep h0 h [] ∧ own_Ar Z h b kb .int 2 g ∧ h0.size ≤ b ∧ g 0 = .int (-1) ∧ g 1 = f 0) := by
  refine own_enter pn_1 ?_
  intro p e s m below meth c s₁ X0 hx hby hml hown hnm hret hlk hZ e0
  replace hown : s.vm.findClass "com/example/prefixleap/prefixleap/core/PrefixTable" = some m.cls := hown
  have ef : entryFrame m #[(.ref r0)] 2 = mkF m 0 #[.val (.ref r0), .unset] [] := by first | rfl | (simp [entryFrame, mkF, argsToLocals, Value.category, maxLocals]; done)
  refine own_cast ef ?_
  show own_Ends _ _ _ _ _ _ _ s₁ (mkF m 0 #[.val (.ref r0), .unset] [])
  have N0 := Fr.nil n0
  have K0 : Keep h0 h0 [] := Keep.refl _ _
  refine own_go (fun _ k => XS.aloadN X0.here hx rfl (hb hby d1_0) rfl rfl k) ?_
  show own_Ends _ _ _ _ _ _ _ s₁ (mkF m 1 #[.val (.ref r0), .unset] [(.ref r0)])
  refine own_go (fun _ k => own_len X0 hx hZ e0 V (z := (2 : Int32)) rfl (g := (mkF m 1 #[.val (.ref r0), .unset] [(.ref r0)])) rfl rfl (hb hby d1_1) _ k) ?_
  show own_Ends _ _ _ _ _ _ _ s₁ (mkF m 2 #[.val (.ref r0), .unset] [(.int (2 : Int32))])
  obtain ⟨T5, h5, k5, X5, e5, E5, A5, st5⟩ := own_newP X0 hx hZ (aty := .int) (hw _ (List.mem_of_getElem? (i := 1) rfl)) e0 (g := (mkF m 2 #[.val (.ref r0), .unset] [(.int (2 : Int32))])) rfl (hb hby d1_2) rfl (by decide) (n := 2) (by decide) (cap := 2) (by decide) (by decide) (by decide) (by decide)
  obtain ⟨b, gq5⟩ : ∃ z, z = h0.size := ⟨_, rfl⟩
  rw [← gq5] at A5 st5
  have ne_r0_b : r0 ≠ b := Nat.ne_of_lt (Nat.lt_of_lt_of_le V.lt (Nat.le_of_eq gq5.symm))
  have sz_b : h0.size ≤ b := Nat.le_trans K0.1 (Nat.le_of_eq gq5.symm)
  have g_b : n0 ≤ b := Nat.le_trans Z0 sz_b
  have K_5 := K0.ext E5
  have V_r0_5 := V.ext E5
  have V_b : own_Ar Z h5 b k5 .int 2 (fun _ => (.int (0 : Int32))) := A5
  refine own_go st5 ?_
  show own_Ends _ _ _ _ _ _ _ T5 (mkF m 4 #[.val (.ref r0), .unset] [(.ref b)])
  refine own_go (fun _ k => XS.astoreN X5.here hx rfl (hb hby d1_4) rfl rfl (l' := #[.val (.ref r0), .val (.ref b)]) rfl k) ?_
  show own_Ends _ _ _ _ _ _ _ T5 (mkF m 5 #[.val (.ref r0), .val (.ref b)] [])
  refine own_go (fun _ k => XS.aloadN X5.here hx rfl (hb hby d1_5) rfl rfl k) ?_
  show own_Ends _ _ _ _ _ _ _ T5 (mkF m 6 #[.val (.ref r0), .val (.ref b)] [(.ref r0)])
  refine own_go (fun _ k => own_len X5 hx hZ e5 V_r0_5 (z := (2 : Int32)) rfl (g := (mkF m 6 #[.val (.ref r0), .val (.ref b)] [(.ref r0)])) rfl rfl (hb hby d1_6) _ k) ?_
  show own_Ends _ _ _ _ _ _ _ T5 (mkF m 7 #[.val (.ref r0), .val (.ref b)] [(.int (2 : Int32))])
  refine own_go (fun _ k => XS.ifNo X5.here hx rfl (hb hby d1_7) rfl ((if0 _ _).trans (tlt (by decide)).2.2.2) k) ?_
  show own_Ends _ _ _ _ _ _ _ T5 (mkF m 10 #[.val (.ref r0), .val (.ref b)] [])
  refine own_go (fun _ k => XS.aloadN X5.here hx rfl (hb hby d1_10) rfl rfl k) ?_
  show own_Ends _ _ _ _ _ _ _ T5 (mkF m 11 #[.val (.ref r0), .val (.ref b)] [(.ref b)])
  refine own_go (fun _ k => XS.iconst X5.here hx rfl (hb hby d1_11) k) ?_
  show own_Ends _ _ _ _ _ _ _ T5 (mkF m 12 #[.val (.ref r0), .val (.ref b)] [(.int (0 : Int32)), (.ref b)])
  refine own_go (fun _ k => XS.iconst X5.here hx rfl (hb hby d1_12) k) ?_
  show own_Ends _ _ _ _ _ _ _ T5 (mkF m 13 #[.val (.ref r0), .val (.ref b)] [(.int (-1 : Int32)), (.int (0 : Int32)), (.ref b)])
  obtain ⟨T6, h6, X6, e6, W6, V6, st6⟩ := own_stI X5 hx hZ e5 V_b (i := 0) (by decide) (by decide) (by decide) (g := (mkF m 13 #[.val (.ref r0), .val (.ref b)] [(.int (-1 : Int32)), (.int (0 : Int32)), (.ref b)])) rfl rfl (hb hby d1_13)
  have N6 := Fr.snoc X6 N0 g_b
  have K_6 := K_5.wr W6 (Or.inr sz_b)
  have V_r0_6 := V_r0_5.other W6 ne_r0_b
  refine own_go st6 ?_
  show own_Ends _ _ _ _ _ _ _ T6 (mkF m 14 #[.val (.ref r0), .val (.ref b)] [])
  refine own_go (fun _ k => XS.aloadN X6.here hx rfl (hb hby d1_14) rfl rfl k) ?_
  show own_Ends _ _ _ _ _ _ _ T6 (mkF m 15 #[.val (.ref r0), .val (.ref b)] [(.ref r0)])
  refine own_go (fun _ k => XS.iconst X6.here hx rfl (hb hby d1_15) k) ?_
  show own_Ends _ _ _ _ _ _ _ T6 (mkF m 16 #[.val (.ref r0), .val (.ref b)] [(.int (0 : Int32)), (.ref r0)])
  refine own_go (fun _ k => XS.aloadN X6.here hx rfl (hb hby d1_16) rfl rfl k) ?_
  show own_Ends _ _ _ _ _ _ _ T6 (mkF m 17 #[.val (.ref r0), .val (.ref b)] [(.ref b), (.int (0 : Int32)), (.ref r0)])
  refine own_go (fun _ k => XS.iconst X6.here hx rfl (hb hby d1_17) k) ?_
  show own_Ends _ _ _ _ _ _ _ T6 (mkF m 18 #[.val (.ref r0), .val (.ref b)] [(.int (1 : Int32)), (.ref b), (.int (0 : Int32)), (.ref r0)])
  refine own_go (fun _ k => XS.aloadN X6.here hx rfl (hb hby d1_18) rfl rfl k) ?_
  show own_Ends _ _ _ _ _ _ _ T6 (mkF m 19 #[.val (.ref r0), .val (.ref b)] [(.ref r0), (.int (1 : Int32)), (.ref b), (.int (0 : Int32)), (.ref r0)])
  refine own_go (fun _ k => own_len X6 hx hZ e6 V_r0_6 (z := (2 : Int32)) rfl (g := (mkF m 19 #[.val (.ref r0), .val (.ref b)] [(.ref r0), (.int (1 : Int32)), (.ref b), (.int (0 : Int32)), (.ref r0)])) rfl rfl (hb hby d1_19) _ k) ?_
  show own_Ends _ _ _ _ _ _ _ T6 (mkF m 20 #[.val (.ref r0), .val (.ref b)] [(.int (2 : Int32)), (.int (1 : Int32)), (.ref b), (.int (0 : Int32)), (.ref r0)])
  refine own_go (fun _ k => XS.iconst X6.here hx rfl (hb hby d1_20) k) ?_
  show own_Ends _ _ _ _ _ _ _ T6 (mkF m 21 #[.val (.ref r0), .val (.ref b)] [(.int (1 : Int32)), (.int (2 : Int32)), (.int (1 : Int32)), (.ref b), (.int (0 : Int32)), (.ref r0)])
  refine own_go (fun _ k => XS.isub X6.here hx rfl (hb hby d1_21) rfl k) ?_
  show own_Ends _ _ _ _ _ _ _ T6 (mkF m 22 #[.val (.ref r0), .val (.ref b)] [(.int ((2 : Int32) - (1 : Int32))), (.int (1 : Int32)), (.ref b), (.int (0 : Int32)), (.ref r0)])
  obtain ⟨T7, h7, L7, X7, e7, N7, K7, V7, st7⟩ := own_cpI X6 hx hZ hown (hw _ (List.mem_of_getElem? (i := 10) rfl)) (hw _ (List.mem_of_getElem? (i := 13) rfl)) (hw _ (List.mem_of_getElem? (i := 11) rfl)) (hw _ (List.mem_of_getElem? (i := 12) rfl)) e6 V_r0_6 V6 rfl hf (fun i _ => by show fits .int (if i = 0 then Value.int _ else _) = true; split <;> rfl) (sp := 0) (dp := 1) (nn := 1) (by decide) (by decide) (by decide) (by decide) (by decide) (by decide) (by decide) (by decide) N6 g_b (g := (mkF m 22 #[.val (.ref r0), .val (.ref b)] [(.int ((2 : Int32) - (1 : Int32))), (.int (1 : Int32)), (.ref b), (.int (0 : Int32)), (.ref r0)])) rfl (by rw [hml]; rfl) rfl (hb hby d1_22) (by decide) (W := 0) (by show 2 * 0 + _ ≤ _; exact Nat.le_of_eq rfl) (by decide)
  have K_7 := K_6.trans K7 (allS (Or.inr sz_b) all0)
  have V_r0_7 := V_r0_6.keep K7 (ninS ne_r0_b nin0)
  refine own_go st7 ?_
  show own_Ends _ _ _ _ _ _ _ T7 (mkF m 25 #[.val (.ref r0), .val (.ref b)] [])
  refine own_go (fun _ k => XS.aloadN X7.here hx rfl (hb hby d1_25) rfl rfl k) ?_
  show own_Ends _ _ _ _ _ _ _ T7 (mkF m 26 #[.val (.ref r0), .val (.ref b)] [(.ref b)])
  exact own_retR X7 hx hlk hret rfl rfl rfl (hb hby d1_26) (by decide) (by decide) (by rw [e7]; exact ⟨b, k5, (fun i => if 1 ≤ i ∧ i < 1 + 1 then f (0 + (i - 1)) else (fun j => if j = 0 then (.int (-1 : Int32)) else (fun _ => (.int (0 : Int32))) j) i), rfl, N7, K_7, V7, sz_b, by first | rfl | simp, by first | rfl | simp⟩)
set_option maxRecDepth 65536 in
set_option maxHeartbeats 40000000 in
theorem rm1_3 (l : Launch) (Z : State) (a0 : Array Value) (hw : ∀ d ∈ tables_1, d.before a0 Z = true) (r0 : Addr) (h0 : Heap) (n0 : Nat) (kc : ClassId) (f : Nat → Value) (Z0 : n0 ≤ h0.size) (V : own_Ar Z h0 r0 kc .int 3 f) (hf : ∀ i, i < 3 → fits .int (f i) = true) :
    own_C l (⟨"com/example/prefixleap/prefixleap/core/PrefixTable", "shifted", "([I)[I"⟩ : MethodName) prog_12_method_4_code 2 (some (.array .int)) ({ frames := 1, cells := 1, slots := 3, locals := 40 } : Room) Z #[(.ref r0)] h0 (fun v h L => ∃ (b : Addr) (kb : ClassId) (g : Nat → Value), v = some (.ref b) ∧ Fr n0 L ∧ Keep h0 h [] ∧ own_Ar Z h b kb .int 3 g ∧ h0.size ≤ b ∧ g 0 = .int (-1) ∧ g 1 = f 0 ∧ g 2 = f 1) := by
  refine own_enter pn_1 ?_
  intro p e s m below meth c s₁ X0 hx hby hml hown hnm hret hlk hZ e0
  replace hown : s.vm.findClass "com/example/prefixleap/prefixleap/core/PrefixTable" = some m.cls := hown
  have ef : entryFrame m #[(.ref r0)] 2 = mkF m 0 #[.val (.ref r0), .unset] [] := by first | rfl | (simp [entryFrame, mkF, argsToLocals, Value.category, maxLocals]; done)
  refine own_cast ef ?_
  show own_Ends _ _ _ _ _ _ _ s₁ (mkF m 0 #[.val (.ref r0), .unset] [])
  have N0 := Fr.nil n0
  have K0 : Keep h0 h0 [] := Keep.refl _ _
  refine own_go (fun _ k => XS.aloadN X0.here hx rfl (hb hby d1_0) rfl rfl k) ?_
  show own_Ends _ _ _ _ _ _ _ s₁ (mkF m 1 #[.val (.ref r0), .unset] [(.ref r0)])
  refine own_go (fun _ k => own_len X0 hx hZ e0 V (z := (3 : Int32)) rfl (g := (mkF m 1 #[.val (.ref r0), .unset] [(.ref r0)])) rfl rfl (hb hby d1_1) _ k) ?_
  show own_Ends _ _ _ _ _ _ _ s₁ (mkF m 2 #[.val (.ref r0), .unset] [(.int (3 : Int32))])
  obtain ⟨T8, h8, k8, X8, e8, E8, A8, st8⟩ := own_newP X0 hx hZ (aty := .int) (hw _ (List.mem_of_getElem? (i := 1) rfl)) e0 (g := (mkF m 2 #[.val (.ref r0), .unset] [(.int (3 : Int32))])) rfl (hb hby d1_2) rfl (by decide) (n := 3) (by decide) (cap := 3) (by decide) (by decide) (by decide) (by decide)
  obtain ⟨b, gq8⟩ : ∃ z, z = h0.size := ⟨_, rfl⟩
  rw [← gq8] at A8 st8
  have ne_r0_b : r0 ≠ b := Nat.ne_of_lt (Nat.lt_of_lt_of_le V.lt (Nat.le_of_eq gq8.symm))
  have sz_b : h0.size ≤ b := Nat.le_trans K0.1 (Nat.le_of_eq gq8.symm)
  have g_b : n0 ≤ b := Nat.le_trans Z0 sz_b
  have K_8 := K0.ext E8
  have V_r0_8 := V.ext E8
  have V_b : own_Ar Z h8 b k8 .int 3 (fun _ => (.int (0 : Int32))) := A8
  refine own_go st8 ?_
  show own_Ends _ _ _ _ _ _ _ T8 (mkF m 4 #[.val (.ref r0), .unset] [(.ref b)])
  refine own_go (fun _ k => XS.astoreN X8.here hx rfl (hb hby d1_4) rfl rfl (l' := #[.val (.ref r0), .val (.ref b)]) rfl k) ?_
  show own_Ends _ _ _ _ _ _ _ T8 (mkF m 5 #[.val (.ref r0), .val (.ref b)] [])
  refine own_go (fun _ k => XS.aloadN X8.here hx rfl (hb hby d1_5) rfl rfl k) ?_
  show own_Ends _ _ _ _ _ _ _ T8 (mkF m 6 #[.val (.ref r0), .val (.ref b)] [(.ref r0)])
  refine own_go (fun _ k => own_len X8 hx hZ e8 V_r0_8 (z := (3 : Int32)) rfl (g := (mkF m 6 #[.val (.ref r0), .val (.ref b)] [(.ref r0)])) rfl rfl (hb hby d1_6) _ k) ?_
  show own_Ends _ _ _ _ _ _ _ T8 (mkF m 7 #[.val (.ref r0), .val (.ref b)] [(.int (3 : Int32))])
  refine own_go (fun _ k => XS.ifNo X8.here hx rfl (hb hby d1_7) rfl ((if0 _ _).trans (tlt (by decide)).2.2.2) k) ?_
  show own_Ends _ _ _ _ _ _ _ T8 (mkF m 10 #[.val (.ref r0), .val (.ref b)] [])
  refine own_go (fun _ k => XS.aloadN X8.here hx rfl (hb hby d1_10) rfl rfl k) ?_
  show own_Ends _ _ _ _ _ _ _ T8 (mkF m 11 #[.val (.ref r0), .val (.ref b)] [(.ref b)])
  refine own_go (fun _ k => XS.iconst X8.here hx rfl (hb hby d1_11) k) ?_
  show own_Ends _ _ _ _ _ _ _ T8 (mkF m 12 #[.val (.ref r0), .val (.ref b)] [(.int (0 : Int32)), (.ref b)])
  refine own_go (fun _ k => XS.iconst X8.here hx rfl (hb hby d1_12) k) ?_
  show own_Ends _ _ _ _ _ _ _ T8 (mkF m 13 #[.val (.ref r0), .val (.ref b)] [(.int (-1 : Int32)), (.int (0 : Int32)), (.ref b)])
  obtain ⟨T9, h9, X9, e9, W9, V9, st9⟩ := own_stI X8 hx hZ e8 V_b (i := 0) (by decide) (by decide) (by decide) (g := (mkF m 13 #[.val (.ref r0), .val (.ref b)] [(.int (-1 : Int32)), (.int (0 : Int32)), (.ref b)])) rfl rfl (hb hby d1_13)
  have N9 := Fr.snoc X9 N0 g_b
  have K_9 := K_8.wr W9 (Or.inr sz_b)
  have V_r0_9 := V_r0_8.other W9 ne_r0_b
  refine own_go st9 ?_
  show own_Ends _ _ _ _ _ _ _ T9 (mkF m 14 #[.val (.ref r0), .val (.ref b)] [])
  refine own_go (fun _ k => XS.aloadN X9.here hx rfl (hb hby d1_14) rfl rfl k) ?_
  show own_Ends _ _ _ _ _ _ _ T9 (mkF m 15 #[.val (.ref r0), .val (.ref b)] [(.ref r0)])
  refine own_go (fun _ k => XS.iconst X9.here hx rfl (hb hby d1_15) k) ?_
  show own_Ends _ _ _ _ _ _ _ T9 (mkF m 16 #[.val (.ref r0), .val (.ref b)] [(.int (0 : Int32)), (.ref r0)])
  refine own_go (fun _ k => XS.aloadN X9.here hx rfl (hb hby d1_16) rfl rfl k) ?_
  show own_Ends _ _ _ _ _ _ _ T9 (mkF m 17 #[.val (.ref r0), .val (.ref b)] [(.ref b), (.int (0 : Int32)), (.ref r0)])
  refine own_go (fun _ k => XS.iconst X9.here hx rfl (hb hby d1_17) k) ?_
  show own_Ends _ _ _ _ _ _ _ T9 (mkF m 18 #[.val (.ref r0), .val (.ref b)] [(.int (1 : Int32)), (.ref b), (.int (0 : Int32)), (.ref r0)])
  refine own_go (fun _ k => XS.aloadN X9.here hx rfl (hb hby d1_18) rfl rfl k) ?_
  show own_Ends _ _ _ _ _ _ _ T9 (mkF m 19 #[.val (.ref r0), .val (.ref b)] [(.ref r0), (.int (1 : Int32)), (.ref b), (.int (0 : Int32)), (.ref r0)])
  refine own_go (fun _ k => own_len X9 hx hZ e9 V_r0_9 (z := (3 : Int32)) rfl (g := (mkF m 19 #[.val (.ref r0), .val (.ref b)] [(.ref r0), (.int (1 : Int32)), (.ref b), (.int (0 : Int32)), (.ref r0)])) rfl rfl (hb hby d1_19) _ k) ?_
  show own_Ends _ _ _ _ _ _ _ T9 (mkF m 20 #[.val (.ref r0), .val (.ref b)] [(.int (3 : Int32)), (.int (1 : Int32)), (.ref b), (.int (0 : Int32)), (.ref r0)])
  refine own_go (fun _ k => XS.iconst X9.here hx rfl (hb hby d1_20) k) ?_
  show own_Ends _ _ _ _ _ _ _ T9 (mkF m 21 #[.val (.ref r0), .val (.ref b)] [(.int (1 : Int32)), (.int (3 : Int32)), (.int (1 : Int32)), (.ref b), (.int (0 : Int32)), (.ref r0)])
  refine own_go (fun _ k => XS.isub X9.here hx rfl (hb hby d1_21) rfl k) ?_
  show own_Ends _ _ _ _ _ _ _ T9 (mkF m 22 #[.val (.ref r0), .val (.ref b)] [(.int ((3 : Int32) - (1 : Int32))), (.int (1 : Int32)), (.ref b), (.int (0 : Int32)), (.ref r0)])
  obtain ⟨T10, h10, L10, X10, e10, N10, K10, V10, st10⟩ := own_cpI X9 hx hZ hown (hw _ (List.mem_of_getElem? (i := 10) rfl)) (hw _ (List.mem_of_getElem? (i := 13) rfl)) (hw _ (List.mem_of_getElem? (i := 11) rfl)) (hw _ (List.mem_of_getElem? (i := 12) rfl)) e9 V_r0_9 V9 rfl hf (fun i _ => by show fits .int (if i = 0 then Value.int _ else _) = true; split <;> rfl) (sp := 0) (dp := 1) (nn := 2) (by decide) (by decide) (by decide) (by decide) (by decide) (by decide) (by decide) (by decide) N9 g_b (g := (mkF m 22 #[.val (.ref r0), .val (.ref b)] [(.int ((3 : Int32) - (1 : Int32))), (.int (1 : Int32)), (.ref b), (.int (0 : Int32)), (.ref r0)])) rfl (by rw [hml]; rfl) rfl (hb hby d1_22) (by decide) (W := 0) (by show 2 * 0 + _ ≤ _; exact Nat.le_of_eq rfl) (by decide)
  have K_10 := K_9.trans K10 (allS (Or.inr sz_b) all0)
  have V_r0_10 := V_r0_9.keep K10 (ninS ne_r0_b nin0)
  refine own_go st10 ?_
  show own_Ends _ _ _ _ _ _ _ T10 (mkF m 25 #[.val (.ref r0), .val (.ref b)] [])
  refine own_go (fun _ k => XS.aloadN X10.here hx rfl (hb hby d1_25) rfl rfl k) ?_
  show own_Ends _ _ _ _ _ _ _ T10 (mkF m 26 #[.val (.ref r0), .val (.ref b)] [(.ref b)])
  exact own_retR X10 hx hlk hret rfl rfl rfl (hb hby d1_26) (by decide) (by decide) (by rw [e10]; exact ⟨b, k8, (fun i => if 1 ≤ i ∧ i < 1 + 2 then f (0 + (i - 1)) else (fun j => if j = 0 then (.int (-1 : Int32)) else (fun _ => (.int (0 : Int32))) j) i), rfl, N10, K_10, V10, sz_b, by first | rfl | simp, by first | rfl | simp, by first | rfl | simp⟩)
set_option maxRecDepth 65536 in
set_option maxHeartbeats 40000000 in
theorem rm1_4 (l : Launch) (Z : State) (a0 : Array Value) (hw : ∀ d ∈ tables_1, d.before a0 Z = true) (r0 : Addr) (h0 : Heap) (n0 : Nat) (kc : ClassId) (f : Nat → Value) (Z0 : n0 ≤ h0.size) (V : own_Ar Z h0 r0 kc .int 4 f) (hf : ∀ i, i < 4 → fits .int (f i) = true) :
    own_C l (⟨"com/example/prefixleap/prefixleap/core/PrefixTable", "shifted", "([I)[I"⟩ : MethodName) prog_12_method_4_code 2 (some (.array .int)) ({ frames := 1, cells := 1, slots := 4, locals := 40 } : Room) Z #[(.ref r0)] h0 (fun v h L => ∃ (b : Addr) (kb : ClassId) (g : Nat → Value), v = some (.ref b) ∧ Fr n0 L ∧ Keep h0 h [] ∧ own_Ar Z h b kb .int 4 g ∧ h0.size ≤ b ∧ g 0 = .int (-1) ∧ g 1 = f 0 ∧ g 2 = f 1 ∧ g 3 = f 2) := by
  refine own_enter pn_1 ?_
  intro p e s m below meth c s₁ X0 hx hby hml hown hnm hret hlk hZ e0
  replace hown : s.vm.findClass "com/example/prefixleap/prefixleap/core/PrefixTable" = some m.cls := hown
  have ef : entryFrame m #[(.ref r0)] 2 = mkF m 0 #[.val (.ref r0), .unset] [] := by first | rfl | (simp [entryFrame, mkF, argsToLocals, Value.category, maxLocals]; done)
  refine own_cast ef ?_
  show own_Ends _ _ _ _ _ _ _ s₁ (mkF m 0 #[.val (.ref r0), .unset] [])
  have N0 := Fr.nil n0
  have K0 : Keep h0 h0 [] := Keep.refl _ _
  refine own_go (fun _ k => XS.aloadN X0.here hx rfl (hb hby d1_0) rfl rfl k) ?_
  show own_Ends _ _ _ _ _ _ _ s₁ (mkF m 1 #[.val (.ref r0), .unset] [(.ref r0)])
  refine own_go (fun _ k => own_len X0 hx hZ e0 V (z := (4 : Int32)) rfl (g := (mkF m 1 #[.val (.ref r0), .unset] [(.ref r0)])) rfl rfl (hb hby d1_1) _ k) ?_
  show own_Ends _ _ _ _ _ _ _ s₁ (mkF m 2 #[.val (.ref r0), .unset] [(.int (4 : Int32))])
  obtain ⟨T11, h11, k11, X11, e11, E11, A11, st11⟩ := own_newP X0 hx hZ (aty := .int) (hw _ (List.mem_of_getElem? (i := 1) rfl)) e0 (g := (mkF m 2 #[.val (.ref r0), .unset] [(.int (4 : Int32))])) rfl (hb hby d1_2) rfl (by decide) (n := 4) (by decide) (cap := 4) (by decide) (by decide) (by decide) (by decide)
  obtain ⟨b, gq11⟩ : ∃ z, z = h0.size := ⟨_, rfl⟩
  rw [← gq11] at A11 st11
  have ne_r0_b : r0 ≠ b := Nat.ne_of_lt (Nat.lt_of_lt_of_le V.lt (Nat.le_of_eq gq11.symm))
  have sz_b : h0.size ≤ b := Nat.le_trans K0.1 (Nat.le_of_eq gq11.symm)
  have g_b : n0 ≤ b := Nat.le_trans Z0 sz_b
  have K_11 := K0.ext E11
  have V_r0_11 := V.ext E11
  have V_b : own_Ar Z h11 b k11 .int 4 (fun _ => (.int (0 : Int32))) := A11
  refine own_go st11 ?_
  show own_Ends _ _ _ _ _ _ _ T11 (mkF m 4 #[.val (.ref r0), .unset] [(.ref b)])
  refine own_go (fun _ k => XS.astoreN X11.here hx rfl (hb hby d1_4) rfl rfl (l' := #[.val (.ref r0), .val (.ref b)]) rfl k) ?_
  show own_Ends _ _ _ _ _ _ _ T11 (mkF m 5 #[.val (.ref r0), .val (.ref b)] [])
  refine own_go (fun _ k => XS.aloadN X11.here hx rfl (hb hby d1_5) rfl rfl k) ?_
  show own_Ends _ _ _ _ _ _ _ T11 (mkF m 6 #[.val (.ref r0), .val (.ref b)] [(.ref r0)])
  refine own_go (fun _ k => own_len X11 hx hZ e11 V_r0_11 (z := (4 : Int32)) rfl (g := (mkF m 6 #[.val (.ref r0), .val (.ref b)] [(.ref r0)])) rfl rfl (hb hby d1_6) _ k) ?_
  show own_Ends _ _ _ _ _ _ _ T11 (mkF m 7 #[.val (.ref r0), .val (.ref b)] [(.int (4 : Int32))])
  refine own_go (fun _ k => XS.ifNo X11.here hx rfl (hb hby d1_7) rfl ((if0 _ _).trans (tlt (by decide)).2.2.2) k) ?_
  show own_Ends _ _ _ _ _ _ _ T11 (mkF m 10 #[.val (.ref r0), .val (.ref b)] [])
  refine own_go (fun _ k => XS.aloadN X11.here hx rfl (hb hby d1_10) rfl rfl k) ?_
  show own_Ends _ _ _ _ _ _ _ T11 (mkF m 11 #[.val (.ref r0), .val (.ref b)] [(.ref b)])
  refine own_go (fun _ k => XS.iconst X11.here hx rfl (hb hby d1_11) k) ?_
  show own_Ends _ _ _ _ _ _ _ T11 (mkF m 12 #[.val (.ref r0), .val (.ref b)] [(.int (0 : Int32)), (.ref b)])
  refine own_go (fun _ k => XS.iconst X11.here hx rfl (hb hby d1_12) k) ?_
  show own_Ends _ _ _ _ _ _ _ T11 (mkF m 13 #[.val (.ref r0), .val (.ref b)] [(.int (-1 : Int32)), (.int (0 : Int32)), (.ref b)])
  obtain ⟨T12, h12, X12, e12, W12, V12, st12⟩ := own_stI X11 hx hZ e11 V_b (i := 0) (by decide) (by decide) (by decide) (g := (mkF m 13 #[.val (.ref r0), .val (.ref b)] [(.int (-1 : Int32)), (.int (0 : Int32)), (.ref b)])) rfl rfl (hb hby d1_13)
  have N12 := Fr.snoc X12 N0 g_b
  have K_12 := K_11.wr W12 (Or.inr sz_b)
  have V_r0_12 := V_r0_11.other W12 ne_r0_b
  refine own_go st12 ?_
  show own_Ends _ _ _ _ _ _ _ T12 (mkF m 14 #[.val (.ref r0), .val (.ref b)] [])
  refine own_go (fun _ k => XS.aloadN X12.here hx rfl (hb hby d1_14) rfl rfl k) ?_
  show own_Ends _ _ _ _ _ _ _ T12 (mkF m 15 #[.val (.ref r0), .val (.ref b)] [(.ref r0)])
  refine own_go (fun _ k => XS.iconst X12.here hx rfl (hb hby d1_15) k) ?_
  show own_Ends _ _ _ _ _ _ _ T12 (mkF m 16 #[.val (.ref r0), .val (.ref b)] [(.int (0 : Int32)), (.ref r0)])
  refine own_go (fun _ k => XS.aloadN X12.here hx rfl (hb hby d1_16) rfl rfl k) ?_
  show own_Ends _ _ _ _ _ _ _ T12 (mkF m 17 #[.val (.ref r0), .val (.ref b)] [(.ref b), (.int (0 : Int32)), (.ref r0)])
  refine own_go (fun _ k => XS.iconst X12.here hx rfl (hb hby d1_17) k) ?_
  show own_Ends _ _ _ _ _ _ _ T12 (mkF m 18 #[.val (.ref r0), .val (.ref b)] [(.int (1 : Int32)), (.ref b), (.int (0 : Int32)), (.ref r0)])
  refine own_go (fun _ k => XS.aloadN X12.here hx rfl (hb hby d1_18) rfl rfl k) ?_
  show own_Ends _ _ _ _ _ _ _ T12 (mkF m 19 #[.val (.ref r0), .val (.ref b)] [(.ref r0), (.int (1 : Int32)), (.ref b), (.int (0 : Int32)), (.ref r0)])
  refine own_go (fun _ k => own_len X12 hx hZ e12 V_r0_12 (z := (4 : Int32)) rfl (g := (mkF m 19 #[.val (.ref r0), .val (.ref b)] [(.ref r0), (.int (1 : Int32)), (.ref b), (.int (0 : Int32)), (.ref r0)])) rfl rfl (hb hby d1_19) _ k) ?_
  show own_Ends _ _ _ _ _ _ _ T12 (mkF m 20 #[.val (.ref r0), .val (.ref b)] [(.int (4 : Int32)), (.int (1 : Int32)), (.ref b), (.int (0 : Int32)), (.ref r0)])
  refine own_go (fun _ k => XS.iconst X12.here hx rfl (hb hby d1_20) k) ?_
  show own_Ends _ _ _ _ _ _ _ T12 (mkF m 21 #[.val (.ref r0), .val (.ref b)] [(.int (1 : Int32)), (.int (4 : Int32)), (.int (1 : Int32)), (.ref b), (.int (0 : Int32)), (.ref r0)])
  refine own_go (fun _ k => XS.isub X12.here hx rfl (hb hby d1_21) rfl k) ?_
  show own_Ends _ _ _ _ _ _ _ T12 (mkF m 22 #[.val (.ref r0), .val (.ref b)] [(.int ((4 : Int32) - (1 : Int32))), (.int (1 : Int32)), (.ref b), (.int (0 : Int32)), (.ref r0)])
  obtain ⟨T13, h13, L13, X13, e13, N13, K13, V13, st13⟩ := own_cpI X12 hx hZ hown (hw _ (List.mem_of_getElem? (i := 10) rfl)) (hw _ (List.mem_of_getElem? (i := 13) rfl)) (hw _ (List.mem_of_getElem? (i := 11) rfl)) (hw _ (List.mem_of_getElem? (i := 12) rfl)) e12 V_r0_12 V12 rfl hf (fun i _ => by show fits .int (if i = 0 then Value.int _ else _) = true; split <;> rfl) (sp := 0) (dp := 1) (nn := 3) (by decide) (by decide) (by decide) (by decide) (by decide) (by decide) (by decide) (by decide) N12 g_b (g := (mkF m 22 #[.val (.ref r0), .val (.ref b)] [(.int ((4 : Int32) - (1 : Int32))), (.int (1 : Int32)), (.ref b), (.int (0 : Int32)), (.ref r0)])) rfl (by rw [hml]; rfl) rfl (hb hby d1_22) (by decide) (W := 0) (by show 2 * 0 + _ ≤ _; exact Nat.le_of_eq rfl) (by decide)
  have K_13 := K_12.trans K13 (allS (Or.inr sz_b) all0)
  have V_r0_13 := V_r0_12.keep K13 (ninS ne_r0_b nin0)
  refine own_go st13 ?_
  show own_Ends _ _ _ _ _ _ _ T13 (mkF m 25 #[.val (.ref r0), .val (.ref b)] [])
  refine own_go (fun _ k => XS.aloadN X13.here hx rfl (hb hby d1_25) rfl rfl k) ?_
  show own_Ends _ _ _ _ _ _ _ T13 (mkF m 26 #[.val (.ref r0), .val (.ref b)] [(.ref b)])
  exact own_retR X13 hx hlk hret rfl rfl rfl (hb hby d1_26) (by decide) (by decide) (by rw [e13]; exact ⟨b, k11, (fun i => if 1 ≤ i ∧ i < 1 + 3 then f (0 + (i - 1)) else (fun j => if j = 0 then (.int (-1 : Int32)) else (fun _ => (.int (0 : Int32))) j) i), rfl, N13, K_13, V13, sz_b, by first | rfl | simp, by first | rfl | simp, by first | rfl | simp, by first | rfl | simp⟩)
set_option maxRecDepth 65536 in
set_option maxHeartbeats 40000000 in
theorem rm1_5 (l : Launch) (Z : State) (a0 : Array Value) (hw : ∀ d ∈ tables_1, d.before a0 Z = true) (r0 : Addr) (h0 : Heap) (n0 : Nat) (kc : ClassId) (f : Nat → Value) (Z0 : n0 ≤ h0.size) (V : own_Ar Z h0 r0 kc .int 5 f) (hf : ∀ i, i < 5 → fits .int (f i) = true) :
    own_C l (⟨"com/example/prefixleap/prefixleap/core/PrefixTable", "shifted", "([I)[I"⟩ : MethodName) prog_12_method_4_code 2 (some (.array .int)) ({ frames := 1, cells := 1, slots := 5, locals := 40 } : Room) Z #[(.ref r0)] h0 (fun v h L => ∃ (b : Addr) (kb : ClassId) (g : Nat → Value), v = some (.ref b) ∧ Fr n0 L ∧ Keep h0 h [] ∧ own_Ar Z h b kb .int 5 g ∧ h0.size ≤ b ∧ g 0 = .int (-1) ∧ g 1 = f 0 ∧ g 2 = f 1 ∧ g 3 = f 2 ∧ g 4 = f 3) := by
  refine own_enter pn_1 ?_
  intro p e s m below meth c s₁ X0 hx hby hml hown hnm hret hlk hZ e0
  replace hown : s.vm.findClass "com/example/prefixleap/prefixleap/core/PrefixTable" = some m.cls := hown
  have ef : entryFrame m #[(.ref r0)] 2 = mkF m 0 #[.val (.ref r0), .unset] [] := by first | rfl | (simp [entryFrame, mkF, argsToLocals, Value.category, maxLocals]; done)
  refine own_cast ef ?_
  show own_Ends _ _ _ _ _ _ _ s₁ (mkF m 0 #[.val (.ref r0), .unset] [])
  have N0 := Fr.nil n0
  have K0 : Keep h0 h0 [] := Keep.refl _ _
  refine own_go (fun _ k => XS.aloadN X0.here hx rfl (hb hby d1_0) rfl rfl k) ?_
  show own_Ends _ _ _ _ _ _ _ s₁ (mkF m 1 #[.val (.ref r0), .unset] [(.ref r0)])
  refine own_go (fun _ k => own_len X0 hx hZ e0 V (z := (5 : Int32)) rfl (g := (mkF m 1 #[.val (.ref r0), .unset] [(.ref r0)])) rfl rfl (hb hby d1_1) _ k) ?_
  show own_Ends _ _ _ _ _ _ _ s₁ (mkF m 2 #[.val (.ref r0), .unset] [(.int (5 : Int32))])
  obtain ⟨T14, h14, k14, X14, e14, E14, A14, st14⟩ := own_newP X0 hx hZ (aty := .int) (hw _ (List.mem_of_getElem? (i := 1) rfl)) e0 (g := (mkF m 2 #[.val (.ref r0), .unset] [(.int (5 : Int32))])) rfl (hb hby d1_2) rfl (by decide) (n := 5) (by decide) (cap := 5) (by decide) (by decide) (by decide) (by decide)
  obtain ⟨b, gq14⟩ : ∃ z, z = h0.size := ⟨_, rfl⟩
  rw [← gq14] at A14 st14
  have ne_r0_b : r0 ≠ b := Nat.ne_of_lt (Nat.lt_of_lt_of_le V.lt (Nat.le_of_eq gq14.symm))
  have sz_b : h0.size ≤ b := Nat.le_trans K0.1 (Nat.le_of_eq gq14.symm)
  have g_b : n0 ≤ b := Nat.le_trans Z0 sz_b
  have K_14 := K0.ext E14
  have V_r0_14 := V.ext E14
  have V_b : own_Ar Z h14 b k14 .int 5 (fun _ => (.int (0 : Int32))) := A14
  refine own_go st14 ?_
  show own_Ends _ _ _ _ _ _ _ T14 (mkF m 4 #[.val (.ref r0), .unset] [(.ref b)])
  refine own_go (fun _ k => XS.astoreN X14.here hx rfl (hb hby d1_4) rfl rfl (l' := #[.val (.ref r0), .val (.ref b)]) rfl k) ?_
  show own_Ends _ _ _ _ _ _ _ T14 (mkF m 5 #[.val (.ref r0), .val (.ref b)] [])
  refine own_go (fun _ k => XS.aloadN X14.here hx rfl (hb hby d1_5) rfl rfl k) ?_
  show own_Ends _ _ _ _ _ _ _ T14 (mkF m 6 #[.val (.ref r0), .val (.ref b)] [(.ref r0)])
  refine own_go (fun _ k => own_len X14 hx hZ e14 V_r0_14 (z := (5 : Int32)) rfl (g := (mkF m 6 #[.val (.ref r0), .val (.ref b)] [(.ref r0)])) rfl rfl (hb hby d1_6) _ k) ?_
  show own_Ends _ _ _ _ _ _ _ T14 (mkF m 7 #[.val (.ref r0), .val (.ref b)] [(.int (5 : Int32))])
  refine own_go (fun _ k => XS.ifNo X14.here hx rfl (hb hby d1_7) rfl ((if0 _ _).trans (tlt (by decide)).2.2.2) k) ?_
  show own_Ends _ _ _ _ _ _ _ T14 (mkF m 10 #[.val (.ref r0), .val (.ref b)] [])
  refine own_go (fun _ k => XS.aloadN X14.here hx rfl (hb hby d1_10) rfl rfl k) ?_
  show own_Ends _ _ _ _ _ _ _ T14 (mkF m 11 #[.val (.ref r0), .val (.ref b)] [(.ref b)])
  refine own_go (fun _ k => XS.iconst X14.here hx rfl (hb hby d1_11) k) ?_
  show own_Ends _ _ _ _ _ _ _ T14 (mkF m 12 #[.val (.ref r0), .val (.ref b)] [(.int (0 : Int32)), (.ref b)])
  refine own_go (fun _ k => XS.iconst X14.here hx rfl (hb hby d1_12) k) ?_
  show own_Ends _ _ _ _ _ _ _ T14 (mkF m 13 #[.val (.ref r0), .val (.ref b)] [(.int (-1 : Int32)), (.int (0 : Int32)), (.ref b)])
  obtain ⟨T15, h15, X15, e15, W15, V15, st15⟩ := own_stI X14 hx hZ e14 V_b (i := 0) (by decide) (by decide) (by decide) (g := (mkF m 13 #[.val (.ref r0), .val (.ref b)] [(.int (-1 : Int32)), (.int (0 : Int32)), (.ref b)])) rfl rfl (hb hby d1_13)
  have N15 := Fr.snoc X15 N0 g_b
  have K_15 := K_14.wr W15 (Or.inr sz_b)
  have V_r0_15 := V_r0_14.other W15 ne_r0_b
  refine own_go st15 ?_
  show own_Ends _ _ _ _ _ _ _ T15 (mkF m 14 #[.val (.ref r0), .val (.ref b)] [])
  refine own_go (fun _ k => XS.aloadN X15.here hx rfl (hb hby d1_14) rfl rfl k) ?_
  show own_Ends _ _ _ _ _ _ _ T15 (mkF m 15 #[.val (.ref r0), .val (.ref b)] [(.ref r0)])
  refine own_go (fun _ k => XS.iconst X15.here hx rfl (hb hby d1_15) k) ?_
  show own_Ends _ _ _ _ _ _ _ T15 (mkF m 16 #[.val (.ref r0), .val (.ref b)] [(.int (0 : Int32)), (.ref r0)])
  refine own_go (fun _ k => XS.aloadN X15.here hx rfl (hb hby d1_16) rfl rfl k) ?_
  show own_Ends _ _ _ _ _ _ _ T15 (mkF m 17 #[.val (.ref r0), .val (.ref b)] [(.ref b), (.int (0 : Int32)), (.ref r0)])
  refine own_go (fun _ k => XS.iconst X15.here hx rfl (hb hby d1_17) k) ?_
  show own_Ends _ _ _ _ _ _ _ T15 (mkF m 18 #[.val (.ref r0), .val (.ref b)] [(.int (1 : Int32)), (.ref b), (.int (0 : Int32)), (.ref r0)])
  refine own_go (fun _ k => XS.aloadN X15.here hx rfl (hb hby d1_18) rfl rfl k) ?_
  show own_Ends _ _ _ _ _ _ _ T15 (mkF m 19 #[.val (.ref r0), .val (.ref b)] [(.ref r0), (.int (1 : Int32)), (.ref b), (.int (0 : Int32)), (.ref r0)])
  refine own_go (fun _ k => own_len X15 hx hZ e15 V_r0_15 (z := (5 : Int32)) rfl (g := (mkF m 19 #[.val (.ref r0), .val (.ref b)] [(.ref r0), (.int (1 : Int32)), (.ref b), (.int (0 : Int32)), (.ref r0)])) rfl rfl (hb hby d1_19) _ k) ?_
  show own_Ends _ _ _ _ _ _ _ T15 (mkF m 20 #[.val (.ref r0), .val (.ref b)] [(.int (5 : Int32)), (.int (1 : Int32)), (.ref b), (.int (0 : Int32)), (.ref r0)])
  refine own_go (fun _ k => XS.iconst X15.here hx rfl (hb hby d1_20) k) ?_
  show own_Ends _ _ _ _ _ _ _ T15 (mkF m 21 #[.val (.ref r0), .val (.ref b)] [(.int (1 : Int32)), (.int (5 : Int32)), (.int (1 : Int32)), (.ref b), (.int (0 : Int32)), (.ref r0)])
  refine own_go (fun _ k => XS.isub X15.here hx rfl (hb hby d1_21) rfl k) ?_
  show own_Ends _ _ _ _ _ _ _ T15 (mkF m 22 #[.val (.ref r0), .val (.ref b)] [(.int ((5 : Int32) - (1 : Int32))), (.int (1 : Int32)), (.ref b), (.int (0 : Int32)), (.ref r0)])
  obtain ⟨T16, h16, L16, X16, e16, N16, K16, V16, st16⟩ := own_cpI X15 hx hZ hown (hw _ (List.mem_of_getElem? (i := 10) rfl)) (hw _ (List.mem_of_getElem? (i := 13) rfl)) (hw _ (List.mem_of_getElem? (i := 11) rfl)) (hw _ (List.mem_of_getElem? (i := 12) rfl)) e15 V_r0_15 V15 rfl hf (fun i _ => by show fits .int (if i = 0 then Value.int _ else _) = true; split <;> rfl) (sp := 0) (dp := 1) (nn := 4) (by decide) (by decide) (by decide) (by decide) (by decide) (by decide) (by decide) (by decide) N15 g_b (g := (mkF m 22 #[.val (.ref r0), .val (.ref b)] [(.int ((5 : Int32) - (1 : Int32))), (.int (1 : Int32)), (.ref b), (.int (0 : Int32)), (.ref r0)])) rfl (by rw [hml]; rfl) rfl (hb hby d1_22) (by decide) (W := 0) (by show 2 * 0 + _ ≤ _; exact Nat.le_of_eq rfl) (by decide)
  have K_16 := K_15.trans K16 (allS (Or.inr sz_b) all0)
  have V_r0_16 := V_r0_15.keep K16 (ninS ne_r0_b nin0)
  refine own_go st16 ?_
  show own_Ends _ _ _ _ _ _ _ T16 (mkF m 25 #[.val (.ref r0), .val (.ref b)] [])
  refine own_go (fun _ k => XS.aloadN X16.here hx rfl (hb hby d1_25) rfl rfl k) ?_
  show own_Ends _ _ _ _ _ _ _ T16 (mkF m 26 #[.val (.ref r0), .val (.ref b)] [(.ref b)])
  exact own_retR X16 hx hlk hret rfl rfl rfl (hb hby d1_26) (by decide) (by decide) (by rw [e16]; exact ⟨b, k14, (fun i => if 1 ≤ i ∧ i < 1 + 4 then f (0 + (i - 1)) else (fun j => if j = 0 then (.int (-1 : Int32)) else (fun _ => (.int (0 : Int32))) j) i), rfl, N16, K_16, V16, sz_b, by first | rfl | simp, by first | rfl | simp, by first | rfl | simp, by first | rfl | simp, by first | rfl | simp⟩)
set_option maxRecDepth 65536 in
set_option maxHeartbeats 40000000 in
theorem rm2_hi (l : Launch) (Z : State) (a0 : Array Value) (hw : ∀ d ∈ tables_1, d.before a0 Z = true) (r0 : Addr) (r1 : Addr) (r2 : Addr) (p3 : Int32) (p4 : Int32) (h0 : Heap) (hc : ¬ p3 < p4) :
    own_C l (⟨"com/example/prefixleap/prefixleap/core/PrefixTableShiftedPinLaw", "slot", "([I[I[III)Z"⟩ : MethodName) method_3_code 6 (some .boolean) ({ frames := 0, cells := 0, slots := 0, locals := 0 } : Room) Z #[(.ref r0), (.ref r1), (.ref r2), (.int p3), (.int p4)] h0 (fun v h L => v = some (.int 1) ∧ L = [] ∧ h = h0) := by
  refine own_enter pn_2 ?_
  intro p e s m below meth c s₁ X0 hx hby hml hown hnm hret hlk hZ e0
  replace hown : s.vm.findClass "com/example/prefixleap/prefixleap/core/PrefixTableShiftedPinLaw" = some m.cls := hown
  have ef : entryFrame m #[(.ref r0), (.ref r1), (.ref r2), (.int p3), (.int p4)] 6 = mkF m 0 #[.val (.ref r0), .val (.ref r1), .val (.ref r2), .val (.int p3), .val (.int p4), .unset] [] := by first | rfl | (simp [entryFrame, mkF, argsToLocals, Value.category, maxLocals]; done)
  refine own_cast ef ?_
  show own_Ends _ _ _ _ _ _ _ s₁ (mkF m 0 #[.val (.ref r0), .val (.ref r1), .val (.ref r2), .val (.int p3), .val (.int p4), .unset] [])
  refine own_go (fun _ k => XS.iloadN X0.here hx rfl (hb hby d2_0) rfl k) ?_
  show own_Ends _ _ _ _ _ _ _ s₁ (mkF m 1 #[.val (.ref r0), .val (.ref r1), .val (.ref r2), .val (.int p3), .val (.int p4), .unset] [(.int p3)])
  refine own_go (fun _ k => XS.iload X0.here hx rfl (hb hby d2_1) rfl k) ?_
  show own_Ends _ _ _ _ _ _ _ s₁ (mkF m 3 #[.val (.ref r0), .val (.ref r1), .val (.ref r2), .val (.int p3), .val (.int p4), .unset] [(.int p4), (.int p3)])
  refine own_go (fun _ k => XS.icmpNo X0.here hx rfl (hb hby d2_3) rfl (flt hc).1 k) ?_
  show own_Ends _ _ _ _ _ _ _ s₁ (mkF m 6 #[.val (.ref r0), .val (.ref r1), .val (.ref r2), .val (.int p3), .val (.int p4), .unset] [])
  refine own_go (fun _ k => XS.iconst X0.here hx rfl (hb hby d2_6) k) ?_
  show own_Ends _ _ _ _ _ _ _ s₁ (mkF m 7 #[.val (.ref r0), .val (.ref r1), .val (.ref r2), .val (.int p3), .val (.int p4), .unset] [(.int (1 : Int32))])
  exact own_retZ X0 hx hlk hret (by decide) (hb hby d2_7) (by decide) (by decide) ⟨rfl, rfl, e0⟩
set_option maxRecDepth 65536 in
set_option maxHeartbeats 40000000 in
theorem rm2_0 (l : Launch) (Z : State) (a0 : Array Value) (hw : ∀ d ∈ tables_1, d.before a0 Z = true) (r0 : Addr) (r1 : Addr) (r2 : Addr) (p3 : Int32) (p4 : Int32) (h0 : Heap) (kt : ClassId) (kr : ClassId) (kv : ClassId) (nt : Nat) (nr : Nat) (nv : Nat) (ft : Nat → Value) (fr : Nat → Value) (fv : Nat → Value) (x : Int32) (Vt : own_Ar Z h0 r0 kt .int nt ft) (Vr : own_Ar Z h0 r1 kr .int nr fr) (Vv : own_Ar Z h0 r2 kv .int nv fv) (ht : 0 < nt) (hr : 0 < nr) (hv : 0 < nv) (hp : p3 = 0) (hc : (0 : Int32) < p4) (et : ft 0 = .int x) (ev : fv 0 = .int x) (er : fr 0 = .int (-1)) :
    own_C l (⟨"com/example/prefixleap/prefixleap/core/PrefixTableShiftedPinLaw", "slot", "([I[I[III)Z"⟩ : MethodName) method_3_code 6 (some .boolean) ({ frames := 0, cells := 0, slots := 0, locals := 0 } : Room) Z #[(.ref r0), (.ref r1), (.ref r2), (.int p3), (.int p4)] h0 (fun v h L => v = some (.int 1) ∧ L = [] ∧ h = h0) := by
  refine own_enter pn_2 ?_
  intro p e s m below meth c s₁ X0 hx hby hml hown hnm hret hlk hZ e0
  replace hown : s.vm.findClass "com/example/prefixleap/prefixleap/core/PrefixTableShiftedPinLaw" = some m.cls := hown
  have ef : entryFrame m #[(.ref r0), (.ref r1), (.ref r2), (.int p3), (.int p4)] 6 = mkF m 0 #[.val (.ref r0), .val (.ref r1), .val (.ref r2), .val (.int p3), .val (.int p4), .unset] [] := by first | rfl | (simp [entryFrame, mkF, argsToLocals, Value.category, maxLocals]; done)
  refine own_cast ef ?_
  show own_Ends _ _ _ _ _ _ _ s₁ (mkF m 0 #[.val (.ref r0), .val (.ref r1), .val (.ref r2), .val (.int p3), .val (.int p4), .unset] [])
  subst hp
  show own_Ends _ _ _ _ _ _ _ s₁ (mkF m 0 #[.val (.ref r0), .val (.ref r1), .val (.ref r2), .val (.int (0 : Int32)), .val (.int p4), .unset] [])
  refine own_go (fun _ k => XS.iloadN X0.here hx rfl (hb hby d2_0) rfl k) ?_
  show own_Ends _ _ _ _ _ _ _ s₁ (mkF m 1 #[.val (.ref r0), .val (.ref r1), .val (.ref r2), .val (.int (0 : Int32)), .val (.int p4), .unset] [(.int (0 : Int32))])
  refine own_go (fun _ k => XS.iload X0.here hx rfl (hb hby d2_1) rfl k) ?_
  show own_Ends _ _ _ _ _ _ _ s₁ (mkF m 3 #[.val (.ref r0), .val (.ref r1), .val (.ref r2), .val (.int (0 : Int32)), .val (.int p4), .unset] [(.int p4), (.int (0 : Int32))])
  refine own_go (fun _ k => XS.icmpYes X0.here hx rfl (pc0 := 3) (pc' := 8) rfl (hb hby d2_3) rfl (tlt hc).1 (by decide) (by decide) k) ?_
  show own_Ends _ _ _ _ _ _ _ s₁ (mkF m 8 #[.val (.ref r0), .val (.ref r1), .val (.ref r2), .val (.int (0 : Int32)), .val (.int p4), .unset] [])
  refine own_go (fun _ k => XS.aloadN X0.here hx rfl (hb hby d2_8) rfl rfl k) ?_
  show own_Ends _ _ _ _ _ _ _ s₁ (mkF m 9 #[.val (.ref r0), .val (.ref r1), .val (.ref r2), .val (.int (0 : Int32)), .val (.int p4), .unset] [(.ref r0)])
  refine own_go (fun _ k => XS.iloadN X0.here hx rfl (hb hby d2_9) rfl k) ?_
  show own_Ends _ _ _ _ _ _ _ s₁ (mkF m 10 #[.val (.ref r0), .val (.ref r1), .val (.ref r2), .val (.int (0 : Int32)), .val (.int p4), .unset] [(.int (0 : Int32)), (.ref r0)])
  refine own_go (fun _ k => own_ldI X0 hx hZ e0 Vt (i := 0) (v := (.int x)) (by decide) (by decide) ht et (g := (mkF m 10 #[.val (.ref r0), .val (.ref r1), .val (.ref r2), .val (.int (0 : Int32)), .val (.int p4), .unset] [(.int (0 : Int32)), (.ref r0)])) rfl rfl (hb hby d2_10) _ k) ?_
  show own_Ends _ _ _ _ _ _ _ s₁ (mkF m 11 #[.val (.ref r0), .val (.ref r1), .val (.ref r2), .val (.int (0 : Int32)), .val (.int p4), .unset] [(.int x)])
  refine own_go (fun _ k => XS.aloadN X0.here hx rfl (hb hby d2_11) rfl rfl k) ?_
  show own_Ends _ _ _ _ _ _ _ s₁ (mkF m 12 #[.val (.ref r0), .val (.ref r1), .val (.ref r2), .val (.int (0 : Int32)), .val (.int p4), .unset] [(.ref r2), (.int x)])
  refine own_go (fun _ k => XS.iloadN X0.here hx rfl (hb hby d2_12) rfl k) ?_
  show own_Ends _ _ _ _ _ _ _ s₁ (mkF m 13 #[.val (.ref r0), .val (.ref r1), .val (.ref r2), .val (.int (0 : Int32)), .val (.int p4), .unset] [(.int (0 : Int32)), (.ref r2), (.int x)])
  refine own_go (fun _ k => own_ldI X0 hx hZ e0 Vv (i := 0) (v := (.int x)) (by decide) (by decide) hv ev (g := (mkF m 13 #[.val (.ref r0), .val (.ref r1), .val (.ref r2), .val (.int (0 : Int32)), .val (.int p4), .unset] [(.int (0 : Int32)), (.ref r2), (.int x)])) rfl rfl (hb hby d2_13) _ k) ?_
  show own_Ends _ _ _ _ _ _ _ s₁ (mkF m 14 #[.val (.ref r0), .val (.ref r1), .val (.ref r2), .val (.int (0 : Int32)), .val (.int p4), .unset] [(.int x), (.int x)])
  refine own_go (fun _ k => XS.icmpYes X0.here hx rfl (pc0 := 14) (pc' := 19) rfl (hb hby d2_14) rfl (teq (rfl)).1 (by decide) (by decide) k) ?_
  show own_Ends _ _ _ _ _ _ _ s₁ (mkF m 19 #[.val (.ref r0), .val (.ref r1), .val (.ref r2), .val (.int (0 : Int32)), .val (.int p4), .unset] [])
  refine own_go (fun _ k => XS.iloadN X0.here hx rfl (hb hby d2_19) rfl k) ?_
  show own_Ends _ _ _ _ _ _ _ s₁ (mkF m 20 #[.val (.ref r0), .val (.ref r1), .val (.ref r2), .val (.int (0 : Int32)), .val (.int p4), .unset] [(.int (0 : Int32))])
  refine own_go (fun _ k => XS.ifNo X0.here hx rfl (hb hby d2_20) rfl ((if0 _ _).trans (teq (rfl)).2) k) ?_
  show own_Ends _ _ _ _ _ _ _ s₁ (mkF m 23 #[.val (.ref r0), .val (.ref r1), .val (.ref r2), .val (.int (0 : Int32)), .val (.int p4), .unset] [])
  refine own_go (fun _ k => XS.iconst X0.here hx rfl (hb hby d2_23) k) ?_
  show own_Ends _ _ _ _ _ _ _ s₁ (mkF m 24 #[.val (.ref r0), .val (.ref r1), .val (.ref r2), .val (.int (0 : Int32)), .val (.int p4), .unset] [(.int (-1 : Int32))])
  refine own_go (fun _ k => XS.goto X0.here hx rfl (pc0 := 24) (pc' := 32) rfl (hb hby d2_24) (by decide) (by decide) k) ?_
  show own_Ends _ _ _ _ _ _ _ s₁ (mkF m 32 #[.val (.ref r0), .val (.ref r1), .val (.ref r2), .val (.int (0 : Int32)), .val (.int p4), .unset] [(.int (-1 : Int32))])
  refine own_go (fun _ k => XS.istore X0.here hx rfl (hb hby d2_32) rfl (l' := #[.val (.ref r0), .val (.ref r1), .val (.ref r2), .val (.int (0 : Int32)), .val (.int p4), .val (.int (-1 : Int32))]) rfl k) ?_
  show own_Ends _ _ _ _ _ _ _ s₁ (mkF m 34 #[.val (.ref r0), .val (.ref r1), .val (.ref r2), .val (.int (0 : Int32)), .val (.int p4), .val (.int (-1 : Int32))] [])
  refine own_go (fun _ k => XS.aloadN X0.here hx rfl (hb hby d2_34) rfl rfl k) ?_
  show own_Ends _ _ _ _ _ _ _ s₁ (mkF m 35 #[.val (.ref r0), .val (.ref r1), .val (.ref r2), .val (.int (0 : Int32)), .val (.int p4), .val (.int (-1 : Int32))] [(.ref r1)])
  refine own_go (fun _ k => XS.iloadN X0.here hx rfl (hb hby d2_35) rfl k) ?_
  show own_Ends _ _ _ _ _ _ _ s₁ (mkF m 36 #[.val (.ref r0), .val (.ref r1), .val (.ref r2), .val (.int (0 : Int32)), .val (.int p4), .val (.int (-1 : Int32))] [(.int (0 : Int32)), (.ref r1)])
  refine own_go (fun _ k => own_ldI X0 hx hZ e0 Vr (i := 0) (v := (.int (-1 : Int32))) (by decide) (by decide) hr er (g := (mkF m 36 #[.val (.ref r0), .val (.ref r1), .val (.ref r2), .val (.int (0 : Int32)), .val (.int p4), .val (.int (-1 : Int32))] [(.int (0 : Int32)), (.ref r1)])) rfl rfl (hb hby d2_36) _ k) ?_
  show own_Ends _ _ _ _ _ _ _ s₁ (mkF m 37 #[.val (.ref r0), .val (.ref r1), .val (.ref r2), .val (.int (0 : Int32)), .val (.int p4), .val (.int (-1 : Int32))] [(.int (-1 : Int32))])
  refine own_go (fun _ k => XS.iload X0.here hx rfl (hb hby d2_37) rfl k) ?_
  show own_Ends _ _ _ _ _ _ _ s₁ (mkF m 39 #[.val (.ref r0), .val (.ref r1), .val (.ref r2), .val (.int (0 : Int32)), .val (.int p4), .val (.int (-1 : Int32))] [(.int (-1 : Int32)), (.int (-1 : Int32))])
  refine own_go (fun _ k => XS.icmpNo X0.here hx rfl (hb hby d2_39) rfl (teq (rfl)).2 k) ?_
  show own_Ends _ _ _ _ _ _ _ s₁ (mkF m 42 #[.val (.ref r0), .val (.ref r1), .val (.ref r2), .val (.int (0 : Int32)), .val (.int p4), .val (.int (-1 : Int32))] [])
  refine own_go (fun _ k => XS.iconst X0.here hx rfl (hb hby d2_42) k) ?_
  show own_Ends _ _ _ _ _ _ _ s₁ (mkF m 43 #[.val (.ref r0), .val (.ref r1), .val (.ref r2), .val (.int (0 : Int32)), .val (.int p4), .val (.int (-1 : Int32))] [(.int (1 : Int32))])
  refine own_go (fun _ k => XS.goto X0.here hx rfl (pc0 := 43) (pc' := 47) rfl (hb hby d2_43) (by decide) (by decide) k) ?_
  show own_Ends _ _ _ _ _ _ _ s₁ (mkF m 47 #[.val (.ref r0), .val (.ref r1), .val (.ref r2), .val (.int (0 : Int32)), .val (.int p4), .val (.int (-1 : Int32))] [(.int (1 : Int32))])
  exact own_retZ X0 hx hlk hret (by decide) (hb hby d2_47) (by decide) (by decide) ⟨rfl, rfl, e0⟩
set_option maxRecDepth 65536 in
set_option maxHeartbeats 40000000 in
theorem rm2_1 (l : Launch) (Z : State) (a0 : Array Value) (hw : ∀ d ∈ tables_1, d.before a0 Z = true) (r0 : Addr) (r1 : Addr) (r2 : Addr) (p3 : Int32) (p4 : Int32) (h0 : Heap) (kt : ClassId) (kr : ClassId) (kv : ClassId) (nt : Nat) (nr : Nat) (nv : Nat) (ft : Nat → Value) (fr : Nat → Value) (fv : Nat → Value) (x : Int32) (y : Int32) (Vt : own_Ar Z h0 r0 kt .int nt ft) (Vr : own_Ar Z h0 r1 kr .int nr fr) (Vv : own_Ar Z h0 r2 kv .int nv fv) (ht : 1 < nt) (hr : 1 < nr) (hv : 1 < nv) (hp : p3 = 1) (hc : (1 : Int32) < p4) (et : ft 1 = .int x) (ev : fv 1 = .int x) (ev1 : fv 0 = .int y) (er : fr 1 = .int y) :
    own_C l (⟨"com/example/prefixleap/prefixleap/core/PrefixTableShiftedPinLaw", "slot", "([I[I[III)Z"⟩ : MethodName) method_3_code 6 (some .boolean) ({ frames := 0, cells := 0, slots := 0, locals := 0 } : Room) Z #[(.ref r0), (.ref r1), (.ref r2), (.int p3), (.int p4)] h0 (fun v h L => v = some (.int 1) ∧ L = [] ∧ h = h0) := by
  refine own_enter pn_2 ?_
  intro p e s m below meth c s₁ X0 hx hby hml hown hnm hret hlk hZ e0
  replace hown : s.vm.findClass "com/example/prefixleap/prefixleap/core/PrefixTableShiftedPinLaw" = some m.cls := hown
  have ef : entryFrame m #[(.ref r0), (.ref r1), (.ref r2), (.int p3), (.int p4)] 6 = mkF m 0 #[.val (.ref r0), .val (.ref r1), .val (.ref r2), .val (.int p3), .val (.int p4), .unset] [] := by first | rfl | (simp [entryFrame, mkF, argsToLocals, Value.category, maxLocals]; done)
  refine own_cast ef ?_
  show own_Ends _ _ _ _ _ _ _ s₁ (mkF m 0 #[.val (.ref r0), .val (.ref r1), .val (.ref r2), .val (.int p3), .val (.int p4), .unset] [])
  subst hp
  show own_Ends _ _ _ _ _ _ _ s₁ (mkF m 0 #[.val (.ref r0), .val (.ref r1), .val (.ref r2), .val (.int (1 : Int32)), .val (.int p4), .unset] [])
  refine own_go (fun _ k => XS.iloadN X0.here hx rfl (hb hby d2_0) rfl k) ?_
  show own_Ends _ _ _ _ _ _ _ s₁ (mkF m 1 #[.val (.ref r0), .val (.ref r1), .val (.ref r2), .val (.int (1 : Int32)), .val (.int p4), .unset] [(.int (1 : Int32))])
  refine own_go (fun _ k => XS.iload X0.here hx rfl (hb hby d2_1) rfl k) ?_
  show own_Ends _ _ _ _ _ _ _ s₁ (mkF m 3 #[.val (.ref r0), .val (.ref r1), .val (.ref r2), .val (.int (1 : Int32)), .val (.int p4), .unset] [(.int p4), (.int (1 : Int32))])
  refine own_go (fun _ k => XS.icmpYes X0.here hx rfl (pc0 := 3) (pc' := 8) rfl (hb hby d2_3) rfl (tlt hc).1 (by decide) (by decide) k) ?_
  show own_Ends _ _ _ _ _ _ _ s₁ (mkF m 8 #[.val (.ref r0), .val (.ref r1), .val (.ref r2), .val (.int (1 : Int32)), .val (.int p4), .unset] [])
  refine own_go (fun _ k => XS.aloadN X0.here hx rfl (hb hby d2_8) rfl rfl k) ?_
  show own_Ends _ _ _ _ _ _ _ s₁ (mkF m 9 #[.val (.ref r0), .val (.ref r1), .val (.ref r2), .val (.int (1 : Int32)), .val (.int p4), .unset] [(.ref r0)])
  refine own_go (fun _ k => XS.iloadN X0.here hx rfl (hb hby d2_9) rfl k) ?_
  show own_Ends _ _ _ _ _ _ _ s₁ (mkF m 10 #[.val (.ref r0), .val (.ref r1), .val (.ref r2), .val (.int (1 : Int32)), .val (.int p4), .unset] [(.int (1 : Int32)), (.ref r0)])
  refine own_go (fun _ k => own_ldI X0 hx hZ e0 Vt (i := 1) (v := (.int x)) (by decide) (by decide) ht et (g := (mkF m 10 #[.val (.ref r0), .val (.ref r1), .val (.ref r2), .val (.int (1 : Int32)), .val (.int p4), .unset] [(.int (1 : Int32)), (.ref r0)])) rfl rfl (hb hby d2_10) _ k) ?_
  show own_Ends _ _ _ _ _ _ _ s₁ (mkF m 11 #[.val (.ref r0), .val (.ref r1), .val (.ref r2), .val (.int (1 : Int32)), .val (.int p4), .unset] [(.int x)])
  refine own_go (fun _ k => XS.aloadN X0.here hx rfl (hb hby d2_11) rfl rfl k) ?_
  show own_Ends _ _ _ _ _ _ _ s₁ (mkF m 12 #[.val (.ref r0), .val (.ref r1), .val (.ref r2), .val (.int (1 : Int32)), .val (.int p4), .unset] [(.ref r2), (.int x)])
  refine own_go (fun _ k => XS.iloadN X0.here hx rfl (hb hby d2_12) rfl k) ?_
  show own_Ends _ _ _ _ _ _ _ s₁ (mkF m 13 #[.val (.ref r0), .val (.ref r1), .val (.ref r2), .val (.int (1 : Int32)), .val (.int p4), .unset] [(.int (1 : Int32)), (.ref r2), (.int x)])
  refine own_go (fun _ k => own_ldI X0 hx hZ e0 Vv (i := 1) (v := (.int x)) (by decide) (by decide) hv ev (g := (mkF m 13 #[.val (.ref r0), .val (.ref r1), .val (.ref r2), .val (.int (1 : Int32)), .val (.int p4), .unset] [(.int (1 : Int32)), (.ref r2), (.int x)])) rfl rfl (hb hby d2_13) _ k) ?_
  show own_Ends _ _ _ _ _ _ _ s₁ (mkF m 14 #[.val (.ref r0), .val (.ref r1), .val (.ref r2), .val (.int (1 : Int32)), .val (.int p4), .unset] [(.int x), (.int x)])
  refine own_go (fun _ k => XS.icmpYes X0.here hx rfl (pc0 := 14) (pc' := 19) rfl (hb hby d2_14) rfl (teq (rfl)).1 (by decide) (by decide) k) ?_
  show own_Ends _ _ _ _ _ _ _ s₁ (mkF m 19 #[.val (.ref r0), .val (.ref r1), .val (.ref r2), .val (.int (1 : Int32)), .val (.int p4), .unset] [])
  refine own_go (fun _ k => XS.iloadN X0.here hx rfl (hb hby d2_19) rfl k) ?_
  show own_Ends _ _ _ _ _ _ _ s₁ (mkF m 20 #[.val (.ref r0), .val (.ref r1), .val (.ref r2), .val (.int (1 : Int32)), .val (.int p4), .unset] [(.int (1 : Int32))])
  refine own_go (fun _ k => XS.ifYes X0.here hx rfl (pc0 := 20) (pc' := 27) rfl (hb hby d2_20) rfl ((if0 _ _).trans (feq (by decide)).2) (by decide) (by decide) k) ?_
  show own_Ends _ _ _ _ _ _ _ s₁ (mkF m 27 #[.val (.ref r0), .val (.ref r1), .val (.ref r2), .val (.int (1 : Int32)), .val (.int p4), .unset] [])
  refine own_go (fun _ k => XS.aloadN X0.here hx rfl (hb hby d2_27) rfl rfl k) ?_
  show own_Ends _ _ _ _ _ _ _ s₁ (mkF m 28 #[.val (.ref r0), .val (.ref r1), .val (.ref r2), .val (.int (1 : Int32)), .val (.int p4), .unset] [(.ref r2)])
  refine own_go (fun _ k => XS.iloadN X0.here hx rfl (hb hby d2_28) rfl k) ?_
  show own_Ends _ _ _ _ _ _ _ s₁ (mkF m 29 #[.val (.ref r0), .val (.ref r1), .val (.ref r2), .val (.int (1 : Int32)), .val (.int p4), .unset] [(.int (1 : Int32)), (.ref r2)])
  refine own_go (fun _ k => XS.iconst X0.here hx rfl (hb hby d2_29) k) ?_
  show own_Ends _ _ _ _ _ _ _ s₁ (mkF m 30 #[.val (.ref r0), .val (.ref r1), .val (.ref r2), .val (.int (1 : Int32)), .val (.int p4), .unset] [(.int (1 : Int32)), (.int (1 : Int32)), (.ref r2)])
  refine own_go (fun _ k => XS.isub X0.here hx rfl (hb hby d2_30) rfl k) ?_
  show own_Ends _ _ _ _ _ _ _ s₁ (mkF m 31 #[.val (.ref r0), .val (.ref r1), .val (.ref r2), .val (.int (1 : Int32)), .val (.int p4), .unset] [(.int ((1 : Int32) - (1 : Int32))), (.ref r2)])
  refine own_go (fun _ k => own_ldI X0 hx hZ e0 Vv (i := 0) (v := (.int y)) (by decide) (by decide) (Nat.lt_trans (by decide) hv) ev1 (g := (mkF m 31 #[.val (.ref r0), .val (.ref r1), .val (.ref r2), .val (.int (1 : Int32)), .val (.int p4), .unset] [(.int ((1 : Int32) - (1 : Int32))), (.ref r2)])) rfl rfl (hb hby d2_31) _ k) ?_
  show own_Ends _ _ _ _ _ _ _ s₁ (mkF m 32 #[.val (.ref r0), .val (.ref r1), .val (.ref r2), .val (.int (1 : Int32)), .val (.int p4), .unset] [(.int y)])
  refine own_go (fun _ k => XS.istore X0.here hx rfl (hb hby d2_32) rfl (l' := #[.val (.ref r0), .val (.ref r1), .val (.ref r2), .val (.int (1 : Int32)), .val (.int p4), .val (.int y)]) rfl k) ?_
  show own_Ends _ _ _ _ _ _ _ s₁ (mkF m 34 #[.val (.ref r0), .val (.ref r1), .val (.ref r2), .val (.int (1 : Int32)), .val (.int p4), .val (.int y)] [])
  refine own_go (fun _ k => XS.aloadN X0.here hx rfl (hb hby d2_34) rfl rfl k) ?_
  show own_Ends _ _ _ _ _ _ _ s₁ (mkF m 35 #[.val (.ref r0), .val (.ref r1), .val (.ref r2), .val (.int (1 : Int32)), .val (.int p4), .val (.int y)] [(.ref r1)])
  refine own_go (fun _ k => XS.iloadN X0.here hx rfl (hb hby d2_35) rfl k) ?_
  show own_Ends _ _ _ _ _ _ _ s₁ (mkF m 36 #[.val (.ref r0), .val (.ref r1), .val (.ref r2), .val (.int (1 : Int32)), .val (.int p4), .val (.int y)] [(.int (1 : Int32)), (.ref r1)])
  refine own_go (fun _ k => own_ldI X0 hx hZ e0 Vr (i := 1) (v := (.int y)) (by decide) (by decide) hr er (g := (mkF m 36 #[.val (.ref r0), .val (.ref r1), .val (.ref r2), .val (.int (1 : Int32)), .val (.int p4), .val (.int y)] [(.int (1 : Int32)), (.ref r1)])) rfl rfl (hb hby d2_36) _ k) ?_
  show own_Ends _ _ _ _ _ _ _ s₁ (mkF m 37 #[.val (.ref r0), .val (.ref r1), .val (.ref r2), .val (.int (1 : Int32)), .val (.int p4), .val (.int y)] [(.int y)])
  refine own_go (fun _ k => XS.iload X0.here hx rfl (hb hby d2_37) rfl k) ?_
  show own_Ends _ _ _ _ _ _ _ s₁ (mkF m 39 #[.val (.ref r0), .val (.ref r1), .val (.ref r2), .val (.int (1 : Int32)), .val (.int p4), .val (.int y)] [(.int y), (.int y)])
  refine own_go (fun _ k => XS.icmpNo X0.here hx rfl (hb hby d2_39) rfl (teq (rfl)).2 k) ?_
  show own_Ends _ _ _ _ _ _ _ s₁ (mkF m 42 #[.val (.ref r0), .val (.ref r1), .val (.ref r2), .val (.int (1 : Int32)), .val (.int p4), .val (.int y)] [])
  refine own_go (fun _ k => XS.iconst X0.here hx rfl (hb hby d2_42) k) ?_
  show own_Ends _ _ _ _ _ _ _ s₁ (mkF m 43 #[.val (.ref r0), .val (.ref r1), .val (.ref r2), .val (.int (1 : Int32)), .val (.int p4), .val (.int y)] [(.int (1 : Int32))])
  refine own_go (fun _ k => XS.goto X0.here hx rfl (pc0 := 43) (pc' := 47) rfl (hb hby d2_43) (by decide) (by decide) k) ?_
  show own_Ends _ _ _ _ _ _ _ s₁ (mkF m 47 #[.val (.ref r0), .val (.ref r1), .val (.ref r2), .val (.int (1 : Int32)), .val (.int p4), .val (.int y)] [(.int (1 : Int32))])
  exact own_retZ X0 hx hlk hret (by decide) (hb hby d2_47) (by decide) (by decide) ⟨rfl, rfl, e0⟩
set_option maxRecDepth 65536 in
set_option maxHeartbeats 40000000 in
theorem rm2_2 (l : Launch) (Z : State) (a0 : Array Value) (hw : ∀ d ∈ tables_1, d.before a0 Z = true) (r0 : Addr) (r1 : Addr) (r2 : Addr) (p3 : Int32) (p4 : Int32) (h0 : Heap) (kt : ClassId) (kr : ClassId) (kv : ClassId) (nt : Nat) (nr : Nat) (nv : Nat) (ft : Nat → Value) (fr : Nat → Value) (fv : Nat → Value) (x : Int32) (y : Int32) (Vt : own_Ar Z h0 r0 kt .int nt ft) (Vr : own_Ar Z h0 r1 kr .int nr fr) (Vv : own_Ar Z h0 r2 kv .int nv fv) (ht : 2 < nt) (hr : 2 < nr) (hv : 2 < nv) (hp : p3 = 2) (hc : (2 : Int32) < p4) (et : ft 2 = .int x) (ev : fv 2 = .int x) (ev1 : fv 1 = .int y) (er : fr 2 = .int y) :
    own_C l (⟨"com/example/prefixleap/prefixleap/core/PrefixTableShiftedPinLaw", "slot", "([I[I[III)Z"⟩ : MethodName) method_3_code 6 (some .boolean) ({ frames := 0, cells := 0, slots := 0, locals := 0 } : Room) Z #[(.ref r0), (.ref r1), (.ref r2), (.int p3), (.int p4)] h0 (fun v h L => v = some (.int 1) ∧ L = [] ∧ h = h0) := by
  refine own_enter pn_2 ?_
  intro p e s m below meth c s₁ X0 hx hby hml hown hnm hret hlk hZ e0
  replace hown : s.vm.findClass "com/example/prefixleap/prefixleap/core/PrefixTableShiftedPinLaw" = some m.cls := hown
  have ef : entryFrame m #[(.ref r0), (.ref r1), (.ref r2), (.int p3), (.int p4)] 6 = mkF m 0 #[.val (.ref r0), .val (.ref r1), .val (.ref r2), .val (.int p3), .val (.int p4), .unset] [] := by first | rfl | (simp [entryFrame, mkF, argsToLocals, Value.category, maxLocals]; done)
  refine own_cast ef ?_
  show own_Ends _ _ _ _ _ _ _ s₁ (mkF m 0 #[.val (.ref r0), .val (.ref r1), .val (.ref r2), .val (.int p3), .val (.int p4), .unset] [])
  subst hp
  show own_Ends _ _ _ _ _ _ _ s₁ (mkF m 0 #[.val (.ref r0), .val (.ref r1), .val (.ref r2), .val (.int (2 : Int32)), .val (.int p4), .unset] [])
  refine own_go (fun _ k => XS.iloadN X0.here hx rfl (hb hby d2_0) rfl k) ?_
  show own_Ends _ _ _ _ _ _ _ s₁ (mkF m 1 #[.val (.ref r0), .val (.ref r1), .val (.ref r2), .val (.int (2 : Int32)), .val (.int p4), .unset] [(.int (2 : Int32))])
  refine own_go (fun _ k => XS.iload X0.here hx rfl (hb hby d2_1) rfl k) ?_
  show own_Ends _ _ _ _ _ _ _ s₁ (mkF m 3 #[.val (.ref r0), .val (.ref r1), .val (.ref r2), .val (.int (2 : Int32)), .val (.int p4), .unset] [(.int p4), (.int (2 : Int32))])
  refine own_go (fun _ k => XS.icmpYes X0.here hx rfl (pc0 := 3) (pc' := 8) rfl (hb hby d2_3) rfl (tlt hc).1 (by decide) (by decide) k) ?_
  show own_Ends _ _ _ _ _ _ _ s₁ (mkF m 8 #[.val (.ref r0), .val (.ref r1), .val (.ref r2), .val (.int (2 : Int32)), .val (.int p4), .unset] [])
  refine own_go (fun _ k => XS.aloadN X0.here hx rfl (hb hby d2_8) rfl rfl k) ?_
  show own_Ends _ _ _ _ _ _ _ s₁ (mkF m 9 #[.val (.ref r0), .val (.ref r1), .val (.ref r2), .val (.int (2 : Int32)), .val (.int p4), .unset] [(.ref r0)])
  refine own_go (fun _ k => XS.iloadN X0.here hx rfl (hb hby d2_9) rfl k) ?_
  show own_Ends _ _ _ _ _ _ _ s₁ (mkF m 10 #[.val (.ref r0), .val (.ref r1), .val (.ref r2), .val (.int (2 : Int32)), .val (.int p4), .unset] [(.int (2 : Int32)), (.ref r0)])
  refine own_go (fun _ k => own_ldI X0 hx hZ e0 Vt (i := 2) (v := (.int x)) (by decide) (by decide) ht et (g := (mkF m 10 #[.val (.ref r0), .val (.ref r1), .val (.ref r2), .val (.int (2 : Int32)), .val (.int p4), .unset] [(.int (2 : Int32)), (.ref r0)])) rfl rfl (hb hby d2_10) _ k) ?_
  show own_Ends _ _ _ _ _ _ _ s₁ (mkF m 11 #[.val (.ref r0), .val (.ref r1), .val (.ref r2), .val (.int (2 : Int32)), .val (.int p4), .unset] [(.int x)])
  refine own_go (fun _ k => XS.aloadN X0.here hx rfl (hb hby d2_11) rfl rfl k) ?_
  show own_Ends _ _ _ _ _ _ _ s₁ (mkF m 12 #[.val (.ref r0), .val (.ref r1), .val (.ref r2), .val (.int (2 : Int32)), .val (.int p4), .unset] [(.ref r2), (.int x)])
  refine own_go (fun _ k => XS.iloadN X0.here hx rfl (hb hby d2_12) rfl k) ?_
  show own_Ends _ _ _ _ _ _ _ s₁ (mkF m 13 #[.val (.ref r0), .val (.ref r1), .val (.ref r2), .val (.int (2 : Int32)), .val (.int p4), .unset] [(.int (2 : Int32)), (.ref r2), (.int x)])
  refine own_go (fun _ k => own_ldI X0 hx hZ e0 Vv (i := 2) (v := (.int x)) (by decide) (by decide) hv ev (g := (mkF m 13 #[.val (.ref r0), .val (.ref r1), .val (.ref r2), .val (.int (2 : Int32)), .val (.int p4), .unset] [(.int (2 : Int32)), (.ref r2), (.int x)])) rfl rfl (hb hby d2_13) _ k) ?_
  show own_Ends _ _ _ _ _ _ _ s₁ (mkF m 14 #[.val (.ref r0), .val (.ref r1), .val (.ref r2), .val (.int (2 : Int32)), .val (.int p4), .unset] [(.int x), (.int x)])
  refine own_go (fun _ k => XS.icmpYes X0.here hx rfl (pc0 := 14) (pc' := 19) rfl (hb hby d2_14) rfl (teq (rfl)).1 (by decide) (by decide) k) ?_
  show own_Ends _ _ _ _ _ _ _ s₁ (mkF m 19 #[.val (.ref r0), .val (.ref r1), .val (.ref r2), .val (.int (2 : Int32)), .val (.int p4), .unset] [])
  refine own_go (fun _ k => XS.iloadN X0.here hx rfl (hb hby d2_19) rfl k) ?_
  show own_Ends _ _ _ _ _ _ _ s₁ (mkF m 20 #[.val (.ref r0), .val (.ref r1), .val (.ref r2), .val (.int (2 : Int32)), .val (.int p4), .unset] [(.int (2 : Int32))])
  refine own_go (fun _ k => XS.ifYes X0.here hx rfl (pc0 := 20) (pc' := 27) rfl (hb hby d2_20) rfl ((if0 _ _).trans (feq (by decide)).2) (by decide) (by decide) k) ?_
  show own_Ends _ _ _ _ _ _ _ s₁ (mkF m 27 #[.val (.ref r0), .val (.ref r1), .val (.ref r2), .val (.int (2 : Int32)), .val (.int p4), .unset] [])
  refine own_go (fun _ k => XS.aloadN X0.here hx rfl (hb hby d2_27) rfl rfl k) ?_
  show own_Ends _ _ _ _ _ _ _ s₁ (mkF m 28 #[.val (.ref r0), .val (.ref r1), .val (.ref r2), .val (.int (2 : Int32)), .val (.int p4), .unset] [(.ref r2)])
  refine own_go (fun _ k => XS.iloadN X0.here hx rfl (hb hby d2_28) rfl k) ?_
  show own_Ends _ _ _ _ _ _ _ s₁ (mkF m 29 #[.val (.ref r0), .val (.ref r1), .val (.ref r2), .val (.int (2 : Int32)), .val (.int p4), .unset] [(.int (2 : Int32)), (.ref r2)])
  refine own_go (fun _ k => XS.iconst X0.here hx rfl (hb hby d2_29) k) ?_
  show own_Ends _ _ _ _ _ _ _ s₁ (mkF m 30 #[.val (.ref r0), .val (.ref r1), .val (.ref r2), .val (.int (2 : Int32)), .val (.int p4), .unset] [(.int (1 : Int32)), (.int (2 : Int32)), (.ref r2)])
  refine own_go (fun _ k => XS.isub X0.here hx rfl (hb hby d2_30) rfl k) ?_
  show own_Ends _ _ _ _ _ _ _ s₁ (mkF m 31 #[.val (.ref r0), .val (.ref r1), .val (.ref r2), .val (.int (2 : Int32)), .val (.int p4), .unset] [(.int ((2 : Int32) - (1 : Int32))), (.ref r2)])
  refine own_go (fun _ k => own_ldI X0 hx hZ e0 Vv (i := 1) (v := (.int y)) (by decide) (by decide) (Nat.lt_trans (by decide) hv) ev1 (g := (mkF m 31 #[.val (.ref r0), .val (.ref r1), .val (.ref r2), .val (.int (2 : Int32)), .val (.int p4), .unset] [(.int ((2 : Int32) - (1 : Int32))), (.ref r2)])) rfl rfl (hb hby d2_31) _ k) ?_
  show own_Ends _ _ _ _ _ _ _ s₁ (mkF m 32 #[.val (.ref r0), .val (.ref r1), .val (.ref r2), .val (.int (2 : Int32)), .val (.int p4), .unset] [(.int y)])
  refine own_go (fun _ k => XS.istore X0.here hx rfl (hb hby d2_32) rfl (l' := #[.val (.ref r0), .val (.ref r1), .val (.ref r2), .val (.int (2 : Int32)), .val (.int p4), .val (.int y)]) rfl k) ?_
  show own_Ends _ _ _ _ _ _ _ s₁ (mkF m 34 #[.val (.ref r0), .val (.ref r1), .val (.ref r2), .val (.int (2 : Int32)), .val (.int p4), .val (.int y)] [])
  refine own_go (fun _ k => XS.aloadN X0.here hx rfl (hb hby d2_34) rfl rfl k) ?_
  show own_Ends _ _ _ _ _ _ _ s₁ (mkF m 35 #[.val (.ref r0), .val (.ref r1), .val (.ref r2), .val (.int (2 : Int32)), .val (.int p4), .val (.int y)] [(.ref r1)])
  refine own_go (fun _ k => XS.iloadN X0.here hx rfl (hb hby d2_35) rfl k) ?_
  show own_Ends _ _ _ _ _ _ _ s₁ (mkF m 36 #[.val (.ref r0), .val (.ref r1), .val (.ref r2), .val (.int (2 : Int32)), .val (.int p4), .val (.int y)] [(.int (2 : Int32)), (.ref r1)])
  refine own_go (fun _ k => own_ldI X0 hx hZ e0 Vr (i := 2) (v := (.int y)) (by decide) (by decide) hr er (g := (mkF m 36 #[.val (.ref r0), .val (.ref r1), .val (.ref r2), .val (.int (2 : Int32)), .val (.int p4), .val (.int y)] [(.int (2 : Int32)), (.ref r1)])) rfl rfl (hb hby d2_36) _ k) ?_
  show own_Ends _ _ _ _ _ _ _ s₁ (mkF m 37 #[.val (.ref r0), .val (.ref r1), .val (.ref r2), .val (.int (2 : Int32)), .val (.int p4), .val (.int y)] [(.int y)])
  refine own_go (fun _ k => XS.iload X0.here hx rfl (hb hby d2_37) rfl k) ?_
  show own_Ends _ _ _ _ _ _ _ s₁ (mkF m 39 #[.val (.ref r0), .val (.ref r1), .val (.ref r2), .val (.int (2 : Int32)), .val (.int p4), .val (.int y)] [(.int y), (.int y)])
  refine own_go (fun _ k => XS.icmpNo X0.here hx rfl (hb hby d2_39) rfl (teq (rfl)).2 k) ?_
  show own_Ends _ _ _ _ _ _ _ s₁ (mkF m 42 #[.val (.ref r0), .val (.ref r1), .val (.ref r2), .val (.int (2 : Int32)), .val (.int p4), .val (.int y)] [])
  refine own_go (fun _ k => XS.iconst X0.here hx rfl (hb hby d2_42) k) ?_
  show own_Ends _ _ _ _ _ _ _ s₁ (mkF m 43 #[.val (.ref r0), .val (.ref r1), .val (.ref r2), .val (.int (2 : Int32)), .val (.int p4), .val (.int y)] [(.int (1 : Int32))])
  refine own_go (fun _ k => XS.goto X0.here hx rfl (pc0 := 43) (pc' := 47) rfl (hb hby d2_43) (by decide) (by decide) k) ?_
  show own_Ends _ _ _ _ _ _ _ s₁ (mkF m 47 #[.val (.ref r0), .val (.ref r1), .val (.ref r2), .val (.int (2 : Int32)), .val (.int p4), .val (.int y)] [(.int (1 : Int32))])
  exact own_retZ X0 hx hlk hret (by decide) (hb hby d2_47) (by decide) (by decide) ⟨rfl, rfl, e0⟩
set_option maxRecDepth 65536 in
set_option maxHeartbeats 40000000 in
theorem rm2_3 (l : Launch) (Z : State) (a0 : Array Value) (hw : ∀ d ∈ tables_1, d.before a0 Z = true) (r0 : Addr) (r1 : Addr) (r2 : Addr) (p3 : Int32) (p4 : Int32) (h0 : Heap) (kt : ClassId) (kr : ClassId) (kv : ClassId) (nt : Nat) (nr : Nat) (nv : Nat) (ft : Nat → Value) (fr : Nat → Value) (fv : Nat → Value) (x : Int32) (y : Int32) (Vt : own_Ar Z h0 r0 kt .int nt ft) (Vr : own_Ar Z h0 r1 kr .int nr fr) (Vv : own_Ar Z h0 r2 kv .int nv fv) (ht : 3 < nt) (hr : 3 < nr) (hv : 3 < nv) (hp : p3 = 3) (hc : (3 : Int32) < p4) (et : ft 3 = .int x) (ev : fv 3 = .int x) (ev1 : fv 2 = .int y) (er : fr 3 = .int y) :
    own_C l (⟨"com/example/prefixleap/prefixleap/core/PrefixTableShiftedPinLaw", "slot", "([I[I[III)Z"⟩ : MethodName) method_3_code 6 (some .boolean) ({ frames := 0, cells := 0, slots := 0, locals := 0 } : Room) Z #[(.ref r0), (.ref r1), (.ref r2), (.int p3), (.int p4)] h0 (fun v h L => v = some (.int 1) ∧ L = [] ∧ h = h0) := by
  refine own_enter pn_2 ?_
  intro p e s m below meth c s₁ X0 hx hby hml hown hnm hret hlk hZ e0
  replace hown : s.vm.findClass "com/example/prefixleap/prefixleap/core/PrefixTableShiftedPinLaw" = some m.cls := hown
  have ef : entryFrame m #[(.ref r0), (.ref r1), (.ref r2), (.int p3), (.int p4)] 6 = mkF m 0 #[.val (.ref r0), .val (.ref r1), .val (.ref r2), .val (.int p3), .val (.int p4), .unset] [] := by first | rfl | (simp [entryFrame, mkF, argsToLocals, Value.category, maxLocals]; done)
  refine own_cast ef ?_
  show own_Ends _ _ _ _ _ _ _ s₁ (mkF m 0 #[.val (.ref r0), .val (.ref r1), .val (.ref r2), .val (.int p3), .val (.int p4), .unset] [])
  subst hp
  show own_Ends _ _ _ _ _ _ _ s₁ (mkF m 0 #[.val (.ref r0), .val (.ref r1), .val (.ref r2), .val (.int (3 : Int32)), .val (.int p4), .unset] [])
  refine own_go (fun _ k => XS.iloadN X0.here hx rfl (hb hby d2_0) rfl k) ?_
  show own_Ends _ _ _ _ _ _ _ s₁ (mkF m 1 #[.val (.ref r0), .val (.ref r1), .val (.ref r2), .val (.int (3 : Int32)), .val (.int p4), .unset] [(.int (3 : Int32))])
  refine own_go (fun _ k => XS.iload X0.here hx rfl (hb hby d2_1) rfl k) ?_
  show own_Ends _ _ _ _ _ _ _ s₁ (mkF m 3 #[.val (.ref r0), .val (.ref r1), .val (.ref r2), .val (.int (3 : Int32)), .val (.int p4), .unset] [(.int p4), (.int (3 : Int32))])
  refine own_go (fun _ k => XS.icmpYes X0.here hx rfl (pc0 := 3) (pc' := 8) rfl (hb hby d2_3) rfl (tlt hc).1 (by decide) (by decide) k) ?_
  show own_Ends _ _ _ _ _ _ _ s₁ (mkF m 8 #[.val (.ref r0), .val (.ref r1), .val (.ref r2), .val (.int (3 : Int32)), .val (.int p4), .unset] [])
  refine own_go (fun _ k => XS.aloadN X0.here hx rfl (hb hby d2_8) rfl rfl k) ?_
  show own_Ends _ _ _ _ _ _ _ s₁ (mkF m 9 #[.val (.ref r0), .val (.ref r1), .val (.ref r2), .val (.int (3 : Int32)), .val (.int p4), .unset] [(.ref r0)])
  refine own_go (fun _ k => XS.iloadN X0.here hx rfl (hb hby d2_9) rfl k) ?_
  show own_Ends _ _ _ _ _ _ _ s₁ (mkF m 10 #[.val (.ref r0), .val (.ref r1), .val (.ref r2), .val (.int (3 : Int32)), .val (.int p4), .unset] [(.int (3 : Int32)), (.ref r0)])
  refine own_go (fun _ k => own_ldI X0 hx hZ e0 Vt (i := 3) (v := (.int x)) (by decide) (by decide) ht et (g := (mkF m 10 #[.val (.ref r0), .val (.ref r1), .val (.ref r2), .val (.int (3 : Int32)), .val (.int p4), .unset] [(.int (3 : Int32)), (.ref r0)])) rfl rfl (hb hby d2_10) _ k) ?_
  show own_Ends _ _ _ _ _ _ _ s₁ (mkF m 11 #[.val (.ref r0), .val (.ref r1), .val (.ref r2), .val (.int (3 : Int32)), .val (.int p4), .unset] [(.int x)])
  refine own_go (fun _ k => XS.aloadN X0.here hx rfl (hb hby d2_11) rfl rfl k) ?_
  show own_Ends _ _ _ _ _ _ _ s₁ (mkF m 12 #[.val (.ref r0), .val (.ref r1), .val (.ref r2), .val (.int (3 : Int32)), .val (.int p4), .unset] [(.ref r2), (.int x)])
  refine own_go (fun _ k => XS.iloadN X0.here hx rfl (hb hby d2_12) rfl k) ?_
  show own_Ends _ _ _ _ _ _ _ s₁ (mkF m 13 #[.val (.ref r0), .val (.ref r1), .val (.ref r2), .val (.int (3 : Int32)), .val (.int p4), .unset] [(.int (3 : Int32)), (.ref r2), (.int x)])
  refine own_go (fun _ k => own_ldI X0 hx hZ e0 Vv (i := 3) (v := (.int x)) (by decide) (by decide) hv ev (g := (mkF m 13 #[.val (.ref r0), .val (.ref r1), .val (.ref r2), .val (.int (3 : Int32)), .val (.int p4), .unset] [(.int (3 : Int32)), (.ref r2), (.int x)])) rfl rfl (hb hby d2_13) _ k) ?_
  show own_Ends _ _ _ _ _ _ _ s₁ (mkF m 14 #[.val (.ref r0), .val (.ref r1), .val (.ref r2), .val (.int (3 : Int32)), .val (.int p4), .unset] [(.int x), (.int x)])
  refine own_go (fun _ k => XS.icmpYes X0.here hx rfl (pc0 := 14) (pc' := 19) rfl (hb hby d2_14) rfl (teq (rfl)).1 (by decide) (by decide) k) ?_
  show own_Ends _ _ _ _ _ _ _ s₁ (mkF m 19 #[.val (.ref r0), .val (.ref r1), .val (.ref r2), .val (.int (3 : Int32)), .val (.int p4), .unset] [])
  refine own_go (fun _ k => XS.iloadN X0.here hx rfl (hb hby d2_19) rfl k) ?_
  show own_Ends _ _ _ _ _ _ _ s₁ (mkF m 20 #[.val (.ref r0), .val (.ref r1), .val (.ref r2), .val (.int (3 : Int32)), .val (.int p4), .unset] [(.int (3 : Int32))])
  refine own_go (fun _ k => XS.ifYes X0.here hx rfl (pc0 := 20) (pc' := 27) rfl (hb hby d2_20) rfl ((if0 _ _).trans (feq (by decide)).2) (by decide) (by decide) k) ?_
  show own_Ends _ _ _ _ _ _ _ s₁ (mkF m 27 #[.val (.ref r0), .val (.ref r1), .val (.ref r2), .val (.int (3 : Int32)), .val (.int p4), .unset] [])
  refine own_go (fun _ k => XS.aloadN X0.here hx rfl (hb hby d2_27) rfl rfl k) ?_
  show own_Ends _ _ _ _ _ _ _ s₁ (mkF m 28 #[.val (.ref r0), .val (.ref r1), .val (.ref r2), .val (.int (3 : Int32)), .val (.int p4), .unset] [(.ref r2)])
  refine own_go (fun _ k => XS.iloadN X0.here hx rfl (hb hby d2_28) rfl k) ?_
  show own_Ends _ _ _ _ _ _ _ s₁ (mkF m 29 #[.val (.ref r0), .val (.ref r1), .val (.ref r2), .val (.int (3 : Int32)), .val (.int p4), .unset] [(.int (3 : Int32)), (.ref r2)])
  refine own_go (fun _ k => XS.iconst X0.here hx rfl (hb hby d2_29) k) ?_
  show own_Ends _ _ _ _ _ _ _ s₁ (mkF m 30 #[.val (.ref r0), .val (.ref r1), .val (.ref r2), .val (.int (3 : Int32)), .val (.int p4), .unset] [(.int (1 : Int32)), (.int (3 : Int32)), (.ref r2)])
  refine own_go (fun _ k => XS.isub X0.here hx rfl (hb hby d2_30) rfl k) ?_
  show own_Ends _ _ _ _ _ _ _ s₁ (mkF m 31 #[.val (.ref r0), .val (.ref r1), .val (.ref r2), .val (.int (3 : Int32)), .val (.int p4), .unset] [(.int ((3 : Int32) - (1 : Int32))), (.ref r2)])
  refine own_go (fun _ k => own_ldI X0 hx hZ e0 Vv (i := 2) (v := (.int y)) (by decide) (by decide) (Nat.lt_trans (by decide) hv) ev1 (g := (mkF m 31 #[.val (.ref r0), .val (.ref r1), .val (.ref r2), .val (.int (3 : Int32)), .val (.int p4), .unset] [(.int ((3 : Int32) - (1 : Int32))), (.ref r2)])) rfl rfl (hb hby d2_31) _ k) ?_
  show own_Ends _ _ _ _ _ _ _ s₁ (mkF m 32 #[.val (.ref r0), .val (.ref r1), .val (.ref r2), .val (.int (3 : Int32)), .val (.int p4), .unset] [(.int y)])
  refine own_go (fun _ k => XS.istore X0.here hx rfl (hb hby d2_32) rfl (l' := #[.val (.ref r0), .val (.ref r1), .val (.ref r2), .val (.int (3 : Int32)), .val (.int p4), .val (.int y)]) rfl k) ?_
  show own_Ends _ _ _ _ _ _ _ s₁ (mkF m 34 #[.val (.ref r0), .val (.ref r1), .val (.ref r2), .val (.int (3 : Int32)), .val (.int p4), .val (.int y)] [])
  refine own_go (fun _ k => XS.aloadN X0.here hx rfl (hb hby d2_34) rfl rfl k) ?_
  show own_Ends _ _ _ _ _ _ _ s₁ (mkF m 35 #[.val (.ref r0), .val (.ref r1), .val (.ref r2), .val (.int (3 : Int32)), .val (.int p4), .val (.int y)] [(.ref r1)])
  refine own_go (fun _ k => XS.iloadN X0.here hx rfl (hb hby d2_35) rfl k) ?_
  show own_Ends _ _ _ _ _ _ _ s₁ (mkF m 36 #[.val (.ref r0), .val (.ref r1), .val (.ref r2), .val (.int (3 : Int32)), .val (.int p4), .val (.int y)] [(.int (3 : Int32)), (.ref r1)])
  refine own_go (fun _ k => own_ldI X0 hx hZ e0 Vr (i := 3) (v := (.int y)) (by decide) (by decide) hr er (g := (mkF m 36 #[.val (.ref r0), .val (.ref r1), .val (.ref r2), .val (.int (3 : Int32)), .val (.int p4), .val (.int y)] [(.int (3 : Int32)), (.ref r1)])) rfl rfl (hb hby d2_36) _ k) ?_
  show own_Ends _ _ _ _ _ _ _ s₁ (mkF m 37 #[.val (.ref r0), .val (.ref r1), .val (.ref r2), .val (.int (3 : Int32)), .val (.int p4), .val (.int y)] [(.int y)])
  refine own_go (fun _ k => XS.iload X0.here hx rfl (hb hby d2_37) rfl k) ?_
  show own_Ends _ _ _ _ _ _ _ s₁ (mkF m 39 #[.val (.ref r0), .val (.ref r1), .val (.ref r2), .val (.int (3 : Int32)), .val (.int p4), .val (.int y)] [(.int y), (.int y)])
  refine own_go (fun _ k => XS.icmpNo X0.here hx rfl (hb hby d2_39) rfl (teq (rfl)).2 k) ?_
  show own_Ends _ _ _ _ _ _ _ s₁ (mkF m 42 #[.val (.ref r0), .val (.ref r1), .val (.ref r2), .val (.int (3 : Int32)), .val (.int p4), .val (.int y)] [])
  refine own_go (fun _ k => XS.iconst X0.here hx rfl (hb hby d2_42) k) ?_
  show own_Ends _ _ _ _ _ _ _ s₁ (mkF m 43 #[.val (.ref r0), .val (.ref r1), .val (.ref r2), .val (.int (3 : Int32)), .val (.int p4), .val (.int y)] [(.int (1 : Int32))])
  refine own_go (fun _ k => XS.goto X0.here hx rfl (pc0 := 43) (pc' := 47) rfl (hb hby d2_43) (by decide) (by decide) k) ?_
  show own_Ends _ _ _ _ _ _ _ s₁ (mkF m 47 #[.val (.ref r0), .val (.ref r1), .val (.ref r2), .val (.int (3 : Int32)), .val (.int p4), .val (.int y)] [(.int (1 : Int32))])
  exact own_retZ X0 hx hlk hret (by decide) (hb hby d2_47) (by decide) (by decide) ⟨rfl, rfl, e0⟩
set_option maxRecDepth 65536 in
set_option maxHeartbeats 40000000 in
theorem rm2_4 (l : Launch) (Z : State) (a0 : Array Value) (hw : ∀ d ∈ tables_1, d.before a0 Z = true) (r0 : Addr) (r1 : Addr) (r2 : Addr) (p3 : Int32) (p4 : Int32) (h0 : Heap) (kt : ClassId) (kr : ClassId) (kv : ClassId) (nt : Nat) (nr : Nat) (nv : Nat) (ft : Nat → Value) (fr : Nat → Value) (fv : Nat → Value) (x : Int32) (y : Int32) (Vt : own_Ar Z h0 r0 kt .int nt ft) (Vr : own_Ar Z h0 r1 kr .int nr fr) (Vv : own_Ar Z h0 r2 kv .int nv fv) (ht : 4 < nt) (hr : 4 < nr) (hv : 4 < nv) (hp : p3 = 4) (hc : (4 : Int32) < p4) (et : ft 4 = .int x) (ev : fv 4 = .int x) (ev1 : fv 3 = .int y) (er : fr 4 = .int y) :
    own_C l (⟨"com/example/prefixleap/prefixleap/core/PrefixTableShiftedPinLaw", "slot", "([I[I[III)Z"⟩ : MethodName) method_3_code 6 (some .boolean) ({ frames := 0, cells := 0, slots := 0, locals := 0 } : Room) Z #[(.ref r0), (.ref r1), (.ref r2), (.int p3), (.int p4)] h0 (fun v h L => v = some (.int 1) ∧ L = [] ∧ h = h0) := by
  refine own_enter pn_2 ?_
  intro p e s m below meth c s₁ X0 hx hby hml hown hnm hret hlk hZ e0
  replace hown : s.vm.findClass "com/example/prefixleap/prefixleap/core/PrefixTableShiftedPinLaw" = some m.cls := hown
  have ef : entryFrame m #[(.ref r0), (.ref r1), (.ref r2), (.int p3), (.int p4)] 6 = mkF m 0 #[.val (.ref r0), .val (.ref r1), .val (.ref r2), .val (.int p3), .val (.int p4), .unset] [] := by first | rfl | (simp [entryFrame, mkF, argsToLocals, Value.category, maxLocals]; done)
  refine own_cast ef ?_
  show own_Ends _ _ _ _ _ _ _ s₁ (mkF m 0 #[.val (.ref r0), .val (.ref r1), .val (.ref r2), .val (.int p3), .val (.int p4), .unset] [])
  subst hp
  show own_Ends _ _ _ _ _ _ _ s₁ (mkF m 0 #[.val (.ref r0), .val (.ref r1), .val (.ref r2), .val (.int (4 : Int32)), .val (.int p4), .unset] [])
  refine own_go (fun _ k => XS.iloadN X0.here hx rfl (hb hby d2_0) rfl k) ?_
  show own_Ends _ _ _ _ _ _ _ s₁ (mkF m 1 #[.val (.ref r0), .val (.ref r1), .val (.ref r2), .val (.int (4 : Int32)), .val (.int p4), .unset] [(.int (4 : Int32))])
  refine own_go (fun _ k => XS.iload X0.here hx rfl (hb hby d2_1) rfl k) ?_
  show own_Ends _ _ _ _ _ _ _ s₁ (mkF m 3 #[.val (.ref r0), .val (.ref r1), .val (.ref r2), .val (.int (4 : Int32)), .val (.int p4), .unset] [(.int p4), (.int (4 : Int32))])
  refine own_go (fun _ k => XS.icmpYes X0.here hx rfl (pc0 := 3) (pc' := 8) rfl (hb hby d2_3) rfl (tlt hc).1 (by decide) (by decide) k) ?_
  show own_Ends _ _ _ _ _ _ _ s₁ (mkF m 8 #[.val (.ref r0), .val (.ref r1), .val (.ref r2), .val (.int (4 : Int32)), .val (.int p4), .unset] [])
  refine own_go (fun _ k => XS.aloadN X0.here hx rfl (hb hby d2_8) rfl rfl k) ?_
  show own_Ends _ _ _ _ _ _ _ s₁ (mkF m 9 #[.val (.ref r0), .val (.ref r1), .val (.ref r2), .val (.int (4 : Int32)), .val (.int p4), .unset] [(.ref r0)])
  refine own_go (fun _ k => XS.iloadN X0.here hx rfl (hb hby d2_9) rfl k) ?_
  show own_Ends _ _ _ _ _ _ _ s₁ (mkF m 10 #[.val (.ref r0), .val (.ref r1), .val (.ref r2), .val (.int (4 : Int32)), .val (.int p4), .unset] [(.int (4 : Int32)), (.ref r0)])
  refine own_go (fun _ k => own_ldI X0 hx hZ e0 Vt (i := 4) (v := (.int x)) (by decide) (by decide) ht et (g := (mkF m 10 #[.val (.ref r0), .val (.ref r1), .val (.ref r2), .val (.int (4 : Int32)), .val (.int p4), .unset] [(.int (4 : Int32)), (.ref r0)])) rfl rfl (hb hby d2_10) _ k) ?_
  show own_Ends _ _ _ _ _ _ _ s₁ (mkF m 11 #[.val (.ref r0), .val (.ref r1), .val (.ref r2), .val (.int (4 : Int32)), .val (.int p4), .unset] [(.int x)])
  refine own_go (fun _ k => XS.aloadN X0.here hx rfl (hb hby d2_11) rfl rfl k) ?_
  show own_Ends _ _ _ _ _ _ _ s₁ (mkF m 12 #[.val (.ref r0), .val (.ref r1), .val (.ref r2), .val (.int (4 : Int32)), .val (.int p4), .unset] [(.ref r2), (.int x)])
  refine own_go (fun _ k => XS.iloadN X0.here hx rfl (hb hby d2_12) rfl k) ?_
  show own_Ends _ _ _ _ _ _ _ s₁ (mkF m 13 #[.val (.ref r0), .val (.ref r1), .val (.ref r2), .val (.int (4 : Int32)), .val (.int p4), .unset] [(.int (4 : Int32)), (.ref r2), (.int x)])
  refine own_go (fun _ k => own_ldI X0 hx hZ e0 Vv (i := 4) (v := (.int x)) (by decide) (by decide) hv ev (g := (mkF m 13 #[.val (.ref r0), .val (.ref r1), .val (.ref r2), .val (.int (4 : Int32)), .val (.int p4), .unset] [(.int (4 : Int32)), (.ref r2), (.int x)])) rfl rfl (hb hby d2_13) _ k) ?_
  show own_Ends _ _ _ _ _ _ _ s₁ (mkF m 14 #[.val (.ref r0), .val (.ref r1), .val (.ref r2), .val (.int (4 : Int32)), .val (.int p4), .unset] [(.int x), (.int x)])
  refine own_go (fun _ k => XS.icmpYes X0.here hx rfl (pc0 := 14) (pc' := 19) rfl (hb hby d2_14) rfl (teq (rfl)).1 (by decide) (by decide) k) ?_
  show own_Ends _ _ _ _ _ _ _ s₁ (mkF m 19 #[.val (.ref r0), .val (.ref r1), .val (.ref r2), .val (.int (4 : Int32)), .val (.int p4), .unset] [])
  refine own_go (fun _ k => XS.iloadN X0.here hx rfl (hb hby d2_19) rfl k) ?_
  show own_Ends _ _ _ _ _ _ _ s₁ (mkF m 20 #[.val (.ref r0), .val (.ref r1), .val (.ref r2), .val (.int (4 : Int32)), .val (.int p4), .unset] [(.int (4 : Int32))])
  refine own_go (fun _ k => XS.ifYes X0.here hx rfl (pc0 := 20) (pc' := 27) rfl (hb hby d2_20) rfl ((if0 _ _).trans (feq (by decide)).2) (by decide) (by decide) k) ?_
  show own_Ends _ _ _ _ _ _ _ s₁ (mkF m 27 #[.val (.ref r0), .val (.ref r1), .val (.ref r2), .val (.int (4 : Int32)), .val (.int p4), .unset] [])
  refine own_go (fun _ k => XS.aloadN X0.here hx rfl (hb hby d2_27) rfl rfl k) ?_
  show own_Ends _ _ _ _ _ _ _ s₁ (mkF m 28 #[.val (.ref r0), .val (.ref r1), .val (.ref r2), .val (.int (4 : Int32)), .val (.int p4), .unset] [(.ref r2)])
  refine own_go (fun _ k => XS.iloadN X0.here hx rfl (hb hby d2_28) rfl k) ?_
  show own_Ends _ _ _ _ _ _ _ s₁ (mkF m 29 #[.val (.ref r0), .val (.ref r1), .val (.ref r2), .val (.int (4 : Int32)), .val (.int p4), .unset] [(.int (4 : Int32)), (.ref r2)])
  refine own_go (fun _ k => XS.iconst X0.here hx rfl (hb hby d2_29) k) ?_
  show own_Ends _ _ _ _ _ _ _ s₁ (mkF m 30 #[.val (.ref r0), .val (.ref r1), .val (.ref r2), .val (.int (4 : Int32)), .val (.int p4), .unset] [(.int (1 : Int32)), (.int (4 : Int32)), (.ref r2)])
  refine own_go (fun _ k => XS.isub X0.here hx rfl (hb hby d2_30) rfl k) ?_
  show own_Ends _ _ _ _ _ _ _ s₁ (mkF m 31 #[.val (.ref r0), .val (.ref r1), .val (.ref r2), .val (.int (4 : Int32)), .val (.int p4), .unset] [(.int ((4 : Int32) - (1 : Int32))), (.ref r2)])
  refine own_go (fun _ k => own_ldI X0 hx hZ e0 Vv (i := 3) (v := (.int y)) (by decide) (by decide) (Nat.lt_trans (by decide) hv) ev1 (g := (mkF m 31 #[.val (.ref r0), .val (.ref r1), .val (.ref r2), .val (.int (4 : Int32)), .val (.int p4), .unset] [(.int ((4 : Int32) - (1 : Int32))), (.ref r2)])) rfl rfl (hb hby d2_31) _ k) ?_
  show own_Ends _ _ _ _ _ _ _ s₁ (mkF m 32 #[.val (.ref r0), .val (.ref r1), .val (.ref r2), .val (.int (4 : Int32)), .val (.int p4), .unset] [(.int y)])
  refine own_go (fun _ k => XS.istore X0.here hx rfl (hb hby d2_32) rfl (l' := #[.val (.ref r0), .val (.ref r1), .val (.ref r2), .val (.int (4 : Int32)), .val (.int p4), .val (.int y)]) rfl k) ?_
  show own_Ends _ _ _ _ _ _ _ s₁ (mkF m 34 #[.val (.ref r0), .val (.ref r1), .val (.ref r2), .val (.int (4 : Int32)), .val (.int p4), .val (.int y)] [])
  refine own_go (fun _ k => XS.aloadN X0.here hx rfl (hb hby d2_34) rfl rfl k) ?_
  show own_Ends _ _ _ _ _ _ _ s₁ (mkF m 35 #[.val (.ref r0), .val (.ref r1), .val (.ref r2), .val (.int (4 : Int32)), .val (.int p4), .val (.int y)] [(.ref r1)])
  refine own_go (fun _ k => XS.iloadN X0.here hx rfl (hb hby d2_35) rfl k) ?_
  show own_Ends _ _ _ _ _ _ _ s₁ (mkF m 36 #[.val (.ref r0), .val (.ref r1), .val (.ref r2), .val (.int (4 : Int32)), .val (.int p4), .val (.int y)] [(.int (4 : Int32)), (.ref r1)])
  refine own_go (fun _ k => own_ldI X0 hx hZ e0 Vr (i := 4) (v := (.int y)) (by decide) (by decide) hr er (g := (mkF m 36 #[.val (.ref r0), .val (.ref r1), .val (.ref r2), .val (.int (4 : Int32)), .val (.int p4), .val (.int y)] [(.int (4 : Int32)), (.ref r1)])) rfl rfl (hb hby d2_36) _ k) ?_
  show own_Ends _ _ _ _ _ _ _ s₁ (mkF m 37 #[.val (.ref r0), .val (.ref r1), .val (.ref r2), .val (.int (4 : Int32)), .val (.int p4), .val (.int y)] [(.int y)])
  refine own_go (fun _ k => XS.iload X0.here hx rfl (hb hby d2_37) rfl k) ?_
  show own_Ends _ _ _ _ _ _ _ s₁ (mkF m 39 #[.val (.ref r0), .val (.ref r1), .val (.ref r2), .val (.int (4 : Int32)), .val (.int p4), .val (.int y)] [(.int y), (.int y)])
  refine own_go (fun _ k => XS.icmpNo X0.here hx rfl (hb hby d2_39) rfl (teq (rfl)).2 k) ?_
  show own_Ends _ _ _ _ _ _ _ s₁ (mkF m 42 #[.val (.ref r0), .val (.ref r1), .val (.ref r2), .val (.int (4 : Int32)), .val (.int p4), .val (.int y)] [])
  refine own_go (fun _ k => XS.iconst X0.here hx rfl (hb hby d2_42) k) ?_
  show own_Ends _ _ _ _ _ _ _ s₁ (mkF m 43 #[.val (.ref r0), .val (.ref r1), .val (.ref r2), .val (.int (4 : Int32)), .val (.int p4), .val (.int y)] [(.int (1 : Int32))])
  refine own_go (fun _ k => XS.goto X0.here hx rfl (pc0 := 43) (pc' := 47) rfl (hb hby d2_43) (by decide) (by decide) k) ?_
  show own_Ends _ _ _ _ _ _ _ s₁ (mkF m 47 #[.val (.ref r0), .val (.ref r1), .val (.ref r2), .val (.int (4 : Int32)), .val (.int p4), .val (.int y)] [(.int (1 : Int32))])
  exact own_retZ X0 hx hlk hret (by decide) (hb hby d2_47) (by decide) (by decide) ⟨rfl, rfl, e0⟩
set_option maxRecDepth 65536 in
set_option maxHeartbeats 40000000 in
theorem rm0 (l : Launch) (Z : State) (a0 : Array Value) (hw : ∀ d ∈ tables_1, d.before a0 Z = true) (p0 : Int32) (p1 : Int32) (p2 : Int32) (p3 : Int32) (p4 : Int32) (p5 : Int32) (h0 : Heap) :
    own_C l x code maxLocals ret room_1 Z #[(.int p0), (.int p1), (.int p2), (.int p3), (.int p4), (.int p5)] h0 (fun v h L => v = some (.int 1) ∧ Fr h0.size L) := by
  refine own_enter pn_0 ?_
  intro p e s m below meth c s₁ X0 hx hby hml hown hnm hret hlk hZ e0
  have hml : c.maxLocals = 10 := hml
  replace hown : s.vm.findClass "com/example/prefixleap/prefixleap/core/PrefixTableShiftedPinLaw" = some m.cls := hown
  have ef : entryFrame m #[(.int p0), (.int p1), (.int p2), (.int p3), (.int p4), (.int p5)] maxLocals = mkF m 0 #[.val (.int p0), .val (.int p1), .val (.int p2), .val (.int p3), .val (.int p4), .val (.int p5), .unset, .unset, .unset, .unset] [] := by first | rfl | (simp [entryFrame, mkF, argsToLocals, Value.category, maxLocals]; done)
  refine own_cast ef ?_
  show own_Ends _ _ _ _ _ _ _ s₁ (mkF m 0 #[.val (.int p0), .val (.int p1), .val (.int p2), .val (.int p3), .val (.int p4), .val (.int p5), .unset, .unset, .unset, .unset] [])
  have N0 := Fr.nil h0.size
  have K0 : Keep h0 h0 [] := Keep.refl _ _
  refine own_go (fun _ k => XS.iloadN X0.here hx rfl (hb hby at_0) rfl k) ?_
  show own_Ends _ _ _ _ _ _ _ s₁ (mkF m 1 #[.val (.int p0), .val (.int p1), .val (.int p2), .val (.int p3), .val (.int p4), .val (.int p5), .unset, .unset, .unset, .unset] [(.int p0)])
  refine own_go (fun _ k => X0.ldcInt hx hown (mvT hZ (hw _ (List.mem_of_getElem? (i := 0) rfl))) (g := (mkF m 1 #[.val (.int p0), .val (.int p1), .val (.int p2), .val (.int p3), .val (.int p4), .val (.int p5), .unset, .unset, .unset, .unset] [(.int p0)])) rfl (hb hby at_1) _ k) ?_
  show own_Ends _ _ _ _ _ _ _ s₁ (mkF m 3 #[.val (.int p0), .val (.int p1), .val (.int p2), .val (.int p3), .val (.int p4), .val (.int p5), .unset, .unset, .unset, .unset] [(.int (2147483647 : Int32)), (.int p0)])
  refine own_go (fun _ k => XS.iand X0.here hx rfl (hb hby at_3) rfl k) ?_
  show own_Ends _ _ _ _ _ _ _ s₁ (mkF m 4 #[.val (.int p0), .val (.int p1), .val (.int p2), .val (.int p3), .val (.int p4), .val (.int p5), .unset, .unset, .unset, .unset] [(.int (p0 &&& (2147483647 : Int32)))])
  refine own_go (fun _ k => XS.bipush X0.here hx rfl (hb hby at_4) k) ?_
  show own_Ends _ _ _ _ _ _ _ s₁ (mkF m 6 #[.val (.int p0), .val (.int p1), .val (.int p2), .val (.int p3), .val (.int p4), .val (.int p5), .unset, .unset, .unset, .unset] [(.int (6 : Int32)), (.int (p0 &&& (2147483647 : Int32)))])
  refine own_go (fun _ k => iremM X0 hx rfl (hb hby at_6) rfl (by decide) k) ?_
  show own_Ends _ _ _ _ _ _ _ s₁ (mkF m 7 #[.val (.int p0), .val (.int p1), .val (.int p2), .val (.int p3), .val (.int p4), .val (.int p5), .unset, .unset, .unset, .unset] [(.int ((p0 &&& (2147483647 : Int32)) % (6 : Int32)))])
  refine own_go (fun _ k => XS.istore X0.here hx rfl (hb hby at_7) rfl (l' := #[.val (.int p0), .val (.int p1), .val (.int p2), .val (.int p3), .val (.int p4), .val (.int p5), .val (.int ((p0 &&& (2147483647 : Int32)) % (6 : Int32))), .unset, .unset, .unset]) rfl k) ?_
  show own_Ends _ _ _ _ _ _ _ s₁ (mkF m 9 #[.val (.int p0), .val (.int p1), .val (.int p2), .val (.int p3), .val (.int p4), .val (.int p5), .val (.int ((p0 &&& (2147483647 : Int32)) % (6 : Int32))), .unset, .unset, .unset] [])
  refine own_go (fun _ k => XS.iconst X0.here hx rfl (hb hby at_9) k) ?_
  show own_Ends _ _ _ _ _ _ _ s₁ (mkF m 10 #[.val (.int p0), .val (.int p1), .val (.int p2), .val (.int p3), .val (.int p4), .val (.int p5), .val (.int ((p0 &&& (2147483647 : Int32)) % (6 : Int32))), .unset, .unset, .unset] [(.int (5 : Int32))])
  obtain ⟨T17, h17, k17, X17, e17, E17, A17, st17⟩ := own_newP X0 hx hZ (aty := .int) (hw _ (List.mem_of_getElem? (i := 1) rfl)) e0 (g := (mkF m 10 #[.val (.int p0), .val (.int p1), .val (.int p2), .val (.int p3), .val (.int p4), .val (.int p5), .val (.int ((p0 &&& (2147483647 : Int32)) % (6 : Int32))), .unset, .unset, .unset] [(.int (5 : Int32))])) rfl (hb hby at_10) rfl (by decide) (n := 5) (by decide) (cap := 5) (by decide) (by decide) (by decide) (by decide)
  obtain ⟨bv, gq17⟩ : ∃ z, z = h0.size := ⟨_, rfl⟩
  rw [← gq17] at A17 st17
  have sz_bv : h0.size ≤ bv := Nat.le_trans K0.1 (Nat.le_of_eq gq17.symm)
  have g_bv : h0.size ≤ bv := Nat.le_trans (Nat.le_refl _) sz_bv
  have K_17 := K0.ext E17
  have V_bv : own_Ar Z h17 bv k17 .int 5 (fun _ => (.int (0 : Int32))) := A17
  refine own_go st17 ?_
  show own_Ends _ _ _ _ _ _ _ T17 (mkF m 12 #[.val (.int p0), .val (.int p1), .val (.int p2), .val (.int p3), .val (.int p4), .val (.int p5), .val (.int ((p0 &&& (2147483647 : Int32)) % (6 : Int32))), .unset, .unset, .unset] [(.ref bv)])
  refine own_go (fun _ k => XS.dup X17.here hx rfl (hb hby at_12) rfl rfl k) ?_
  show own_Ends _ _ _ _ _ _ _ T17 (mkF m 13 #[.val (.int p0), .val (.int p1), .val (.int p2), .val (.int p3), .val (.int p4), .val (.int p5), .val (.int ((p0 &&& (2147483647 : Int32)) % (6 : Int32))), .unset, .unset, .unset] [(.ref bv), (.ref bv)])
  refine own_go (fun _ k => XS.iconst X17.here hx rfl (hb hby at_13) k) ?_
  show own_Ends _ _ _ _ _ _ _ T17 (mkF m 14 #[.val (.int p0), .val (.int p1), .val (.int p2), .val (.int p3), .val (.int p4), .val (.int p5), .val (.int ((p0 &&& (2147483647 : Int32)) % (6 : Int32))), .unset, .unset, .unset] [(.int (0 : Int32)), (.ref bv), (.ref bv)])
  refine own_go (fun _ k => XS.iloadN X17.here hx rfl (hb hby at_14) rfl k) ?_
  show own_Ends _ _ _ _ _ _ _ T17 (mkF m 15 #[.val (.int p0), .val (.int p1), .val (.int p2), .val (.int p3), .val (.int p4), .val (.int p5), .val (.int ((p0 &&& (2147483647 : Int32)) % (6 : Int32))), .unset, .unset, .unset] [(.int p1), (.int (0 : Int32)), (.ref bv), (.ref bv)])
  obtain ⟨T18, h18, X18, e18, W18, V18, st18⟩ := own_stI X17 hx hZ e17 V_bv (i := 0) (by decide) (by decide) (by decide) (g := (mkF m 15 #[.val (.int p0), .val (.int p1), .val (.int p2), .val (.int p3), .val (.int p4), .val (.int p5), .val (.int ((p0 &&& (2147483647 : Int32)) % (6 : Int32))), .unset, .unset, .unset] [(.int p1), (.int (0 : Int32)), (.ref bv), (.ref bv)])) rfl rfl (hb hby at_15)
  have N18 := Fr.snoc X18 N0 g_bv
  have K_18 := K_17.wr W18 (Or.inr sz_bv)
  refine own_go st18 ?_
  show own_Ends _ _ _ _ _ _ _ T18 (mkF m 16 #[.val (.int p0), .val (.int p1), .val (.int p2), .val (.int p3), .val (.int p4), .val (.int p5), .val (.int ((p0 &&& (2147483647 : Int32)) % (6 : Int32))), .unset, .unset, .unset] [(.ref bv)])
  refine own_go (fun _ k => XS.dup X18.here hx rfl (hb hby at_16) rfl rfl k) ?_
  show own_Ends _ _ _ _ _ _ _ T18 (mkF m 17 #[.val (.int p0), .val (.int p1), .val (.int p2), .val (.int p3), .val (.int p4), .val (.int p5), .val (.int ((p0 &&& (2147483647 : Int32)) % (6 : Int32))), .unset, .unset, .unset] [(.ref bv), (.ref bv)])
  refine own_go (fun _ k => XS.iconst X18.here hx rfl (hb hby at_17) k) ?_
  show own_Ends _ _ _ _ _ _ _ T18 (mkF m 18 #[.val (.int p0), .val (.int p1), .val (.int p2), .val (.int p3), .val (.int p4), .val (.int p5), .val (.int ((p0 &&& (2147483647 : Int32)) % (6 : Int32))), .unset, .unset, .unset] [(.int (1 : Int32)), (.ref bv), (.ref bv)])
  refine own_go (fun _ k => XS.iloadN X18.here hx rfl (hb hby at_18) rfl k) ?_
  show own_Ends _ _ _ _ _ _ _ T18 (mkF m 19 #[.val (.int p0), .val (.int p1), .val (.int p2), .val (.int p3), .val (.int p4), .val (.int p5), .val (.int ((p0 &&& (2147483647 : Int32)) % (6 : Int32))), .unset, .unset, .unset] [(.int p2), (.int (1 : Int32)), (.ref bv), (.ref bv)])
  obtain ⟨T19, h19, X19, e19, W19, V19, st19⟩ := own_stI X18 hx hZ e18 V18 (i := 1) (by decide) (by decide) (by decide) (g := (mkF m 19 #[.val (.int p0), .val (.int p1), .val (.int p2), .val (.int p3), .val (.int p4), .val (.int p5), .val (.int ((p0 &&& (2147483647 : Int32)) % (6 : Int32))), .unset, .unset, .unset] [(.int p2), (.int (1 : Int32)), (.ref bv), (.ref bv)])) rfl rfl (hb hby at_19)
  have N19 := Fr.snoc X19 N18 g_bv
  have K_19 := K_18.wr W19 (Or.inr sz_bv)
  refine own_go st19 ?_
  show own_Ends _ _ _ _ _ _ _ T19 (mkF m 20 #[.val (.int p0), .val (.int p1), .val (.int p2), .val (.int p3), .val (.int p4), .val (.int p5), .val (.int ((p0 &&& (2147483647 : Int32)) % (6 : Int32))), .unset, .unset, .unset] [(.ref bv)])
  refine own_go (fun _ k => XS.dup X19.here hx rfl (hb hby at_20) rfl rfl k) ?_
  show own_Ends _ _ _ _ _ _ _ T19 (mkF m 21 #[.val (.int p0), .val (.int p1), .val (.int p2), .val (.int p3), .val (.int p4), .val (.int p5), .val (.int ((p0 &&& (2147483647 : Int32)) % (6 : Int32))), .unset, .unset, .unset] [(.ref bv), (.ref bv)])
  refine own_go (fun _ k => XS.iconst X19.here hx rfl (hb hby at_21) k) ?_
  show own_Ends _ _ _ _ _ _ _ T19 (mkF m 22 #[.val (.int p0), .val (.int p1), .val (.int p2), .val (.int p3), .val (.int p4), .val (.int p5), .val (.int ((p0 &&& (2147483647 : Int32)) % (6 : Int32))), .unset, .unset, .unset] [(.int (2 : Int32)), (.ref bv), (.ref bv)])
  refine own_go (fun _ k => XS.iloadN X19.here hx rfl (hb hby at_22) rfl k) ?_
  show own_Ends _ _ _ _ _ _ _ T19 (mkF m 23 #[.val (.int p0), .val (.int p1), .val (.int p2), .val (.int p3), .val (.int p4), .val (.int p5), .val (.int ((p0 &&& (2147483647 : Int32)) % (6 : Int32))), .unset, .unset, .unset] [(.int p3), (.int (2 : Int32)), (.ref bv), (.ref bv)])
  obtain ⟨T20, h20, X20, e20, W20, V20, st20⟩ := own_stI X19 hx hZ e19 V19 (i := 2) (by decide) (by decide) (by decide) (g := (mkF m 23 #[.val (.int p0), .val (.int p1), .val (.int p2), .val (.int p3), .val (.int p4), .val (.int p5), .val (.int ((p0 &&& (2147483647 : Int32)) % (6 : Int32))), .unset, .unset, .unset] [(.int p3), (.int (2 : Int32)), (.ref bv), (.ref bv)])) rfl rfl (hb hby at_23)
  have N20 := Fr.snoc X20 N19 g_bv
  have K_20 := K_19.wr W20 (Or.inr sz_bv)
  refine own_go st20 ?_
  show own_Ends _ _ _ _ _ _ _ T20 (mkF m 24 #[.val (.int p0), .val (.int p1), .val (.int p2), .val (.int p3), .val (.int p4), .val (.int p5), .val (.int ((p0 &&& (2147483647 : Int32)) % (6 : Int32))), .unset, .unset, .unset] [(.ref bv)])
  refine own_go (fun _ k => XS.dup X20.here hx rfl (hb hby at_24) rfl rfl k) ?_
  show own_Ends _ _ _ _ _ _ _ T20 (mkF m 25 #[.val (.int p0), .val (.int p1), .val (.int p2), .val (.int p3), .val (.int p4), .val (.int p5), .val (.int ((p0 &&& (2147483647 : Int32)) % (6 : Int32))), .unset, .unset, .unset] [(.ref bv), (.ref bv)])
  refine own_go (fun _ k => XS.iconst X20.here hx rfl (hb hby at_25) k) ?_
  show own_Ends _ _ _ _ _ _ _ T20 (mkF m 26 #[.val (.int p0), .val (.int p1), .val (.int p2), .val (.int p3), .val (.int p4), .val (.int p5), .val (.int ((p0 &&& (2147483647 : Int32)) % (6 : Int32))), .unset, .unset, .unset] [(.int (3 : Int32)), (.ref bv), (.ref bv)])
  refine own_go (fun _ k => XS.iload X20.here hx rfl (hb hby at_26) rfl k) ?_
  show own_Ends _ _ _ _ _ _ _ T20 (mkF m 28 #[.val (.int p0), .val (.int p1), .val (.int p2), .val (.int p3), .val (.int p4), .val (.int p5), .val (.int ((p0 &&& (2147483647 : Int32)) % (6 : Int32))), .unset, .unset, .unset] [(.int p4), (.int (3 : Int32)), (.ref bv), (.ref bv)])
  obtain ⟨T21, h21, X21, e21, W21, V21, st21⟩ := own_stI X20 hx hZ e20 V20 (i := 3) (by decide) (by decide) (by decide) (g := (mkF m 28 #[.val (.int p0), .val (.int p1), .val (.int p2), .val (.int p3), .val (.int p4), .val (.int p5), .val (.int ((p0 &&& (2147483647 : Int32)) % (6 : Int32))), .unset, .unset, .unset] [(.int p4), (.int (3 : Int32)), (.ref bv), (.ref bv)])) rfl rfl (hb hby at_28)
  have N21 := Fr.snoc X21 N20 g_bv
  have K_21 := K_20.wr W21 (Or.inr sz_bv)
  refine own_go st21 ?_
  show own_Ends _ _ _ _ _ _ _ T21 (mkF m 29 #[.val (.int p0), .val (.int p1), .val (.int p2), .val (.int p3), .val (.int p4), .val (.int p5), .val (.int ((p0 &&& (2147483647 : Int32)) % (6 : Int32))), .unset, .unset, .unset] [(.ref bv)])
  refine own_go (fun _ k => XS.dup X21.here hx rfl (hb hby at_29) rfl rfl k) ?_
  show own_Ends _ _ _ _ _ _ _ T21 (mkF m 30 #[.val (.int p0), .val (.int p1), .val (.int p2), .val (.int p3), .val (.int p4), .val (.int p5), .val (.int ((p0 &&& (2147483647 : Int32)) % (6 : Int32))), .unset, .unset, .unset] [(.ref bv), (.ref bv)])
  refine own_go (fun _ k => XS.iconst X21.here hx rfl (hb hby at_30) k) ?_
  show own_Ends _ _ _ _ _ _ _ T21 (mkF m 31 #[.val (.int p0), .val (.int p1), .val (.int p2), .val (.int p3), .val (.int p4), .val (.int p5), .val (.int ((p0 &&& (2147483647 : Int32)) % (6 : Int32))), .unset, .unset, .unset] [(.int (4 : Int32)), (.ref bv), (.ref bv)])
  refine own_go (fun _ k => XS.iload X21.here hx rfl (hb hby at_31) rfl k) ?_
  show own_Ends _ _ _ _ _ _ _ T21 (mkF m 33 #[.val (.int p0), .val (.int p1), .val (.int p2), .val (.int p3), .val (.int p4), .val (.int p5), .val (.int ((p0 &&& (2147483647 : Int32)) % (6 : Int32))), .unset, .unset, .unset] [(.int p5), (.int (4 : Int32)), (.ref bv), (.ref bv)])
  obtain ⟨T22, h22, X22, e22, W22, V22, st22⟩ := own_stI X21 hx hZ e21 V21 (i := 4) (by decide) (by decide) (by decide) (g := (mkF m 33 #[.val (.int p0), .val (.int p1), .val (.int p2), .val (.int p3), .val (.int p4), .val (.int p5), .val (.int ((p0 &&& (2147483647 : Int32)) % (6 : Int32))), .unset, .unset, .unset] [(.int p5), (.int (4 : Int32)), (.ref bv), (.ref bv)])) rfl rfl (hb hby at_33)
  have N22 := Fr.snoc X22 N21 g_bv
  have K_22 := K_21.wr W22 (Or.inr sz_bv)
  refine own_go st22 ?_
  show own_Ends _ _ _ _ _ _ _ T22 (mkF m 34 #[.val (.int p0), .val (.int p1), .val (.int p2), .val (.int p3), .val (.int p4), .val (.int p5), .val (.int ((p0 &&& (2147483647 : Int32)) % (6 : Int32))), .unset, .unset, .unset] [(.ref bv)])
  refine own_go (fun _ k => XS.astore X22.here hx rfl (hb hby at_34) rfl rfl (l' := #[.val (.int p0), .val (.int p1), .val (.int p2), .val (.int p3), .val (.int p4), .val (.int p5), .val (.int ((p0 &&& (2147483647 : Int32)) % (6 : Int32))), .val (.ref bv), .unset, .unset]) rfl k) ?_
  show own_Ends _ _ _ _ _ _ _ T22 (mkF m 36 #[.val (.int p0), .val (.int p1), .val (.int p2), .val (.int p3), .val (.int p4), .val (.int p5), .val (.int ((p0 &&& (2147483647 : Int32)) % (6 : Int32))), .val (.ref bv), .unset, .unset] [])
  refine own_go (fun _ k => XS.iload X22.here hx rfl (hb hby at_36) rfl k) ?_
  show own_Ends _ _ _ _ _ _ _ T22 (mkF m 38 #[.val (.int p0), .val (.int p1), .val (.int p2), .val (.int p3), .val (.int p4), .val (.int p5), .val (.int ((p0 &&& (2147483647 : Int32)) % (6 : Int32))), .val (.ref bv), .unset, .unset] [(.int ((p0 &&& (2147483647 : Int32)) % (6 : Int32)))])
  rcases own_mod6 p0 with hn | hn | hn | hn | hn | hn
  · rw [show ((p0 &&& (2147483647 : Int32)) % (6 : Int32)) = (0 : Int32) from hn]
    show own_Ends _ _ _ _ _ _ _ T22 (mkF m 38 #[.val (.int p0), .val (.int p1), .val (.int p2), .val (.int p3), .val (.int p4), .val (.int p5), .val (.int (0 : Int32)), .val (.ref bv), .unset, .unset] [(.int (0 : Int32))])
    obtain ⟨T23, h23, k23, X23, e23, E23, A23, st23⟩ := own_newP X22 hx hZ (aty := .int) (hw _ (List.mem_of_getElem? (i := 1) rfl)) e22 (g := (mkF m 38 #[.val (.int p0), .val (.int p1), .val (.int p2), .val (.int p3), .val (.int p4), .val (.int p5), .val (.int (0 : Int32)), .val (.ref bv), .unset, .unset] [(.int (0 : Int32))])) rfl (hb hby at_38) rfl (by decide) (n := 0) (by decide) (cap := 0) (by decide) (by decide) (by decide) (by decide)
    obtain ⟨bt, gq23⟩ : ∃ z, z = h22.size := ⟨_, rfl⟩
    rw [← gq23] at A23 st23
    have ne_bv_bt : bv ≠ bt := Nat.ne_of_lt (Nat.lt_of_lt_of_le V22.lt (Nat.le_of_eq gq23.symm))
    have sz_bt : h0.size ≤ bt := Nat.le_trans K_22.1 (Nat.le_of_eq gq23.symm)
    have g_bt : h0.size ≤ bt := Nat.le_trans (Nat.le_refl _) sz_bt
    have K_23 := K_22.ext E23
    have V_bv_23 := V22.ext E23
    have V_bt : own_Ar Z h23 bt k23 .int 0 (fun _ => (.int (0 : Int32))) := A23
    refine own_go st23 ?_
    show own_Ends _ _ _ _ _ _ _ T23 (mkF m 40 #[.val (.int p0), .val (.int p1), .val (.int p2), .val (.int p3), .val (.int p4), .val (.int p5), .val (.int (0 : Int32)), .val (.ref bv), .unset, .unset] [(.ref bt)])
    refine own_go (fun _ k => XS.astore X23.here hx rfl (hb hby at_40) rfl rfl (l' := #[.val (.int p0), .val (.int p1), .val (.int p2), .val (.int p3), .val (.int p4), .val (.int p5), .val (.int (0 : Int32)), .val (.ref bv), .val (.ref bt), .unset]) rfl k) ?_
    show own_Ends _ _ _ _ _ _ _ T23 (mkF m 42 #[.val (.int p0), .val (.int p1), .val (.int p2), .val (.int p3), .val (.int p4), .val (.int p5), .val (.int (0 : Int32)), .val (.ref bv), .val (.ref bt), .unset] [])
    refine own_go (fun _ k => XS.iload X23.here hx rfl (hb hby at_42) rfl k) ?_
    show own_Ends _ _ _ _ _ _ _ T23 (mkF m 44 #[.val (.int p0), .val (.int p1), .val (.int p2), .val (.int p3), .val (.int p4), .val (.int p5), .val (.int (0 : Int32)), .val (.ref bv), .val (.ref bt), .unset] [(.int (0 : Int32))])
    refine own_go (fun _ k => XS.ifYes X23.here hx rfl (pc0 := 44) (pc' := 52) rfl (hb hby at_44) rfl ((if0 _ _).trans (flt (by decide)).2.2.2) (by decide) (by decide) k) ?_
    show own_Ends _ _ _ _ _ _ _ T23 (mkF m 52 #[.val (.int p0), .val (.int p1), .val (.int p2), .val (.int p3), .val (.int p4), .val (.int p5), .val (.int (0 : Int32)), .val (.ref bv), .val (.ref bt), .unset] [])
    refine own_go (fun _ k => XS.iload X23.here hx rfl (hb hby at_52) rfl k) ?_
    show own_Ends _ _ _ _ _ _ _ T23 (mkF m 54 #[.val (.int p0), .val (.int p1), .val (.int p2), .val (.int p3), .val (.int p4), .val (.int p5), .val (.int (0 : Int32)), .val (.ref bv), .val (.ref bt), .unset] [(.int (0 : Int32))])
    refine own_go (fun _ k => XS.iconst X23.here hx rfl (hb hby at_54) k) ?_
    show own_Ends _ _ _ _ _ _ _ T23 (mkF m 55 #[.val (.int p0), .val (.int p1), .val (.int p2), .val (.int p3), .val (.int p4), .val (.int p5), .val (.int (0 : Int32)), .val (.ref bv), .val (.ref bt), .unset] [(.int (1 : Int32)), (.int (0 : Int32))])
    refine own_go (fun _ k => XS.icmpYes X23.here hx rfl (pc0 := 55) (pc' := 63) rfl (hb hby at_55) rfl (flt (by decide)).2.2.2 (by decide) (by decide) k) ?_
    show own_Ends _ _ _ _ _ _ _ T23 (mkF m 63 #[.val (.int p0), .val (.int p1), .val (.int p2), .val (.int p3), .val (.int p4), .val (.int p5), .val (.int (0 : Int32)), .val (.ref bv), .val (.ref bt), .unset] [])
    refine own_go (fun _ k => XS.iload X23.here hx rfl (hb hby at_63) rfl k) ?_
    show own_Ends _ _ _ _ _ _ _ T23 (mkF m 65 #[.val (.int p0), .val (.int p1), .val (.int p2), .val (.int p3), .val (.int p4), .val (.int p5), .val (.int (0 : Int32)), .val (.ref bv), .val (.ref bt), .unset] [(.int (0 : Int32))])
    refine own_go (fun _ k => XS.iconst X23.here hx rfl (hb hby at_65) k) ?_
    show own_Ends _ _ _ _ _ _ _ T23 (mkF m 66 #[.val (.int p0), .val (.int p1), .val (.int p2), .val (.int p3), .val (.int p4), .val (.int p5), .val (.int (0 : Int32)), .val (.ref bv), .val (.ref bt), .unset] [(.int (2 : Int32)), (.int (0 : Int32))])
    refine own_go (fun _ k => XS.icmpYes X23.here hx rfl (pc0 := 66) (pc' := 74) rfl (hb hby at_66) rfl (flt (by decide)).2.2.2 (by decide) (by decide) k) ?_
    show own_Ends _ _ _ _ _ _ _ T23 (mkF m 74 #[.val (.int p0), .val (.int p1), .val (.int p2), .val (.int p3), .val (.int p4), .val (.int p5), .val (.int (0 : Int32)), .val (.ref bv), .val (.ref bt), .unset] [])
    refine own_go (fun _ k => XS.iload X23.here hx rfl (hb hby at_74) rfl k) ?_
    show own_Ends _ _ _ _ _ _ _ T23 (mkF m 76 #[.val (.int p0), .val (.int p1), .val (.int p2), .val (.int p3), .val (.int p4), .val (.int p5), .val (.int (0 : Int32)), .val (.ref bv), .val (.ref bt), .unset] [(.int (0 : Int32))])
    refine own_go (fun _ k => XS.iconst X23.here hx rfl (hb hby at_76) k) ?_
    show own_Ends _ _ _ _ _ _ _ T23 (mkF m 77 #[.val (.int p0), .val (.int p1), .val (.int p2), .val (.int p3), .val (.int p4), .val (.int p5), .val (.int (0 : Int32)), .val (.ref bv), .val (.ref bt), .unset] [(.int (3 : Int32)), (.int (0 : Int32))])
    refine own_go (fun _ k => XS.icmpYes X23.here hx rfl (pc0 := 77) (pc' := 86) rfl (hb hby at_77) rfl (flt (by decide)).2.2.2 (by decide) (by decide) k) ?_
    show own_Ends _ _ _ _ _ _ _ T23 (mkF m 86 #[.val (.int p0), .val (.int p1), .val (.int p2), .val (.int p3), .val (.int p4), .val (.int p5), .val (.int (0 : Int32)), .val (.ref bv), .val (.ref bt), .unset] [])
    refine own_go (fun _ k => XS.iload X23.here hx rfl (hb hby at_86) rfl k) ?_
    show own_Ends _ _ _ _ _ _ _ T23 (mkF m 88 #[.val (.int p0), .val (.int p1), .val (.int p2), .val (.int p3), .val (.int p4), .val (.int p5), .val (.int (0 : Int32)), .val (.ref bv), .val (.ref bt), .unset] [(.int (0 : Int32))])
    refine own_go (fun _ k => XS.iconst X23.here hx rfl (hb hby at_88) k) ?_
    show own_Ends _ _ _ _ _ _ _ T23 (mkF m 89 #[.val (.int p0), .val (.int p1), .val (.int p2), .val (.int p3), .val (.int p4), .val (.int p5), .val (.int (0 : Int32)), .val (.ref bv), .val (.ref bt), .unset] [(.int (4 : Int32)), (.int (0 : Int32))])
    refine own_go (fun _ k => XS.icmpYes X23.here hx rfl (pc0 := 89) (pc' := 98) rfl (hb hby at_89) rfl (flt (by decide)).2.2.2 (by decide) (by decide) k) ?_
    show own_Ends _ _ _ _ _ _ _ T23 (mkF m 98 #[.val (.int p0), .val (.int p1), .val (.int p2), .val (.int p3), .val (.int p4), .val (.int p5), .val (.int (0 : Int32)), .val (.ref bv), .val (.ref bt), .unset] [])
    refine own_go (fun _ k => XS.aload X23.here hx rfl (hb hby at_98) rfl rfl k) ?_
    show own_Ends _ _ _ _ _ _ _ T23 (mkF m 100 #[.val (.int p0), .val (.int p1), .val (.int p2), .val (.int p3), .val (.int p4), .val (.int p5), .val (.int (0 : Int32)), .val (.ref bv), .val (.ref bt), .unset] [(.ref bt)])
    obtain ⟨v24, T24, L24, X24, hQ24, st24⟩ := own_callS X23 hx hZ hown (hw _ (List.mem_of_getElem? (i := 2) rfl)) (hw _ (List.mem_of_getElem? (i := 3) rfl)) (hw _ (List.mem_of_getElem? (i := 4) rfl)) (hw _ (List.mem_of_getElem? (i := 5) rfl)) (rm1_0 l Z a0 hw bt h23 h0.size k23 (fun _ => (.int (0 : Int32))) K_23.1 V_bt (fun i _ => own_fit0 i)) e23 (g := (mkF m 100 #[.val (.int p0), .val (.int p1), .val (.int p2), .val (.int p3), .val (.int p4), .val (.int p5), .val (.int (0 : Int32)), .val (.ref bv), .val (.ref bt), .unset] [(.ref bt)])) rfl (by rw [hml]; rfl) (argsL := [(.ref bt)]) (rest := []) (lenOf pd_0 rfl) rfl rfl (W := 0) (by show 2 * 0 + _ ≤ _; exact Nat.le_of_eq rfl) (hb hby at_100) (by decide) (by decide) (by decide) (by decide) (by decide)
    obtain ⟨br, kr, g, rfl, N24q, K24, A24, s24⟩ := hQ24
    refine own_go st24 ?_
    have N24 := Fr.app N22 N24q
    show own_Ends _ _ _ _ _ _ _ T24 (mkF m 103 #[.val (.int p0), .val (.int p1), .val (.int p2), .val (.int p3), .val (.int p4), .val (.int p5), .val (.int (0 : Int32)), .val (.ref bv), .val (.ref bt), .unset] [(.ref br)])
    have ne_bt_br : bt ≠ br := Nat.ne_of_lt (Nat.lt_of_lt_of_le V_bt.lt s24)
    have K_24 := K_23.trans K24 all0
    have V_bv_24 := V_bv_23.keep K24 nin0
    have V_bt_24 := V_bt.keep K24 nin0
    show own_Ends _ _ _ _ _ _ _ T24 (mkF m 103 #[.val (.int p0), .val (.int p1), .val (.int p2), .val (.int p3), .val (.int p4), .val (.int p5), .val (.int (0 : Int32)), .val (.ref bv), .val (.ref bt), .unset] [(.ref br)])
    refine own_go (fun _ k => XS.astore X24.here hx rfl (hb hby at_103) rfl rfl (l' := #[.val (.int p0), .val (.int p1), .val (.int p2), .val (.int p3), .val (.int p4), .val (.int p5), .val (.int (0 : Int32)), .val (.ref bv), .val (.ref bt), .val (.ref br)]) rfl k) ?_
    show own_Ends _ _ _ _ _ _ _ T24 (mkF m 105 #[.val (.int p0), .val (.int p1), .val (.int p2), .val (.int p3), .val (.int p4), .val (.int p5), .val (.int (0 : Int32)), .val (.ref bv), .val (.ref bt), .val (.ref br)] [])
    refine own_go (fun _ k => XS.aload X24.here hx rfl (hb hby at_105) rfl rfl k) ?_
    show own_Ends _ _ _ _ _ _ _ T24 (mkF m 107 #[.val (.int p0), .val (.int p1), .val (.int p2), .val (.int p3), .val (.int p4), .val (.int p5), .val (.int (0 : Int32)), .val (.ref bv), .val (.ref bt), .val (.ref br)] [(.ref br)])
    refine own_go (fun _ k => XS.ifnullNo X24.here hx rfl (hb hby at_107) rfl k) ?_
    show own_Ends _ _ _ _ _ _ _ T24 (mkF m 110 #[.val (.int p0), .val (.int p1), .val (.int p2), .val (.int p3), .val (.int p4), .val (.int p5), .val (.int (0 : Int32)), .val (.ref bv), .val (.ref bt), .val (.ref br)] [])
    refine own_go (fun _ k => XS.aload X24.here hx rfl (hb hby at_110) rfl rfl k) ?_
    show own_Ends _ _ _ _ _ _ _ T24 (mkF m 112 #[.val (.int p0), .val (.int p1), .val (.int p2), .val (.int p3), .val (.int p4), .val (.int p5), .val (.int (0 : Int32)), .val (.ref bv), .val (.ref bt), .val (.ref br)] [(.ref br)])
    refine own_go (fun _ k => XS.aload X24.here hx rfl (hb hby at_112) rfl rfl k) ?_
    show own_Ends _ _ _ _ _ _ _ T24 (mkF m 114 #[.val (.int p0), .val (.int p1), .val (.int p2), .val (.int p3), .val (.int p4), .val (.int p5), .val (.int (0 : Int32)), .val (.ref bv), .val (.ref bt), .val (.ref br)] [(.ref bt), (.ref br)])
    refine own_go (fun _ k => Jvm.RoadKit.acmp (g := (mkF m 114 #[.val (.int p0), .val (.int p1), .val (.int p2), .val (.int p3), .val (.int p4), .val (.int p5), .val (.int (0 : Int32)), .val (.ref bv), .val (.ref bt), .val (.ref br)] [(.ref bt), (.ref br)])) X24 hx rfl rfl rfl (pc0 := 114) (pc' := 117) (same := false) rfl (hb hby at_114) rfl (decide_eq_false fun q => ne_bt_br (Value.ref.inj q).symm) (by decide) (by decide) k) ?_
    show own_Ends _ _ _ _ _ _ _ T24 (mkF m 117 #[.val (.int p0), .val (.int p1), .val (.int p2), .val (.int p3), .val (.int p4), .val (.int p5), .val (.int (0 : Int32)), .val (.ref bv), .val (.ref bt), .val (.ref br)] [])
    refine own_go (fun _ k => XS.aload X24.here hx rfl (hb hby at_117) rfl rfl k) ?_
    show own_Ends _ _ _ _ _ _ _ T24 (mkF m 119 #[.val (.int p0), .val (.int p1), .val (.int p2), .val (.int p3), .val (.int p4), .val (.int p5), .val (.int (0 : Int32)), .val (.ref bv), .val (.ref bt), .val (.ref br)] [(.ref br)])
    refine own_go (fun _ k => own_len X24 hx hZ rfl A24 (z := (0 : Int32)) rfl (g := (mkF m 119 #[.val (.int p0), .val (.int p1), .val (.int p2), .val (.int p3), .val (.int p4), .val (.int p5), .val (.int (0 : Int32)), .val (.ref bv), .val (.ref bt), .val (.ref br)] [(.ref br)])) rfl rfl (hb hby at_119) _ k) ?_
    show own_Ends _ _ _ _ _ _ _ T24 (mkF m 120 #[.val (.int p0), .val (.int p1), .val (.int p2), .val (.int p3), .val (.int p4), .val (.int p5), .val (.int (0 : Int32)), .val (.ref bv), .val (.ref bt), .val (.ref br)] [(.int (0 : Int32))])
    refine own_go (fun _ k => XS.iload X24.here hx rfl (hb hby at_120) rfl k) ?_
    show own_Ends _ _ _ _ _ _ _ T24 (mkF m 122 #[.val (.int p0), .val (.int p1), .val (.int p2), .val (.int p3), .val (.int p4), .val (.int p5), .val (.int (0 : Int32)), .val (.ref bv), .val (.ref bt), .val (.ref br)] [(.int (0 : Int32)), (.int (0 : Int32))])
    refine own_go (fun _ k => XS.icmpNo X24.here hx rfl (hb hby at_122) rfl (teq (rfl)).2 k) ?_
    show own_Ends _ _ _ _ _ _ _ T24 (mkF m 125 #[.val (.int p0), .val (.int p1), .val (.int p2), .val (.int p3), .val (.int p4), .val (.int p5), .val (.int (0 : Int32)), .val (.ref bv), .val (.ref bt), .val (.ref br)] [])
    refine own_go (fun _ k => XS.aload X24.here hx rfl (hb hby at_125) rfl rfl k) ?_
    show own_Ends _ _ _ _ _ _ _ T24 (mkF m 127 #[.val (.int p0), .val (.int p1), .val (.int p2), .val (.int p3), .val (.int p4), .val (.int p5), .val (.int (0 : Int32)), .val (.ref bv), .val (.ref bt), .val (.ref br)] [(.ref bt)])
    refine own_go (fun _ k => own_len X24 hx hZ rfl V_bt_24 (z := (0 : Int32)) rfl (g := (mkF m 127 #[.val (.int p0), .val (.int p1), .val (.int p2), .val (.int p3), .val (.int p4), .val (.int p5), .val (.int (0 : Int32)), .val (.ref bv), .val (.ref bt), .val (.ref br)] [(.ref bt)])) rfl rfl (hb hby at_127) _ k) ?_
    show own_Ends _ _ _ _ _ _ _ T24 (mkF m 128 #[.val (.int p0), .val (.int p1), .val (.int p2), .val (.int p3), .val (.int p4), .val (.int p5), .val (.int (0 : Int32)), .val (.ref bv), .val (.ref bt), .val (.ref br)] [(.int (0 : Int32))])
    refine own_go (fun _ k => XS.iload X24.here hx rfl (hb hby at_128) rfl k) ?_
    show own_Ends _ _ _ _ _ _ _ T24 (mkF m 130 #[.val (.int p0), .val (.int p1), .val (.int p2), .val (.int p3), .val (.int p4), .val (.int p5), .val (.int (0 : Int32)), .val (.ref bv), .val (.ref bt), .val (.ref br)] [(.int (0 : Int32)), (.int (0 : Int32))])
    refine own_go (fun _ k => XS.icmpYes X24.here hx rfl (pc0 := 130) (pc' := 135) rfl (hb hby at_130) rfl (teq (rfl)).1 (by decide) (by decide) k) ?_
    show own_Ends _ _ _ _ _ _ _ T24 (mkF m 135 #[.val (.int p0), .val (.int p1), .val (.int p2), .val (.int p3), .val (.int p4), .val (.int p5), .val (.int (0 : Int32)), .val (.ref bv), .val (.ref bt), .val (.ref br)] [])
    refine own_go (fun _ k => XS.aload X24.here hx rfl (hb hby at_135) rfl rfl k) ?_
    show own_Ends _ _ _ _ _ _ _ T24 (mkF m 137 #[.val (.int p0), .val (.int p1), .val (.int p2), .val (.int p3), .val (.int p4), .val (.int p5), .val (.int (0 : Int32)), .val (.ref bv), .val (.ref bt), .val (.ref br)] [(.ref bt)])
    refine own_go (fun _ k => XS.aload X24.here hx rfl (hb hby at_137) rfl rfl k) ?_
    show own_Ends _ _ _ _ _ _ _ T24 (mkF m 139 #[.val (.int p0), .val (.int p1), .val (.int p2), .val (.int p3), .val (.int p4), .val (.int p5), .val (.int (0 : Int32)), .val (.ref bv), .val (.ref bt), .val (.ref br)] [(.ref br), (.ref bt)])
    refine own_go (fun _ k => XS.aload X24.here hx rfl (hb hby at_139) rfl rfl k) ?_
    show own_Ends _ _ _ _ _ _ _ T24 (mkF m 141 #[.val (.int p0), .val (.int p1), .val (.int p2), .val (.int p3), .val (.int p4), .val (.int p5), .val (.int (0 : Int32)), .val (.ref bv), .val (.ref bt), .val (.ref br)] [(.ref bv), (.ref br), (.ref bt)])
    refine own_go (fun _ k => XS.iconst X24.here hx rfl (hb hby at_141) k) ?_
    show own_Ends _ _ _ _ _ _ _ T24 (mkF m 142 #[.val (.int p0), .val (.int p1), .val (.int p2), .val (.int p3), .val (.int p4), .val (.int p5), .val (.int (0 : Int32)), .val (.ref bv), .val (.ref bt), .val (.ref br)] [(.int (0 : Int32)), (.ref bv), (.ref br), (.ref bt)])
    refine own_go (fun _ k => XS.iload X24.here hx rfl (hb hby at_142) rfl k) ?_
    show own_Ends _ _ _ _ _ _ _ T24 (mkF m 144 #[.val (.int p0), .val (.int p1), .val (.int p2), .val (.int p3), .val (.int p4), .val (.int p5), .val (.int (0 : Int32)), .val (.ref bv), .val (.ref bt), .val (.ref br)] [(.int (0 : Int32)), (.int (0 : Int32)), (.ref bv), (.ref br), (.ref bt)])
    obtain ⟨v25, T25, L25, X25, hQ25, st25⟩ := own_callS X24 hx hZ hown (hw _ (List.mem_of_getElem? (i := 6) rfl)) (hw _ (List.mem_of_getElem? (i := 7) rfl)) (hw _ (List.mem_of_getElem? (i := 8) rfl)) (hw _ (List.mem_of_getElem? (i := 9) rfl)) (rm2_hi l Z a0 hw bt br bv (0 : Int32) (0 : Int32) T24.heap (by decide)) rfl (g := (mkF m 144 #[.val (.int p0), .val (.int p1), .val (.int p2), .val (.int p3), .val (.int p4), .val (.int p5), .val (.int (0 : Int32)), .val (.ref bv), .val (.ref bt), .val (.ref br)] [(.int (0 : Int32)), (.int (0 : Int32)), (.ref bv), (.ref br), (.ref bt)])) rfl (by rw [hml]; rfl) (argsL := [(.ref bt), (.ref br), (.ref bv), (.int (0 : Int32)), (.int (0 : Int32))]) (rest := []) (lenOf pd_1 rfl) rfl rfl (W := 0) (by show 2 * 0 + _ ≤ _; exact Nat.le_of_eq rfl) (hb hby at_144) (by decide) (by decide) (by decide) (by decide) (by decide)
    obtain ⟨rfl, rfl, e25⟩ := hQ25
    refine own_go st25 ?_
    have N25 := Fr.app N24 (Fr.nil _)
    show own_Ends _ _ _ _ _ _ _ T25 (mkF m 147 #[.val (.int p0), .val (.int p1), .val (.int p2), .val (.int p3), .val (.int p4), .val (.int p5), .val (.int (0 : Int32)), .val (.ref bv), .val (.ref bt), .val (.ref br)] [(.int (1 : Int32))])
    refine own_go (fun _ k => XS.ifNo X25.here hx rfl (hb hby at_147) rfl ((if0 _ _).trans (feq (by decide)).1) k) ?_
    show own_Ends _ _ _ _ _ _ _ T25 (mkF m 150 #[.val (.int p0), .val (.int p1), .val (.int p2), .val (.int p3), .val (.int p4), .val (.int p5), .val (.int (0 : Int32)), .val (.ref bv), .val (.ref bt), .val (.ref br)] [])
    refine own_go (fun _ k => XS.aload X25.here hx rfl (hb hby at_150) rfl rfl k) ?_
    show own_Ends _ _ _ _ _ _ _ T25 (mkF m 152 #[.val (.int p0), .val (.int p1), .val (.int p2), .val (.int p3), .val (.int p4), .val (.int p5), .val (.int (0 : Int32)), .val (.ref bv), .val (.ref bt), .val (.ref br)] [(.ref bt)])
    refine own_go (fun _ k => XS.aload X25.here hx rfl (hb hby at_152) rfl rfl k) ?_
    show own_Ends _ _ _ _ _ _ _ T25 (mkF m 154 #[.val (.int p0), .val (.int p1), .val (.int p2), .val (.int p3), .val (.int p4), .val (.int p5), .val (.int (0 : Int32)), .val (.ref bv), .val (.ref bt), .val (.ref br)] [(.ref br), (.ref bt)])
    refine own_go (fun _ k => XS.aload X25.here hx rfl (hb hby at_154) rfl rfl k) ?_
    show own_Ends _ _ _ _ _ _ _ T25 (mkF m 156 #[.val (.int p0), .val (.int p1), .val (.int p2), .val (.int p3), .val (.int p4), .val (.int p5), .val (.int (0 : Int32)), .val (.ref bv), .val (.ref bt), .val (.ref br)] [(.ref bv), (.ref br), (.ref bt)])
    refine own_go (fun _ k => XS.iconst X25.here hx rfl (hb hby at_156) k) ?_
    show own_Ends _ _ _ _ _ _ _ T25 (mkF m 157 #[.val (.int p0), .val (.int p1), .val (.int p2), .val (.int p3), .val (.int p4), .val (.int p5), .val (.int (0 : Int32)), .val (.ref bv), .val (.ref bt), .val (.ref br)] [(.int (1 : Int32)), (.ref bv), (.ref br), (.ref bt)])
    refine own_go (fun _ k => XS.iload X25.here hx rfl (hb hby at_157) rfl k) ?_
    show own_Ends _ _ _ _ _ _ _ T25 (mkF m 159 #[.val (.int p0), .val (.int p1), .val (.int p2), .val (.int p3), .val (.int p4), .val (.int p5), .val (.int (0 : Int32)), .val (.ref bv), .val (.ref bt), .val (.ref br)] [(.int (0 : Int32)), (.int (1 : Int32)), (.ref bv), (.ref br), (.ref bt)])
    obtain ⟨v26, T26, L26, X26, hQ26, st26⟩ := own_callS X25 hx hZ hown (hw _ (List.mem_of_getElem? (i := 6) rfl)) (hw _ (List.mem_of_getElem? (i := 7) rfl)) (hw _ (List.mem_of_getElem? (i := 8) rfl)) (hw _ (List.mem_of_getElem? (i := 9) rfl)) (rm2_hi l Z a0 hw bt br bv (1 : Int32) (0 : Int32) T24.heap (by decide)) e25 (g := (mkF m 159 #[.val (.int p0), .val (.int p1), .val (.int p2), .val (.int p3), .val (.int p4), .val (.int p5), .val (.int (0 : Int32)), .val (.ref bv), .val (.ref bt), .val (.ref br)] [(.int (0 : Int32)), (.int (1 : Int32)), (.ref bv), (.ref br), (.ref bt)])) rfl (by rw [hml]; rfl) (argsL := [(.ref bt), (.ref br), (.ref bv), (.int (1 : Int32)), (.int (0 : Int32))]) (rest := []) (lenOf pd_1 rfl) rfl rfl (W := 0) (by show 2 * 0 + _ ≤ _; exact Nat.le_of_eq rfl) (hb hby at_159) (by decide) (by decide) (by decide) (by decide) (by decide)
    obtain ⟨rfl, rfl, e26⟩ := hQ26
    refine own_go st26 ?_
    have N26 := Fr.app N25 (Fr.nil _)
    show own_Ends _ _ _ _ _ _ _ T26 (mkF m 162 #[.val (.int p0), .val (.int p1), .val (.int p2), .val (.int p3), .val (.int p4), .val (.int p5), .val (.int (0 : Int32)), .val (.ref bv), .val (.ref bt), .val (.ref br)] [(.int (1 : Int32))])
    refine own_go (fun _ k => XS.ifNo X26.here hx rfl (hb hby at_162) rfl ((if0 _ _).trans (feq (by decide)).1) k) ?_
    show own_Ends _ _ _ _ _ _ _ T26 (mkF m 165 #[.val (.int p0), .val (.int p1), .val (.int p2), .val (.int p3), .val (.int p4), .val (.int p5), .val (.int (0 : Int32)), .val (.ref bv), .val (.ref bt), .val (.ref br)] [])
    refine own_go (fun _ k => XS.aload X26.here hx rfl (hb hby at_165) rfl rfl k) ?_
    show own_Ends _ _ _ _ _ _ _ T26 (mkF m 167 #[.val (.int p0), .val (.int p1), .val (.int p2), .val (.int p3), .val (.int p4), .val (.int p5), .val (.int (0 : Int32)), .val (.ref bv), .val (.ref bt), .val (.ref br)] [(.ref bt)])
    refine own_go (fun _ k => XS.aload X26.here hx rfl (hb hby at_167) rfl rfl k) ?_
    show own_Ends _ _ _ _ _ _ _ T26 (mkF m 169 #[.val (.int p0), .val (.int p1), .val (.int p2), .val (.int p3), .val (.int p4), .val (.int p5), .val (.int (0 : Int32)), .val (.ref bv), .val (.ref bt), .val (.ref br)] [(.ref br), (.ref bt)])
    refine own_go (fun _ k => XS.aload X26.here hx rfl (hb hby at_169) rfl rfl k) ?_
    show own_Ends _ _ _ _ _ _ _ T26 (mkF m 171 #[.val (.int p0), .val (.int p1), .val (.int p2), .val (.int p3), .val (.int p4), .val (.int p5), .val (.int (0 : Int32)), .val (.ref bv), .val (.ref bt), .val (.ref br)] [(.ref bv), (.ref br), (.ref bt)])
    refine own_go (fun _ k => XS.iconst X26.here hx rfl (hb hby at_171) k) ?_
    show own_Ends _ _ _ _ _ _ _ T26 (mkF m 172 #[.val (.int p0), .val (.int p1), .val (.int p2), .val (.int p3), .val (.int p4), .val (.int p5), .val (.int (0 : Int32)), .val (.ref bv), .val (.ref bt), .val (.ref br)] [(.int (2 : Int32)), (.ref bv), (.ref br), (.ref bt)])
    refine own_go (fun _ k => XS.iload X26.here hx rfl (hb hby at_172) rfl k) ?_
    show own_Ends _ _ _ _ _ _ _ T26 (mkF m 174 #[.val (.int p0), .val (.int p1), .val (.int p2), .val (.int p3), .val (.int p4), .val (.int p5), .val (.int (0 : Int32)), .val (.ref bv), .val (.ref bt), .val (.ref br)] [(.int (0 : Int32)), (.int (2 : Int32)), (.ref bv), (.ref br), (.ref bt)])
    obtain ⟨v27, T27, L27, X27, hQ27, st27⟩ := own_callS X26 hx hZ hown (hw _ (List.mem_of_getElem? (i := 6) rfl)) (hw _ (List.mem_of_getElem? (i := 7) rfl)) (hw _ (List.mem_of_getElem? (i := 8) rfl)) (hw _ (List.mem_of_getElem? (i := 9) rfl)) (rm2_hi l Z a0 hw bt br bv (2 : Int32) (0 : Int32) T24.heap (by decide)) e26 (g := (mkF m 174 #[.val (.int p0), .val (.int p1), .val (.int p2), .val (.int p3), .val (.int p4), .val (.int p5), .val (.int (0 : Int32)), .val (.ref bv), .val (.ref bt), .val (.ref br)] [(.int (0 : Int32)), (.int (2 : Int32)), (.ref bv), (.ref br), (.ref bt)])) rfl (by rw [hml]; rfl) (argsL := [(.ref bt), (.ref br), (.ref bv), (.int (2 : Int32)), (.int (0 : Int32))]) (rest := []) (lenOf pd_1 rfl) rfl rfl (W := 0) (by show 2 * 0 + _ ≤ _; exact Nat.le_of_eq rfl) (hb hby at_174) (by decide) (by decide) (by decide) (by decide) (by decide)
    obtain ⟨rfl, rfl, e27⟩ := hQ27
    refine own_go st27 ?_
    have N27 := Fr.app N26 (Fr.nil _)
    show own_Ends _ _ _ _ _ _ _ T27 (mkF m 177 #[.val (.int p0), .val (.int p1), .val (.int p2), .val (.int p3), .val (.int p4), .val (.int p5), .val (.int (0 : Int32)), .val (.ref bv), .val (.ref bt), .val (.ref br)] [(.int (1 : Int32))])
    refine own_go (fun _ k => XS.ifNo X27.here hx rfl (hb hby at_177) rfl ((if0 _ _).trans (feq (by decide)).1) k) ?_
    show own_Ends _ _ _ _ _ _ _ T27 (mkF m 180 #[.val (.int p0), .val (.int p1), .val (.int p2), .val (.int p3), .val (.int p4), .val (.int p5), .val (.int (0 : Int32)), .val (.ref bv), .val (.ref bt), .val (.ref br)] [])
    refine own_go (fun _ k => XS.aload X27.here hx rfl (hb hby at_180) rfl rfl k) ?_
    show own_Ends _ _ _ _ _ _ _ T27 (mkF m 182 #[.val (.int p0), .val (.int p1), .val (.int p2), .val (.int p3), .val (.int p4), .val (.int p5), .val (.int (0 : Int32)), .val (.ref bv), .val (.ref bt), .val (.ref br)] [(.ref bt)])
    refine own_go (fun _ k => XS.aload X27.here hx rfl (hb hby at_182) rfl rfl k) ?_
    show own_Ends _ _ _ _ _ _ _ T27 (mkF m 184 #[.val (.int p0), .val (.int p1), .val (.int p2), .val (.int p3), .val (.int p4), .val (.int p5), .val (.int (0 : Int32)), .val (.ref bv), .val (.ref bt), .val (.ref br)] [(.ref br), (.ref bt)])
    refine own_go (fun _ k => XS.aload X27.here hx rfl (hb hby at_184) rfl rfl k) ?_
    show own_Ends _ _ _ _ _ _ _ T27 (mkF m 186 #[.val (.int p0), .val (.int p1), .val (.int p2), .val (.int p3), .val (.int p4), .val (.int p5), .val (.int (0 : Int32)), .val (.ref bv), .val (.ref bt), .val (.ref br)] [(.ref bv), (.ref br), (.ref bt)])
    refine own_go (fun _ k => XS.iconst X27.here hx rfl (hb hby at_186) k) ?_
    show own_Ends _ _ _ _ _ _ _ T27 (mkF m 187 #[.val (.int p0), .val (.int p1), .val (.int p2), .val (.int p3), .val (.int p4), .val (.int p5), .val (.int (0 : Int32)), .val (.ref bv), .val (.ref bt), .val (.ref br)] [(.int (3 : Int32)), (.ref bv), (.ref br), (.ref bt)])
    refine own_go (fun _ k => XS.iload X27.here hx rfl (hb hby at_187) rfl k) ?_
    show own_Ends _ _ _ _ _ _ _ T27 (mkF m 189 #[.val (.int p0), .val (.int p1), .val (.int p2), .val (.int p3), .val (.int p4), .val (.int p5), .val (.int (0 : Int32)), .val (.ref bv), .val (.ref bt), .val (.ref br)] [(.int (0 : Int32)), (.int (3 : Int32)), (.ref bv), (.ref br), (.ref bt)])
    obtain ⟨v28, T28, L28, X28, hQ28, st28⟩ := own_callS X27 hx hZ hown (hw _ (List.mem_of_getElem? (i := 6) rfl)) (hw _ (List.mem_of_getElem? (i := 7) rfl)) (hw _ (List.mem_of_getElem? (i := 8) rfl)) (hw _ (List.mem_of_getElem? (i := 9) rfl)) (rm2_hi l Z a0 hw bt br bv (3 : Int32) (0 : Int32) T24.heap (by decide)) e27 (g := (mkF m 189 #[.val (.int p0), .val (.int p1), .val (.int p2), .val (.int p3), .val (.int p4), .val (.int p5), .val (.int (0 : Int32)), .val (.ref bv), .val (.ref bt), .val (.ref br)] [(.int (0 : Int32)), (.int (3 : Int32)), (.ref bv), (.ref br), (.ref bt)])) rfl (by rw [hml]; rfl) (argsL := [(.ref bt), (.ref br), (.ref bv), (.int (3 : Int32)), (.int (0 : Int32))]) (rest := []) (lenOf pd_1 rfl) rfl rfl (W := 0) (by show 2 * 0 + _ ≤ _; exact Nat.le_of_eq rfl) (hb hby at_189) (by decide) (by decide) (by decide) (by decide) (by decide)
    obtain ⟨rfl, rfl, e28⟩ := hQ28
    refine own_go st28 ?_
    have N28 := Fr.app N27 (Fr.nil _)
    show own_Ends _ _ _ _ _ _ _ T28 (mkF m 192 #[.val (.int p0), .val (.int p1), .val (.int p2), .val (.int p3), .val (.int p4), .val (.int p5), .val (.int (0 : Int32)), .val (.ref bv), .val (.ref bt), .val (.ref br)] [(.int (1 : Int32))])
    refine own_go (fun _ k => XS.ifNo X28.here hx rfl (hb hby at_192) rfl ((if0 _ _).trans (feq (by decide)).1) k) ?_
    show own_Ends _ _ _ _ _ _ _ T28 (mkF m 195 #[.val (.int p0), .val (.int p1), .val (.int p2), .val (.int p3), .val (.int p4), .val (.int p5), .val (.int (0 : Int32)), .val (.ref bv), .val (.ref bt), .val (.ref br)] [])
    refine own_go (fun _ k => XS.aload X28.here hx rfl (hb hby at_195) rfl rfl k) ?_
    show own_Ends _ _ _ _ _ _ _ T28 (mkF m 197 #[.val (.int p0), .val (.int p1), .val (.int p2), .val (.int p3), .val (.int p4), .val (.int p5), .val (.int (0 : Int32)), .val (.ref bv), .val (.ref bt), .val (.ref br)] [(.ref bt)])
    refine own_go (fun _ k => XS.aload X28.here hx rfl (hb hby at_197) rfl rfl k) ?_
    show own_Ends _ _ _ _ _ _ _ T28 (mkF m 199 #[.val (.int p0), .val (.int p1), .val (.int p2), .val (.int p3), .val (.int p4), .val (.int p5), .val (.int (0 : Int32)), .val (.ref bv), .val (.ref bt), .val (.ref br)] [(.ref br), (.ref bt)])
    refine own_go (fun _ k => XS.aload X28.here hx rfl (hb hby at_199) rfl rfl k) ?_
    show own_Ends _ _ _ _ _ _ _ T28 (mkF m 201 #[.val (.int p0), .val (.int p1), .val (.int p2), .val (.int p3), .val (.int p4), .val (.int p5), .val (.int (0 : Int32)), .val (.ref bv), .val (.ref bt), .val (.ref br)] [(.ref bv), (.ref br), (.ref bt)])
    refine own_go (fun _ k => XS.iconst X28.here hx rfl (hb hby at_201) k) ?_
    show own_Ends _ _ _ _ _ _ _ T28 (mkF m 202 #[.val (.int p0), .val (.int p1), .val (.int p2), .val (.int p3), .val (.int p4), .val (.int p5), .val (.int (0 : Int32)), .val (.ref bv), .val (.ref bt), .val (.ref br)] [(.int (4 : Int32)), (.ref bv), (.ref br), (.ref bt)])
    refine own_go (fun _ k => XS.iload X28.here hx rfl (hb hby at_202) rfl k) ?_
    show own_Ends _ _ _ _ _ _ _ T28 (mkF m 204 #[.val (.int p0), .val (.int p1), .val (.int p2), .val (.int p3), .val (.int p4), .val (.int p5), .val (.int (0 : Int32)), .val (.ref bv), .val (.ref bt), .val (.ref br)] [(.int (0 : Int32)), (.int (4 : Int32)), (.ref bv), (.ref br), (.ref bt)])
    obtain ⟨v29, T29, L29, X29, hQ29, st29⟩ := own_callS X28 hx hZ hown (hw _ (List.mem_of_getElem? (i := 6) rfl)) (hw _ (List.mem_of_getElem? (i := 7) rfl)) (hw _ (List.mem_of_getElem? (i := 8) rfl)) (hw _ (List.mem_of_getElem? (i := 9) rfl)) (rm2_hi l Z a0 hw bt br bv (4 : Int32) (0 : Int32) T24.heap (by decide)) e28 (g := (mkF m 204 #[.val (.int p0), .val (.int p1), .val (.int p2), .val (.int p3), .val (.int p4), .val (.int p5), .val (.int (0 : Int32)), .val (.ref bv), .val (.ref bt), .val (.ref br)] [(.int (0 : Int32)), (.int (4 : Int32)), (.ref bv), (.ref br), (.ref bt)])) rfl (by rw [hml]; rfl) (argsL := [(.ref bt), (.ref br), (.ref bv), (.int (4 : Int32)), (.int (0 : Int32))]) (rest := []) (lenOf pd_1 rfl) rfl rfl (W := 0) (by show 2 * 0 + _ ≤ _; exact Nat.le_of_eq rfl) (hb hby at_204) (by decide) (by decide) (by decide) (by decide) (by decide)
    obtain ⟨rfl, rfl, e29⟩ := hQ29
    refine own_go st29 ?_
    have N29 := Fr.app N28 (Fr.nil _)
    show own_Ends _ _ _ _ _ _ _ T29 (mkF m 207 #[.val (.int p0), .val (.int p1), .val (.int p2), .val (.int p3), .val (.int p4), .val (.int p5), .val (.int (0 : Int32)), .val (.ref bv), .val (.ref bt), .val (.ref br)] [(.int (1 : Int32))])
    refine own_go (fun _ k => XS.ifNo X29.here hx rfl (hb hby at_207) rfl ((if0 _ _).trans (feq (by decide)).1) k) ?_
    show own_Ends _ _ _ _ _ _ _ T29 (mkF m 210 #[.val (.int p0), .val (.int p1), .val (.int p2), .val (.int p3), .val (.int p4), .val (.int p5), .val (.int (0 : Int32)), .val (.ref bv), .val (.ref bt), .val (.ref br)] [])
    refine own_go (fun _ k => XS.iconst X29.here hx rfl (hb hby at_210) k) ?_
    show own_Ends _ _ _ _ _ _ _ T29 (mkF m 211 #[.val (.int p0), .val (.int p1), .val (.int p2), .val (.int p3), .val (.int p4), .val (.int p5), .val (.int (0 : Int32)), .val (.ref bv), .val (.ref bt), .val (.ref br)] [(.int (1 : Int32))])
    refine own_go (fun _ k => XS.goto X29.here hx rfl (pc0 := 211) (pc' := 215) rfl (hb hby at_211) (by decide) (by decide) k) ?_
    show own_Ends _ _ _ _ _ _ _ T29 (mkF m 215 #[.val (.int p0), .val (.int p1), .val (.int p2), .val (.int p3), .val (.int p4), .val (.int p5), .val (.int (0 : Int32)), .val (.ref bv), .val (.ref bt), .val (.ref br)] [(.int (1 : Int32))])
    exact own_retZ X29 hx hlk hret (by decide) (hb hby at_215) (by decide) (by decide) ⟨rfl, N29⟩
  · rw [show ((p0 &&& (2147483647 : Int32)) % (6 : Int32)) = (1 : Int32) from hn]
    show own_Ends _ _ _ _ _ _ _ T22 (mkF m 38 #[.val (.int p0), .val (.int p1), .val (.int p2), .val (.int p3), .val (.int p4), .val (.int p5), .val (.int (1 : Int32)), .val (.ref bv), .unset, .unset] [(.int (1 : Int32))])
    obtain ⟨T30, h30, k30, X30, e30, E30, A30, st30⟩ := own_newP X22 hx hZ (aty := .int) (hw _ (List.mem_of_getElem? (i := 1) rfl)) e22 (g := (mkF m 38 #[.val (.int p0), .val (.int p1), .val (.int p2), .val (.int p3), .val (.int p4), .val (.int p5), .val (.int (1 : Int32)), .val (.ref bv), .unset, .unset] [(.int (1 : Int32))])) rfl (hb hby at_38) rfl (by decide) (n := 1) (by decide) (cap := 1) (by decide) (by decide) (by decide) (by decide)
    obtain ⟨bt, gq30⟩ : ∃ z, z = h22.size := ⟨_, rfl⟩
    rw [← gq30] at A30 st30
    have ne_bv_bt : bv ≠ bt := Nat.ne_of_lt (Nat.lt_of_lt_of_le V22.lt (Nat.le_of_eq gq30.symm))
    have sz_bt : h0.size ≤ bt := Nat.le_trans K_22.1 (Nat.le_of_eq gq30.symm)
    have g_bt : h0.size ≤ bt := Nat.le_trans (Nat.le_refl _) sz_bt
    have K_30 := K_22.ext E30
    have V_bv_30 := V22.ext E30
    have V_bt : own_Ar Z h30 bt k30 .int 1 (fun _ => (.int (0 : Int32))) := A30
    refine own_go st30 ?_
    show own_Ends _ _ _ _ _ _ _ T30 (mkF m 40 #[.val (.int p0), .val (.int p1), .val (.int p2), .val (.int p3), .val (.int p4), .val (.int p5), .val (.int (1 : Int32)), .val (.ref bv), .unset, .unset] [(.ref bt)])
    refine own_go (fun _ k => XS.astore X30.here hx rfl (hb hby at_40) rfl rfl (l' := #[.val (.int p0), .val (.int p1), .val (.int p2), .val (.int p3), .val (.int p4), .val (.int p5), .val (.int (1 : Int32)), .val (.ref bv), .val (.ref bt), .unset]) rfl k) ?_
    show own_Ends _ _ _ _ _ _ _ T30 (mkF m 42 #[.val (.int p0), .val (.int p1), .val (.int p2), .val (.int p3), .val (.int p4), .val (.int p5), .val (.int (1 : Int32)), .val (.ref bv), .val (.ref bt), .unset] [])
    refine own_go (fun _ k => XS.iload X30.here hx rfl (hb hby at_42) rfl k) ?_
    show own_Ends _ _ _ _ _ _ _ T30 (mkF m 44 #[.val (.int p0), .val (.int p1), .val (.int p2), .val (.int p3), .val (.int p4), .val (.int p5), .val (.int (1 : Int32)), .val (.ref bv), .val (.ref bt), .unset] [(.int (1 : Int32))])
    refine own_go (fun _ k => XS.ifNo X30.here hx rfl (hb hby at_44) rfl ((if0 _ _).trans (tlt (by decide)).2.2.2) k) ?_
    show own_Ends _ _ _ _ _ _ _ T30 (mkF m 47 #[.val (.int p0), .val (.int p1), .val (.int p2), .val (.int p3), .val (.int p4), .val (.int p5), .val (.int (1 : Int32)), .val (.ref bv), .val (.ref bt), .unset] [])
    refine own_go (fun _ k => XS.aload X30.here hx rfl (hb hby at_47) rfl rfl k) ?_
    show own_Ends _ _ _ _ _ _ _ T30 (mkF m 49 #[.val (.int p0), .val (.int p1), .val (.int p2), .val (.int p3), .val (.int p4), .val (.int p5), .val (.int (1 : Int32)), .val (.ref bv), .val (.ref bt), .unset] [(.ref bt)])
    refine own_go (fun _ k => XS.iconst X30.here hx rfl (hb hby at_49) k) ?_
    show own_Ends _ _ _ _ _ _ _ T30 (mkF m 50 #[.val (.int p0), .val (.int p1), .val (.int p2), .val (.int p3), .val (.int p4), .val (.int p5), .val (.int (1 : Int32)), .val (.ref bv), .val (.ref bt), .unset] [(.int (0 : Int32)), (.ref bt)])
    refine own_go (fun _ k => XS.iloadN X30.here hx rfl (hb hby at_50) rfl k) ?_
    show own_Ends _ _ _ _ _ _ _ T30 (mkF m 51 #[.val (.int p0), .val (.int p1), .val (.int p2), .val (.int p3), .val (.int p4), .val (.int p5), .val (.int (1 : Int32)), .val (.ref bv), .val (.ref bt), .unset] [(.int p1), (.int (0 : Int32)), (.ref bt)])
    obtain ⟨T31, h31, X31, e31, W31, V31, st31⟩ := own_stI X30 hx hZ e30 V_bt (i := 0) (by decide) (by decide) (by decide) (g := (mkF m 51 #[.val (.int p0), .val (.int p1), .val (.int p2), .val (.int p3), .val (.int p4), .val (.int p5), .val (.int (1 : Int32)), .val (.ref bv), .val (.ref bt), .unset] [(.int p1), (.int (0 : Int32)), (.ref bt)])) rfl rfl (hb hby at_51)
    have N31 := Fr.snoc X31 N22 g_bt
    have K_31 := K_30.wr W31 (Or.inr sz_bt)
    have V_bv_31 := V_bv_30.other W31 ne_bv_bt
    refine own_go st31 ?_
    show own_Ends _ _ _ _ _ _ _ T31 (mkF m 52 #[.val (.int p0), .val (.int p1), .val (.int p2), .val (.int p3), .val (.int p4), .val (.int p5), .val (.int (1 : Int32)), .val (.ref bv), .val (.ref bt), .unset] [])
    refine own_go (fun _ k => XS.iload X31.here hx rfl (hb hby at_52) rfl k) ?_
    show own_Ends _ _ _ _ _ _ _ T31 (mkF m 54 #[.val (.int p0), .val (.int p1), .val (.int p2), .val (.int p3), .val (.int p4), .val (.int p5), .val (.int (1 : Int32)), .val (.ref bv), .val (.ref bt), .unset] [(.int (1 : Int32))])
    refine own_go (fun _ k => XS.iconst X31.here hx rfl (hb hby at_54) k) ?_
    show own_Ends _ _ _ _ _ _ _ T31 (mkF m 55 #[.val (.int p0), .val (.int p1), .val (.int p2), .val (.int p3), .val (.int p4), .val (.int p5), .val (.int (1 : Int32)), .val (.ref bv), .val (.ref bt), .unset] [(.int (1 : Int32)), (.int (1 : Int32))])
    refine own_go (fun _ k => XS.icmpYes X31.here hx rfl (pc0 := 55) (pc' := 63) rfl (hb hby at_55) rfl (flt (by decide)).2.2.2 (by decide) (by decide) k) ?_
    show own_Ends _ _ _ _ _ _ _ T31 (mkF m 63 #[.val (.int p0), .val (.int p1), .val (.int p2), .val (.int p3), .val (.int p4), .val (.int p5), .val (.int (1 : Int32)), .val (.ref bv), .val (.ref bt), .unset] [])
    refine own_go (fun _ k => XS.iload X31.here hx rfl (hb hby at_63) rfl k) ?_
    show own_Ends _ _ _ _ _ _ _ T31 (mkF m 65 #[.val (.int p0), .val (.int p1), .val (.int p2), .val (.int p3), .val (.int p4), .val (.int p5), .val (.int (1 : Int32)), .val (.ref bv), .val (.ref bt), .unset] [(.int (1 : Int32))])
    refine own_go (fun _ k => XS.iconst X31.here hx rfl (hb hby at_65) k) ?_
    show own_Ends _ _ _ _ _ _ _ T31 (mkF m 66 #[.val (.int p0), .val (.int p1), .val (.int p2), .val (.int p3), .val (.int p4), .val (.int p5), .val (.int (1 : Int32)), .val (.ref bv), .val (.ref bt), .unset] [(.int (2 : Int32)), (.int (1 : Int32))])
    refine own_go (fun _ k => XS.icmpYes X31.here hx rfl (pc0 := 66) (pc' := 74) rfl (hb hby at_66) rfl (flt (by decide)).2.2.2 (by decide) (by decide) k) ?_
    show own_Ends _ _ _ _ _ _ _ T31 (mkF m 74 #[.val (.int p0), .val (.int p1), .val (.int p2), .val (.int p3), .val (.int p4), .val (.int p5), .val (.int (1 : Int32)), .val (.ref bv), .val (.ref bt), .unset] [])
    refine own_go (fun _ k => XS.iload X31.here hx rfl (hb hby at_74) rfl k) ?_
    show own_Ends _ _ _ _ _ _ _ T31 (mkF m 76 #[.val (.int p0), .val (.int p1), .val (.int p2), .val (.int p3), .val (.int p4), .val (.int p5), .val (.int (1 : Int32)), .val (.ref bv), .val (.ref bt), .unset] [(.int (1 : Int32))])
    refine own_go (fun _ k => XS.iconst X31.here hx rfl (hb hby at_76) k) ?_
    show own_Ends _ _ _ _ _ _ _ T31 (mkF m 77 #[.val (.int p0), .val (.int p1), .val (.int p2), .val (.int p3), .val (.int p4), .val (.int p5), .val (.int (1 : Int32)), .val (.ref bv), .val (.ref bt), .unset] [(.int (3 : Int32)), (.int (1 : Int32))])
    refine own_go (fun _ k => XS.icmpYes X31.here hx rfl (pc0 := 77) (pc' := 86) rfl (hb hby at_77) rfl (flt (by decide)).2.2.2 (by decide) (by decide) k) ?_
    show own_Ends _ _ _ _ _ _ _ T31 (mkF m 86 #[.val (.int p0), .val (.int p1), .val (.int p2), .val (.int p3), .val (.int p4), .val (.int p5), .val (.int (1 : Int32)), .val (.ref bv), .val (.ref bt), .unset] [])
    refine own_go (fun _ k => XS.iload X31.here hx rfl (hb hby at_86) rfl k) ?_
    show own_Ends _ _ _ _ _ _ _ T31 (mkF m 88 #[.val (.int p0), .val (.int p1), .val (.int p2), .val (.int p3), .val (.int p4), .val (.int p5), .val (.int (1 : Int32)), .val (.ref bv), .val (.ref bt), .unset] [(.int (1 : Int32))])
    refine own_go (fun _ k => XS.iconst X31.here hx rfl (hb hby at_88) k) ?_
    show own_Ends _ _ _ _ _ _ _ T31 (mkF m 89 #[.val (.int p0), .val (.int p1), .val (.int p2), .val (.int p3), .val (.int p4), .val (.int p5), .val (.int (1 : Int32)), .val (.ref bv), .val (.ref bt), .unset] [(.int (4 : Int32)), (.int (1 : Int32))])
    refine own_go (fun _ k => XS.icmpYes X31.here hx rfl (pc0 := 89) (pc' := 98) rfl (hb hby at_89) rfl (flt (by decide)).2.2.2 (by decide) (by decide) k) ?_
    show own_Ends _ _ _ _ _ _ _ T31 (mkF m 98 #[.val (.int p0), .val (.int p1), .val (.int p2), .val (.int p3), .val (.int p4), .val (.int p5), .val (.int (1 : Int32)), .val (.ref bv), .val (.ref bt), .unset] [])
    refine own_go (fun _ k => XS.aload X31.here hx rfl (hb hby at_98) rfl rfl k) ?_
    show own_Ends _ _ _ _ _ _ _ T31 (mkF m 100 #[.val (.int p0), .val (.int p1), .val (.int p2), .val (.int p3), .val (.int p4), .val (.int p5), .val (.int (1 : Int32)), .val (.ref bv), .val (.ref bt), .unset] [(.ref bt)])
    obtain ⟨v32, T32, L32, X32, hQ32, st32⟩ := own_callS X31 hx hZ hown (hw _ (List.mem_of_getElem? (i := 2) rfl)) (hw _ (List.mem_of_getElem? (i := 3) rfl)) (hw _ (List.mem_of_getElem? (i := 4) rfl)) (hw _ (List.mem_of_getElem? (i := 5) rfl)) (rm1_1 l Z a0 hw bt h31 h0.size k30 (fun j => if j = 0 then (.int p1) else (fun _ => (.int (0 : Int32))) j) K_31.1 V31 (fun i _ => (own_fit_set own_fit0) i)) e31 (g := (mkF m 100 #[.val (.int p0), .val (.int p1), .val (.int p2), .val (.int p3), .val (.int p4), .val (.int p5), .val (.int (1 : Int32)), .val (.ref bv), .val (.ref bt), .unset] [(.ref bt)])) rfl (by rw [hml]; rfl) (argsL := [(.ref bt)]) (rest := []) (lenOf pd_0 rfl) rfl rfl (W := 0) (by show 2 * 0 + _ ≤ _; exact Nat.le_of_eq rfl) (hb hby at_100) (by decide) (by decide) (by decide) (by decide) (by decide)
    obtain ⟨br, kr, g, rfl, N32q, K32, A32, s32, g0⟩ := hQ32
    refine own_go st32 ?_
    have N32 := Fr.app N31 N32q
    show own_Ends _ _ _ _ _ _ _ T32 (mkF m 103 #[.val (.int p0), .val (.int p1), .val (.int p2), .val (.int p3), .val (.int p4), .val (.int p5), .val (.int (1 : Int32)), .val (.ref bv), .val (.ref bt), .unset] [(.ref br)])
    have ne_bt_br : bt ≠ br := Nat.ne_of_lt (Nat.lt_of_lt_of_le V31.lt s32)
    have K_32 := K_31.trans K32 all0
    have V_bv_32 := V_bv_31.keep K32 nin0
    have V_bt_32 := V31.keep K32 nin0
    show own_Ends _ _ _ _ _ _ _ T32 (mkF m 103 #[.val (.int p0), .val (.int p1), .val (.int p2), .val (.int p3), .val (.int p4), .val (.int p5), .val (.int (1 : Int32)), .val (.ref bv), .val (.ref bt), .unset] [(.ref br)])
    refine own_go (fun _ k => XS.astore X32.here hx rfl (hb hby at_103) rfl rfl (l' := #[.val (.int p0), .val (.int p1), .val (.int p2), .val (.int p3), .val (.int p4), .val (.int p5), .val (.int (1 : Int32)), .val (.ref bv), .val (.ref bt), .val (.ref br)]) rfl k) ?_
    show own_Ends _ _ _ _ _ _ _ T32 (mkF m 105 #[.val (.int p0), .val (.int p1), .val (.int p2), .val (.int p3), .val (.int p4), .val (.int p5), .val (.int (1 : Int32)), .val (.ref bv), .val (.ref bt), .val (.ref br)] [])
    refine own_go (fun _ k => XS.aload X32.here hx rfl (hb hby at_105) rfl rfl k) ?_
    show own_Ends _ _ _ _ _ _ _ T32 (mkF m 107 #[.val (.int p0), .val (.int p1), .val (.int p2), .val (.int p3), .val (.int p4), .val (.int p5), .val (.int (1 : Int32)), .val (.ref bv), .val (.ref bt), .val (.ref br)] [(.ref br)])
    refine own_go (fun _ k => XS.ifnullNo X32.here hx rfl (hb hby at_107) rfl k) ?_
    show own_Ends _ _ _ _ _ _ _ T32 (mkF m 110 #[.val (.int p0), .val (.int p1), .val (.int p2), .val (.int p3), .val (.int p4), .val (.int p5), .val (.int (1 : Int32)), .val (.ref bv), .val (.ref bt), .val (.ref br)] [])
    refine own_go (fun _ k => XS.aload X32.here hx rfl (hb hby at_110) rfl rfl k) ?_
    show own_Ends _ _ _ _ _ _ _ T32 (mkF m 112 #[.val (.int p0), .val (.int p1), .val (.int p2), .val (.int p3), .val (.int p4), .val (.int p5), .val (.int (1 : Int32)), .val (.ref bv), .val (.ref bt), .val (.ref br)] [(.ref br)])
    refine own_go (fun _ k => XS.aload X32.here hx rfl (hb hby at_112) rfl rfl k) ?_
    show own_Ends _ _ _ _ _ _ _ T32 (mkF m 114 #[.val (.int p0), .val (.int p1), .val (.int p2), .val (.int p3), .val (.int p4), .val (.int p5), .val (.int (1 : Int32)), .val (.ref bv), .val (.ref bt), .val (.ref br)] [(.ref bt), (.ref br)])
    refine own_go (fun _ k => Jvm.RoadKit.acmp (g := (mkF m 114 #[.val (.int p0), .val (.int p1), .val (.int p2), .val (.int p3), .val (.int p4), .val (.int p5), .val (.int (1 : Int32)), .val (.ref bv), .val (.ref bt), .val (.ref br)] [(.ref bt), (.ref br)])) X32 hx rfl rfl rfl (pc0 := 114) (pc' := 117) (same := false) rfl (hb hby at_114) rfl (decide_eq_false fun q => ne_bt_br (Value.ref.inj q).symm) (by decide) (by decide) k) ?_
    show own_Ends _ _ _ _ _ _ _ T32 (mkF m 117 #[.val (.int p0), .val (.int p1), .val (.int p2), .val (.int p3), .val (.int p4), .val (.int p5), .val (.int (1 : Int32)), .val (.ref bv), .val (.ref bt), .val (.ref br)] [])
    refine own_go (fun _ k => XS.aload X32.here hx rfl (hb hby at_117) rfl rfl k) ?_
    show own_Ends _ _ _ _ _ _ _ T32 (mkF m 119 #[.val (.int p0), .val (.int p1), .val (.int p2), .val (.int p3), .val (.int p4), .val (.int p5), .val (.int (1 : Int32)), .val (.ref bv), .val (.ref bt), .val (.ref br)] [(.ref br)])
    refine own_go (fun _ k => own_len X32 hx hZ rfl A32 (z := (1 : Int32)) rfl (g := (mkF m 119 #[.val (.int p0), .val (.int p1), .val (.int p2), .val (.int p3), .val (.int p4), .val (.int p5), .val (.int (1 : Int32)), .val (.ref bv), .val (.ref bt), .val (.ref br)] [(.ref br)])) rfl rfl (hb hby at_119) _ k) ?_
    show own_Ends _ _ _ _ _ _ _ T32 (mkF m 120 #[.val (.int p0), .val (.int p1), .val (.int p2), .val (.int p3), .val (.int p4), .val (.int p5), .val (.int (1 : Int32)), .val (.ref bv), .val (.ref bt), .val (.ref br)] [(.int (1 : Int32))])
    refine own_go (fun _ k => XS.iload X32.here hx rfl (hb hby at_120) rfl k) ?_
    show own_Ends _ _ _ _ _ _ _ T32 (mkF m 122 #[.val (.int p0), .val (.int p1), .val (.int p2), .val (.int p3), .val (.int p4), .val (.int p5), .val (.int (1 : Int32)), .val (.ref bv), .val (.ref bt), .val (.ref br)] [(.int (1 : Int32)), (.int (1 : Int32))])
    refine own_go (fun _ k => XS.icmpNo X32.here hx rfl (hb hby at_122) rfl (teq (rfl)).2 k) ?_
    show own_Ends _ _ _ _ _ _ _ T32 (mkF m 125 #[.val (.int p0), .val (.int p1), .val (.int p2), .val (.int p3), .val (.int p4), .val (.int p5), .val (.int (1 : Int32)), .val (.ref bv), .val (.ref bt), .val (.ref br)] [])
    refine own_go (fun _ k => XS.aload X32.here hx rfl (hb hby at_125) rfl rfl k) ?_
    show own_Ends _ _ _ _ _ _ _ T32 (mkF m 127 #[.val (.int p0), .val (.int p1), .val (.int p2), .val (.int p3), .val (.int p4), .val (.int p5), .val (.int (1 : Int32)), .val (.ref bv), .val (.ref bt), .val (.ref br)] [(.ref bt)])
    refine own_go (fun _ k => own_len X32 hx hZ rfl V_bt_32 (z := (1 : Int32)) rfl (g := (mkF m 127 #[.val (.int p0), .val (.int p1), .val (.int p2), .val (.int p3), .val (.int p4), .val (.int p5), .val (.int (1 : Int32)), .val (.ref bv), .val (.ref bt), .val (.ref br)] [(.ref bt)])) rfl rfl (hb hby at_127) _ k) ?_
    show own_Ends _ _ _ _ _ _ _ T32 (mkF m 128 #[.val (.int p0), .val (.int p1), .val (.int p2), .val (.int p3), .val (.int p4), .val (.int p5), .val (.int (1 : Int32)), .val (.ref bv), .val (.ref bt), .val (.ref br)] [(.int (1 : Int32))])
    refine own_go (fun _ k => XS.iload X32.here hx rfl (hb hby at_128) rfl k) ?_
    show own_Ends _ _ _ _ _ _ _ T32 (mkF m 130 #[.val (.int p0), .val (.int p1), .val (.int p2), .val (.int p3), .val (.int p4), .val (.int p5), .val (.int (1 : Int32)), .val (.ref bv), .val (.ref bt), .val (.ref br)] [(.int (1 : Int32)), (.int (1 : Int32))])
    refine own_go (fun _ k => XS.icmpYes X32.here hx rfl (pc0 := 130) (pc' := 135) rfl (hb hby at_130) rfl (teq (rfl)).1 (by decide) (by decide) k) ?_
    show own_Ends _ _ _ _ _ _ _ T32 (mkF m 135 #[.val (.int p0), .val (.int p1), .val (.int p2), .val (.int p3), .val (.int p4), .val (.int p5), .val (.int (1 : Int32)), .val (.ref bv), .val (.ref bt), .val (.ref br)] [])
    refine own_go (fun _ k => XS.aload X32.here hx rfl (hb hby at_135) rfl rfl k) ?_
    show own_Ends _ _ _ _ _ _ _ T32 (mkF m 137 #[.val (.int p0), .val (.int p1), .val (.int p2), .val (.int p3), .val (.int p4), .val (.int p5), .val (.int (1 : Int32)), .val (.ref bv), .val (.ref bt), .val (.ref br)] [(.ref bt)])
    refine own_go (fun _ k => XS.aload X32.here hx rfl (hb hby at_137) rfl rfl k) ?_
    show own_Ends _ _ _ _ _ _ _ T32 (mkF m 139 #[.val (.int p0), .val (.int p1), .val (.int p2), .val (.int p3), .val (.int p4), .val (.int p5), .val (.int (1 : Int32)), .val (.ref bv), .val (.ref bt), .val (.ref br)] [(.ref br), (.ref bt)])
    refine own_go (fun _ k => XS.aload X32.here hx rfl (hb hby at_139) rfl rfl k) ?_
    show own_Ends _ _ _ _ _ _ _ T32 (mkF m 141 #[.val (.int p0), .val (.int p1), .val (.int p2), .val (.int p3), .val (.int p4), .val (.int p5), .val (.int (1 : Int32)), .val (.ref bv), .val (.ref bt), .val (.ref br)] [(.ref bv), (.ref br), (.ref bt)])
    refine own_go (fun _ k => XS.iconst X32.here hx rfl (hb hby at_141) k) ?_
    show own_Ends _ _ _ _ _ _ _ T32 (mkF m 142 #[.val (.int p0), .val (.int p1), .val (.int p2), .val (.int p3), .val (.int p4), .val (.int p5), .val (.int (1 : Int32)), .val (.ref bv), .val (.ref bt), .val (.ref br)] [(.int (0 : Int32)), (.ref bv), (.ref br), (.ref bt)])
    refine own_go (fun _ k => XS.iload X32.here hx rfl (hb hby at_142) rfl k) ?_
    show own_Ends _ _ _ _ _ _ _ T32 (mkF m 144 #[.val (.int p0), .val (.int p1), .val (.int p2), .val (.int p3), .val (.int p4), .val (.int p5), .val (.int (1 : Int32)), .val (.ref bv), .val (.ref bt), .val (.ref br)] [(.int (1 : Int32)), (.int (0 : Int32)), (.ref bv), (.ref br), (.ref bt)])
    obtain ⟨v33, T33, L33, X33, hQ33, st33⟩ := own_callS X32 hx hZ hown (hw _ (List.mem_of_getElem? (i := 6) rfl)) (hw _ (List.mem_of_getElem? (i := 7) rfl)) (hw _ (List.mem_of_getElem? (i := 8) rfl)) (hw _ (List.mem_of_getElem? (i := 9) rfl)) (rm2_0 l Z a0 hw bt br bv (0 : Int32) (1 : Int32) T32.heap k30 kr k17 1 1 5 (fun j => if j = 0 then (.int p1) else (fun _ => (.int (0 : Int32))) j) g (fun j => if j = 4 then (.int p5) else (fun j => if j = 3 then (.int p4) else (fun j => if j = 2 then (.int p3) else (fun j => if j = 1 then (.int p2) else (fun j => if j = 0 then (.int p1) else (fun _ => (.int (0 : Int32))) j) j) j) j) j) p1 V_bt_32 A32 V_bv_32 (by decide) (by decide) (by decide) rfl (by decide) (by first | rfl | simp) (by first | rfl | simp) g0) rfl (g := (mkF m 144 #[.val (.int p0), .val (.int p1), .val (.int p2), .val (.int p3), .val (.int p4), .val (.int p5), .val (.int (1 : Int32)), .val (.ref bv), .val (.ref bt), .val (.ref br)] [(.int (1 : Int32)), (.int (0 : Int32)), (.ref bv), (.ref br), (.ref bt)])) rfl (by rw [hml]; rfl) (argsL := [(.ref bt), (.ref br), (.ref bv), (.int (0 : Int32)), (.int (1 : Int32))]) (rest := []) (lenOf pd_1 rfl) rfl rfl (W := 0) (by show 2 * 0 + _ ≤ _; exact Nat.le_of_eq rfl) (hb hby at_144) (by decide) (by decide) (by decide) (by decide) (by decide)
    obtain ⟨rfl, rfl, e33⟩ := hQ33
    refine own_go st33 ?_
    have N33 := Fr.app N32 (Fr.nil _)
    show own_Ends _ _ _ _ _ _ _ T33 (mkF m 147 #[.val (.int p0), .val (.int p1), .val (.int p2), .val (.int p3), .val (.int p4), .val (.int p5), .val (.int (1 : Int32)), .val (.ref bv), .val (.ref bt), .val (.ref br)] [(.int (1 : Int32))])
    refine own_go (fun _ k => XS.ifNo X33.here hx rfl (hb hby at_147) rfl ((if0 _ _).trans (feq (by decide)).1) k) ?_
    show own_Ends _ _ _ _ _ _ _ T33 (mkF m 150 #[.val (.int p0), .val (.int p1), .val (.int p2), .val (.int p3), .val (.int p4), .val (.int p5), .val (.int (1 : Int32)), .val (.ref bv), .val (.ref bt), .val (.ref br)] [])
    refine own_go (fun _ k => XS.aload X33.here hx rfl (hb hby at_150) rfl rfl k) ?_
    show own_Ends _ _ _ _ _ _ _ T33 (mkF m 152 #[.val (.int p0), .val (.int p1), .val (.int p2), .val (.int p3), .val (.int p4), .val (.int p5), .val (.int (1 : Int32)), .val (.ref bv), .val (.ref bt), .val (.ref br)] [(.ref bt)])
    refine own_go (fun _ k => XS.aload X33.here hx rfl (hb hby at_152) rfl rfl k) ?_
    show own_Ends _ _ _ _ _ _ _ T33 (mkF m 154 #[.val (.int p0), .val (.int p1), .val (.int p2), .val (.int p3), .val (.int p4), .val (.int p5), .val (.int (1 : Int32)), .val (.ref bv), .val (.ref bt), .val (.ref br)] [(.ref br), (.ref bt)])
    refine own_go (fun _ k => XS.aload X33.here hx rfl (hb hby at_154) rfl rfl k) ?_
    show own_Ends _ _ _ _ _ _ _ T33 (mkF m 156 #[.val (.int p0), .val (.int p1), .val (.int p2), .val (.int p3), .val (.int p4), .val (.int p5), .val (.int (1 : Int32)), .val (.ref bv), .val (.ref bt), .val (.ref br)] [(.ref bv), (.ref br), (.ref bt)])
    refine own_go (fun _ k => XS.iconst X33.here hx rfl (hb hby at_156) k) ?_
    show own_Ends _ _ _ _ _ _ _ T33 (mkF m 157 #[.val (.int p0), .val (.int p1), .val (.int p2), .val (.int p3), .val (.int p4), .val (.int p5), .val (.int (1 : Int32)), .val (.ref bv), .val (.ref bt), .val (.ref br)] [(.int (1 : Int32)), (.ref bv), (.ref br), (.ref bt)])
    refine own_go (fun _ k => XS.iload X33.here hx rfl (hb hby at_157) rfl k) ?_
    show own_Ends _ _ _ _ _ _ _ T33 (mkF m 159 #[.val (.int p0), .val (.int p1), .val (.int p2), .val (.int p3), .val (.int p4), .val (.int p5), .val (.int (1 : Int32)), .val (.ref bv), .val (.ref bt), .val (.ref br)] [(.int (1 : Int32)), (.int (1 : Int32)), (.ref bv), (.ref br), (.ref bt)])
    obtain ⟨v34, T34, L34, X34, hQ34, st34⟩ := own_callS X33 hx hZ hown (hw _ (List.mem_of_getElem? (i := 6) rfl)) (hw _ (List.mem_of_getElem? (i := 7) rfl)) (hw _ (List.mem_of_getElem? (i := 8) rfl)) (hw _ (List.mem_of_getElem? (i := 9) rfl)) (rm2_hi l Z a0 hw bt br bv (1 : Int32) (1 : Int32) T32.heap (by decide)) e33 (g := (mkF m 159 #[.val (.int p0), .val (.int p1), .val (.int p2), .val (.int p3), .val (.int p4), .val (.int p5), .val (.int (1 : Int32)), .val (.ref bv), .val (.ref bt), .val (.ref br)] [(.int (1 : Int32)), (.int (1 : Int32)), (.ref bv), (.ref br), (.ref bt)])) rfl (by rw [hml]; rfl) (argsL := [(.ref bt), (.ref br), (.ref bv), (.int (1 : Int32)), (.int (1 : Int32))]) (rest := []) (lenOf pd_1 rfl) rfl rfl (W := 0) (by show 2 * 0 + _ ≤ _; exact Nat.le_of_eq rfl) (hb hby at_159) (by decide) (by decide) (by decide) (by decide) (by decide)
    obtain ⟨rfl, rfl, e34⟩ := hQ34
    refine own_go st34 ?_
    have N34 := Fr.app N33 (Fr.nil _)
    show own_Ends _ _ _ _ _ _ _ T34 (mkF m 162 #[.val (.int p0), .val (.int p1), .val (.int p2), .val (.int p3), .val (.int p4), .val (.int p5), .val (.int (1 : Int32)), .val (.ref bv), .val (.ref bt), .val (.ref br)] [(.int (1 : Int32))])
    refine own_go (fun _ k => XS.ifNo X34.here hx rfl (hb hby at_162) rfl ((if0 _ _).trans (feq (by decide)).1) k) ?_
    show own_Ends _ _ _ _ _ _ _ T34 (mkF m 165 #[.val (.int p0), .val (.int p1), .val (.int p2), .val (.int p3), .val (.int p4), .val (.int p5), .val (.int (1 : Int32)), .val (.ref bv), .val (.ref bt), .val (.ref br)] [])
    refine own_go (fun _ k => XS.aload X34.here hx rfl (hb hby at_165) rfl rfl k) ?_
    show own_Ends _ _ _ _ _ _ _ T34 (mkF m 167 #[.val (.int p0), .val (.int p1), .val (.int p2), .val (.int p3), .val (.int p4), .val (.int p5), .val (.int (1 : Int32)), .val (.ref bv), .val (.ref bt), .val (.ref br)] [(.ref bt)])
    refine own_go (fun _ k => XS.aload X34.here hx rfl (hb hby at_167) rfl rfl k) ?_
    show own_Ends _ _ _ _ _ _ _ T34 (mkF m 169 #[.val (.int p0), .val (.int p1), .val (.int p2), .val (.int p3), .val (.int p4), .val (.int p5), .val (.int (1 : Int32)), .val (.ref bv), .val (.ref bt), .val (.ref br)] [(.ref br), (.ref bt)])
    refine own_go (fun _ k => XS.aload X34.here hx rfl (hb hby at_169) rfl rfl k) ?_
    show own_Ends _ _ _ _ _ _ _ T34 (mkF m 171 #[.val (.int p0), .val (.int p1), .val (.int p2), .val (.int p3), .val (.int p4), .val (.int p5), .val (.int (1 : Int32)), .val (.ref bv), .val (.ref bt), .val (.ref br)] [(.ref bv), (.ref br), (.ref bt)])
    refine own_go (fun _ k => XS.iconst X34.here hx rfl (hb hby at_171) k) ?_
    show own_Ends _ _ _ _ _ _ _ T34 (mkF m 172 #[.val (.int p0), .val (.int p1), .val (.int p2), .val (.int p3), .val (.int p4), .val (.int p5), .val (.int (1 : Int32)), .val (.ref bv), .val (.ref bt), .val (.ref br)] [(.int (2 : Int32)), (.ref bv), (.ref br), (.ref bt)])
    refine own_go (fun _ k => XS.iload X34.here hx rfl (hb hby at_172) rfl k) ?_
    show own_Ends _ _ _ _ _ _ _ T34 (mkF m 174 #[.val (.int p0), .val (.int p1), .val (.int p2), .val (.int p3), .val (.int p4), .val (.int p5), .val (.int (1 : Int32)), .val (.ref bv), .val (.ref bt), .val (.ref br)] [(.int (1 : Int32)), (.int (2 : Int32)), (.ref bv), (.ref br), (.ref bt)])
    obtain ⟨v35, T35, L35, X35, hQ35, st35⟩ := own_callS X34 hx hZ hown (hw _ (List.mem_of_getElem? (i := 6) rfl)) (hw _ (List.mem_of_getElem? (i := 7) rfl)) (hw _ (List.mem_of_getElem? (i := 8) rfl)) (hw _ (List.mem_of_getElem? (i := 9) rfl)) (rm2_hi l Z a0 hw bt br bv (2 : Int32) (1 : Int32) T32.heap (by decide)) e34 (g := (mkF m 174 #[.val (.int p0), .val (.int p1), .val (.int p2), .val (.int p3), .val (.int p4), .val (.int p5), .val (.int (1 : Int32)), .val (.ref bv), .val (.ref bt), .val (.ref br)] [(.int (1 : Int32)), (.int (2 : Int32)), (.ref bv), (.ref br), (.ref bt)])) rfl (by rw [hml]; rfl) (argsL := [(.ref bt), (.ref br), (.ref bv), (.int (2 : Int32)), (.int (1 : Int32))]) (rest := []) (lenOf pd_1 rfl) rfl rfl (W := 0) (by show 2 * 0 + _ ≤ _; exact Nat.le_of_eq rfl) (hb hby at_174) (by decide) (by decide) (by decide) (by decide) (by decide)
    obtain ⟨rfl, rfl, e35⟩ := hQ35
    refine own_go st35 ?_
    have N35 := Fr.app N34 (Fr.nil _)
    show own_Ends _ _ _ _ _ _ _ T35 (mkF m 177 #[.val (.int p0), .val (.int p1), .val (.int p2), .val (.int p3), .val (.int p4), .val (.int p5), .val (.int (1 : Int32)), .val (.ref bv), .val (.ref bt), .val (.ref br)] [(.int (1 : Int32))])
    refine own_go (fun _ k => XS.ifNo X35.here hx rfl (hb hby at_177) rfl ((if0 _ _).trans (feq (by decide)).1) k) ?_
    show own_Ends _ _ _ _ _ _ _ T35 (mkF m 180 #[.val (.int p0), .val (.int p1), .val (.int p2), .val (.int p3), .val (.int p4), .val (.int p5), .val (.int (1 : Int32)), .val (.ref bv), .val (.ref bt), .val (.ref br)] [])
    refine own_go (fun _ k => XS.aload X35.here hx rfl (hb hby at_180) rfl rfl k) ?_
    show own_Ends _ _ _ _ _ _ _ T35 (mkF m 182 #[.val (.int p0), .val (.int p1), .val (.int p2), .val (.int p3), .val (.int p4), .val (.int p5), .val (.int (1 : Int32)), .val (.ref bv), .val (.ref bt), .val (.ref br)] [(.ref bt)])
    refine own_go (fun _ k => XS.aload X35.here hx rfl (hb hby at_182) rfl rfl k) ?_
    show own_Ends _ _ _ _ _ _ _ T35 (mkF m 184 #[.val (.int p0), .val (.int p1), .val (.int p2), .val (.int p3), .val (.int p4), .val (.int p5), .val (.int (1 : Int32)), .val (.ref bv), .val (.ref bt), .val (.ref br)] [(.ref br), (.ref bt)])
    refine own_go (fun _ k => XS.aload X35.here hx rfl (hb hby at_184) rfl rfl k) ?_
    show own_Ends _ _ _ _ _ _ _ T35 (mkF m 186 #[.val (.int p0), .val (.int p1), .val (.int p2), .val (.int p3), .val (.int p4), .val (.int p5), .val (.int (1 : Int32)), .val (.ref bv), .val (.ref bt), .val (.ref br)] [(.ref bv), (.ref br), (.ref bt)])
    refine own_go (fun _ k => XS.iconst X35.here hx rfl (hb hby at_186) k) ?_
    show own_Ends _ _ _ _ _ _ _ T35 (mkF m 187 #[.val (.int p0), .val (.int p1), .val (.int p2), .val (.int p3), .val (.int p4), .val (.int p5), .val (.int (1 : Int32)), .val (.ref bv), .val (.ref bt), .val (.ref br)] [(.int (3 : Int32)), (.ref bv), (.ref br), (.ref bt)])
    refine own_go (fun _ k => XS.iload X35.here hx rfl (hb hby at_187) rfl k) ?_
    show own_Ends _ _ _ _ _ _ _ T35 (mkF m 189 #[.val (.int p0), .val (.int p1), .val (.int p2), .val (.int p3), .val (.int p4), .val (.int p5), .val (.int (1 : Int32)), .val (.ref bv), .val (.ref bt), .val (.ref br)] [(.int (1 : Int32)), (.int (3 : Int32)), (.ref bv), (.ref br), (.ref bt)])
    obtain ⟨v36, T36, L36, X36, hQ36, st36⟩ := own_callS X35 hx hZ hown (hw _ (List.mem_of_getElem? (i := 6) rfl)) (hw _ (List.mem_of_getElem? (i := 7) rfl)) (hw _ (List.mem_of_getElem? (i := 8) rfl)) (hw _ (List.mem_of_getElem? (i := 9) rfl)) (rm2_hi l Z a0 hw bt br bv (3 : Int32) (1 : Int32) T32.heap (by decide)) e35 (g := (mkF m 189 #[.val (.int p0), .val (.int p1), .val (.int p2), .val (.int p3), .val (.int p4), .val (.int p5), .val (.int (1 : Int32)), .val (.ref bv), .val (.ref bt), .val (.ref br)] [(.int (1 : Int32)), (.int (3 : Int32)), (.ref bv), (.ref br), (.ref bt)])) rfl (by rw [hml]; rfl) (argsL := [(.ref bt), (.ref br), (.ref bv), (.int (3 : Int32)), (.int (1 : Int32))]) (rest := []) (lenOf pd_1 rfl) rfl rfl (W := 0) (by show 2 * 0 + _ ≤ _; exact Nat.le_of_eq rfl) (hb hby at_189) (by decide) (by decide) (by decide) (by decide) (by decide)
    obtain ⟨rfl, rfl, e36⟩ := hQ36
    refine own_go st36 ?_
    have N36 := Fr.app N35 (Fr.nil _)
    show own_Ends _ _ _ _ _ _ _ T36 (mkF m 192 #[.val (.int p0), .val (.int p1), .val (.int p2), .val (.int p3), .val (.int p4), .val (.int p5), .val (.int (1 : Int32)), .val (.ref bv), .val (.ref bt), .val (.ref br)] [(.int (1 : Int32))])
    refine own_go (fun _ k => XS.ifNo X36.here hx rfl (hb hby at_192) rfl ((if0 _ _).trans (feq (by decide)).1) k) ?_
    show own_Ends _ _ _ _ _ _ _ T36 (mkF m 195 #[.val (.int p0), .val (.int p1), .val (.int p2), .val (.int p3), .val (.int p4), .val (.int p5), .val (.int (1 : Int32)), .val (.ref bv), .val (.ref bt), .val (.ref br)] [])
    refine own_go (fun _ k => XS.aload X36.here hx rfl (hb hby at_195) rfl rfl k) ?_
    show own_Ends _ _ _ _ _ _ _ T36 (mkF m 197 #[.val (.int p0), .val (.int p1), .val (.int p2), .val (.int p3), .val (.int p4), .val (.int p5), .val (.int (1 : Int32)), .val (.ref bv), .val (.ref bt), .val (.ref br)] [(.ref bt)])
    refine own_go (fun _ k => XS.aload X36.here hx rfl (hb hby at_197) rfl rfl k) ?_
    show own_Ends _ _ _ _ _ _ _ T36 (mkF m 199 #[.val (.int p0), .val (.int p1), .val (.int p2), .val (.int p3), .val (.int p4), .val (.int p5), .val (.int (1 : Int32)), .val (.ref bv), .val (.ref bt), .val (.ref br)] [(.ref br), (.ref bt)])
    refine own_go (fun _ k => XS.aload X36.here hx rfl (hb hby at_199) rfl rfl k) ?_
    show own_Ends _ _ _ _ _ _ _ T36 (mkF m 201 #[.val (.int p0), .val (.int p1), .val (.int p2), .val (.int p3), .val (.int p4), .val (.int p5), .val (.int (1 : Int32)), .val (.ref bv), .val (.ref bt), .val (.ref br)] [(.ref bv), (.ref br), (.ref bt)])
    refine own_go (fun _ k => XS.iconst X36.here hx rfl (hb hby at_201) k) ?_
    show own_Ends _ _ _ _ _ _ _ T36 (mkF m 202 #[.val (.int p0), .val (.int p1), .val (.int p2), .val (.int p3), .val (.int p4), .val (.int p5), .val (.int (1 : Int32)), .val (.ref bv), .val (.ref bt), .val (.ref br)] [(.int (4 : Int32)), (.ref bv), (.ref br), (.ref bt)])
    refine own_go (fun _ k => XS.iload X36.here hx rfl (hb hby at_202) rfl k) ?_
    show own_Ends _ _ _ _ _ _ _ T36 (mkF m 204 #[.val (.int p0), .val (.int p1), .val (.int p2), .val (.int p3), .val (.int p4), .val (.int p5), .val (.int (1 : Int32)), .val (.ref bv), .val (.ref bt), .val (.ref br)] [(.int (1 : Int32)), (.int (4 : Int32)), (.ref bv), (.ref br), (.ref bt)])
    obtain ⟨v37, T37, L37, X37, hQ37, st37⟩ := own_callS X36 hx hZ hown (hw _ (List.mem_of_getElem? (i := 6) rfl)) (hw _ (List.mem_of_getElem? (i := 7) rfl)) (hw _ (List.mem_of_getElem? (i := 8) rfl)) (hw _ (List.mem_of_getElem? (i := 9) rfl)) (rm2_hi l Z a0 hw bt br bv (4 : Int32) (1 : Int32) T32.heap (by decide)) e36 (g := (mkF m 204 #[.val (.int p0), .val (.int p1), .val (.int p2), .val (.int p3), .val (.int p4), .val (.int p5), .val (.int (1 : Int32)), .val (.ref bv), .val (.ref bt), .val (.ref br)] [(.int (1 : Int32)), (.int (4 : Int32)), (.ref bv), (.ref br), (.ref bt)])) rfl (by rw [hml]; rfl) (argsL := [(.ref bt), (.ref br), (.ref bv), (.int (4 : Int32)), (.int (1 : Int32))]) (rest := []) (lenOf pd_1 rfl) rfl rfl (W := 0) (by show 2 * 0 + _ ≤ _; exact Nat.le_of_eq rfl) (hb hby at_204) (by decide) (by decide) (by decide) (by decide) (by decide)
    obtain ⟨rfl, rfl, e37⟩ := hQ37
    refine own_go st37 ?_
    have N37 := Fr.app N36 (Fr.nil _)
    show own_Ends _ _ _ _ _ _ _ T37 (mkF m 207 #[.val (.int p0), .val (.int p1), .val (.int p2), .val (.int p3), .val (.int p4), .val (.int p5), .val (.int (1 : Int32)), .val (.ref bv), .val (.ref bt), .val (.ref br)] [(.int (1 : Int32))])
    refine own_go (fun _ k => XS.ifNo X37.here hx rfl (hb hby at_207) rfl ((if0 _ _).trans (feq (by decide)).1) k) ?_
    show own_Ends _ _ _ _ _ _ _ T37 (mkF m 210 #[.val (.int p0), .val (.int p1), .val (.int p2), .val (.int p3), .val (.int p4), .val (.int p5), .val (.int (1 : Int32)), .val (.ref bv), .val (.ref bt), .val (.ref br)] [])
    refine own_go (fun _ k => XS.iconst X37.here hx rfl (hb hby at_210) k) ?_
    show own_Ends _ _ _ _ _ _ _ T37 (mkF m 211 #[.val (.int p0), .val (.int p1), .val (.int p2), .val (.int p3), .val (.int p4), .val (.int p5), .val (.int (1 : Int32)), .val (.ref bv), .val (.ref bt), .val (.ref br)] [(.int (1 : Int32))])
    refine own_go (fun _ k => XS.goto X37.here hx rfl (pc0 := 211) (pc' := 215) rfl (hb hby at_211) (by decide) (by decide) k) ?_
    show own_Ends _ _ _ _ _ _ _ T37 (mkF m 215 #[.val (.int p0), .val (.int p1), .val (.int p2), .val (.int p3), .val (.int p4), .val (.int p5), .val (.int (1 : Int32)), .val (.ref bv), .val (.ref bt), .val (.ref br)] [(.int (1 : Int32))])
    exact own_retZ X37 hx hlk hret (by decide) (hb hby at_215) (by decide) (by decide) ⟨rfl, N37⟩
  · rw [show ((p0 &&& (2147483647 : Int32)) % (6 : Int32)) = (2 : Int32) from hn]
    show own_Ends _ _ _ _ _ _ _ T22 (mkF m 38 #[.val (.int p0), .val (.int p1), .val (.int p2), .val (.int p3), .val (.int p4), .val (.int p5), .val (.int (2 : Int32)), .val (.ref bv), .unset, .unset] [(.int (2 : Int32))])
    obtain ⟨T38, h38, k38, X38, e38, E38, A38, st38⟩ := own_newP X22 hx hZ (aty := .int) (hw _ (List.mem_of_getElem? (i := 1) rfl)) e22 (g := (mkF m 38 #[.val (.int p0), .val (.int p1), .val (.int p2), .val (.int p3), .val (.int p4), .val (.int p5), .val (.int (2 : Int32)), .val (.ref bv), .unset, .unset] [(.int (2 : Int32))])) rfl (hb hby at_38) rfl (by decide) (n := 2) (by decide) (cap := 2) (by decide) (by decide) (by decide) (by decide)
    obtain ⟨bt, gq38⟩ : ∃ z, z = h22.size := ⟨_, rfl⟩
    rw [← gq38] at A38 st38
    have ne_bv_bt : bv ≠ bt := Nat.ne_of_lt (Nat.lt_of_lt_of_le V22.lt (Nat.le_of_eq gq38.symm))
    have sz_bt : h0.size ≤ bt := Nat.le_trans K_22.1 (Nat.le_of_eq gq38.symm)
    have g_bt : h0.size ≤ bt := Nat.le_trans (Nat.le_refl _) sz_bt
    have K_38 := K_22.ext E38
    have V_bv_38 := V22.ext E38
    have V_bt : own_Ar Z h38 bt k38 .int 2 (fun _ => (.int (0 : Int32))) := A38
    refine own_go st38 ?_
    show own_Ends _ _ _ _ _ _ _ T38 (mkF m 40 #[.val (.int p0), .val (.int p1), .val (.int p2), .val (.int p3), .val (.int p4), .val (.int p5), .val (.int (2 : Int32)), .val (.ref bv), .unset, .unset] [(.ref bt)])
    refine own_go (fun _ k => XS.astore X38.here hx rfl (hb hby at_40) rfl rfl (l' := #[.val (.int p0), .val (.int p1), .val (.int p2), .val (.int p3), .val (.int p4), .val (.int p5), .val (.int (2 : Int32)), .val (.ref bv), .val (.ref bt), .unset]) rfl k) ?_
    show own_Ends _ _ _ _ _ _ _ T38 (mkF m 42 #[.val (.int p0), .val (.int p1), .val (.int p2), .val (.int p3), .val (.int p4), .val (.int p5), .val (.int (2 : Int32)), .val (.ref bv), .val (.ref bt), .unset] [])
    refine own_go (fun _ k => XS.iload X38.here hx rfl (hb hby at_42) rfl k) ?_
    show own_Ends _ _ _ _ _ _ _ T38 (mkF m 44 #[.val (.int p0), .val (.int p1), .val (.int p2), .val (.int p3), .val (.int p4), .val (.int p5), .val (.int (2 : Int32)), .val (.ref bv), .val (.ref bt), .unset] [(.int (2 : Int32))])
    refine own_go (fun _ k => XS.ifNo X38.here hx rfl (hb hby at_44) rfl ((if0 _ _).trans (tlt (by decide)).2.2.2) k) ?_
    show own_Ends _ _ _ _ _ _ _ T38 (mkF m 47 #[.val (.int p0), .val (.int p1), .val (.int p2), .val (.int p3), .val (.int p4), .val (.int p5), .val (.int (2 : Int32)), .val (.ref bv), .val (.ref bt), .unset] [])
    refine own_go (fun _ k => XS.aload X38.here hx rfl (hb hby at_47) rfl rfl k) ?_
    show own_Ends _ _ _ _ _ _ _ T38 (mkF m 49 #[.val (.int p0), .val (.int p1), .val (.int p2), .val (.int p3), .val (.int p4), .val (.int p5), .val (.int (2 : Int32)), .val (.ref bv), .val (.ref bt), .unset] [(.ref bt)])
    refine own_go (fun _ k => XS.iconst X38.here hx rfl (hb hby at_49) k) ?_
    show own_Ends _ _ _ _ _ _ _ T38 (mkF m 50 #[.val (.int p0), .val (.int p1), .val (.int p2), .val (.int p3), .val (.int p4), .val (.int p5), .val (.int (2 : Int32)), .val (.ref bv), .val (.ref bt), .unset] [(.int (0 : Int32)), (.ref bt)])
    refine own_go (fun _ k => XS.iloadN X38.here hx rfl (hb hby at_50) rfl k) ?_
    show own_Ends _ _ _ _ _ _ _ T38 (mkF m 51 #[.val (.int p0), .val (.int p1), .val (.int p2), .val (.int p3), .val (.int p4), .val (.int p5), .val (.int (2 : Int32)), .val (.ref bv), .val (.ref bt), .unset] [(.int p1), (.int (0 : Int32)), (.ref bt)])
    obtain ⟨T39, h39, X39, e39, W39, V39, st39⟩ := own_stI X38 hx hZ e38 V_bt (i := 0) (by decide) (by decide) (by decide) (g := (mkF m 51 #[.val (.int p0), .val (.int p1), .val (.int p2), .val (.int p3), .val (.int p4), .val (.int p5), .val (.int (2 : Int32)), .val (.ref bv), .val (.ref bt), .unset] [(.int p1), (.int (0 : Int32)), (.ref bt)])) rfl rfl (hb hby at_51)
    have N39 := Fr.snoc X39 N22 g_bt
    have K_39 := K_38.wr W39 (Or.inr sz_bt)
    have V_bv_39 := V_bv_38.other W39 ne_bv_bt
    refine own_go st39 ?_
    show own_Ends _ _ _ _ _ _ _ T39 (mkF m 52 #[.val (.int p0), .val (.int p1), .val (.int p2), .val (.int p3), .val (.int p4), .val (.int p5), .val (.int (2 : Int32)), .val (.ref bv), .val (.ref bt), .unset] [])
    refine own_go (fun _ k => XS.iload X39.here hx rfl (hb hby at_52) rfl k) ?_
    show own_Ends _ _ _ _ _ _ _ T39 (mkF m 54 #[.val (.int p0), .val (.int p1), .val (.int p2), .val (.int p3), .val (.int p4), .val (.int p5), .val (.int (2 : Int32)), .val (.ref bv), .val (.ref bt), .unset] [(.int (2 : Int32))])
    refine own_go (fun _ k => XS.iconst X39.here hx rfl (hb hby at_54) k) ?_
    show own_Ends _ _ _ _ _ _ _ T39 (mkF m 55 #[.val (.int p0), .val (.int p1), .val (.int p2), .val (.int p3), .val (.int p4), .val (.int p5), .val (.int (2 : Int32)), .val (.ref bv), .val (.ref bt), .unset] [(.int (1 : Int32)), (.int (2 : Int32))])
    refine own_go (fun _ k => XS.icmpNo X39.here hx rfl (hb hby at_55) rfl (tlt (by decide)).2.2.2 k) ?_
    show own_Ends _ _ _ _ _ _ _ T39 (mkF m 58 #[.val (.int p0), .val (.int p1), .val (.int p2), .val (.int p3), .val (.int p4), .val (.int p5), .val (.int (2 : Int32)), .val (.ref bv), .val (.ref bt), .unset] [])
    refine own_go (fun _ k => XS.aload X39.here hx rfl (hb hby at_58) rfl rfl k) ?_
    show own_Ends _ _ _ _ _ _ _ T39 (mkF m 60 #[.val (.int p0), .val (.int p1), .val (.int p2), .val (.int p3), .val (.int p4), .val (.int p5), .val (.int (2 : Int32)), .val (.ref bv), .val (.ref bt), .unset] [(.ref bt)])
    refine own_go (fun _ k => XS.iconst X39.here hx rfl (hb hby at_60) k) ?_
    show own_Ends _ _ _ _ _ _ _ T39 (mkF m 61 #[.val (.int p0), .val (.int p1), .val (.int p2), .val (.int p3), .val (.int p4), .val (.int p5), .val (.int (2 : Int32)), .val (.ref bv), .val (.ref bt), .unset] [(.int (1 : Int32)), (.ref bt)])
    refine own_go (fun _ k => XS.iloadN X39.here hx rfl (hb hby at_61) rfl k) ?_
    show own_Ends _ _ _ _ _ _ _ T39 (mkF m 62 #[.val (.int p0), .val (.int p1), .val (.int p2), .val (.int p3), .val (.int p4), .val (.int p5), .val (.int (2 : Int32)), .val (.ref bv), .val (.ref bt), .unset] [(.int p2), (.int (1 : Int32)), (.ref bt)])
    obtain ⟨T40, h40, X40, e40, W40, V40, st40⟩ := own_stI X39 hx hZ e39 V39 (i := 1) (by decide) (by decide) (by decide) (g := (mkF m 62 #[.val (.int p0), .val (.int p1), .val (.int p2), .val (.int p3), .val (.int p4), .val (.int p5), .val (.int (2 : Int32)), .val (.ref bv), .val (.ref bt), .unset] [(.int p2), (.int (1 : Int32)), (.ref bt)])) rfl rfl (hb hby at_62)
    have N40 := Fr.snoc X40 N39 g_bt
    have K_40 := K_39.wr W40 (Or.inr sz_bt)
    have V_bv_40 := V_bv_39.other W40 ne_bv_bt
    refine own_go st40 ?_
    show own_Ends _ _ _ _ _ _ _ T40 (mkF m 63 #[.val (.int p0), .val (.int p1), .val (.int p2), .val (.int p3), .val (.int p4), .val (.int p5), .val (.int (2 : Int32)), .val (.ref bv), .val (.ref bt), .unset] [])
    refine own_go (fun _ k => XS.iload X40.here hx rfl (hb hby at_63) rfl k) ?_
    show own_Ends _ _ _ _ _ _ _ T40 (mkF m 65 #[.val (.int p0), .val (.int p1), .val (.int p2), .val (.int p3), .val (.int p4), .val (.int p5), .val (.int (2 : Int32)), .val (.ref bv), .val (.ref bt), .unset] [(.int (2 : Int32))])
    refine own_go (fun _ k => XS.iconst X40.here hx rfl (hb hby at_65) k) ?_
    show own_Ends _ _ _ _ _ _ _ T40 (mkF m 66 #[.val (.int p0), .val (.int p1), .val (.int p2), .val (.int p3), .val (.int p4), .val (.int p5), .val (.int (2 : Int32)), .val (.ref bv), .val (.ref bt), .unset] [(.int (2 : Int32)), (.int (2 : Int32))])
    refine own_go (fun _ k => XS.icmpYes X40.here hx rfl (pc0 := 66) (pc' := 74) rfl (hb hby at_66) rfl (flt (by decide)).2.2.2 (by decide) (by decide) k) ?_
    show own_Ends _ _ _ _ _ _ _ T40 (mkF m 74 #[.val (.int p0), .val (.int p1), .val (.int p2), .val (.int p3), .val (.int p4), .val (.int p5), .val (.int (2 : Int32)), .val (.ref bv), .val (.ref bt), .unset] [])
    refine own_go (fun _ k => XS.iload X40.here hx rfl (hb hby at_74) rfl k) ?_
    show own_Ends _ _ _ _ _ _ _ T40 (mkF m 76 #[.val (.int p0), .val (.int p1), .val (.int p2), .val (.int p3), .val (.int p4), .val (.int p5), .val (.int (2 : Int32)), .val (.ref bv), .val (.ref bt), .unset] [(.int (2 : Int32))])
    refine own_go (fun _ k => XS.iconst X40.here hx rfl (hb hby at_76) k) ?_
    show own_Ends _ _ _ _ _ _ _ T40 (mkF m 77 #[.val (.int p0), .val (.int p1), .val (.int p2), .val (.int p3), .val (.int p4), .val (.int p5), .val (.int (2 : Int32)), .val (.ref bv), .val (.ref bt), .unset] [(.int (3 : Int32)), (.int (2 : Int32))])
    refine own_go (fun _ k => XS.icmpYes X40.here hx rfl (pc0 := 77) (pc' := 86) rfl (hb hby at_77) rfl (flt (by decide)).2.2.2 (by decide) (by decide) k) ?_
    show own_Ends _ _ _ _ _ _ _ T40 (mkF m 86 #[.val (.int p0), .val (.int p1), .val (.int p2), .val (.int p3), .val (.int p4), .val (.int p5), .val (.int (2 : Int32)), .val (.ref bv), .val (.ref bt), .unset] [])
    refine own_go (fun _ k => XS.iload X40.here hx rfl (hb hby at_86) rfl k) ?_
    show own_Ends _ _ _ _ _ _ _ T40 (mkF m 88 #[.val (.int p0), .val (.int p1), .val (.int p2), .val (.int p3), .val (.int p4), .val (.int p5), .val (.int (2 : Int32)), .val (.ref bv), .val (.ref bt), .unset] [(.int (2 : Int32))])
    refine own_go (fun _ k => XS.iconst X40.here hx rfl (hb hby at_88) k) ?_
    show own_Ends _ _ _ _ _ _ _ T40 (mkF m 89 #[.val (.int p0), .val (.int p1), .val (.int p2), .val (.int p3), .val (.int p4), .val (.int p5), .val (.int (2 : Int32)), .val (.ref bv), .val (.ref bt), .unset] [(.int (4 : Int32)), (.int (2 : Int32))])
    refine own_go (fun _ k => XS.icmpYes X40.here hx rfl (pc0 := 89) (pc' := 98) rfl (hb hby at_89) rfl (flt (by decide)).2.2.2 (by decide) (by decide) k) ?_
    show own_Ends _ _ _ _ _ _ _ T40 (mkF m 98 #[.val (.int p0), .val (.int p1), .val (.int p2), .val (.int p3), .val (.int p4), .val (.int p5), .val (.int (2 : Int32)), .val (.ref bv), .val (.ref bt), .unset] [])
    refine own_go (fun _ k => XS.aload X40.here hx rfl (hb hby at_98) rfl rfl k) ?_
    show own_Ends _ _ _ _ _ _ _ T40 (mkF m 100 #[.val (.int p0), .val (.int p1), .val (.int p2), .val (.int p3), .val (.int p4), .val (.int p5), .val (.int (2 : Int32)), .val (.ref bv), .val (.ref bt), .unset] [(.ref bt)])
    obtain ⟨v41, T41, L41, X41, hQ41, st41⟩ := own_callS X40 hx hZ hown (hw _ (List.mem_of_getElem? (i := 2) rfl)) (hw _ (List.mem_of_getElem? (i := 3) rfl)) (hw _ (List.mem_of_getElem? (i := 4) rfl)) (hw _ (List.mem_of_getElem? (i := 5) rfl)) (rm1_2 l Z a0 hw bt h40 h0.size k38 (fun j => if j = 1 then (.int p2) else (fun j => if j = 0 then (.int p1) else (fun _ => (.int (0 : Int32))) j) j) K_40.1 V40 (fun i _ => (own_fit_set (own_fit_set own_fit0)) i)) e40 (g := (mkF m 100 #[.val (.int p0), .val (.int p1), .val (.int p2), .val (.int p3), .val (.int p4), .val (.int p5), .val (.int (2 : Int32)), .val (.ref bv), .val (.ref bt), .unset] [(.ref bt)])) rfl (by rw [hml]; rfl) (argsL := [(.ref bt)]) (rest := []) (lenOf pd_0 rfl) rfl rfl (W := 0) (by show 2 * 0 + _ ≤ _; exact Nat.le_of_eq rfl) (hb hby at_100) (by decide) (by decide) (by decide) (by decide) (by decide)
    obtain ⟨br, kr, g, rfl, N41q, K41, A41, s41, g0, g1⟩ := hQ41
    refine own_go st41 ?_
    have N41 := Fr.app N40 N41q
    show own_Ends _ _ _ _ _ _ _ T41 (mkF m 103 #[.val (.int p0), .val (.int p1), .val (.int p2), .val (.int p3), .val (.int p4), .val (.int p5), .val (.int (2 : Int32)), .val (.ref bv), .val (.ref bt), .unset] [(.ref br)])
    have ne_bt_br : bt ≠ br := Nat.ne_of_lt (Nat.lt_of_lt_of_le V40.lt s41)
    have K_41 := K_40.trans K41 all0
    have V_bv_41 := V_bv_40.keep K41 nin0
    have V_bt_41 := V40.keep K41 nin0
    show own_Ends _ _ _ _ _ _ _ T41 (mkF m 103 #[.val (.int p0), .val (.int p1), .val (.int p2), .val (.int p3), .val (.int p4), .val (.int p5), .val (.int (2 : Int32)), .val (.ref bv), .val (.ref bt), .unset] [(.ref br)])
    refine own_go (fun _ k => XS.astore X41.here hx rfl (hb hby at_103) rfl rfl (l' := #[.val (.int p0), .val (.int p1), .val (.int p2), .val (.int p3), .val (.int p4), .val (.int p5), .val (.int (2 : Int32)), .val (.ref bv), .val (.ref bt), .val (.ref br)]) rfl k) ?_
    show own_Ends _ _ _ _ _ _ _ T41 (mkF m 105 #[.val (.int p0), .val (.int p1), .val (.int p2), .val (.int p3), .val (.int p4), .val (.int p5), .val (.int (2 : Int32)), .val (.ref bv), .val (.ref bt), .val (.ref br)] [])
    refine own_go (fun _ k => XS.aload X41.here hx rfl (hb hby at_105) rfl rfl k) ?_
    show own_Ends _ _ _ _ _ _ _ T41 (mkF m 107 #[.val (.int p0), .val (.int p1), .val (.int p2), .val (.int p3), .val (.int p4), .val (.int p5), .val (.int (2 : Int32)), .val (.ref bv), .val (.ref bt), .val (.ref br)] [(.ref br)])
    refine own_go (fun _ k => XS.ifnullNo X41.here hx rfl (hb hby at_107) rfl k) ?_
    show own_Ends _ _ _ _ _ _ _ T41 (mkF m 110 #[.val (.int p0), .val (.int p1), .val (.int p2), .val (.int p3), .val (.int p4), .val (.int p5), .val (.int (2 : Int32)), .val (.ref bv), .val (.ref bt), .val (.ref br)] [])
    refine own_go (fun _ k => XS.aload X41.here hx rfl (hb hby at_110) rfl rfl k) ?_
    show own_Ends _ _ _ _ _ _ _ T41 (mkF m 112 #[.val (.int p0), .val (.int p1), .val (.int p2), .val (.int p3), .val (.int p4), .val (.int p5), .val (.int (2 : Int32)), .val (.ref bv), .val (.ref bt), .val (.ref br)] [(.ref br)])
    refine own_go (fun _ k => XS.aload X41.here hx rfl (hb hby at_112) rfl rfl k) ?_
    show own_Ends _ _ _ _ _ _ _ T41 (mkF m 114 #[.val (.int p0), .val (.int p1), .val (.int p2), .val (.int p3), .val (.int p4), .val (.int p5), .val (.int (2 : Int32)), .val (.ref bv), .val (.ref bt), .val (.ref br)] [(.ref bt), (.ref br)])
    refine own_go (fun _ k => Jvm.RoadKit.acmp (g := (mkF m 114 #[.val (.int p0), .val (.int p1), .val (.int p2), .val (.int p3), .val (.int p4), .val (.int p5), .val (.int (2 : Int32)), .val (.ref bv), .val (.ref bt), .val (.ref br)] [(.ref bt), (.ref br)])) X41 hx rfl rfl rfl (pc0 := 114) (pc' := 117) (same := false) rfl (hb hby at_114) rfl (decide_eq_false fun q => ne_bt_br (Value.ref.inj q).symm) (by decide) (by decide) k) ?_
    show own_Ends _ _ _ _ _ _ _ T41 (mkF m 117 #[.val (.int p0), .val (.int p1), .val (.int p2), .val (.int p3), .val (.int p4), .val (.int p5), .val (.int (2 : Int32)), .val (.ref bv), .val (.ref bt), .val (.ref br)] [])
    refine own_go (fun _ k => XS.aload X41.here hx rfl (hb hby at_117) rfl rfl k) ?_
    show own_Ends _ _ _ _ _ _ _ T41 (mkF m 119 #[.val (.int p0), .val (.int p1), .val (.int p2), .val (.int p3), .val (.int p4), .val (.int p5), .val (.int (2 : Int32)), .val (.ref bv), .val (.ref bt), .val (.ref br)] [(.ref br)])
    refine own_go (fun _ k => own_len X41 hx hZ rfl A41 (z := (2 : Int32)) rfl (g := (mkF m 119 #[.val (.int p0), .val (.int p1), .val (.int p2), .val (.int p3), .val (.int p4), .val (.int p5), .val (.int (2 : Int32)), .val (.ref bv), .val (.ref bt), .val (.ref br)] [(.ref br)])) rfl rfl (hb hby at_119) _ k) ?_
    show own_Ends _ _ _ _ _ _ _ T41 (mkF m 120 #[.val (.int p0), .val (.int p1), .val (.int p2), .val (.int p3), .val (.int p4), .val (.int p5), .val (.int (2 : Int32)), .val (.ref bv), .val (.ref bt), .val (.ref br)] [(.int (2 : Int32))])
    refine own_go (fun _ k => XS.iload X41.here hx rfl (hb hby at_120) rfl k) ?_
    show own_Ends _ _ _ _ _ _ _ T41 (mkF m 122 #[.val (.int p0), .val (.int p1), .val (.int p2), .val (.int p3), .val (.int p4), .val (.int p5), .val (.int (2 : Int32)), .val (.ref bv), .val (.ref bt), .val (.ref br)] [(.int (2 : Int32)), (.int (2 : Int32))])
    refine own_go (fun _ k => XS.icmpNo X41.here hx rfl (hb hby at_122) rfl (teq (rfl)).2 k) ?_
    show own_Ends _ _ _ _ _ _ _ T41 (mkF m 125 #[.val (.int p0), .val (.int p1), .val (.int p2), .val (.int p3), .val (.int p4), .val (.int p5), .val (.int (2 : Int32)), .val (.ref bv), .val (.ref bt), .val (.ref br)] [])
    refine own_go (fun _ k => XS.aload X41.here hx rfl (hb hby at_125) rfl rfl k) ?_
    show own_Ends _ _ _ _ _ _ _ T41 (mkF m 127 #[.val (.int p0), .val (.int p1), .val (.int p2), .val (.int p3), .val (.int p4), .val (.int p5), .val (.int (2 : Int32)), .val (.ref bv), .val (.ref bt), .val (.ref br)] [(.ref bt)])
    refine own_go (fun _ k => own_len X41 hx hZ rfl V_bt_41 (z := (2 : Int32)) rfl (g := (mkF m 127 #[.val (.int p0), .val (.int p1), .val (.int p2), .val (.int p3), .val (.int p4), .val (.int p5), .val (.int (2 : Int32)), .val (.ref bv), .val (.ref bt), .val (.ref br)] [(.ref bt)])) rfl rfl (hb hby at_127) _ k) ?_
    show own_Ends _ _ _ _ _ _ _ T41 (mkF m 128 #[.val (.int p0), .val (.int p1), .val (.int p2), .val (.int p3), .val (.int p4), .val (.int p5), .val (.int (2 : Int32)), .val (.ref bv), .val (.ref bt), .val (.ref br)] [(.int (2 : Int32))])
    refine own_go (fun _ k => XS.iload X41.here hx rfl (hb hby at_128) rfl k) ?_
    show own_Ends _ _ _ _ _ _ _ T41 (mkF m 130 #[.val (.int p0), .val (.int p1), .val (.int p2), .val (.int p3), .val (.int p4), .val (.int p5), .val (.int (2 : Int32)), .val (.ref bv), .val (.ref bt), .val (.ref br)] [(.int (2 : Int32)), (.int (2 : Int32))])
    refine own_go (fun _ k => XS.icmpYes X41.here hx rfl (pc0 := 130) (pc' := 135) rfl (hb hby at_130) rfl (teq (rfl)).1 (by decide) (by decide) k) ?_
    show own_Ends _ _ _ _ _ _ _ T41 (mkF m 135 #[.val (.int p0), .val (.int p1), .val (.int p2), .val (.int p3), .val (.int p4), .val (.int p5), .val (.int (2 : Int32)), .val (.ref bv), .val (.ref bt), .val (.ref br)] [])
    refine own_go (fun _ k => XS.aload X41.here hx rfl (hb hby at_135) rfl rfl k) ?_
    show own_Ends _ _ _ _ _ _ _ T41 (mkF m 137 #[.val (.int p0), .val (.int p1), .val (.int p2), .val (.int p3), .val (.int p4), .val (.int p5), .val (.int (2 : Int32)), .val (.ref bv), .val (.ref bt), .val (.ref br)] [(.ref bt)])
    refine own_go (fun _ k => XS.aload X41.here hx rfl (hb hby at_137) rfl rfl k) ?_
    show own_Ends _ _ _ _ _ _ _ T41 (mkF m 139 #[.val (.int p0), .val (.int p1), .val (.int p2), .val (.int p3), .val (.int p4), .val (.int p5), .val (.int (2 : Int32)), .val (.ref bv), .val (.ref bt), .val (.ref br)] [(.ref br), (.ref bt)])
    refine own_go (fun _ k => XS.aload X41.here hx rfl (hb hby at_139) rfl rfl k) ?_
    show own_Ends _ _ _ _ _ _ _ T41 (mkF m 141 #[.val (.int p0), .val (.int p1), .val (.int p2), .val (.int p3), .val (.int p4), .val (.int p5), .val (.int (2 : Int32)), .val (.ref bv), .val (.ref bt), .val (.ref br)] [(.ref bv), (.ref br), (.ref bt)])
    refine own_go (fun _ k => XS.iconst X41.here hx rfl (hb hby at_141) k) ?_
    show own_Ends _ _ _ _ _ _ _ T41 (mkF m 142 #[.val (.int p0), .val (.int p1), .val (.int p2), .val (.int p3), .val (.int p4), .val (.int p5), .val (.int (2 : Int32)), .val (.ref bv), .val (.ref bt), .val (.ref br)] [(.int (0 : Int32)), (.ref bv), (.ref br), (.ref bt)])
    refine own_go (fun _ k => XS.iload X41.here hx rfl (hb hby at_142) rfl k) ?_
    show own_Ends _ _ _ _ _ _ _ T41 (mkF m 144 #[.val (.int p0), .val (.int p1), .val (.int p2), .val (.int p3), .val (.int p4), .val (.int p5), .val (.int (2 : Int32)), .val (.ref bv), .val (.ref bt), .val (.ref br)] [(.int (2 : Int32)), (.int (0 : Int32)), (.ref bv), (.ref br), (.ref bt)])
    obtain ⟨v42, T42, L42, X42, hQ42, st42⟩ := own_callS X41 hx hZ hown (hw _ (List.mem_of_getElem? (i := 6) rfl)) (hw _ (List.mem_of_getElem? (i := 7) rfl)) (hw _ (List.mem_of_getElem? (i := 8) rfl)) (hw _ (List.mem_of_getElem? (i := 9) rfl)) (rm2_0 l Z a0 hw bt br bv (0 : Int32) (2 : Int32) T41.heap k38 kr k17 2 2 5 (fun j => if j = 1 then (.int p2) else (fun j => if j = 0 then (.int p1) else (fun _ => (.int (0 : Int32))) j) j) g (fun j => if j = 4 then (.int p5) else (fun j => if j = 3 then (.int p4) else (fun j => if j = 2 then (.int p3) else (fun j => if j = 1 then (.int p2) else (fun j => if j = 0 then (.int p1) else (fun _ => (.int (0 : Int32))) j) j) j) j) j) p1 V_bt_41 A41 V_bv_41 (by decide) (by decide) (by decide) rfl (by decide) (by first | rfl | simp) (by first | rfl | simp) g0) rfl (g := (mkF m 144 #[.val (.int p0), .val (.int p1), .val (.int p2), .val (.int p3), .val (.int p4), .val (.int p5), .val (.int (2 : Int32)), .val (.ref bv), .val (.ref bt), .val (.ref br)] [(.int (2 : Int32)), (.int (0 : Int32)), (.ref bv), (.ref br), (.ref bt)])) rfl (by rw [hml]; rfl) (argsL := [(.ref bt), (.ref br), (.ref bv), (.int (0 : Int32)), (.int (2 : Int32))]) (rest := []) (lenOf pd_1 rfl) rfl rfl (W := 0) (by show 2 * 0 + _ ≤ _; exact Nat.le_of_eq rfl) (hb hby at_144) (by decide) (by decide) (by decide) (by decide) (by decide)
    obtain ⟨rfl, rfl, e42⟩ := hQ42
    refine own_go st42 ?_
    have N42 := Fr.app N41 (Fr.nil _)
    show own_Ends _ _ _ _ _ _ _ T42 (mkF m 147 #[.val (.int p0), .val (.int p1), .val (.int p2), .val (.int p3), .val (.int p4), .val (.int p5), .val (.int (2 : Int32)), .val (.ref bv), .val (.ref bt), .val (.ref br)] [(.int (1 : Int32))])
    refine own_go (fun _ k => XS.ifNo X42.here hx rfl (hb hby at_147) rfl ((if0 _ _).trans (feq (by decide)).1) k) ?_
    show own_Ends _ _ _ _ _ _ _ T42 (mkF m 150 #[.val (.int p0), .val (.int p1), .val (.int p2), .val (.int p3), .val (.int p4), .val (.int p5), .val (.int (2 : Int32)), .val (.ref bv), .val (.ref bt), .val (.ref br)] [])
    refine own_go (fun _ k => XS.aload X42.here hx rfl (hb hby at_150) rfl rfl k) ?_
    show own_Ends _ _ _ _ _ _ _ T42 (mkF m 152 #[.val (.int p0), .val (.int p1), .val (.int p2), .val (.int p3), .val (.int p4), .val (.int p5), .val (.int (2 : Int32)), .val (.ref bv), .val (.ref bt), .val (.ref br)] [(.ref bt)])
    refine own_go (fun _ k => XS.aload X42.here hx rfl (hb hby at_152) rfl rfl k) ?_
    show own_Ends _ _ _ _ _ _ _ T42 (mkF m 154 #[.val (.int p0), .val (.int p1), .val (.int p2), .val (.int p3), .val (.int p4), .val (.int p5), .val (.int (2 : Int32)), .val (.ref bv), .val (.ref bt), .val (.ref br)] [(.ref br), (.ref bt)])
    refine own_go (fun _ k => XS.aload X42.here hx rfl (hb hby at_154) rfl rfl k) ?_
    show own_Ends _ _ _ _ _ _ _ T42 (mkF m 156 #[.val (.int p0), .val (.int p1), .val (.int p2), .val (.int p3), .val (.int p4), .val (.int p5), .val (.int (2 : Int32)), .val (.ref bv), .val (.ref bt), .val (.ref br)] [(.ref bv), (.ref br), (.ref bt)])
    refine own_go (fun _ k => XS.iconst X42.here hx rfl (hb hby at_156) k) ?_
    show own_Ends _ _ _ _ _ _ _ T42 (mkF m 157 #[.val (.int p0), .val (.int p1), .val (.int p2), .val (.int p3), .val (.int p4), .val (.int p5), .val (.int (2 : Int32)), .val (.ref bv), .val (.ref bt), .val (.ref br)] [(.int (1 : Int32)), (.ref bv), (.ref br), (.ref bt)])
    refine own_go (fun _ k => XS.iload X42.here hx rfl (hb hby at_157) rfl k) ?_
    show own_Ends _ _ _ _ _ _ _ T42 (mkF m 159 #[.val (.int p0), .val (.int p1), .val (.int p2), .val (.int p3), .val (.int p4), .val (.int p5), .val (.int (2 : Int32)), .val (.ref bv), .val (.ref bt), .val (.ref br)] [(.int (2 : Int32)), (.int (1 : Int32)), (.ref bv), (.ref br), (.ref bt)])
    obtain ⟨v43, T43, L43, X43, hQ43, st43⟩ := own_callS X42 hx hZ hown (hw _ (List.mem_of_getElem? (i := 6) rfl)) (hw _ (List.mem_of_getElem? (i := 7) rfl)) (hw _ (List.mem_of_getElem? (i := 8) rfl)) (hw _ (List.mem_of_getElem? (i := 9) rfl)) (rm2_1 l Z a0 hw bt br bv (1 : Int32) (2 : Int32) T41.heap k38 kr k17 2 2 5 (fun j => if j = 1 then (.int p2) else (fun j => if j = 0 then (.int p1) else (fun _ => (.int (0 : Int32))) j) j) g (fun j => if j = 4 then (.int p5) else (fun j => if j = 3 then (.int p4) else (fun j => if j = 2 then (.int p3) else (fun j => if j = 1 then (.int p2) else (fun j => if j = 0 then (.int p1) else (fun _ => (.int (0 : Int32))) j) j) j) j) j) p2 p1 V_bt_41 A41 V_bv_41 (by decide) (by decide) (by decide) rfl (by decide) (by first | rfl | simp) (by first | rfl | simp) (by first | rfl | simp) (g1.trans (by first | rfl | simp))) e42 (g := (mkF m 159 #[.val (.int p0), .val (.int p1), .val (.int p2), .val (.int p3), .val (.int p4), .val (.int p5), .val (.int (2 : Int32)), .val (.ref bv), .val (.ref bt), .val (.ref br)] [(.int (2 : Int32)), (.int (1 : Int32)), (.ref bv), (.ref br), (.ref bt)])) rfl (by rw [hml]; rfl) (argsL := [(.ref bt), (.ref br), (.ref bv), (.int (1 : Int32)), (.int (2 : Int32))]) (rest := []) (lenOf pd_1 rfl) rfl rfl (W := 0) (by show 2 * 0 + _ ≤ _; exact Nat.le_of_eq rfl) (hb hby at_159) (by decide) (by decide) (by decide) (by decide) (by decide)
    obtain ⟨rfl, rfl, e43⟩ := hQ43
    refine own_go st43 ?_
    have N43 := Fr.app N42 (Fr.nil _)
    show own_Ends _ _ _ _ _ _ _ T43 (mkF m 162 #[.val (.int p0), .val (.int p1), .val (.int p2), .val (.int p3), .val (.int p4), .val (.int p5), .val (.int (2 : Int32)), .val (.ref bv), .val (.ref bt), .val (.ref br)] [(.int (1 : Int32))])
    refine own_go (fun _ k => XS.ifNo X43.here hx rfl (hb hby at_162) rfl ((if0 _ _).trans (feq (by decide)).1) k) ?_
    show own_Ends _ _ _ _ _ _ _ T43 (mkF m 165 #[.val (.int p0), .val (.int p1), .val (.int p2), .val (.int p3), .val (.int p4), .val (.int p5), .val (.int (2 : Int32)), .val (.ref bv), .val (.ref bt), .val (.ref br)] [])
    refine own_go (fun _ k => XS.aload X43.here hx rfl (hb hby at_165) rfl rfl k) ?_
    show own_Ends _ _ _ _ _ _ _ T43 (mkF m 167 #[.val (.int p0), .val (.int p1), .val (.int p2), .val (.int p3), .val (.int p4), .val (.int p5), .val (.int (2 : Int32)), .val (.ref bv), .val (.ref bt), .val (.ref br)] [(.ref bt)])
    refine own_go (fun _ k => XS.aload X43.here hx rfl (hb hby at_167) rfl rfl k) ?_
    show own_Ends _ _ _ _ _ _ _ T43 (mkF m 169 #[.val (.int p0), .val (.int p1), .val (.int p2), .val (.int p3), .val (.int p4), .val (.int p5), .val (.int (2 : Int32)), .val (.ref bv), .val (.ref bt), .val (.ref br)] [(.ref br), (.ref bt)])
    refine own_go (fun _ k => XS.aload X43.here hx rfl (hb hby at_169) rfl rfl k) ?_
    show own_Ends _ _ _ _ _ _ _ T43 (mkF m 171 #[.val (.int p0), .val (.int p1), .val (.int p2), .val (.int p3), .val (.int p4), .val (.int p5), .val (.int (2 : Int32)), .val (.ref bv), .val (.ref bt), .val (.ref br)] [(.ref bv), (.ref br), (.ref bt)])
    refine own_go (fun _ k => XS.iconst X43.here hx rfl (hb hby at_171) k) ?_
    show own_Ends _ _ _ _ _ _ _ T43 (mkF m 172 #[.val (.int p0), .val (.int p1), .val (.int p2), .val (.int p3), .val (.int p4), .val (.int p5), .val (.int (2 : Int32)), .val (.ref bv), .val (.ref bt), .val (.ref br)] [(.int (2 : Int32)), (.ref bv), (.ref br), (.ref bt)])
    refine own_go (fun _ k => XS.iload X43.here hx rfl (hb hby at_172) rfl k) ?_
    show own_Ends _ _ _ _ _ _ _ T43 (mkF m 174 #[.val (.int p0), .val (.int p1), .val (.int p2), .val (.int p3), .val (.int p4), .val (.int p5), .val (.int (2 : Int32)), .val (.ref bv), .val (.ref bt), .val (.ref br)] [(.int (2 : Int32)), (.int (2 : Int32)), (.ref bv), (.ref br), (.ref bt)])
    obtain ⟨v44, T44, L44, X44, hQ44, st44⟩ := own_callS X43 hx hZ hown (hw _ (List.mem_of_getElem? (i := 6) rfl)) (hw _ (List.mem_of_getElem? (i := 7) rfl)) (hw _ (List.mem_of_getElem? (i := 8) rfl)) (hw _ (List.mem_of_getElem? (i := 9) rfl)) (rm2_hi l Z a0 hw bt br bv (2 : Int32) (2 : Int32) T41.heap (by decide)) e43 (g := (mkF m 174 #[.val (.int p0), .val (.int p1), .val (.int p2), .val (.int p3), .val (.int p4), .val (.int p5), .val (.int (2 : Int32)), .val (.ref bv), .val (.ref bt), .val (.ref br)] [(.int (2 : Int32)), (.int (2 : Int32)), (.ref bv), (.ref br), (.ref bt)])) rfl (by rw [hml]; rfl) (argsL := [(.ref bt), (.ref br), (.ref bv), (.int (2 : Int32)), (.int (2 : Int32))]) (rest := []) (lenOf pd_1 rfl) rfl rfl (W := 0) (by show 2 * 0 + _ ≤ _; exact Nat.le_of_eq rfl) (hb hby at_174) (by decide) (by decide) (by decide) (by decide) (by decide)
    obtain ⟨rfl, rfl, e44⟩ := hQ44
    refine own_go st44 ?_
    have N44 := Fr.app N43 (Fr.nil _)
    show own_Ends _ _ _ _ _ _ _ T44 (mkF m 177 #[.val (.int p0), .val (.int p1), .val (.int p2), .val (.int p3), .val (.int p4), .val (.int p5), .val (.int (2 : Int32)), .val (.ref bv), .val (.ref bt), .val (.ref br)] [(.int (1 : Int32))])
    refine own_go (fun _ k => XS.ifNo X44.here hx rfl (hb hby at_177) rfl ((if0 _ _).trans (feq (by decide)).1) k) ?_
    show own_Ends _ _ _ _ _ _ _ T44 (mkF m 180 #[.val (.int p0), .val (.int p1), .val (.int p2), .val (.int p3), .val (.int p4), .val (.int p5), .val (.int (2 : Int32)), .val (.ref bv), .val (.ref bt), .val (.ref br)] [])
    refine own_go (fun _ k => XS.aload X44.here hx rfl (hb hby at_180) rfl rfl k) ?_
    show own_Ends _ _ _ _ _ _ _ T44 (mkF m 182 #[.val (.int p0), .val (.int p1), .val (.int p2), .val (.int p3), .val (.int p4), .val (.int p5), .val (.int (2 : Int32)), .val (.ref bv), .val (.ref bt), .val (.ref br)] [(.ref bt)])
    refine own_go (fun _ k => XS.aload X44.here hx rfl (hb hby at_182) rfl rfl k) ?_
    show own_Ends _ _ _ _ _ _ _ T44 (mkF m 184 #[.val (.int p0), .val (.int p1), .val (.int p2), .val (.int p3), .val (.int p4), .val (.int p5), .val (.int (2 : Int32)), .val (.ref bv), .val (.ref bt), .val (.ref br)] [(.ref br), (.ref bt)])
    refine own_go (fun _ k => XS.aload X44.here hx rfl (hb hby at_184) rfl rfl k) ?_
    show own_Ends _ _ _ _ _ _ _ T44 (mkF m 186 #[.val (.int p0), .val (.int p1), .val (.int p2), .val (.int p3), .val (.int p4), .val (.int p5), .val (.int (2 : Int32)), .val (.ref bv), .val (.ref bt), .val (.ref br)] [(.ref bv), (.ref br), (.ref bt)])
    refine own_go (fun _ k => XS.iconst X44.here hx rfl (hb hby at_186) k) ?_
    show own_Ends _ _ _ _ _ _ _ T44 (mkF m 187 #[.val (.int p0), .val (.int p1), .val (.int p2), .val (.int p3), .val (.int p4), .val (.int p5), .val (.int (2 : Int32)), .val (.ref bv), .val (.ref bt), .val (.ref br)] [(.int (3 : Int32)), (.ref bv), (.ref br), (.ref bt)])
    refine own_go (fun _ k => XS.iload X44.here hx rfl (hb hby at_187) rfl k) ?_
    show own_Ends _ _ _ _ _ _ _ T44 (mkF m 189 #[.val (.int p0), .val (.int p1), .val (.int p2), .val (.int p3), .val (.int p4), .val (.int p5), .val (.int (2 : Int32)), .val (.ref bv), .val (.ref bt), .val (.ref br)] [(.int (2 : Int32)), (.int (3 : Int32)), (.ref bv), (.ref br), (.ref bt)])
    obtain ⟨v45, T45, L45, X45, hQ45, st45⟩ := own_callS X44 hx hZ hown (hw _ (List.mem_of_getElem? (i := 6) rfl)) (hw _ (List.mem_of_getElem? (i := 7) rfl)) (hw _ (List.mem_of_getElem? (i := 8) rfl)) (hw _ (List.mem_of_getElem? (i := 9) rfl)) (rm2_hi l Z a0 hw bt br bv (3 : Int32) (2 : Int32) T41.heap (by decide)) e44 (g := (mkF m 189 #[.val (.int p0), .val (.int p1), .val (.int p2), .val (.int p3), .val (.int p4), .val (.int p5), .val (.int (2 : Int32)), .val (.ref bv), .val (.ref bt), .val (.ref br)] [(.int (2 : Int32)), (.int (3 : Int32)), (.ref bv), (.ref br), (.ref bt)])) rfl (by rw [hml]; rfl) (argsL := [(.ref bt), (.ref br), (.ref bv), (.int (3 : Int32)), (.int (2 : Int32))]) (rest := []) (lenOf pd_1 rfl) rfl rfl (W := 0) (by show 2 * 0 + _ ≤ _; exact Nat.le_of_eq rfl) (hb hby at_189) (by decide) (by decide) (by decide) (by decide) (by decide)
    obtain ⟨rfl, rfl, e45⟩ := hQ45
    refine own_go st45 ?_
    have N45 := Fr.app N44 (Fr.nil _)
    show own_Ends _ _ _ _ _ _ _ T45 (mkF m 192 #[.val (.int p0), .val (.int p1), .val (.int p2), .val (.int p3), .val (.int p4), .val (.int p5), .val (.int (2 : Int32)), .val (.ref bv), .val (.ref bt), .val (.ref br)] [(.int (1 : Int32))])
    refine own_go (fun _ k => XS.ifNo X45.here hx rfl (hb hby at_192) rfl ((if0 _ _).trans (feq (by decide)).1) k) ?_
    show own_Ends _ _ _ _ _ _ _ T45 (mkF m 195 #[.val (.int p0), .val (.int p1), .val (.int p2), .val (.int p3), .val (.int p4), .val (.int p5), .val (.int (2 : Int32)), .val (.ref bv), .val (.ref bt), .val (.ref br)] [])
    refine own_go (fun _ k => XS.aload X45.here hx rfl (hb hby at_195) rfl rfl k) ?_
    show own_Ends _ _ _ _ _ _ _ T45 (mkF m 197 #[.val (.int p0), .val (.int p1), .val (.int p2), .val (.int p3), .val (.int p4), .val (.int p5), .val (.int (2 : Int32)), .val (.ref bv), .val (.ref bt), .val (.ref br)] [(.ref bt)])
    refine own_go (fun _ k => XS.aload X45.here hx rfl (hb hby at_197) rfl rfl k) ?_
    show own_Ends _ _ _ _ _ _ _ T45 (mkF m 199 #[.val (.int p0), .val (.int p1), .val (.int p2), .val (.int p3), .val (.int p4), .val (.int p5), .val (.int (2 : Int32)), .val (.ref bv), .val (.ref bt), .val (.ref br)] [(.ref br), (.ref bt)])
    refine own_go (fun _ k => XS.aload X45.here hx rfl (hb hby at_199) rfl rfl k) ?_
    show own_Ends _ _ _ _ _ _ _ T45 (mkF m 201 #[.val (.int p0), .val (.int p1), .val (.int p2), .val (.int p3), .val (.int p4), .val (.int p5), .val (.int (2 : Int32)), .val (.ref bv), .val (.ref bt), .val (.ref br)] [(.ref bv), (.ref br), (.ref bt)])
    refine own_go (fun _ k => XS.iconst X45.here hx rfl (hb hby at_201) k) ?_
    show own_Ends _ _ _ _ _ _ _ T45 (mkF m 202 #[.val (.int p0), .val (.int p1), .val (.int p2), .val (.int p3), .val (.int p4), .val (.int p5), .val (.int (2 : Int32)), .val (.ref bv), .val (.ref bt), .val (.ref br)] [(.int (4 : Int32)), (.ref bv), (.ref br), (.ref bt)])
    refine own_go (fun _ k => XS.iload X45.here hx rfl (hb hby at_202) rfl k) ?_
    show own_Ends _ _ _ _ _ _ _ T45 (mkF m 204 #[.val (.int p0), .val (.int p1), .val (.int p2), .val (.int p3), .val (.int p4), .val (.int p5), .val (.int (2 : Int32)), .val (.ref bv), .val (.ref bt), .val (.ref br)] [(.int (2 : Int32)), (.int (4 : Int32)), (.ref bv), (.ref br), (.ref bt)])
    obtain ⟨v46, T46, L46, X46, hQ46, st46⟩ := own_callS X45 hx hZ hown (hw _ (List.mem_of_getElem? (i := 6) rfl)) (hw _ (List.mem_of_getElem? (i := 7) rfl)) (hw _ (List.mem_of_getElem? (i := 8) rfl)) (hw _ (List.mem_of_getElem? (i := 9) rfl)) (rm2_hi l Z a0 hw bt br bv (4 : Int32) (2 : Int32) T41.heap (by decide)) e45 (g := (mkF m 204 #[.val (.int p0), .val (.int p1), .val (.int p2), .val (.int p3), .val (.int p4), .val (.int p5), .val (.int (2 : Int32)), .val (.ref bv), .val (.ref bt), .val (.ref br)] [(.int (2 : Int32)), (.int (4 : Int32)), (.ref bv), (.ref br), (.ref bt)])) rfl (by rw [hml]; rfl) (argsL := [(.ref bt), (.ref br), (.ref bv), (.int (4 : Int32)), (.int (2 : Int32))]) (rest := []) (lenOf pd_1 rfl) rfl rfl (W := 0) (by show 2 * 0 + _ ≤ _; exact Nat.le_of_eq rfl) (hb hby at_204) (by decide) (by decide) (by decide) (by decide) (by decide)
    obtain ⟨rfl, rfl, e46⟩ := hQ46
    refine own_go st46 ?_
    have N46 := Fr.app N45 (Fr.nil _)
    show own_Ends _ _ _ _ _ _ _ T46 (mkF m 207 #[.val (.int p0), .val (.int p1), .val (.int p2), .val (.int p3), .val (.int p4), .val (.int p5), .val (.int (2 : Int32)), .val (.ref bv), .val (.ref bt), .val (.ref br)] [(.int (1 : Int32))])
    refine own_go (fun _ k => XS.ifNo X46.here hx rfl (hb hby at_207) rfl ((if0 _ _).trans (feq (by decide)).1) k) ?_
    show own_Ends _ _ _ _ _ _ _ T46 (mkF m 210 #[.val (.int p0), .val (.int p1), .val (.int p2), .val (.int p3), .val (.int p4), .val (.int p5), .val (.int (2 : Int32)), .val (.ref bv), .val (.ref bt), .val (.ref br)] [])
    refine own_go (fun _ k => XS.iconst X46.here hx rfl (hb hby at_210) k) ?_
    show own_Ends _ _ _ _ _ _ _ T46 (mkF m 211 #[.val (.int p0), .val (.int p1), .val (.int p2), .val (.int p3), .val (.int p4), .val (.int p5), .val (.int (2 : Int32)), .val (.ref bv), .val (.ref bt), .val (.ref br)] [(.int (1 : Int32))])
    refine own_go (fun _ k => XS.goto X46.here hx rfl (pc0 := 211) (pc' := 215) rfl (hb hby at_211) (by decide) (by decide) k) ?_
    show own_Ends _ _ _ _ _ _ _ T46 (mkF m 215 #[.val (.int p0), .val (.int p1), .val (.int p2), .val (.int p3), .val (.int p4), .val (.int p5), .val (.int (2 : Int32)), .val (.ref bv), .val (.ref bt), .val (.ref br)] [(.int (1 : Int32))])
    exact own_retZ X46 hx hlk hret (by decide) (hb hby at_215) (by decide) (by decide) ⟨rfl, N46⟩
  · rw [show ((p0 &&& (2147483647 : Int32)) % (6 : Int32)) = (3 : Int32) from hn]
    show own_Ends _ _ _ _ _ _ _ T22 (mkF m 38 #[.val (.int p0), .val (.int p1), .val (.int p2), .val (.int p3), .val (.int p4), .val (.int p5), .val (.int (3 : Int32)), .val (.ref bv), .unset, .unset] [(.int (3 : Int32))])
    obtain ⟨T47, h47, k47, X47, e47, E47, A47, st47⟩ := own_newP X22 hx hZ (aty := .int) (hw _ (List.mem_of_getElem? (i := 1) rfl)) e22 (g := (mkF m 38 #[.val (.int p0), .val (.int p1), .val (.int p2), .val (.int p3), .val (.int p4), .val (.int p5), .val (.int (3 : Int32)), .val (.ref bv), .unset, .unset] [(.int (3 : Int32))])) rfl (hb hby at_38) rfl (by decide) (n := 3) (by decide) (cap := 3) (by decide) (by decide) (by decide) (by decide)
    obtain ⟨bt, gq47⟩ : ∃ z, z = h22.size := ⟨_, rfl⟩
    rw [← gq47] at A47 st47
    have ne_bv_bt : bv ≠ bt := Nat.ne_of_lt (Nat.lt_of_lt_of_le V22.lt (Nat.le_of_eq gq47.symm))
    have sz_bt : h0.size ≤ bt := Nat.le_trans K_22.1 (Nat.le_of_eq gq47.symm)
    have g_bt : h0.size ≤ bt := Nat.le_trans (Nat.le_refl _) sz_bt
    have K_47 := K_22.ext E47
    have V_bv_47 := V22.ext E47
    have V_bt : own_Ar Z h47 bt k47 .int 3 (fun _ => (.int (0 : Int32))) := A47
    refine own_go st47 ?_
    show own_Ends _ _ _ _ _ _ _ T47 (mkF m 40 #[.val (.int p0), .val (.int p1), .val (.int p2), .val (.int p3), .val (.int p4), .val (.int p5), .val (.int (3 : Int32)), .val (.ref bv), .unset, .unset] [(.ref bt)])
    refine own_go (fun _ k => XS.astore X47.here hx rfl (hb hby at_40) rfl rfl (l' := #[.val (.int p0), .val (.int p1), .val (.int p2), .val (.int p3), .val (.int p4), .val (.int p5), .val (.int (3 : Int32)), .val (.ref bv), .val (.ref bt), .unset]) rfl k) ?_
    show own_Ends _ _ _ _ _ _ _ T47 (mkF m 42 #[.val (.int p0), .val (.int p1), .val (.int p2), .val (.int p3), .val (.int p4), .val (.int p5), .val (.int (3 : Int32)), .val (.ref bv), .val (.ref bt), .unset] [])
    refine own_go (fun _ k => XS.iload X47.here hx rfl (hb hby at_42) rfl k) ?_
    show own_Ends _ _ _ _ _ _ _ T47 (mkF m 44 #[.val (.int p0), .val (.int p1), .val (.int p2), .val (.int p3), .val (.int p4), .val (.int p5), .val (.int (3 : Int32)), .val (.ref bv), .val (.ref bt), .unset] [(.int (3 : Int32))])
    refine own_go (fun _ k => XS.ifNo X47.here hx rfl (hb hby at_44) rfl ((if0 _ _).trans (tlt (by decide)).2.2.2) k) ?_
    show own_Ends _ _ _ _ _ _ _ T47 (mkF m 47 #[.val (.int p0), .val (.int p1), .val (.int p2), .val (.int p3), .val (.int p4), .val (.int p5), .val (.int (3 : Int32)), .val (.ref bv), .val (.ref bt), .unset] [])
    refine own_go (fun _ k => XS.aload X47.here hx rfl (hb hby at_47) rfl rfl k) ?_
    show own_Ends _ _ _ _ _ _ _ T47 (mkF m 49 #[.val (.int p0), .val (.int p1), .val (.int p2), .val (.int p3), .val (.int p4), .val (.int p5), .val (.int (3 : Int32)), .val (.ref bv), .val (.ref bt), .unset] [(.ref bt)])
    refine own_go (fun _ k => XS.iconst X47.here hx rfl (hb hby at_49) k) ?_
    show own_Ends _ _ _ _ _ _ _ T47 (mkF m 50 #[.val (.int p0), .val (.int p1), .val (.int p2), .val (.int p3), .val (.int p4), .val (.int p5), .val (.int (3 : Int32)), .val (.ref bv), .val (.ref bt), .unset] [(.int (0 : Int32)), (.ref bt)])
    refine own_go (fun _ k => XS.iloadN X47.here hx rfl (hb hby at_50) rfl k) ?_
    show own_Ends _ _ _ _ _ _ _ T47 (mkF m 51 #[.val (.int p0), .val (.int p1), .val (.int p2), .val (.int p3), .val (.int p4), .val (.int p5), .val (.int (3 : Int32)), .val (.ref bv), .val (.ref bt), .unset] [(.int p1), (.int (0 : Int32)), (.ref bt)])
    obtain ⟨T48, h48, X48, e48, W48, V48, st48⟩ := own_stI X47 hx hZ e47 V_bt (i := 0) (by decide) (by decide) (by decide) (g := (mkF m 51 #[.val (.int p0), .val (.int p1), .val (.int p2), .val (.int p3), .val (.int p4), .val (.int p5), .val (.int (3 : Int32)), .val (.ref bv), .val (.ref bt), .unset] [(.int p1), (.int (0 : Int32)), (.ref bt)])) rfl rfl (hb hby at_51)
    have N48 := Fr.snoc X48 N22 g_bt
    have K_48 := K_47.wr W48 (Or.inr sz_bt)
    have V_bv_48 := V_bv_47.other W48 ne_bv_bt
    refine own_go st48 ?_
    show own_Ends _ _ _ _ _ _ _ T48 (mkF m 52 #[.val (.int p0), .val (.int p1), .val (.int p2), .val (.int p3), .val (.int p4), .val (.int p5), .val (.int (3 : Int32)), .val (.ref bv), .val (.ref bt), .unset] [])
    refine own_go (fun _ k => XS.iload X48.here hx rfl (hb hby at_52) rfl k) ?_
    show own_Ends _ _ _ _ _ _ _ T48 (mkF m 54 #[.val (.int p0), .val (.int p1), .val (.int p2), .val (.int p3), .val (.int p4), .val (.int p5), .val (.int (3 : Int32)), .val (.ref bv), .val (.ref bt), .unset] [(.int (3 : Int32))])
    refine own_go (fun _ k => XS.iconst X48.here hx rfl (hb hby at_54) k) ?_
    show own_Ends _ _ _ _ _ _ _ T48 (mkF m 55 #[.val (.int p0), .val (.int p1), .val (.int p2), .val (.int p3), .val (.int p4), .val (.int p5), .val (.int (3 : Int32)), .val (.ref bv), .val (.ref bt), .unset] [(.int (1 : Int32)), (.int (3 : Int32))])
    refine own_go (fun _ k => XS.icmpNo X48.here hx rfl (hb hby at_55) rfl (tlt (by decide)).2.2.2 k) ?_
    show own_Ends _ _ _ _ _ _ _ T48 (mkF m 58 #[.val (.int p0), .val (.int p1), .val (.int p2), .val (.int p3), .val (.int p4), .val (.int p5), .val (.int (3 : Int32)), .val (.ref bv), .val (.ref bt), .unset] [])
    refine own_go (fun _ k => XS.aload X48.here hx rfl (hb hby at_58) rfl rfl k) ?_
    show own_Ends _ _ _ _ _ _ _ T48 (mkF m 60 #[.val (.int p0), .val (.int p1), .val (.int p2), .val (.int p3), .val (.int p4), .val (.int p5), .val (.int (3 : Int32)), .val (.ref bv), .val (.ref bt), .unset] [(.ref bt)])
    refine own_go (fun _ k => XS.iconst X48.here hx rfl (hb hby at_60) k) ?_
    show own_Ends _ _ _ _ _ _ _ T48 (mkF m 61 #[.val (.int p0), .val (.int p1), .val (.int p2), .val (.int p3), .val (.int p4), .val (.int p5), .val (.int (3 : Int32)), .val (.ref bv), .val (.ref bt), .unset] [(.int (1 : Int32)), (.ref bt)])
    refine own_go (fun _ k => XS.iloadN X48.here hx rfl (hb hby at_61) rfl k) ?_
    show own_Ends _ _ _ _ _ _ _ T48 (mkF m 62 #[.val (.int p0), .val (.int p1), .val (.int p2), .val (.int p3), .val (.int p4), .val (.int p5), .val (.int (3 : Int32)), .val (.ref bv), .val (.ref bt), .unset] [(.int p2), (.int (1 : Int32)), (.ref bt)])
    obtain ⟨T49, h49, X49, e49, W49, V49, st49⟩ := own_stI X48 hx hZ e48 V48 (i := 1) (by decide) (by decide) (by decide) (g := (mkF m 62 #[.val (.int p0), .val (.int p1), .val (.int p2), .val (.int p3), .val (.int p4), .val (.int p5), .val (.int (3 : Int32)), .val (.ref bv), .val (.ref bt), .unset] [(.int p2), (.int (1 : Int32)), (.ref bt)])) rfl rfl (hb hby at_62)
    have N49 := Fr.snoc X49 N48 g_bt
    have K_49 := K_48.wr W49 (Or.inr sz_bt)
    have V_bv_49 := V_bv_48.other W49 ne_bv_bt
    refine own_go st49 ?_
    show own_Ends _ _ _ _ _ _ _ T49 (mkF m 63 #[.val (.int p0), .val (.int p1), .val (.int p2), .val (.int p3), .val (.int p4), .val (.int p5), .val (.int (3 : Int32)), .val (.ref bv), .val (.ref bt), .unset] [])
    refine own_go (fun _ k => XS.iload X49.here hx rfl (hb hby at_63) rfl k) ?_
    show own_Ends _ _ _ _ _ _ _ T49 (mkF m 65 #[.val (.int p0), .val (.int p1), .val (.int p2), .val (.int p3), .val (.int p4), .val (.int p5), .val (.int (3 : Int32)), .val (.ref bv), .val (.ref bt), .unset] [(.int (3 : Int32))])
    refine own_go (fun _ k => XS.iconst X49.here hx rfl (hb hby at_65) k) ?_
    show own_Ends _ _ _ _ _ _ _ T49 (mkF m 66 #[.val (.int p0), .val (.int p1), .val (.int p2), .val (.int p3), .val (.int p4), .val (.int p5), .val (.int (3 : Int32)), .val (.ref bv), .val (.ref bt), .unset] [(.int (2 : Int32)), (.int (3 : Int32))])
    refine own_go (fun _ k => XS.icmpNo X49.here hx rfl (hb hby at_66) rfl (tlt (by decide)).2.2.2 k) ?_
    show own_Ends _ _ _ _ _ _ _ T49 (mkF m 69 #[.val (.int p0), .val (.int p1), .val (.int p2), .val (.int p3), .val (.int p4), .val (.int p5), .val (.int (3 : Int32)), .val (.ref bv), .val (.ref bt), .unset] [])
    refine own_go (fun _ k => XS.aload X49.here hx rfl (hb hby at_69) rfl rfl k) ?_
    show own_Ends _ _ _ _ _ _ _ T49 (mkF m 71 #[.val (.int p0), .val (.int p1), .val (.int p2), .val (.int p3), .val (.int p4), .val (.int p5), .val (.int (3 : Int32)), .val (.ref bv), .val (.ref bt), .unset] [(.ref bt)])
    refine own_go (fun _ k => XS.iconst X49.here hx rfl (hb hby at_71) k) ?_
    show own_Ends _ _ _ _ _ _ _ T49 (mkF m 72 #[.val (.int p0), .val (.int p1), .val (.int p2), .val (.int p3), .val (.int p4), .val (.int p5), .val (.int (3 : Int32)), .val (.ref bv), .val (.ref bt), .unset] [(.int (2 : Int32)), (.ref bt)])
    refine own_go (fun _ k => XS.iloadN X49.here hx rfl (hb hby at_72) rfl k) ?_
    show own_Ends _ _ _ _ _ _ _ T49 (mkF m 73 #[.val (.int p0), .val (.int p1), .val (.int p2), .val (.int p3), .val (.int p4), .val (.int p5), .val (.int (3 : Int32)), .val (.ref bv), .val (.ref bt), .unset] [(.int p3), (.int (2 : Int32)), (.ref bt)])
    obtain ⟨T50, h50, X50, e50, W50, V50, st50⟩ := own_stI X49 hx hZ e49 V49 (i := 2) (by decide) (by decide) (by decide) (g := (mkF m 73 #[.val (.int p0), .val (.int p1), .val (.int p2), .val (.int p3), .val (.int p4), .val (.int p5), .val (.int (3 : Int32)), .val (.ref bv), .val (.ref bt), .unset] [(.int p3), (.int (2 : Int32)), (.ref bt)])) rfl rfl (hb hby at_73)
    have N50 := Fr.snoc X50 N49 g_bt
    have K_50 := K_49.wr W50 (Or.inr sz_bt)
    have V_bv_50 := V_bv_49.other W50 ne_bv_bt
    refine own_go st50 ?_
    show own_Ends _ _ _ _ _ _ _ T50 (mkF m 74 #[.val (.int p0), .val (.int p1), .val (.int p2), .val (.int p3), .val (.int p4), .val (.int p5), .val (.int (3 : Int32)), .val (.ref bv), .val (.ref bt), .unset] [])
    refine own_go (fun _ k => XS.iload X50.here hx rfl (hb hby at_74) rfl k) ?_
    show own_Ends _ _ _ _ _ _ _ T50 (mkF m 76 #[.val (.int p0), .val (.int p1), .val (.int p2), .val (.int p3), .val (.int p4), .val (.int p5), .val (.int (3 : Int32)), .val (.ref bv), .val (.ref bt), .unset] [(.int (3 : Int32))])
    refine own_go (fun _ k => XS.iconst X50.here hx rfl (hb hby at_76) k) ?_
    show own_Ends _ _ _ _ _ _ _ T50 (mkF m 77 #[.val (.int p0), .val (.int p1), .val (.int p2), .val (.int p3), .val (.int p4), .val (.int p5), .val (.int (3 : Int32)), .val (.ref bv), .val (.ref bt), .unset] [(.int (3 : Int32)), (.int (3 : Int32))])
    refine own_go (fun _ k => XS.icmpYes X50.here hx rfl (pc0 := 77) (pc' := 86) rfl (hb hby at_77) rfl (flt (by decide)).2.2.2 (by decide) (by decide) k) ?_
    show own_Ends _ _ _ _ _ _ _ T50 (mkF m 86 #[.val (.int p0), .val (.int p1), .val (.int p2), .val (.int p3), .val (.int p4), .val (.int p5), .val (.int (3 : Int32)), .val (.ref bv), .val (.ref bt), .unset] [])
    refine own_go (fun _ k => XS.iload X50.here hx rfl (hb hby at_86) rfl k) ?_
    show own_Ends _ _ _ _ _ _ _ T50 (mkF m 88 #[.val (.int p0), .val (.int p1), .val (.int p2), .val (.int p3), .val (.int p4), .val (.int p5), .val (.int (3 : Int32)), .val (.ref bv), .val (.ref bt), .unset] [(.int (3 : Int32))])
    refine own_go (fun _ k => XS.iconst X50.here hx rfl (hb hby at_88) k) ?_
    show own_Ends _ _ _ _ _ _ _ T50 (mkF m 89 #[.val (.int p0), .val (.int p1), .val (.int p2), .val (.int p3), .val (.int p4), .val (.int p5), .val (.int (3 : Int32)), .val (.ref bv), .val (.ref bt), .unset] [(.int (4 : Int32)), (.int (3 : Int32))])
    refine own_go (fun _ k => XS.icmpYes X50.here hx rfl (pc0 := 89) (pc' := 98) rfl (hb hby at_89) rfl (flt (by decide)).2.2.2 (by decide) (by decide) k) ?_
    show own_Ends _ _ _ _ _ _ _ T50 (mkF m 98 #[.val (.int p0), .val (.int p1), .val (.int p2), .val (.int p3), .val (.int p4), .val (.int p5), .val (.int (3 : Int32)), .val (.ref bv), .val (.ref bt), .unset] [])
    refine own_go (fun _ k => XS.aload X50.here hx rfl (hb hby at_98) rfl rfl k) ?_
    show own_Ends _ _ _ _ _ _ _ T50 (mkF m 100 #[.val (.int p0), .val (.int p1), .val (.int p2), .val (.int p3), .val (.int p4), .val (.int p5), .val (.int (3 : Int32)), .val (.ref bv), .val (.ref bt), .unset] [(.ref bt)])
    obtain ⟨v51, T51, L51, X51, hQ51, st51⟩ := own_callS X50 hx hZ hown (hw _ (List.mem_of_getElem? (i := 2) rfl)) (hw _ (List.mem_of_getElem? (i := 3) rfl)) (hw _ (List.mem_of_getElem? (i := 4) rfl)) (hw _ (List.mem_of_getElem? (i := 5) rfl)) (rm1_3 l Z a0 hw bt h50 h0.size k47 (fun j => if j = 2 then (.int p3) else (fun j => if j = 1 then (.int p2) else (fun j => if j = 0 then (.int p1) else (fun _ => (.int (0 : Int32))) j) j) j) K_50.1 V50 (fun i _ => (own_fit_set (own_fit_set (own_fit_set own_fit0))) i)) e50 (g := (mkF m 100 #[.val (.int p0), .val (.int p1), .val (.int p2), .val (.int p3), .val (.int p4), .val (.int p5), .val (.int (3 : Int32)), .val (.ref bv), .val (.ref bt), .unset] [(.ref bt)])) rfl (by rw [hml]; rfl) (argsL := [(.ref bt)]) (rest := []) (lenOf pd_0 rfl) rfl rfl (W := 0) (by show 2 * 0 + _ ≤ _; exact Nat.le_of_eq rfl) (hb hby at_100) (by decide) (by decide) (by decide) (by decide) (by decide)
    obtain ⟨br, kr, g, rfl, N51q, K51, A51, s51, g0, g1, g2⟩ := hQ51
    refine own_go st51 ?_
    have N51 := Fr.app N50 N51q
    show own_Ends _ _ _ _ _ _ _ T51 (mkF m 103 #[.val (.int p0), .val (.int p1), .val (.int p2), .val (.int p3), .val (.int p4), .val (.int p5), .val (.int (3 : Int32)), .val (.ref bv), .val (.ref bt), .unset] [(.ref br)])
    have ne_bt_br : bt ≠ br := Nat.ne_of_lt (Nat.lt_of_lt_of_le V50.lt s51)
    have K_51 := K_50.trans K51 all0
    have V_bv_51 := V_bv_50.keep K51 nin0
    have V_bt_51 := V50.keep K51 nin0
    show own_Ends _ _ _ _ _ _ _ T51 (mkF m 103 #[.val (.int p0), .val (.int p1), .val (.int p2), .val (.int p3), .val (.int p4), .val (.int p5), .val (.int (3 : Int32)), .val (.ref bv), .val (.ref bt), .unset] [(.ref br)])
    refine own_go (fun _ k => XS.astore X51.here hx rfl (hb hby at_103) rfl rfl (l' := #[.val (.int p0), .val (.int p1), .val (.int p2), .val (.int p3), .val (.int p4), .val (.int p5), .val (.int (3 : Int32)), .val (.ref bv), .val (.ref bt), .val (.ref br)]) rfl k) ?_
    show own_Ends _ _ _ _ _ _ _ T51 (mkF m 105 #[.val (.int p0), .val (.int p1), .val (.int p2), .val (.int p3), .val (.int p4), .val (.int p5), .val (.int (3 : Int32)), .val (.ref bv), .val (.ref bt), .val (.ref br)] [])
    refine own_go (fun _ k => XS.aload X51.here hx rfl (hb hby at_105) rfl rfl k) ?_
    show own_Ends _ _ _ _ _ _ _ T51 (mkF m 107 #[.val (.int p0), .val (.int p1), .val (.int p2), .val (.int p3), .val (.int p4), .val (.int p5), .val (.int (3 : Int32)), .val (.ref bv), .val (.ref bt), .val (.ref br)] [(.ref br)])
    refine own_go (fun _ k => XS.ifnullNo X51.here hx rfl (hb hby at_107) rfl k) ?_
    show own_Ends _ _ _ _ _ _ _ T51 (mkF m 110 #[.val (.int p0), .val (.int p1), .val (.int p2), .val (.int p3), .val (.int p4), .val (.int p5), .val (.int (3 : Int32)), .val (.ref bv), .val (.ref bt), .val (.ref br)] [])
    refine own_go (fun _ k => XS.aload X51.here hx rfl (hb hby at_110) rfl rfl k) ?_
    show own_Ends _ _ _ _ _ _ _ T51 (mkF m 112 #[.val (.int p0), .val (.int p1), .val (.int p2), .val (.int p3), .val (.int p4), .val (.int p5), .val (.int (3 : Int32)), .val (.ref bv), .val (.ref bt), .val (.ref br)] [(.ref br)])
    refine own_go (fun _ k => XS.aload X51.here hx rfl (hb hby at_112) rfl rfl k) ?_
    show own_Ends _ _ _ _ _ _ _ T51 (mkF m 114 #[.val (.int p0), .val (.int p1), .val (.int p2), .val (.int p3), .val (.int p4), .val (.int p5), .val (.int (3 : Int32)), .val (.ref bv), .val (.ref bt), .val (.ref br)] [(.ref bt), (.ref br)])
    refine own_go (fun _ k => Jvm.RoadKit.acmp (g := (mkF m 114 #[.val (.int p0), .val (.int p1), .val (.int p2), .val (.int p3), .val (.int p4), .val (.int p5), .val (.int (3 : Int32)), .val (.ref bv), .val (.ref bt), .val (.ref br)] [(.ref bt), (.ref br)])) X51 hx rfl rfl rfl (pc0 := 114) (pc' := 117) (same := false) rfl (hb hby at_114) rfl (decide_eq_false fun q => ne_bt_br (Value.ref.inj q).symm) (by decide) (by decide) k) ?_
    show own_Ends _ _ _ _ _ _ _ T51 (mkF m 117 #[.val (.int p0), .val (.int p1), .val (.int p2), .val (.int p3), .val (.int p4), .val (.int p5), .val (.int (3 : Int32)), .val (.ref bv), .val (.ref bt), .val (.ref br)] [])
    refine own_go (fun _ k => XS.aload X51.here hx rfl (hb hby at_117) rfl rfl k) ?_
    show own_Ends _ _ _ _ _ _ _ T51 (mkF m 119 #[.val (.int p0), .val (.int p1), .val (.int p2), .val (.int p3), .val (.int p4), .val (.int p5), .val (.int (3 : Int32)), .val (.ref bv), .val (.ref bt), .val (.ref br)] [(.ref br)])
    refine own_go (fun _ k => own_len X51 hx hZ rfl A51 (z := (3 : Int32)) rfl (g := (mkF m 119 #[.val (.int p0), .val (.int p1), .val (.int p2), .val (.int p3), .val (.int p4), .val (.int p5), .val (.int (3 : Int32)), .val (.ref bv), .val (.ref bt), .val (.ref br)] [(.ref br)])) rfl rfl (hb hby at_119) _ k) ?_
    show own_Ends _ _ _ _ _ _ _ T51 (mkF m 120 #[.val (.int p0), .val (.int p1), .val (.int p2), .val (.int p3), .val (.int p4), .val (.int p5), .val (.int (3 : Int32)), .val (.ref bv), .val (.ref bt), .val (.ref br)] [(.int (3 : Int32))])
    refine own_go (fun _ k => XS.iload X51.here hx rfl (hb hby at_120) rfl k) ?_
    show own_Ends _ _ _ _ _ _ _ T51 (mkF m 122 #[.val (.int p0), .val (.int p1), .val (.int p2), .val (.int p3), .val (.int p4), .val (.int p5), .val (.int (3 : Int32)), .val (.ref bv), .val (.ref bt), .val (.ref br)] [(.int (3 : Int32)), (.int (3 : Int32))])
    refine own_go (fun _ k => XS.icmpNo X51.here hx rfl (hb hby at_122) rfl (teq (rfl)).2 k) ?_
    show own_Ends _ _ _ _ _ _ _ T51 (mkF m 125 #[.val (.int p0), .val (.int p1), .val (.int p2), .val (.int p3), .val (.int p4), .val (.int p5), .val (.int (3 : Int32)), .val (.ref bv), .val (.ref bt), .val (.ref br)] [])
    refine own_go (fun _ k => XS.aload X51.here hx rfl (hb hby at_125) rfl rfl k) ?_
    show own_Ends _ _ _ _ _ _ _ T51 (mkF m 127 #[.val (.int p0), .val (.int p1), .val (.int p2), .val (.int p3), .val (.int p4), .val (.int p5), .val (.int (3 : Int32)), .val (.ref bv), .val (.ref bt), .val (.ref br)] [(.ref bt)])
    refine own_go (fun _ k => own_len X51 hx hZ rfl V_bt_51 (z := (3 : Int32)) rfl (g := (mkF m 127 #[.val (.int p0), .val (.int p1), .val (.int p2), .val (.int p3), .val (.int p4), .val (.int p5), .val (.int (3 : Int32)), .val (.ref bv), .val (.ref bt), .val (.ref br)] [(.ref bt)])) rfl rfl (hb hby at_127) _ k) ?_
    show own_Ends _ _ _ _ _ _ _ T51 (mkF m 128 #[.val (.int p0), .val (.int p1), .val (.int p2), .val (.int p3), .val (.int p4), .val (.int p5), .val (.int (3 : Int32)), .val (.ref bv), .val (.ref bt), .val (.ref br)] [(.int (3 : Int32))])
    refine own_go (fun _ k => XS.iload X51.here hx rfl (hb hby at_128) rfl k) ?_
    show own_Ends _ _ _ _ _ _ _ T51 (mkF m 130 #[.val (.int p0), .val (.int p1), .val (.int p2), .val (.int p3), .val (.int p4), .val (.int p5), .val (.int (3 : Int32)), .val (.ref bv), .val (.ref bt), .val (.ref br)] [(.int (3 : Int32)), (.int (3 : Int32))])
    refine own_go (fun _ k => XS.icmpYes X51.here hx rfl (pc0 := 130) (pc' := 135) rfl (hb hby at_130) rfl (teq (rfl)).1 (by decide) (by decide) k) ?_
    show own_Ends _ _ _ _ _ _ _ T51 (mkF m 135 #[.val (.int p0), .val (.int p1), .val (.int p2), .val (.int p3), .val (.int p4), .val (.int p5), .val (.int (3 : Int32)), .val (.ref bv), .val (.ref bt), .val (.ref br)] [])
    refine own_go (fun _ k => XS.aload X51.here hx rfl (hb hby at_135) rfl rfl k) ?_
    show own_Ends _ _ _ _ _ _ _ T51 (mkF m 137 #[.val (.int p0), .val (.int p1), .val (.int p2), .val (.int p3), .val (.int p4), .val (.int p5), .val (.int (3 : Int32)), .val (.ref bv), .val (.ref bt), .val (.ref br)] [(.ref bt)])
    refine own_go (fun _ k => XS.aload X51.here hx rfl (hb hby at_137) rfl rfl k) ?_
    show own_Ends _ _ _ _ _ _ _ T51 (mkF m 139 #[.val (.int p0), .val (.int p1), .val (.int p2), .val (.int p3), .val (.int p4), .val (.int p5), .val (.int (3 : Int32)), .val (.ref bv), .val (.ref bt), .val (.ref br)] [(.ref br), (.ref bt)])
    refine own_go (fun _ k => XS.aload X51.here hx rfl (hb hby at_139) rfl rfl k) ?_
    show own_Ends _ _ _ _ _ _ _ T51 (mkF m 141 #[.val (.int p0), .val (.int p1), .val (.int p2), .val (.int p3), .val (.int p4), .val (.int p5), .val (.int (3 : Int32)), .val (.ref bv), .val (.ref bt), .val (.ref br)] [(.ref bv), (.ref br), (.ref bt)])
    refine own_go (fun _ k => XS.iconst X51.here hx rfl (hb hby at_141) k) ?_
    show own_Ends _ _ _ _ _ _ _ T51 (mkF m 142 #[.val (.int p0), .val (.int p1), .val (.int p2), .val (.int p3), .val (.int p4), .val (.int p5), .val (.int (3 : Int32)), .val (.ref bv), .val (.ref bt), .val (.ref br)] [(.int (0 : Int32)), (.ref bv), (.ref br), (.ref bt)])
    refine own_go (fun _ k => XS.iload X51.here hx rfl (hb hby at_142) rfl k) ?_
    show own_Ends _ _ _ _ _ _ _ T51 (mkF m 144 #[.val (.int p0), .val (.int p1), .val (.int p2), .val (.int p3), .val (.int p4), .val (.int p5), .val (.int (3 : Int32)), .val (.ref bv), .val (.ref bt), .val (.ref br)] [(.int (3 : Int32)), (.int (0 : Int32)), (.ref bv), (.ref br), (.ref bt)])
    obtain ⟨v52, T52, L52, X52, hQ52, st52⟩ := own_callS X51 hx hZ hown (hw _ (List.mem_of_getElem? (i := 6) rfl)) (hw _ (List.mem_of_getElem? (i := 7) rfl)) (hw _ (List.mem_of_getElem? (i := 8) rfl)) (hw _ (List.mem_of_getElem? (i := 9) rfl)) (rm2_0 l Z a0 hw bt br bv (0 : Int32) (3 : Int32) T51.heap k47 kr k17 3 3 5 (fun j => if j = 2 then (.int p3) else (fun j => if j = 1 then (.int p2) else (fun j => if j = 0 then (.int p1) else (fun _ => (.int (0 : Int32))) j) j) j) g (fun j => if j = 4 then (.int p5) else (fun j => if j = 3 then (.int p4) else (fun j => if j = 2 then (.int p3) else (fun j => if j = 1 then (.int p2) else (fun j => if j = 0 then (.int p1) else (fun _ => (.int (0 : Int32))) j) j) j) j) j) p1 V_bt_51 A51 V_bv_51 (by decide) (by decide) (by decide) rfl (by decide) (by first | rfl | simp) (by first | rfl | simp) g0) rfl (g := (mkF m 144 #[.val (.int p0), .val (.int p1), .val (.int p2), .val (.int p3), .val (.int p4), .val (.int p5), .val (.int (3 : Int32)), .val (.ref bv), .val (.ref bt), .val (.ref br)] [(.int (3 : Int32)), (.int (0 : Int32)), (.ref bv), (.ref br), (.ref bt)])) rfl (by rw [hml]; rfl) (argsL := [(.ref bt), (.ref br), (.ref bv), (.int (0 : Int32)), (.int (3 : Int32))]) (rest := []) (lenOf pd_1 rfl) rfl rfl (W := 0) (by show 2 * 0 + _ ≤ _; exact Nat.le_of_eq rfl) (hb hby at_144) (by decide) (by decide) (by decide) (by decide) (by decide)
    obtain ⟨rfl, rfl, e52⟩ := hQ52
    refine own_go st52 ?_
    have N52 := Fr.app N51 (Fr.nil _)
    show own_Ends _ _ _ _ _ _ _ T52 (mkF m 147 #[.val (.int p0), .val (.int p1), .val (.int p2), .val (.int p3), .val (.int p4), .val (.int p5), .val (.int (3 : Int32)), .val (.ref bv), .val (.ref bt), .val (.ref br)] [(.int (1 : Int32))])
    refine own_go (fun _ k => XS.ifNo X52.here hx rfl (hb hby at_147) rfl ((if0 _ _).trans (feq (by decide)).1) k) ?_
    show own_Ends _ _ _ _ _ _ _ T52 (mkF m 150 #[.val (.int p0), .val (.int p1), .val (.int p2), .val (.int p3), .val (.int p4), .val (.int p5), .val (.int (3 : Int32)), .val (.ref bv), .val (.ref bt), .val (.ref br)] [])
    refine own_go (fun _ k => XS.aload X52.here hx rfl (hb hby at_150) rfl rfl k) ?_
    show own_Ends _ _ _ _ _ _ _ T52 (mkF m 152 #[.val (.int p0), .val (.int p1), .val (.int p2), .val (.int p3), .val (.int p4), .val (.int p5), .val (.int (3 : Int32)), .val (.ref bv), .val (.ref bt), .val (.ref br)] [(.ref bt)])
    refine own_go (fun _ k => XS.aload X52.here hx rfl (hb hby at_152) rfl rfl k) ?_
    show own_Ends _ _ _ _ _ _ _ T52 (mkF m 154 #[.val (.int p0), .val (.int p1), .val (.int p2), .val (.int p3), .val (.int p4), .val (.int p5), .val (.int (3 : Int32)), .val (.ref bv), .val (.ref bt), .val (.ref br)] [(.ref br), (.ref bt)])
    refine own_go (fun _ k => XS.aload X52.here hx rfl (hb hby at_154) rfl rfl k) ?_
    show own_Ends _ _ _ _ _ _ _ T52 (mkF m 156 #[.val (.int p0), .val (.int p1), .val (.int p2), .val (.int p3), .val (.int p4), .val (.int p5), .val (.int (3 : Int32)), .val (.ref bv), .val (.ref bt), .val (.ref br)] [(.ref bv), (.ref br), (.ref bt)])
    refine own_go (fun _ k => XS.iconst X52.here hx rfl (hb hby at_156) k) ?_
    show own_Ends _ _ _ _ _ _ _ T52 (mkF m 157 #[.val (.int p0), .val (.int p1), .val (.int p2), .val (.int p3), .val (.int p4), .val (.int p5), .val (.int (3 : Int32)), .val (.ref bv), .val (.ref bt), .val (.ref br)] [(.int (1 : Int32)), (.ref bv), (.ref br), (.ref bt)])
    refine own_go (fun _ k => XS.iload X52.here hx rfl (hb hby at_157) rfl k) ?_
    show own_Ends _ _ _ _ _ _ _ T52 (mkF m 159 #[.val (.int p0), .val (.int p1), .val (.int p2), .val (.int p3), .val (.int p4), .val (.int p5), .val (.int (3 : Int32)), .val (.ref bv), .val (.ref bt), .val (.ref br)] [(.int (3 : Int32)), (.int (1 : Int32)), (.ref bv), (.ref br), (.ref bt)])
    obtain ⟨v53, T53, L53, X53, hQ53, st53⟩ := own_callS X52 hx hZ hown (hw _ (List.mem_of_getElem? (i := 6) rfl)) (hw _ (List.mem_of_getElem? (i := 7) rfl)) (hw _ (List.mem_of_getElem? (i := 8) rfl)) (hw _ (List.mem_of_getElem? (i := 9) rfl)) (rm2_1 l Z a0 hw bt br bv (1 : Int32) (3 : Int32) T51.heap k47 kr k17 3 3 5 (fun j => if j = 2 then (.int p3) else (fun j => if j = 1 then (.int p2) else (fun j => if j = 0 then (.int p1) else (fun _ => (.int (0 : Int32))) j) j) j) g (fun j => if j = 4 then (.int p5) else (fun j => if j = 3 then (.int p4) else (fun j => if j = 2 then (.int p3) else (fun j => if j = 1 then (.int p2) else (fun j => if j = 0 then (.int p1) else (fun _ => (.int (0 : Int32))) j) j) j) j) j) p2 p1 V_bt_51 A51 V_bv_51 (by decide) (by decide) (by decide) rfl (by decide) (by first | rfl | simp) (by first | rfl | simp) (by first | rfl | simp) (g1.trans (by first | rfl | simp))) e52 (g := (mkF m 159 #[.val (.int p0), .val (.int p1), .val (.int p2), .val (.int p3), .val (.int p4), .val (.int p5), .val (.int (3 : Int32)), .val (.ref bv), .val (.ref bt), .val (.ref br)] [(.int (3 : Int32)), (.int (1 : Int32)), (.ref bv), (.ref br), (.ref bt)])) rfl (by rw [hml]; rfl) (argsL := [(.ref bt), (.ref br), (.ref bv), (.int (1 : Int32)), (.int (3 : Int32))]) (rest := []) (lenOf pd_1 rfl) rfl rfl (W := 0) (by show 2 * 0 + _ ≤ _; exact Nat.le_of_eq rfl) (hb hby at_159) (by decide) (by decide) (by decide) (by decide) (by decide)
    obtain ⟨rfl, rfl, e53⟩ := hQ53
    refine own_go st53 ?_
    have N53 := Fr.app N52 (Fr.nil _)
    show own_Ends _ _ _ _ _ _ _ T53 (mkF m 162 #[.val (.int p0), .val (.int p1), .val (.int p2), .val (.int p3), .val (.int p4), .val (.int p5), .val (.int (3 : Int32)), .val (.ref bv), .val (.ref bt), .val (.ref br)] [(.int (1 : Int32))])
    refine own_go (fun _ k => XS.ifNo X53.here hx rfl (hb hby at_162) rfl ((if0 _ _).trans (feq (by decide)).1) k) ?_
    show own_Ends _ _ _ _ _ _ _ T53 (mkF m 165 #[.val (.int p0), .val (.int p1), .val (.int p2), .val (.int p3), .val (.int p4), .val (.int p5), .val (.int (3 : Int32)), .val (.ref bv), .val (.ref bt), .val (.ref br)] [])
    refine own_go (fun _ k => XS.aload X53.here hx rfl (hb hby at_165) rfl rfl k) ?_
    show own_Ends _ _ _ _ _ _ _ T53 (mkF m 167 #[.val (.int p0), .val (.int p1), .val (.int p2), .val (.int p3), .val (.int p4), .val (.int p5), .val (.int (3 : Int32)), .val (.ref bv), .val (.ref bt), .val (.ref br)] [(.ref bt)])
    refine own_go (fun _ k => XS.aload X53.here hx rfl (hb hby at_167) rfl rfl k) ?_
    show own_Ends _ _ _ _ _ _ _ T53 (mkF m 169 #[.val (.int p0), .val (.int p1), .val (.int p2), .val (.int p3), .val (.int p4), .val (.int p5), .val (.int (3 : Int32)), .val (.ref bv), .val (.ref bt), .val (.ref br)] [(.ref br), (.ref bt)])
    refine own_go (fun _ k => XS.aload X53.here hx rfl (hb hby at_169) rfl rfl k) ?_
    show own_Ends _ _ _ _ _ _ _ T53 (mkF m 171 #[.val (.int p0), .val (.int p1), .val (.int p2), .val (.int p3), .val (.int p4), .val (.int p5), .val (.int (3 : Int32)), .val (.ref bv), .val (.ref bt), .val (.ref br)] [(.ref bv), (.ref br), (.ref bt)])
    refine own_go (fun _ k => XS.iconst X53.here hx rfl (hb hby at_171) k) ?_
    show own_Ends _ _ _ _ _ _ _ T53 (mkF m 172 #[.val (.int p0), .val (.int p1), .val (.int p2), .val (.int p3), .val (.int p4), .val (.int p5), .val (.int (3 : Int32)), .val (.ref bv), .val (.ref bt), .val (.ref br)] [(.int (2 : Int32)), (.ref bv), (.ref br), (.ref bt)])
    refine own_go (fun _ k => XS.iload X53.here hx rfl (hb hby at_172) rfl k) ?_
    show own_Ends _ _ _ _ _ _ _ T53 (mkF m 174 #[.val (.int p0), .val (.int p1), .val (.int p2), .val (.int p3), .val (.int p4), .val (.int p5), .val (.int (3 : Int32)), .val (.ref bv), .val (.ref bt), .val (.ref br)] [(.int (3 : Int32)), (.int (2 : Int32)), (.ref bv), (.ref br), (.ref bt)])
    obtain ⟨v54, T54, L54, X54, hQ54, st54⟩ := own_callS X53 hx hZ hown (hw _ (List.mem_of_getElem? (i := 6) rfl)) (hw _ (List.mem_of_getElem? (i := 7) rfl)) (hw _ (List.mem_of_getElem? (i := 8) rfl)) (hw _ (List.mem_of_getElem? (i := 9) rfl)) (rm2_2 l Z a0 hw bt br bv (2 : Int32) (3 : Int32) T51.heap k47 kr k17 3 3 5 (fun j => if j = 2 then (.int p3) else (fun j => if j = 1 then (.int p2) else (fun j => if j = 0 then (.int p1) else (fun _ => (.int (0 : Int32))) j) j) j) g (fun j => if j = 4 then (.int p5) else (fun j => if j = 3 then (.int p4) else (fun j => if j = 2 then (.int p3) else (fun j => if j = 1 then (.int p2) else (fun j => if j = 0 then (.int p1) else (fun _ => (.int (0 : Int32))) j) j) j) j) j) p3 p2 V_bt_51 A51 V_bv_51 (by decide) (by decide) (by decide) rfl (by decide) (by first | rfl | simp) (by first | rfl | simp) (by first | rfl | simp) (g2.trans (by first | rfl | simp))) e53 (g := (mkF m 174 #[.val (.int p0), .val (.int p1), .val (.int p2), .val (.int p3), .val (.int p4), .val (.int p5), .val (.int (3 : Int32)), .val (.ref bv), .val (.ref bt), .val (.ref br)] [(.int (3 : Int32)), (.int (2 : Int32)), (.ref bv), (.ref br), (.ref bt)])) rfl (by rw [hml]; rfl) (argsL := [(.ref bt), (.ref br), (.ref bv), (.int (2 : Int32)), (.int (3 : Int32))]) (rest := []) (lenOf pd_1 rfl) rfl rfl (W := 0) (by show 2 * 0 + _ ≤ _; exact Nat.le_of_eq rfl) (hb hby at_174) (by decide) (by decide) (by decide) (by decide) (by decide)
    obtain ⟨rfl, rfl, e54⟩ := hQ54
    refine own_go st54 ?_
    have N54 := Fr.app N53 (Fr.nil _)
    show own_Ends _ _ _ _ _ _ _ T54 (mkF m 177 #[.val (.int p0), .val (.int p1), .val (.int p2), .val (.int p3), .val (.int p4), .val (.int p5), .val (.int (3 : Int32)), .val (.ref bv), .val (.ref bt), .val (.ref br)] [(.int (1 : Int32))])
    refine own_go (fun _ k => XS.ifNo X54.here hx rfl (hb hby at_177) rfl ((if0 _ _).trans (feq (by decide)).1) k) ?_
    show own_Ends _ _ _ _ _ _ _ T54 (mkF m 180 #[.val (.int p0), .val (.int p1), .val (.int p2), .val (.int p3), .val (.int p4), .val (.int p5), .val (.int (3 : Int32)), .val (.ref bv), .val (.ref bt), .val (.ref br)] [])
    refine own_go (fun _ k => XS.aload X54.here hx rfl (hb hby at_180) rfl rfl k) ?_
    show own_Ends _ _ _ _ _ _ _ T54 (mkF m 182 #[.val (.int p0), .val (.int p1), .val (.int p2), .val (.int p3), .val (.int p4), .val (.int p5), .val (.int (3 : Int32)), .val (.ref bv), .val (.ref bt), .val (.ref br)] [(.ref bt)])
    refine own_go (fun _ k => XS.aload X54.here hx rfl (hb hby at_182) rfl rfl k) ?_
    show own_Ends _ _ _ _ _ _ _ T54 (mkF m 184 #[.val (.int p0), .val (.int p1), .val (.int p2), .val (.int p3), .val (.int p4), .val (.int p5), .val (.int (3 : Int32)), .val (.ref bv), .val (.ref bt), .val (.ref br)] [(.ref br), (.ref bt)])
    refine own_go (fun _ k => XS.aload X54.here hx rfl (hb hby at_184) rfl rfl k) ?_
    show own_Ends _ _ _ _ _ _ _ T54 (mkF m 186 #[.val (.int p0), .val (.int p1), .val (.int p2), .val (.int p3), .val (.int p4), .val (.int p5), .val (.int (3 : Int32)), .val (.ref bv), .val (.ref bt), .val (.ref br)] [(.ref bv), (.ref br), (.ref bt)])
    refine own_go (fun _ k => XS.iconst X54.here hx rfl (hb hby at_186) k) ?_
    show own_Ends _ _ _ _ _ _ _ T54 (mkF m 187 #[.val (.int p0), .val (.int p1), .val (.int p2), .val (.int p3), .val (.int p4), .val (.int p5), .val (.int (3 : Int32)), .val (.ref bv), .val (.ref bt), .val (.ref br)] [(.int (3 : Int32)), (.ref bv), (.ref br), (.ref bt)])
    refine own_go (fun _ k => XS.iload X54.here hx rfl (hb hby at_187) rfl k) ?_
    show own_Ends _ _ _ _ _ _ _ T54 (mkF m 189 #[.val (.int p0), .val (.int p1), .val (.int p2), .val (.int p3), .val (.int p4), .val (.int p5), .val (.int (3 : Int32)), .val (.ref bv), .val (.ref bt), .val (.ref br)] [(.int (3 : Int32)), (.int (3 : Int32)), (.ref bv), (.ref br), (.ref bt)])
    obtain ⟨v55, T55, L55, X55, hQ55, st55⟩ := own_callS X54 hx hZ hown (hw _ (List.mem_of_getElem? (i := 6) rfl)) (hw _ (List.mem_of_getElem? (i := 7) rfl)) (hw _ (List.mem_of_getElem? (i := 8) rfl)) (hw _ (List.mem_of_getElem? (i := 9) rfl)) (rm2_hi l Z a0 hw bt br bv (3 : Int32) (3 : Int32) T51.heap (by decide)) e54 (g := (mkF m 189 #[.val (.int p0), .val (.int p1), .val (.int p2), .val (.int p3), .val (.int p4), .val (.int p5), .val (.int (3 : Int32)), .val (.ref bv), .val (.ref bt), .val (.ref br)] [(.int (3 : Int32)), (.int (3 : Int32)), (.ref bv), (.ref br), (.ref bt)])) rfl (by rw [hml]; rfl) (argsL := [(.ref bt), (.ref br), (.ref bv), (.int (3 : Int32)), (.int (3 : Int32))]) (rest := []) (lenOf pd_1 rfl) rfl rfl (W := 0) (by show 2 * 0 + _ ≤ _; exact Nat.le_of_eq rfl) (hb hby at_189) (by decide) (by decide) (by decide) (by decide) (by decide)
    obtain ⟨rfl, rfl, e55⟩ := hQ55
    refine own_go st55 ?_
    have N55 := Fr.app N54 (Fr.nil _)
    show own_Ends _ _ _ _ _ _ _ T55 (mkF m 192 #[.val (.int p0), .val (.int p1), .val (.int p2), .val (.int p3), .val (.int p4), .val (.int p5), .val (.int (3 : Int32)), .val (.ref bv), .val (.ref bt), .val (.ref br)] [(.int (1 : Int32))])
    refine own_go (fun _ k => XS.ifNo X55.here hx rfl (hb hby at_192) rfl ((if0 _ _).trans (feq (by decide)).1) k) ?_
    show own_Ends _ _ _ _ _ _ _ T55 (mkF m 195 #[.val (.int p0), .val (.int p1), .val (.int p2), .val (.int p3), .val (.int p4), .val (.int p5), .val (.int (3 : Int32)), .val (.ref bv), .val (.ref bt), .val (.ref br)] [])
    refine own_go (fun _ k => XS.aload X55.here hx rfl (hb hby at_195) rfl rfl k) ?_
    show own_Ends _ _ _ _ _ _ _ T55 (mkF m 197 #[.val (.int p0), .val (.int p1), .val (.int p2), .val (.int p3), .val (.int p4), .val (.int p5), .val (.int (3 : Int32)), .val (.ref bv), .val (.ref bt), .val (.ref br)] [(.ref bt)])
    refine own_go (fun _ k => XS.aload X55.here hx rfl (hb hby at_197) rfl rfl k) ?_
    show own_Ends _ _ _ _ _ _ _ T55 (mkF m 199 #[.val (.int p0), .val (.int p1), .val (.int p2), .val (.int p3), .val (.int p4), .val (.int p5), .val (.int (3 : Int32)), .val (.ref bv), .val (.ref bt), .val (.ref br)] [(.ref br), (.ref bt)])
    refine own_go (fun _ k => XS.aload X55.here hx rfl (hb hby at_199) rfl rfl k) ?_
    show own_Ends _ _ _ _ _ _ _ T55 (mkF m 201 #[.val (.int p0), .val (.int p1), .val (.int p2), .val (.int p3), .val (.int p4), .val (.int p5), .val (.int (3 : Int32)), .val (.ref bv), .val (.ref bt), .val (.ref br)] [(.ref bv), (.ref br), (.ref bt)])
    refine own_go (fun _ k => XS.iconst X55.here hx rfl (hb hby at_201) k) ?_
    show own_Ends _ _ _ _ _ _ _ T55 (mkF m 202 #[.val (.int p0), .val (.int p1), .val (.int p2), .val (.int p3), .val (.int p4), .val (.int p5), .val (.int (3 : Int32)), .val (.ref bv), .val (.ref bt), .val (.ref br)] [(.int (4 : Int32)), (.ref bv), (.ref br), (.ref bt)])
    refine own_go (fun _ k => XS.iload X55.here hx rfl (hb hby at_202) rfl k) ?_
    show own_Ends _ _ _ _ _ _ _ T55 (mkF m 204 #[.val (.int p0), .val (.int p1), .val (.int p2), .val (.int p3), .val (.int p4), .val (.int p5), .val (.int (3 : Int32)), .val (.ref bv), .val (.ref bt), .val (.ref br)] [(.int (3 : Int32)), (.int (4 : Int32)), (.ref bv), (.ref br), (.ref bt)])
    obtain ⟨v56, T56, L56, X56, hQ56, st56⟩ := own_callS X55 hx hZ hown (hw _ (List.mem_of_getElem? (i := 6) rfl)) (hw _ (List.mem_of_getElem? (i := 7) rfl)) (hw _ (List.mem_of_getElem? (i := 8) rfl)) (hw _ (List.mem_of_getElem? (i := 9) rfl)) (rm2_hi l Z a0 hw bt br bv (4 : Int32) (3 : Int32) T51.heap (by decide)) e55 (g := (mkF m 204 #[.val (.int p0), .val (.int p1), .val (.int p2), .val (.int p3), .val (.int p4), .val (.int p5), .val (.int (3 : Int32)), .val (.ref bv), .val (.ref bt), .val (.ref br)] [(.int (3 : Int32)), (.int (4 : Int32)), (.ref bv), (.ref br), (.ref bt)])) rfl (by rw [hml]; rfl) (argsL := [(.ref bt), (.ref br), (.ref bv), (.int (4 : Int32)), (.int (3 : Int32))]) (rest := []) (lenOf pd_1 rfl) rfl rfl (W := 0) (by show 2 * 0 + _ ≤ _; exact Nat.le_of_eq rfl) (hb hby at_204) (by decide) (by decide) (by decide) (by decide) (by decide)
    obtain ⟨rfl, rfl, e56⟩ := hQ56
    refine own_go st56 ?_
    have N56 := Fr.app N55 (Fr.nil _)
    show own_Ends _ _ _ _ _ _ _ T56 (mkF m 207 #[.val (.int p0), .val (.int p1), .val (.int p2), .val (.int p3), .val (.int p4), .val (.int p5), .val (.int (3 : Int32)), .val (.ref bv), .val (.ref bt), .val (.ref br)] [(.int (1 : Int32))])
    refine own_go (fun _ k => XS.ifNo X56.here hx rfl (hb hby at_207) rfl ((if0 _ _).trans (feq (by decide)).1) k) ?_
    show own_Ends _ _ _ _ _ _ _ T56 (mkF m 210 #[.val (.int p0), .val (.int p1), .val (.int p2), .val (.int p3), .val (.int p4), .val (.int p5), .val (.int (3 : Int32)), .val (.ref bv), .val (.ref bt), .val (.ref br)] [])
    refine own_go (fun _ k => XS.iconst X56.here hx rfl (hb hby at_210) k) ?_
    show own_Ends _ _ _ _ _ _ _ T56 (mkF m 211 #[.val (.int p0), .val (.int p1), .val (.int p2), .val (.int p3), .val (.int p4), .val (.int p5), .val (.int (3 : Int32)), .val (.ref bv), .val (.ref bt), .val (.ref br)] [(.int (1 : Int32))])
    refine own_go (fun _ k => XS.goto X56.here hx rfl (pc0 := 211) (pc' := 215) rfl (hb hby at_211) (by decide) (by decide) k) ?_
    show own_Ends _ _ _ _ _ _ _ T56 (mkF m 215 #[.val (.int p0), .val (.int p1), .val (.int p2), .val (.int p3), .val (.int p4), .val (.int p5), .val (.int (3 : Int32)), .val (.ref bv), .val (.ref bt), .val (.ref br)] [(.int (1 : Int32))])
    exact own_retZ X56 hx hlk hret (by decide) (hb hby at_215) (by decide) (by decide) ⟨rfl, N56⟩
  · rw [show ((p0 &&& (2147483647 : Int32)) % (6 : Int32)) = (4 : Int32) from hn]
    show own_Ends _ _ _ _ _ _ _ T22 (mkF m 38 #[.val (.int p0), .val (.int p1), .val (.int p2), .val (.int p3), .val (.int p4), .val (.int p5), .val (.int (4 : Int32)), .val (.ref bv), .unset, .unset] [(.int (4 : Int32))])
    obtain ⟨T57, h57, k57, X57, e57, E57, A57, st57⟩ := own_newP X22 hx hZ (aty := .int) (hw _ (List.mem_of_getElem? (i := 1) rfl)) e22 (g := (mkF m 38 #[.val (.int p0), .val (.int p1), .val (.int p2), .val (.int p3), .val (.int p4), .val (.int p5), .val (.int (4 : Int32)), .val (.ref bv), .unset, .unset] [(.int (4 : Int32))])) rfl (hb hby at_38) rfl (by decide) (n := 4) (by decide) (cap := 4) (by decide) (by decide) (by decide) (by decide)
    obtain ⟨bt, gq57⟩ : ∃ z, z = h22.size := ⟨_, rfl⟩
    rw [← gq57] at A57 st57
    have ne_bv_bt : bv ≠ bt := Nat.ne_of_lt (Nat.lt_of_lt_of_le V22.lt (Nat.le_of_eq gq57.symm))
    have sz_bt : h0.size ≤ bt := Nat.le_trans K_22.1 (Nat.le_of_eq gq57.symm)
    have g_bt : h0.size ≤ bt := Nat.le_trans (Nat.le_refl _) sz_bt
    have K_57 := K_22.ext E57
    have V_bv_57 := V22.ext E57
    have V_bt : own_Ar Z h57 bt k57 .int 4 (fun _ => (.int (0 : Int32))) := A57
    refine own_go st57 ?_
    show own_Ends _ _ _ _ _ _ _ T57 (mkF m 40 #[.val (.int p0), .val (.int p1), .val (.int p2), .val (.int p3), .val (.int p4), .val (.int p5), .val (.int (4 : Int32)), .val (.ref bv), .unset, .unset] [(.ref bt)])
    refine own_go (fun _ k => XS.astore X57.here hx rfl (hb hby at_40) rfl rfl (l' := #[.val (.int p0), .val (.int p1), .val (.int p2), .val (.int p3), .val (.int p4), .val (.int p5), .val (.int (4 : Int32)), .val (.ref bv), .val (.ref bt), .unset]) rfl k) ?_
    show own_Ends _ _ _ _ _ _ _ T57 (mkF m 42 #[.val (.int p0), .val (.int p1), .val (.int p2), .val (.int p3), .val (.int p4), .val (.int p5), .val (.int (4 : Int32)), .val (.ref bv), .val (.ref bt), .unset] [])
    refine own_go (fun _ k => XS.iload X57.here hx rfl (hb hby at_42) rfl k) ?_
    show own_Ends _ _ _ _ _ _ _ T57 (mkF m 44 #[.val (.int p0), .val (.int p1), .val (.int p2), .val (.int p3), .val (.int p4), .val (.int p5), .val (.int (4 : Int32)), .val (.ref bv), .val (.ref bt), .unset] [(.int (4 : Int32))])
    refine own_go (fun _ k => XS.ifNo X57.here hx rfl (hb hby at_44) rfl ((if0 _ _).trans (tlt (by decide)).2.2.2) k) ?_
    show own_Ends _ _ _ _ _ _ _ T57 (mkF m 47 #[.val (.int p0), .val (.int p1), .val (.int p2), .val (.int p3), .val (.int p4), .val (.int p5), .val (.int (4 : Int32)), .val (.ref bv), .val (.ref bt), .unset] [])
    refine own_go (fun _ k => XS.aload X57.here hx rfl (hb hby at_47) rfl rfl k) ?_
    show own_Ends _ _ _ _ _ _ _ T57 (mkF m 49 #[.val (.int p0), .val (.int p1), .val (.int p2), .val (.int p3), .val (.int p4), .val (.int p5), .val (.int (4 : Int32)), .val (.ref bv), .val (.ref bt), .unset] [(.ref bt)])
    refine own_go (fun _ k => XS.iconst X57.here hx rfl (hb hby at_49) k) ?_
    show own_Ends _ _ _ _ _ _ _ T57 (mkF m 50 #[.val (.int p0), .val (.int p1), .val (.int p2), .val (.int p3), .val (.int p4), .val (.int p5), .val (.int (4 : Int32)), .val (.ref bv), .val (.ref bt), .unset] [(.int (0 : Int32)), (.ref bt)])
    refine own_go (fun _ k => XS.iloadN X57.here hx rfl (hb hby at_50) rfl k) ?_
    show own_Ends _ _ _ _ _ _ _ T57 (mkF m 51 #[.val (.int p0), .val (.int p1), .val (.int p2), .val (.int p3), .val (.int p4), .val (.int p5), .val (.int (4 : Int32)), .val (.ref bv), .val (.ref bt), .unset] [(.int p1), (.int (0 : Int32)), (.ref bt)])
    obtain ⟨T58, h58, X58, e58, W58, V58, st58⟩ := own_stI X57 hx hZ e57 V_bt (i := 0) (by decide) (by decide) (by decide) (g := (mkF m 51 #[.val (.int p0), .val (.int p1), .val (.int p2), .val (.int p3), .val (.int p4), .val (.int p5), .val (.int (4 : Int32)), .val (.ref bv), .val (.ref bt), .unset] [(.int p1), (.int (0 : Int32)), (.ref bt)])) rfl rfl (hb hby at_51)
    have N58 := Fr.snoc X58 N22 g_bt
    have K_58 := K_57.wr W58 (Or.inr sz_bt)
    have V_bv_58 := V_bv_57.other W58 ne_bv_bt
    refine own_go st58 ?_
    show own_Ends _ _ _ _ _ _ _ T58 (mkF m 52 #[.val (.int p0), .val (.int p1), .val (.int p2), .val (.int p3), .val (.int p4), .val (.int p5), .val (.int (4 : Int32)), .val (.ref bv), .val (.ref bt), .unset] [])
    refine own_go (fun _ k => XS.iload X58.here hx rfl (hb hby at_52) rfl k) ?_
    show own_Ends _ _ _ _ _ _ _ T58 (mkF m 54 #[.val (.int p0), .val (.int p1), .val (.int p2), .val (.int p3), .val (.int p4), .val (.int p5), .val (.int (4 : Int32)), .val (.ref bv), .val (.ref bt), .unset] [(.int (4 : Int32))])
    refine own_go (fun _ k => XS.iconst X58.here hx rfl (hb hby at_54) k) ?_
    show own_Ends _ _ _ _ _ _ _ T58 (mkF m 55 #[.val (.int p0), .val (.int p1), .val (.int p2), .val (.int p3), .val (.int p4), .val (.int p5), .val (.int (4 : Int32)), .val (.ref bv), .val (.ref bt), .unset] [(.int (1 : Int32)), (.int (4 : Int32))])
    refine own_go (fun _ k => XS.icmpNo X58.here hx rfl (hb hby at_55) rfl (tlt (by decide)).2.2.2 k) ?_
    show own_Ends _ _ _ _ _ _ _ T58 (mkF m 58 #[.val (.int p0), .val (.int p1), .val (.int p2), .val (.int p3), .val (.int p4), .val (.int p5), .val (.int (4 : Int32)), .val (.ref bv), .val (.ref bt), .unset] [])
    refine own_go (fun _ k => XS.aload X58.here hx rfl (hb hby at_58) rfl rfl k) ?_
    show own_Ends _ _ _ _ _ _ _ T58 (mkF m 60 #[.val (.int p0), .val (.int p1), .val (.int p2), .val (.int p3), .val (.int p4), .val (.int p5), .val (.int (4 : Int32)), .val (.ref bv), .val (.ref bt), .unset] [(.ref bt)])
    refine own_go (fun _ k => XS.iconst X58.here hx rfl (hb hby at_60) k) ?_
    show own_Ends _ _ _ _ _ _ _ T58 (mkF m 61 #[.val (.int p0), .val (.int p1), .val (.int p2), .val (.int p3), .val (.int p4), .val (.int p5), .val (.int (4 : Int32)), .val (.ref bv), .val (.ref bt), .unset] [(.int (1 : Int32)), (.ref bt)])
    refine own_go (fun _ k => XS.iloadN X58.here hx rfl (hb hby at_61) rfl k) ?_
    show own_Ends _ _ _ _ _ _ _ T58 (mkF m 62 #[.val (.int p0), .val (.int p1), .val (.int p2), .val (.int p3), .val (.int p4), .val (.int p5), .val (.int (4 : Int32)), .val (.ref bv), .val (.ref bt), .unset] [(.int p2), (.int (1 : Int32)), (.ref bt)])
    obtain ⟨T59, h59, X59, e59, W59, V59, st59⟩ := own_stI X58 hx hZ e58 V58 (i := 1) (by decide) (by decide) (by decide) (g := (mkF m 62 #[.val (.int p0), .val (.int p1), .val (.int p2), .val (.int p3), .val (.int p4), .val (.int p5), .val (.int (4 : Int32)), .val (.ref bv), .val (.ref bt), .unset] [(.int p2), (.int (1 : Int32)), (.ref bt)])) rfl rfl (hb hby at_62)
    have N59 := Fr.snoc X59 N58 g_bt
    have K_59 := K_58.wr W59 (Or.inr sz_bt)
    have V_bv_59 := V_bv_58.other W59 ne_bv_bt
    refine own_go st59 ?_
    show own_Ends _ _ _ _ _ _ _ T59 (mkF m 63 #[.val (.int p0), .val (.int p1), .val (.int p2), .val (.int p3), .val (.int p4), .val (.int p5), .val (.int (4 : Int32)), .val (.ref bv), .val (.ref bt), .unset] [])
    refine own_go (fun _ k => XS.iload X59.here hx rfl (hb hby at_63) rfl k) ?_
    show own_Ends _ _ _ _ _ _ _ T59 (mkF m 65 #[.val (.int p0), .val (.int p1), .val (.int p2), .val (.int p3), .val (.int p4), .val (.int p5), .val (.int (4 : Int32)), .val (.ref bv), .val (.ref bt), .unset] [(.int (4 : Int32))])
    refine own_go (fun _ k => XS.iconst X59.here hx rfl (hb hby at_65) k) ?_
    show own_Ends _ _ _ _ _ _ _ T59 (mkF m 66 #[.val (.int p0), .val (.int p1), .val (.int p2), .val (.int p3), .val (.int p4), .val (.int p5), .val (.int (4 : Int32)), .val (.ref bv), .val (.ref bt), .unset] [(.int (2 : Int32)), (.int (4 : Int32))])
    refine own_go (fun _ k => XS.icmpNo X59.here hx rfl (hb hby at_66) rfl (tlt (by decide)).2.2.2 k) ?_
    show own_Ends _ _ _ _ _ _ _ T59 (mkF m 69 #[.val (.int p0), .val (.int p1), .val (.int p2), .val (.int p3), .val (.int p4), .val (.int p5), .val (.int (4 : Int32)), .val (.ref bv), .val (.ref bt), .unset] [])
    refine own_go (fun _ k => XS.aload X59.here hx rfl (hb hby at_69) rfl rfl k) ?_
    show own_Ends _ _ _ _ _ _ _ T59 (mkF m 71 #[.val (.int p0), .val (.int p1), .val (.int p2), .val (.int p3), .val (.int p4), .val (.int p5), .val (.int (4 : Int32)), .val (.ref bv), .val (.ref bt), .unset] [(.ref bt)])
    refine own_go (fun _ k => XS.iconst X59.here hx rfl (hb hby at_71) k) ?_
    show own_Ends _ _ _ _ _ _ _ T59 (mkF m 72 #[.val (.int p0), .val (.int p1), .val (.int p2), .val (.int p3), .val (.int p4), .val (.int p5), .val (.int (4 : Int32)), .val (.ref bv), .val (.ref bt), .unset] [(.int (2 : Int32)), (.ref bt)])
    refine own_go (fun _ k => XS.iloadN X59.here hx rfl (hb hby at_72) rfl k) ?_
    show own_Ends _ _ _ _ _ _ _ T59 (mkF m 73 #[.val (.int p0), .val (.int p1), .val (.int p2), .val (.int p3), .val (.int p4), .val (.int p5), .val (.int (4 : Int32)), .val (.ref bv), .val (.ref bt), .unset] [(.int p3), (.int (2 : Int32)), (.ref bt)])
    obtain ⟨T60, h60, X60, e60, W60, V60, st60⟩ := own_stI X59 hx hZ e59 V59 (i := 2) (by decide) (by decide) (by decide) (g := (mkF m 73 #[.val (.int p0), .val (.int p1), .val (.int p2), .val (.int p3), .val (.int p4), .val (.int p5), .val (.int (4 : Int32)), .val (.ref bv), .val (.ref bt), .unset] [(.int p3), (.int (2 : Int32)), (.ref bt)])) rfl rfl (hb hby at_73)
    have N60 := Fr.snoc X60 N59 g_bt
    have K_60 := K_59.wr W60 (Or.inr sz_bt)
    have V_bv_60 := V_bv_59.other W60 ne_bv_bt
    refine own_go st60 ?_
    show own_Ends _ _ _ _ _ _ _ T60 (mkF m 74 #[.val (.int p0), .val (.int p1), .val (.int p2), .val (.int p3), .val (.int p4), .val (.int p5), .val (.int (4 : Int32)), .val (.ref bv), .val (.ref bt), .unset] [])
    refine own_go (fun _ k => XS.iload X60.here hx rfl (hb hby at_74) rfl k) ?_
    show own_Ends _ _ _ _ _ _ _ T60 (mkF m 76 #[.val (.int p0), .val (.int p1), .val (.int p2), .val (.int p3), .val (.int p4), .val (.int p5), .val (.int (4 : Int32)), .val (.ref bv), .val (.ref bt), .unset] [(.int (4 : Int32))])
    refine own_go (fun _ k => XS.iconst X60.here hx rfl (hb hby at_76) k) ?_
    show own_Ends _ _ _ _ _ _ _ T60 (mkF m 77 #[.val (.int p0), .val (.int p1), .val (.int p2), .val (.int p3), .val (.int p4), .val (.int p5), .val (.int (4 : Int32)), .val (.ref bv), .val (.ref bt), .unset] [(.int (3 : Int32)), (.int (4 : Int32))])
    refine own_go (fun _ k => XS.icmpNo X60.here hx rfl (hb hby at_77) rfl (tlt (by decide)).2.2.2 k) ?_
    show own_Ends _ _ _ _ _ _ _ T60 (mkF m 80 #[.val (.int p0), .val (.int p1), .val (.int p2), .val (.int p3), .val (.int p4), .val (.int p5), .val (.int (4 : Int32)), .val (.ref bv), .val (.ref bt), .unset] [])
    refine own_go (fun _ k => XS.aload X60.here hx rfl (hb hby at_80) rfl rfl k) ?_
    show own_Ends _ _ _ _ _ _ _ T60 (mkF m 82 #[.val (.int p0), .val (.int p1), .val (.int p2), .val (.int p3), .val (.int p4), .val (.int p5), .val (.int (4 : Int32)), .val (.ref bv), .val (.ref bt), .unset] [(.ref bt)])
    refine own_go (fun _ k => XS.iconst X60.here hx rfl (hb hby at_82) k) ?_
    show own_Ends _ _ _ _ _ _ _ T60 (mkF m 83 #[.val (.int p0), .val (.int p1), .val (.int p2), .val (.int p3), .val (.int p4), .val (.int p5), .val (.int (4 : Int32)), .val (.ref bv), .val (.ref bt), .unset] [(.int (3 : Int32)), (.ref bt)])
    refine own_go (fun _ k => XS.iload X60.here hx rfl (hb hby at_83) rfl k) ?_
    show own_Ends _ _ _ _ _ _ _ T60 (mkF m 85 #[.val (.int p0), .val (.int p1), .val (.int p2), .val (.int p3), .val (.int p4), .val (.int p5), .val (.int (4 : Int32)), .val (.ref bv), .val (.ref bt), .unset] [(.int p4), (.int (3 : Int32)), (.ref bt)])
    obtain ⟨T61, h61, X61, e61, W61, V61, st61⟩ := own_stI X60 hx hZ e60 V60 (i := 3) (by decide) (by decide) (by decide) (g := (mkF m 85 #[.val (.int p0), .val (.int p1), .val (.int p2), .val (.int p3), .val (.int p4), .val (.int p5), .val (.int (4 : Int32)), .val (.ref bv), .val (.ref bt), .unset] [(.int p4), (.int (3 : Int32)), (.ref bt)])) rfl rfl (hb hby at_85)
    have N61 := Fr.snoc X61 N60 g_bt
    have K_61 := K_60.wr W61 (Or.inr sz_bt)
    have V_bv_61 := V_bv_60.other W61 ne_bv_bt
    refine own_go st61 ?_
    show own_Ends _ _ _ _ _ _ _ T61 (mkF m 86 #[.val (.int p0), .val (.int p1), .val (.int p2), .val (.int p3), .val (.int p4), .val (.int p5), .val (.int (4 : Int32)), .val (.ref bv), .val (.ref bt), .unset] [])
    refine own_go (fun _ k => XS.iload X61.here hx rfl (hb hby at_86) rfl k) ?_
    show own_Ends _ _ _ _ _ _ _ T61 (mkF m 88 #[.val (.int p0), .val (.int p1), .val (.int p2), .val (.int p3), .val (.int p4), .val (.int p5), .val (.int (4 : Int32)), .val (.ref bv), .val (.ref bt), .unset] [(.int (4 : Int32))])
    refine own_go (fun _ k => XS.iconst X61.here hx rfl (hb hby at_88) k) ?_
    show own_Ends _ _ _ _ _ _ _ T61 (mkF m 89 #[.val (.int p0), .val (.int p1), .val (.int p2), .val (.int p3), .val (.int p4), .val (.int p5), .val (.int (4 : Int32)), .val (.ref bv), .val (.ref bt), .unset] [(.int (4 : Int32)), (.int (4 : Int32))])
    refine own_go (fun _ k => XS.icmpYes X61.here hx rfl (pc0 := 89) (pc' := 98) rfl (hb hby at_89) rfl (flt (by decide)).2.2.2 (by decide) (by decide) k) ?_
    show own_Ends _ _ _ _ _ _ _ T61 (mkF m 98 #[.val (.int p0), .val (.int p1), .val (.int p2), .val (.int p3), .val (.int p4), .val (.int p5), .val (.int (4 : Int32)), .val (.ref bv), .val (.ref bt), .unset] [])
    refine own_go (fun _ k => XS.aload X61.here hx rfl (hb hby at_98) rfl rfl k) ?_
    show own_Ends _ _ _ _ _ _ _ T61 (mkF m 100 #[.val (.int p0), .val (.int p1), .val (.int p2), .val (.int p3), .val (.int p4), .val (.int p5), .val (.int (4 : Int32)), .val (.ref bv), .val (.ref bt), .unset] [(.ref bt)])
    obtain ⟨v62, T62, L62, X62, hQ62, st62⟩ := own_callS X61 hx hZ hown (hw _ (List.mem_of_getElem? (i := 2) rfl)) (hw _ (List.mem_of_getElem? (i := 3) rfl)) (hw _ (List.mem_of_getElem? (i := 4) rfl)) (hw _ (List.mem_of_getElem? (i := 5) rfl)) (rm1_4 l Z a0 hw bt h61 h0.size k57 (fun j => if j = 3 then (.int p4) else (fun j => if j = 2 then (.int p3) else (fun j => if j = 1 then (.int p2) else (fun j => if j = 0 then (.int p1) else (fun _ => (.int (0 : Int32))) j) j) j) j) K_61.1 V61 (fun i _ => (own_fit_set (own_fit_set (own_fit_set (own_fit_set own_fit0)))) i)) e61 (g := (mkF m 100 #[.val (.int p0), .val (.int p1), .val (.int p2), .val (.int p3), .val (.int p4), .val (.int p5), .val (.int (4 : Int32)), .val (.ref bv), .val (.ref bt), .unset] [(.ref bt)])) rfl (by rw [hml]; rfl) (argsL := [(.ref bt)]) (rest := []) (lenOf pd_0 rfl) rfl rfl (W := 0) (by show 2 * 0 + _ ≤ _; exact Nat.le_of_eq rfl) (hb hby at_100) (by decide) (by decide) (by decide) (by decide) (by decide)
    obtain ⟨br, kr, g, rfl, N62q, K62, A62, s62, g0, g1, g2, g3⟩ := hQ62
    refine own_go st62 ?_
    have N62 := Fr.app N61 N62q
    show own_Ends _ _ _ _ _ _ _ T62 (mkF m 103 #[.val (.int p0), .val (.int p1), .val (.int p2), .val (.int p3), .val (.int p4), .val (.int p5), .val (.int (4 : Int32)), .val (.ref bv), .val (.ref bt), .unset] [(.ref br)])
    have ne_bt_br : bt ≠ br := Nat.ne_of_lt (Nat.lt_of_lt_of_le V61.lt s62)
    have K_62 := K_61.trans K62 all0
    have V_bv_62 := V_bv_61.keep K62 nin0
    have V_bt_62 := V61.keep K62 nin0
    show own_Ends _ _ _ _ _ _ _ T62 (mkF m 103 #[.val (.int p0), .val (.int p1), .val (.int p2), .val (.int p3), .val (.int p4), .val (.int p5), .val (.int (4 : Int32)), .val (.ref bv), .val (.ref bt), .unset] [(.ref br)])
    refine own_go (fun _ k => XS.astore X62.here hx rfl (hb hby at_103) rfl rfl (l' := #[.val (.int p0), .val (.int p1), .val (.int p2), .val (.int p3), .val (.int p4), .val (.int p5), .val (.int (4 : Int32)), .val (.ref bv), .val (.ref bt), .val (.ref br)]) rfl k) ?_
    show own_Ends _ _ _ _ _ _ _ T62 (mkF m 105 #[.val (.int p0), .val (.int p1), .val (.int p2), .val (.int p3), .val (.int p4), .val (.int p5), .val (.int (4 : Int32)), .val (.ref bv), .val (.ref bt), .val (.ref br)] [])
    refine own_go (fun _ k => XS.aload X62.here hx rfl (hb hby at_105) rfl rfl k) ?_
    show own_Ends _ _ _ _ _ _ _ T62 (mkF m 107 #[.val (.int p0), .val (.int p1), .val (.int p2), .val (.int p3), .val (.int p4), .val (.int p5), .val (.int (4 : Int32)), .val (.ref bv), .val (.ref bt), .val (.ref br)] [(.ref br)])
    refine own_go (fun _ k => XS.ifnullNo X62.here hx rfl (hb hby at_107) rfl k) ?_
    show own_Ends _ _ _ _ _ _ _ T62 (mkF m 110 #[.val (.int p0), .val (.int p1), .val (.int p2), .val (.int p3), .val (.int p4), .val (.int p5), .val (.int (4 : Int32)), .val (.ref bv), .val (.ref bt), .val (.ref br)] [])
    refine own_go (fun _ k => XS.aload X62.here hx rfl (hb hby at_110) rfl rfl k) ?_
    show own_Ends _ _ _ _ _ _ _ T62 (mkF m 112 #[.val (.int p0), .val (.int p1), .val (.int p2), .val (.int p3), .val (.int p4), .val (.int p5), .val (.int (4 : Int32)), .val (.ref bv), .val (.ref bt), .val (.ref br)] [(.ref br)])
    refine own_go (fun _ k => XS.aload X62.here hx rfl (hb hby at_112) rfl rfl k) ?_
    show own_Ends _ _ _ _ _ _ _ T62 (mkF m 114 #[.val (.int p0), .val (.int p1), .val (.int p2), .val (.int p3), .val (.int p4), .val (.int p5), .val (.int (4 : Int32)), .val (.ref bv), .val (.ref bt), .val (.ref br)] [(.ref bt), (.ref br)])
    refine own_go (fun _ k => Jvm.RoadKit.acmp (g := (mkF m 114 #[.val (.int p0), .val (.int p1), .val (.int p2), .val (.int p3), .val (.int p4), .val (.int p5), .val (.int (4 : Int32)), .val (.ref bv), .val (.ref bt), .val (.ref br)] [(.ref bt), (.ref br)])) X62 hx rfl rfl rfl (pc0 := 114) (pc' := 117) (same := false) rfl (hb hby at_114) rfl (decide_eq_false fun q => ne_bt_br (Value.ref.inj q).symm) (by decide) (by decide) k) ?_
    show own_Ends _ _ _ _ _ _ _ T62 (mkF m 117 #[.val (.int p0), .val (.int p1), .val (.int p2), .val (.int p3), .val (.int p4), .val (.int p5), .val (.int (4 : Int32)), .val (.ref bv), .val (.ref bt), .val (.ref br)] [])
    refine own_go (fun _ k => XS.aload X62.here hx rfl (hb hby at_117) rfl rfl k) ?_
    show own_Ends _ _ _ _ _ _ _ T62 (mkF m 119 #[.val (.int p0), .val (.int p1), .val (.int p2), .val (.int p3), .val (.int p4), .val (.int p5), .val (.int (4 : Int32)), .val (.ref bv), .val (.ref bt), .val (.ref br)] [(.ref br)])
    refine own_go (fun _ k => own_len X62 hx hZ rfl A62 (z := (4 : Int32)) rfl (g := (mkF m 119 #[.val (.int p0), .val (.int p1), .val (.int p2), .val (.int p3), .val (.int p4), .val (.int p5), .val (.int (4 : Int32)), .val (.ref bv), .val (.ref bt), .val (.ref br)] [(.ref br)])) rfl rfl (hb hby at_119) _ k) ?_
    show own_Ends _ _ _ _ _ _ _ T62 (mkF m 120 #[.val (.int p0), .val (.int p1), .val (.int p2), .val (.int p3), .val (.int p4), .val (.int p5), .val (.int (4 : Int32)), .val (.ref bv), .val (.ref bt), .val (.ref br)] [(.int (4 : Int32))])
    refine own_go (fun _ k => XS.iload X62.here hx rfl (hb hby at_120) rfl k) ?_
    show own_Ends _ _ _ _ _ _ _ T62 (mkF m 122 #[.val (.int p0), .val (.int p1), .val (.int p2), .val (.int p3), .val (.int p4), .val (.int p5), .val (.int (4 : Int32)), .val (.ref bv), .val (.ref bt), .val (.ref br)] [(.int (4 : Int32)), (.int (4 : Int32))])
    refine own_go (fun _ k => XS.icmpNo X62.here hx rfl (hb hby at_122) rfl (teq (rfl)).2 k) ?_
    show own_Ends _ _ _ _ _ _ _ T62 (mkF m 125 #[.val (.int p0), .val (.int p1), .val (.int p2), .val (.int p3), .val (.int p4), .val (.int p5), .val (.int (4 : Int32)), .val (.ref bv), .val (.ref bt), .val (.ref br)] [])
    refine own_go (fun _ k => XS.aload X62.here hx rfl (hb hby at_125) rfl rfl k) ?_
    show own_Ends _ _ _ _ _ _ _ T62 (mkF m 127 #[.val (.int p0), .val (.int p1), .val (.int p2), .val (.int p3), .val (.int p4), .val (.int p5), .val (.int (4 : Int32)), .val (.ref bv), .val (.ref bt), .val (.ref br)] [(.ref bt)])
    refine own_go (fun _ k => own_len X62 hx hZ rfl V_bt_62 (z := (4 : Int32)) rfl (g := (mkF m 127 #[.val (.int p0), .val (.int p1), .val (.int p2), .val (.int p3), .val (.int p4), .val (.int p5), .val (.int (4 : Int32)), .val (.ref bv), .val (.ref bt), .val (.ref br)] [(.ref bt)])) rfl rfl (hb hby at_127) _ k) ?_
    show own_Ends _ _ _ _ _ _ _ T62 (mkF m 128 #[.val (.int p0), .val (.int p1), .val (.int p2), .val (.int p3), .val (.int p4), .val (.int p5), .val (.int (4 : Int32)), .val (.ref bv), .val (.ref bt), .val (.ref br)] [(.int (4 : Int32))])
    refine own_go (fun _ k => XS.iload X62.here hx rfl (hb hby at_128) rfl k) ?_
    show own_Ends _ _ _ _ _ _ _ T62 (mkF m 130 #[.val (.int p0), .val (.int p1), .val (.int p2), .val (.int p3), .val (.int p4), .val (.int p5), .val (.int (4 : Int32)), .val (.ref bv), .val (.ref bt), .val (.ref br)] [(.int (4 : Int32)), (.int (4 : Int32))])
    refine own_go (fun _ k => XS.icmpYes X62.here hx rfl (pc0 := 130) (pc' := 135) rfl (hb hby at_130) rfl (teq (rfl)).1 (by decide) (by decide) k) ?_
    show own_Ends _ _ _ _ _ _ _ T62 (mkF m 135 #[.val (.int p0), .val (.int p1), .val (.int p2), .val (.int p3), .val (.int p4), .val (.int p5), .val (.int (4 : Int32)), .val (.ref bv), .val (.ref bt), .val (.ref br)] [])
    refine own_go (fun _ k => XS.aload X62.here hx rfl (hb hby at_135) rfl rfl k) ?_
    show own_Ends _ _ _ _ _ _ _ T62 (mkF m 137 #[.val (.int p0), .val (.int p1), .val (.int p2), .val (.int p3), .val (.int p4), .val (.int p5), .val (.int (4 : Int32)), .val (.ref bv), .val (.ref bt), .val (.ref br)] [(.ref bt)])
    refine own_go (fun _ k => XS.aload X62.here hx rfl (hb hby at_137) rfl rfl k) ?_
    show own_Ends _ _ _ _ _ _ _ T62 (mkF m 139 #[.val (.int p0), .val (.int p1), .val (.int p2), .val (.int p3), .val (.int p4), .val (.int p5), .val (.int (4 : Int32)), .val (.ref bv), .val (.ref bt), .val (.ref br)] [(.ref br), (.ref bt)])
    refine own_go (fun _ k => XS.aload X62.here hx rfl (hb hby at_139) rfl rfl k) ?_
    show own_Ends _ _ _ _ _ _ _ T62 (mkF m 141 #[.val (.int p0), .val (.int p1), .val (.int p2), .val (.int p3), .val (.int p4), .val (.int p5), .val (.int (4 : Int32)), .val (.ref bv), .val (.ref bt), .val (.ref br)] [(.ref bv), (.ref br), (.ref bt)])
    refine own_go (fun _ k => XS.iconst X62.here hx rfl (hb hby at_141) k) ?_
    show own_Ends _ _ _ _ _ _ _ T62 (mkF m 142 #[.val (.int p0), .val (.int p1), .val (.int p2), .val (.int p3), .val (.int p4), .val (.int p5), .val (.int (4 : Int32)), .val (.ref bv), .val (.ref bt), .val (.ref br)] [(.int (0 : Int32)), (.ref bv), (.ref br), (.ref bt)])
    refine own_go (fun _ k => XS.iload X62.here hx rfl (hb hby at_142) rfl k) ?_
    show own_Ends _ _ _ _ _ _ _ T62 (mkF m 144 #[.val (.int p0), .val (.int p1), .val (.int p2), .val (.int p3), .val (.int p4), .val (.int p5), .val (.int (4 : Int32)), .val (.ref bv), .val (.ref bt), .val (.ref br)] [(.int (4 : Int32)), (.int (0 : Int32)), (.ref bv), (.ref br), (.ref bt)])
    obtain ⟨v63, T63, L63, X63, hQ63, st63⟩ := own_callS X62 hx hZ hown (hw _ (List.mem_of_getElem? (i := 6) rfl)) (hw _ (List.mem_of_getElem? (i := 7) rfl)) (hw _ (List.mem_of_getElem? (i := 8) rfl)) (hw _ (List.mem_of_getElem? (i := 9) rfl)) (rm2_0 l Z a0 hw bt br bv (0 : Int32) (4 : Int32) T62.heap k57 kr k17 4 4 5 (fun j => if j = 3 then (.int p4) else (fun j => if j = 2 then (.int p3) else (fun j => if j = 1 then (.int p2) else (fun j => if j = 0 then (.int p1) else (fun _ => (.int (0 : Int32))) j) j) j) j) g (fun j => if j = 4 then (.int p5) else (fun j => if j = 3 then (.int p4) else (fun j => if j = 2 then (.int p3) else (fun j => if j = 1 then (.int p2) else (fun j => if j = 0 then (.int p1) else (fun _ => (.int (0 : Int32))) j) j) j) j) j) p1 V_bt_62 A62 V_bv_62 (by decide) (by decide) (by decide) rfl (by decide) (by first | rfl | simp) (by first | rfl | simp) g0) rfl (g := (mkF m 144 #[.val (.int p0), .val (.int p1), .val (.int p2), .val (.int p3), .val (.int p4), .val (.int p5), .val (.int (4 : Int32)), .val (.ref bv), .val (.ref bt), .val (.ref br)] [(.int (4 : Int32)), (.int (0 : Int32)), (.ref bv), (.ref br), (.ref bt)])) rfl (by rw [hml]; rfl) (argsL := [(.ref bt), (.ref br), (.ref bv), (.int (0 : Int32)), (.int (4 : Int32))]) (rest := []) (lenOf pd_1 rfl) rfl rfl (W := 0) (by show 2 * 0 + _ ≤ _; exact Nat.le_of_eq rfl) (hb hby at_144) (by decide) (by decide) (by decide) (by decide) (by decide)
    obtain ⟨rfl, rfl, e63⟩ := hQ63
    refine own_go st63 ?_
    have N63 := Fr.app N62 (Fr.nil _)
    show own_Ends _ _ _ _ _ _ _ T63 (mkF m 147 #[.val (.int p0), .val (.int p1), .val (.int p2), .val (.int p3), .val (.int p4), .val (.int p5), .val (.int (4 : Int32)), .val (.ref bv), .val (.ref bt), .val (.ref br)] [(.int (1 : Int32))])
    refine own_go (fun _ k => XS.ifNo X63.here hx rfl (hb hby at_147) rfl ((if0 _ _).trans (feq (by decide)).1) k) ?_
    show own_Ends _ _ _ _ _ _ _ T63 (mkF m 150 #[.val (.int p0), .val (.int p1), .val (.int p2), .val (.int p3), .val (.int p4), .val (.int p5), .val (.int (4 : Int32)), .val (.ref bv), .val (.ref bt), .val (.ref br)] [])
    refine own_go (fun _ k => XS.aload X63.here hx rfl (hb hby at_150) rfl rfl k) ?_
    show own_Ends _ _ _ _ _ _ _ T63 (mkF m 152 #[.val (.int p0), .val (.int p1), .val (.int p2), .val (.int p3), .val (.int p4), .val (.int p5), .val (.int (4 : Int32)), .val (.ref bv), .val (.ref bt), .val (.ref br)] [(.ref bt)])
    refine own_go (fun _ k => XS.aload X63.here hx rfl (hb hby at_152) rfl rfl k) ?_
    show own_Ends _ _ _ _ _ _ _ T63 (mkF m 154 #[.val (.int p0), .val (.int p1), .val (.int p2), .val (.int p3), .val (.int p4), .val (.int p5), .val (.int (4 : Int32)), .val (.ref bv), .val (.ref bt), .val (.ref br)] [(.ref br), (.ref bt)])
    refine own_go (fun _ k => XS.aload X63.here hx rfl (hb hby at_154) rfl rfl k) ?_
    show own_Ends _ _ _ _ _ _ _ T63 (mkF m 156 #[.val (.int p0), .val (.int p1), .val (.int p2), .val (.int p3), .val (.int p4), .val (.int p5), .val (.int (4 : Int32)), .val (.ref bv), .val (.ref bt), .val (.ref br)] [(.ref bv), (.ref br), (.ref bt)])
    refine own_go (fun _ k => XS.iconst X63.here hx rfl (hb hby at_156) k) ?_
    show own_Ends _ _ _ _ _ _ _ T63 (mkF m 157 #[.val (.int p0), .val (.int p1), .val (.int p2), .val (.int p3), .val (.int p4), .val (.int p5), .val (.int (4 : Int32)), .val (.ref bv), .val (.ref bt), .val (.ref br)] [(.int (1 : Int32)), (.ref bv), (.ref br), (.ref bt)])
    refine own_go (fun _ k => XS.iload X63.here hx rfl (hb hby at_157) rfl k) ?_
    show own_Ends _ _ _ _ _ _ _ T63 (mkF m 159 #[.val (.int p0), .val (.int p1), .val (.int p2), .val (.int p3), .val (.int p4), .val (.int p5), .val (.int (4 : Int32)), .val (.ref bv), .val (.ref bt), .val (.ref br)] [(.int (4 : Int32)), (.int (1 : Int32)), (.ref bv), (.ref br), (.ref bt)])
    obtain ⟨v64, T64, L64, X64, hQ64, st64⟩ := own_callS X63 hx hZ hown (hw _ (List.mem_of_getElem? (i := 6) rfl)) (hw _ (List.mem_of_getElem? (i := 7) rfl)) (hw _ (List.mem_of_getElem? (i := 8) rfl)) (hw _ (List.mem_of_getElem? (i := 9) rfl)) (rm2_1 l Z a0 hw bt br bv (1 : Int32) (4 : Int32) T62.heap k57 kr k17 4 4 5 (fun j => if j = 3 then (.int p4) else (fun j => if j = 2 then (.int p3) else (fun j => if j = 1 then (.int p2) else (fun j => if j = 0 then (.int p1) else (fun _ => (.int (0 : Int32))) j) j) j) j) g (fun j => if j = 4 then (.int p5) else (fun j => if j = 3 then (.int p4) else (fun j => if j = 2 then (.int p3) else (fun j => if j = 1 then (.int p2) else (fun j => if j = 0 then (.int p1) else (fun _ => (.int (0 : Int32))) j) j) j) j) j) p2 p1 V_bt_62 A62 V_bv_62 (by decide) (by decide) (by decide) rfl (by decide) (by first | rfl | simp) (by first | rfl | simp) (by first | rfl | simp) (g1.trans (by first | rfl | simp))) e63 (g := (mkF m 159 #[.val (.int p0), .val (.int p1), .val (.int p2), .val (.int p3), .val (.int p4), .val (.int p5), .val (.int (4 : Int32)), .val (.ref bv), .val (.ref bt), .val (.ref br)] [(.int (4 : Int32)), (.int (1 : Int32)), (.ref bv), (.ref br), (.ref bt)])) rfl (by rw [hml]; rfl) (argsL := [(.ref bt), (.ref br), (.ref bv), (.int (1 : Int32)), (.int (4 : Int32))]) (rest := []) (lenOf pd_1 rfl) rfl rfl (W := 0) (by show 2 * 0 + _ ≤ _; exact Nat.le_of_eq rfl) (hb hby at_159) (by decide) (by decide) (by decide) (by decide) (by decide)
    obtain ⟨rfl, rfl, e64⟩ := hQ64
    refine own_go st64 ?_
    have N64 := Fr.app N63 (Fr.nil _)
    show own_Ends _ _ _ _ _ _ _ T64 (mkF m 162 #[.val (.int p0), .val (.int p1), .val (.int p2), .val (.int p3), .val (.int p4), .val (.int p5), .val (.int (4 : Int32)), .val (.ref bv), .val (.ref bt), .val (.ref br)] [(.int (1 : Int32))])
    refine own_go (fun _ k => XS.ifNo X64.here hx rfl (hb hby at_162) rfl ((if0 _ _).trans (feq (by decide)).1) k) ?_
    show own_Ends _ _ _ _ _ _ _ T64 (mkF m 165 #[.val (.int p0), .val (.int p1), .val (.int p2), .val (.int p3), .val (.int p4), .val (.int p5), .val (.int (4 : Int32)), .val (.ref bv), .val (.ref bt), .val (.ref br)] [])
    refine own_go (fun _ k => XS.aload X64.here hx rfl (hb hby at_165) rfl rfl k) ?_
    show own_Ends _ _ _ _ _ _ _ T64 (mkF m 167 #[.val (.int p0), .val (.int p1), .val (.int p2), .val (.int p3), .val (.int p4), .val (.int p5), .val (.int (4 : Int32)), .val (.ref bv), .val (.ref bt), .val (.ref br)] [(.ref bt)])
    refine own_go (fun _ k => XS.aload X64.here hx rfl (hb hby at_167) rfl rfl k) ?_
    show own_Ends _ _ _ _ _ _ _ T64 (mkF m 169 #[.val (.int p0), .val (.int p1), .val (.int p2), .val (.int p3), .val (.int p4), .val (.int p5), .val (.int (4 : Int32)), .val (.ref bv), .val (.ref bt), .val (.ref br)] [(.ref br), (.ref bt)])
    refine own_go (fun _ k => XS.aload X64.here hx rfl (hb hby at_169) rfl rfl k) ?_
    show own_Ends _ _ _ _ _ _ _ T64 (mkF m 171 #[.val (.int p0), .val (.int p1), .val (.int p2), .val (.int p3), .val (.int p4), .val (.int p5), .val (.int (4 : Int32)), .val (.ref bv), .val (.ref bt), .val (.ref br)] [(.ref bv), (.ref br), (.ref bt)])
    refine own_go (fun _ k => XS.iconst X64.here hx rfl (hb hby at_171) k) ?_
    show own_Ends _ _ _ _ _ _ _ T64 (mkF m 172 #[.val (.int p0), .val (.int p1), .val (.int p2), .val (.int p3), .val (.int p4), .val (.int p5), .val (.int (4 : Int32)), .val (.ref bv), .val (.ref bt), .val (.ref br)] [(.int (2 : Int32)), (.ref bv), (.ref br), (.ref bt)])
    refine own_go (fun _ k => XS.iload X64.here hx rfl (hb hby at_172) rfl k) ?_
    show own_Ends _ _ _ _ _ _ _ T64 (mkF m 174 #[.val (.int p0), .val (.int p1), .val (.int p2), .val (.int p3), .val (.int p4), .val (.int p5), .val (.int (4 : Int32)), .val (.ref bv), .val (.ref bt), .val (.ref br)] [(.int (4 : Int32)), (.int (2 : Int32)), (.ref bv), (.ref br), (.ref bt)])
    obtain ⟨v65, T65, L65, X65, hQ65, st65⟩ := own_callS X64 hx hZ hown (hw _ (List.mem_of_getElem? (i := 6) rfl)) (hw _ (List.mem_of_getElem? (i := 7) rfl)) (hw _ (List.mem_of_getElem? (i := 8) rfl)) (hw _ (List.mem_of_getElem? (i := 9) rfl)) (rm2_2 l Z a0 hw bt br bv (2 : Int32) (4 : Int32) T62.heap k57 kr k17 4 4 5 (fun j => if j = 3 then (.int p4) else (fun j => if j = 2 then (.int p3) else (fun j => if j = 1 then (.int p2) else (fun j => if j = 0 then (.int p1) else (fun _ => (.int (0 : Int32))) j) j) j) j) g (fun j => if j = 4 then (.int p5) else (fun j => if j = 3 then (.int p4) else (fun j => if j = 2 then (.int p3) else (fun j => if j = 1 then (.int p2) else (fun j => if j = 0 then (.int p1) else (fun _ => (.int (0 : Int32))) j) j) j) j) j) p3 p2 V_bt_62 A62 V_bv_62 (by decide) (by decide) (by decide) rfl (by decide) (by first | rfl | simp) (by first | rfl | simp) (by first | rfl | simp) (g2.trans (by first | rfl | simp))) e64 (g := (mkF m 174 #[.val (.int p0), .val (.int p1), .val (.int p2), .val (.int p3), .val (.int p4), .val (.int p5), .val (.int (4 : Int32)), .val (.ref bv), .val (.ref bt), .val (.ref br)] [(.int (4 : Int32)), (.int (2 : Int32)), (.ref bv), (.ref br), (.ref bt)])) rfl (by rw [hml]; rfl) (argsL := [(.ref bt), (.ref br), (.ref bv), (.int (2 : Int32)), (.int (4 : Int32))]) (rest := []) (lenOf pd_1 rfl) rfl rfl (W := 0) (by show 2 * 0 + _ ≤ _; exact Nat.le_of_eq rfl) (hb hby at_174) (by decide) (by decide) (by decide) (by decide) (by decide)
    obtain ⟨rfl, rfl, e65⟩ := hQ65
    refine own_go st65 ?_
    have N65 := Fr.app N64 (Fr.nil _)
    show own_Ends _ _ _ _ _ _ _ T65 (mkF m 177 #[.val (.int p0), .val (.int p1), .val (.int p2), .val (.int p3), .val (.int p4), .val (.int p5), .val (.int (4 : Int32)), .val (.ref bv), .val (.ref bt), .val (.ref br)] [(.int (1 : Int32))])
    refine own_go (fun _ k => XS.ifNo X65.here hx rfl (hb hby at_177) rfl ((if0 _ _).trans (feq (by decide)).1) k) ?_
    show own_Ends _ _ _ _ _ _ _ T65 (mkF m 180 #[.val (.int p0), .val (.int p1), .val (.int p2), .val (.int p3), .val (.int p4), .val (.int p5), .val (.int (4 : Int32)), .val (.ref bv), .val (.ref bt), .val (.ref br)] [])
    refine own_go (fun _ k => XS.aload X65.here hx rfl (hb hby at_180) rfl rfl k) ?_
    show own_Ends _ _ _ _ _ _ _ T65 (mkF m 182 #[.val (.int p0), .val (.int p1), .val (.int p2), .val (.int p3), .val (.int p4), .val (.int p5), .val (.int (4 : Int32)), .val (.ref bv), .val (.ref bt), .val (.ref br)] [(.ref bt)])
    refine own_go (fun _ k => XS.aload X65.here hx rfl (hb hby at_182) rfl rfl k) ?_
    show own_Ends _ _ _ _ _ _ _ T65 (mkF m 184 #[.val (.int p0), .val (.int p1), .val (.int p2), .val (.int p3), .val (.int p4), .val (.int p5), .val (.int (4 : Int32)), .val (.ref bv), .val (.ref bt), .val (.ref br)] [(.ref br), (.ref bt)])
    refine own_go (fun _ k => XS.aload X65.here hx rfl (hb hby at_184) rfl rfl k) ?_
    show own_Ends _ _ _ _ _ _ _ T65 (mkF m 186 #[.val (.int p0), .val (.int p1), .val (.int p2), .val (.int p3), .val (.int p4), .val (.int p5), .val (.int (4 : Int32)), .val (.ref bv), .val (.ref bt), .val (.ref br)] [(.ref bv), (.ref br), (.ref bt)])
    refine own_go (fun _ k => XS.iconst X65.here hx rfl (hb hby at_186) k) ?_
    show own_Ends _ _ _ _ _ _ _ T65 (mkF m 187 #[.val (.int p0), .val (.int p1), .val (.int p2), .val (.int p3), .val (.int p4), .val (.int p5), .val (.int (4 : Int32)), .val (.ref bv), .val (.ref bt), .val (.ref br)] [(.int (3 : Int32)), (.ref bv), (.ref br), (.ref bt)])
    refine own_go (fun _ k => XS.iload X65.here hx rfl (hb hby at_187) rfl k) ?_
    show own_Ends _ _ _ _ _ _ _ T65 (mkF m 189 #[.val (.int p0), .val (.int p1), .val (.int p2), .val (.int p3), .val (.int p4), .val (.int p5), .val (.int (4 : Int32)), .val (.ref bv), .val (.ref bt), .val (.ref br)] [(.int (4 : Int32)), (.int (3 : Int32)), (.ref bv), (.ref br), (.ref bt)])
    obtain ⟨v66, T66, L66, X66, hQ66, st66⟩ := own_callS X65 hx hZ hown (hw _ (List.mem_of_getElem? (i := 6) rfl)) (hw _ (List.mem_of_getElem? (i := 7) rfl)) (hw _ (List.mem_of_getElem? (i := 8) rfl)) (hw _ (List.mem_of_getElem? (i := 9) rfl)) (rm2_3 l Z a0 hw bt br bv (3 : Int32) (4 : Int32) T62.heap k57 kr k17 4 4 5 (fun j => if j = 3 then (.int p4) else (fun j => if j = 2 then (.int p3) else (fun j => if j = 1 then (.int p2) else (fun j => if j = 0 then (.int p1) else (fun _ => (.int (0 : Int32))) j) j) j) j) g (fun j => if j = 4 then (.int p5) else (fun j => if j = 3 then (.int p4) else (fun j => if j = 2 then (.int p3) else (fun j => if j = 1 then (.int p2) else (fun j => if j = 0 then (.int p1) else (fun _ => (.int (0 : Int32))) j) j) j) j) j) p4 p3 V_bt_62 A62 V_bv_62 (by decide) (by decide) (by decide) rfl (by decide) (by first | rfl | simp) (by first | rfl | simp) (by first | rfl | simp) (g3.trans (by first | rfl | simp))) e65 (g := (mkF m 189 #[.val (.int p0), .val (.int p1), .val (.int p2), .val (.int p3), .val (.int p4), .val (.int p5), .val (.int (4 : Int32)), .val (.ref bv), .val (.ref bt), .val (.ref br)] [(.int (4 : Int32)), (.int (3 : Int32)), (.ref bv), (.ref br), (.ref bt)])) rfl (by rw [hml]; rfl) (argsL := [(.ref bt), (.ref br), (.ref bv), (.int (3 : Int32)), (.int (4 : Int32))]) (rest := []) (lenOf pd_1 rfl) rfl rfl (W := 0) (by show 2 * 0 + _ ≤ _; exact Nat.le_of_eq rfl) (hb hby at_189) (by decide) (by decide) (by decide) (by decide) (by decide)
    obtain ⟨rfl, rfl, e66⟩ := hQ66
    refine own_go st66 ?_
    have N66 := Fr.app N65 (Fr.nil _)
    show own_Ends _ _ _ _ _ _ _ T66 (mkF m 192 #[.val (.int p0), .val (.int p1), .val (.int p2), .val (.int p3), .val (.int p4), .val (.int p5), .val (.int (4 : Int32)), .val (.ref bv), .val (.ref bt), .val (.ref br)] [(.int (1 : Int32))])
    refine own_go (fun _ k => XS.ifNo X66.here hx rfl (hb hby at_192) rfl ((if0 _ _).trans (feq (by decide)).1) k) ?_
    show own_Ends _ _ _ _ _ _ _ T66 (mkF m 195 #[.val (.int p0), .val (.int p1), .val (.int p2), .val (.int p3), .val (.int p4), .val (.int p5), .val (.int (4 : Int32)), .val (.ref bv), .val (.ref bt), .val (.ref br)] [])
    refine own_go (fun _ k => XS.aload X66.here hx rfl (hb hby at_195) rfl rfl k) ?_
    show own_Ends _ _ _ _ _ _ _ T66 (mkF m 197 #[.val (.int p0), .val (.int p1), .val (.int p2), .val (.int p3), .val (.int p4), .val (.int p5), .val (.int (4 : Int32)), .val (.ref bv), .val (.ref bt), .val (.ref br)] [(.ref bt)])
    refine own_go (fun _ k => XS.aload X66.here hx rfl (hb hby at_197) rfl rfl k) ?_
    show own_Ends _ _ _ _ _ _ _ T66 (mkF m 199 #[.val (.int p0), .val (.int p1), .val (.int p2), .val (.int p3), .val (.int p4), .val (.int p5), .val (.int (4 : Int32)), .val (.ref bv), .val (.ref bt), .val (.ref br)] [(.ref br), (.ref bt)])
    refine own_go (fun _ k => XS.aload X66.here hx rfl (hb hby at_199) rfl rfl k) ?_
    show own_Ends _ _ _ _ _ _ _ T66 (mkF m 201 #[.val (.int p0), .val (.int p1), .val (.int p2), .val (.int p3), .val (.int p4), .val (.int p5), .val (.int (4 : Int32)), .val (.ref bv), .val (.ref bt), .val (.ref br)] [(.ref bv), (.ref br), (.ref bt)])
    refine own_go (fun _ k => XS.iconst X66.here hx rfl (hb hby at_201) k) ?_
    show own_Ends _ _ _ _ _ _ _ T66 (mkF m 202 #[.val (.int p0), .val (.int p1), .val (.int p2), .val (.int p3), .val (.int p4), .val (.int p5), .val (.int (4 : Int32)), .val (.ref bv), .val (.ref bt), .val (.ref br)] [(.int (4 : Int32)), (.ref bv), (.ref br), (.ref bt)])
    refine own_go (fun _ k => XS.iload X66.here hx rfl (hb hby at_202) rfl k) ?_
    show own_Ends _ _ _ _ _ _ _ T66 (mkF m 204 #[.val (.int p0), .val (.int p1), .val (.int p2), .val (.int p3), .val (.int p4), .val (.int p5), .val (.int (4 : Int32)), .val (.ref bv), .val (.ref bt), .val (.ref br)] [(.int (4 : Int32)), (.int (4 : Int32)), (.ref bv), (.ref br), (.ref bt)])
    obtain ⟨v67, T67, L67, X67, hQ67, st67⟩ := own_callS X66 hx hZ hown (hw _ (List.mem_of_getElem? (i := 6) rfl)) (hw _ (List.mem_of_getElem? (i := 7) rfl)) (hw _ (List.mem_of_getElem? (i := 8) rfl)) (hw _ (List.mem_of_getElem? (i := 9) rfl)) (rm2_hi l Z a0 hw bt br bv (4 : Int32) (4 : Int32) T62.heap (by decide)) e66 (g := (mkF m 204 #[.val (.int p0), .val (.int p1), .val (.int p2), .val (.int p3), .val (.int p4), .val (.int p5), .val (.int (4 : Int32)), .val (.ref bv), .val (.ref bt), .val (.ref br)] [(.int (4 : Int32)), (.int (4 : Int32)), (.ref bv), (.ref br), (.ref bt)])) rfl (by rw [hml]; rfl) (argsL := [(.ref bt), (.ref br), (.ref bv), (.int (4 : Int32)), (.int (4 : Int32))]) (rest := []) (lenOf pd_1 rfl) rfl rfl (W := 0) (by show 2 * 0 + _ ≤ _; exact Nat.le_of_eq rfl) (hb hby at_204) (by decide) (by decide) (by decide) (by decide) (by decide)
    obtain ⟨rfl, rfl, e67⟩ := hQ67
    refine own_go st67 ?_
    have N67 := Fr.app N66 (Fr.nil _)
    show own_Ends _ _ _ _ _ _ _ T67 (mkF m 207 #[.val (.int p0), .val (.int p1), .val (.int p2), .val (.int p3), .val (.int p4), .val (.int p5), .val (.int (4 : Int32)), .val (.ref bv), .val (.ref bt), .val (.ref br)] [(.int (1 : Int32))])
    refine own_go (fun _ k => XS.ifNo X67.here hx rfl (hb hby at_207) rfl ((if0 _ _).trans (feq (by decide)).1) k) ?_
    show own_Ends _ _ _ _ _ _ _ T67 (mkF m 210 #[.val (.int p0), .val (.int p1), .val (.int p2), .val (.int p3), .val (.int p4), .val (.int p5), .val (.int (4 : Int32)), .val (.ref bv), .val (.ref bt), .val (.ref br)] [])
    refine own_go (fun _ k => XS.iconst X67.here hx rfl (hb hby at_210) k) ?_
    show own_Ends _ _ _ _ _ _ _ T67 (mkF m 211 #[.val (.int p0), .val (.int p1), .val (.int p2), .val (.int p3), .val (.int p4), .val (.int p5), .val (.int (4 : Int32)), .val (.ref bv), .val (.ref bt), .val (.ref br)] [(.int (1 : Int32))])
    refine own_go (fun _ k => XS.goto X67.here hx rfl (pc0 := 211) (pc' := 215) rfl (hb hby at_211) (by decide) (by decide) k) ?_
    show own_Ends _ _ _ _ _ _ _ T67 (mkF m 215 #[.val (.int p0), .val (.int p1), .val (.int p2), .val (.int p3), .val (.int p4), .val (.int p5), .val (.int (4 : Int32)), .val (.ref bv), .val (.ref bt), .val (.ref br)] [(.int (1 : Int32))])
    exact own_retZ X67 hx hlk hret (by decide) (hb hby at_215) (by decide) (by decide) ⟨rfl, N67⟩
  · rw [show ((p0 &&& (2147483647 : Int32)) % (6 : Int32)) = (5 : Int32) from hn]
    show own_Ends _ _ _ _ _ _ _ T22 (mkF m 38 #[.val (.int p0), .val (.int p1), .val (.int p2), .val (.int p3), .val (.int p4), .val (.int p5), .val (.int (5 : Int32)), .val (.ref bv), .unset, .unset] [(.int (5 : Int32))])
    obtain ⟨T68, h68, k68, X68, e68, E68, A68, st68⟩ := own_newP X22 hx hZ (aty := .int) (hw _ (List.mem_of_getElem? (i := 1) rfl)) e22 (g := (mkF m 38 #[.val (.int p0), .val (.int p1), .val (.int p2), .val (.int p3), .val (.int p4), .val (.int p5), .val (.int (5 : Int32)), .val (.ref bv), .unset, .unset] [(.int (5 : Int32))])) rfl (hb hby at_38) rfl (by decide) (n := 5) (by decide) (cap := 5) (by decide) (by decide) (by decide) (by decide)
    obtain ⟨bt, gq68⟩ : ∃ z, z = h22.size := ⟨_, rfl⟩
    rw [← gq68] at A68 st68
    have ne_bv_bt : bv ≠ bt := Nat.ne_of_lt (Nat.lt_of_lt_of_le V22.lt (Nat.le_of_eq gq68.symm))
    have sz_bt : h0.size ≤ bt := Nat.le_trans K_22.1 (Nat.le_of_eq gq68.symm)
    have g_bt : h0.size ≤ bt := Nat.le_trans (Nat.le_refl _) sz_bt
    have K_68 := K_22.ext E68
    have V_bv_68 := V22.ext E68
    have V_bt : own_Ar Z h68 bt k68 .int 5 (fun _ => (.int (0 : Int32))) := A68
    refine own_go st68 ?_
    show own_Ends _ _ _ _ _ _ _ T68 (mkF m 40 #[.val (.int p0), .val (.int p1), .val (.int p2), .val (.int p3), .val (.int p4), .val (.int p5), .val (.int (5 : Int32)), .val (.ref bv), .unset, .unset] [(.ref bt)])
    refine own_go (fun _ k => XS.astore X68.here hx rfl (hb hby at_40) rfl rfl (l' := #[.val (.int p0), .val (.int p1), .val (.int p2), .val (.int p3), .val (.int p4), .val (.int p5), .val (.int (5 : Int32)), .val (.ref bv), .val (.ref bt), .unset]) rfl k) ?_
    show own_Ends _ _ _ _ _ _ _ T68 (mkF m 42 #[.val (.int p0), .val (.int p1), .val (.int p2), .val (.int p3), .val (.int p4), .val (.int p5), .val (.int (5 : Int32)), .val (.ref bv), .val (.ref bt), .unset] [])
    refine own_go (fun _ k => XS.iload X68.here hx rfl (hb hby at_42) rfl k) ?_
    show own_Ends _ _ _ _ _ _ _ T68 (mkF m 44 #[.val (.int p0), .val (.int p1), .val (.int p2), .val (.int p3), .val (.int p4), .val (.int p5), .val (.int (5 : Int32)), .val (.ref bv), .val (.ref bt), .unset] [(.int (5 : Int32))])
    refine own_go (fun _ k => XS.ifNo X68.here hx rfl (hb hby at_44) rfl ((if0 _ _).trans (tlt (by decide)).2.2.2) k) ?_
    show own_Ends _ _ _ _ _ _ _ T68 (mkF m 47 #[.val (.int p0), .val (.int p1), .val (.int p2), .val (.int p3), .val (.int p4), .val (.int p5), .val (.int (5 : Int32)), .val (.ref bv), .val (.ref bt), .unset] [])
    refine own_go (fun _ k => XS.aload X68.here hx rfl (hb hby at_47) rfl rfl k) ?_
    show own_Ends _ _ _ _ _ _ _ T68 (mkF m 49 #[.val (.int p0), .val (.int p1), .val (.int p2), .val (.int p3), .val (.int p4), .val (.int p5), .val (.int (5 : Int32)), .val (.ref bv), .val (.ref bt), .unset] [(.ref bt)])
    refine own_go (fun _ k => XS.iconst X68.here hx rfl (hb hby at_49) k) ?_
    show own_Ends _ _ _ _ _ _ _ T68 (mkF m 50 #[.val (.int p0), .val (.int p1), .val (.int p2), .val (.int p3), .val (.int p4), .val (.int p5), .val (.int (5 : Int32)), .val (.ref bv), .val (.ref bt), .unset] [(.int (0 : Int32)), (.ref bt)])
    refine own_go (fun _ k => XS.iloadN X68.here hx rfl (hb hby at_50) rfl k) ?_
    show own_Ends _ _ _ _ _ _ _ T68 (mkF m 51 #[.val (.int p0), .val (.int p1), .val (.int p2), .val (.int p3), .val (.int p4), .val (.int p5), .val (.int (5 : Int32)), .val (.ref bv), .val (.ref bt), .unset] [(.int p1), (.int (0 : Int32)), (.ref bt)])
    obtain ⟨T69, h69, X69, e69, W69, V69, st69⟩ := own_stI X68 hx hZ e68 V_bt (i := 0) (by decide) (by decide) (by decide) (g := (mkF m 51 #[.val (.int p0), .val (.int p1), .val (.int p2), .val (.int p3), .val (.int p4), .val (.int p5), .val (.int (5 : Int32)), .val (.ref bv), .val (.ref bt), .unset] [(.int p1), (.int (0 : Int32)), (.ref bt)])) rfl rfl (hb hby at_51)
    have N69 := Fr.snoc X69 N22 g_bt
    have K_69 := K_68.wr W69 (Or.inr sz_bt)
    have V_bv_69 := V_bv_68.other W69 ne_bv_bt
    refine own_go st69 ?_
    show own_Ends _ _ _ _ _ _ _ T69 (mkF m 52 #[.val (.int p0), .val (.int p1), .val (.int p2), .val (.int p3), .val (.int p4), .val (.int p5), .val (.int (5 : Int32)), .val (.ref bv), .val (.ref bt), .unset] [])
    refine own_go (fun _ k => XS.iload X69.here hx rfl (hb hby at_52) rfl k) ?_
    show own_Ends _ _ _ _ _ _ _ T69 (mkF m 54 #[.val (.int p0), .val (.int p1), .val (.int p2), .val (.int p3), .val (.int p4), .val (.int p5), .val (.int (5 : Int32)), .val (.ref bv), .val (.ref bt), .unset] [(.int (5 : Int32))])
    refine own_go (fun _ k => XS.iconst X69.here hx rfl (hb hby at_54) k) ?_
    show own_Ends _ _ _ _ _ _ _ T69 (mkF m 55 #[.val (.int p0), .val (.int p1), .val (.int p2), .val (.int p3), .val (.int p4), .val (.int p5), .val (.int (5 : Int32)), .val (.ref bv), .val (.ref bt), .unset] [(.int (1 : Int32)), (.int (5 : Int32))])
    refine own_go (fun _ k => XS.icmpNo X69.here hx rfl (hb hby at_55) rfl (tlt (by decide)).2.2.2 k) ?_
    show own_Ends _ _ _ _ _ _ _ T69 (mkF m 58 #[.val (.int p0), .val (.int p1), .val (.int p2), .val (.int p3), .val (.int p4), .val (.int p5), .val (.int (5 : Int32)), .val (.ref bv), .val (.ref bt), .unset] [])
    refine own_go (fun _ k => XS.aload X69.here hx rfl (hb hby at_58) rfl rfl k) ?_
    show own_Ends _ _ _ _ _ _ _ T69 (mkF m 60 #[.val (.int p0), .val (.int p1), .val (.int p2), .val (.int p3), .val (.int p4), .val (.int p5), .val (.int (5 : Int32)), .val (.ref bv), .val (.ref bt), .unset] [(.ref bt)])
    refine own_go (fun _ k => XS.iconst X69.here hx rfl (hb hby at_60) k) ?_
    show own_Ends _ _ _ _ _ _ _ T69 (mkF m 61 #[.val (.int p0), .val (.int p1), .val (.int p2), .val (.int p3), .val (.int p4), .val (.int p5), .val (.int (5 : Int32)), .val (.ref bv), .val (.ref bt), .unset] [(.int (1 : Int32)), (.ref bt)])
    refine own_go (fun _ k => XS.iloadN X69.here hx rfl (hb hby at_61) rfl k) ?_
    show own_Ends _ _ _ _ _ _ _ T69 (mkF m 62 #[.val (.int p0), .val (.int p1), .val (.int p2), .val (.int p3), .val (.int p4), .val (.int p5), .val (.int (5 : Int32)), .val (.ref bv), .val (.ref bt), .unset] [(.int p2), (.int (1 : Int32)), (.ref bt)])
    obtain ⟨T70, h70, X70, e70, W70, V70, st70⟩ := own_stI X69 hx hZ e69 V69 (i := 1) (by decide) (by decide) (by decide) (g := (mkF m 62 #[.val (.int p0), .val (.int p1), .val (.int p2), .val (.int p3), .val (.int p4), .val (.int p5), .val (.int (5 : Int32)), .val (.ref bv), .val (.ref bt), .unset] [(.int p2), (.int (1 : Int32)), (.ref bt)])) rfl rfl (hb hby at_62)
    have N70 := Fr.snoc X70 N69 g_bt
    have K_70 := K_69.wr W70 (Or.inr sz_bt)
    have V_bv_70 := V_bv_69.other W70 ne_bv_bt
    refine own_go st70 ?_
    show own_Ends _ _ _ _ _ _ _ T70 (mkF m 63 #[.val (.int p0), .val (.int p1), .val (.int p2), .val (.int p3), .val (.int p4), .val (.int p5), .val (.int (5 : Int32)), .val (.ref bv), .val (.ref bt), .unset] [])
    refine own_go (fun _ k => XS.iload X70.here hx rfl (hb hby at_63) rfl k) ?_
    show own_Ends _ _ _ _ _ _ _ T70 (mkF m 65 #[.val (.int p0), .val (.int p1), .val (.int p2), .val (.int p3), .val (.int p4), .val (.int p5), .val (.int (5 : Int32)), .val (.ref bv), .val (.ref bt), .unset] [(.int (5 : Int32))])
    refine own_go (fun _ k => XS.iconst X70.here hx rfl (hb hby at_65) k) ?_
    show own_Ends _ _ _ _ _ _ _ T70 (mkF m 66 #[.val (.int p0), .val (.int p1), .val (.int p2), .val (.int p3), .val (.int p4), .val (.int p5), .val (.int (5 : Int32)), .val (.ref bv), .val (.ref bt), .unset] [(.int (2 : Int32)), (.int (5 : Int32))])
    refine own_go (fun _ k => XS.icmpNo X70.here hx rfl (hb hby at_66) rfl (tlt (by decide)).2.2.2 k) ?_
    show own_Ends _ _ _ _ _ _ _ T70 (mkF m 69 #[.val (.int p0), .val (.int p1), .val (.int p2), .val (.int p3), .val (.int p4), .val (.int p5), .val (.int (5 : Int32)), .val (.ref bv), .val (.ref bt), .unset] [])
    refine own_go (fun _ k => XS.aload X70.here hx rfl (hb hby at_69) rfl rfl k) ?_
    show own_Ends _ _ _ _ _ _ _ T70 (mkF m 71 #[.val (.int p0), .val (.int p1), .val (.int p2), .val (.int p3), .val (.int p4), .val (.int p5), .val (.int (5 : Int32)), .val (.ref bv), .val (.ref bt), .unset] [(.ref bt)])
    refine own_go (fun _ k => XS.iconst X70.here hx rfl (hb hby at_71) k) ?_
    show own_Ends _ _ _ _ _ _ _ T70 (mkF m 72 #[.val (.int p0), .val (.int p1), .val (.int p2), .val (.int p3), .val (.int p4), .val (.int p5), .val (.int (5 : Int32)), .val (.ref bv), .val (.ref bt), .unset] [(.int (2 : Int32)), (.ref bt)])
    refine own_go (fun _ k => XS.iloadN X70.here hx rfl (hb hby at_72) rfl k) ?_
    show own_Ends _ _ _ _ _ _ _ T70 (mkF m 73 #[.val (.int p0), .val (.int p1), .val (.int p2), .val (.int p3), .val (.int p4), .val (.int p5), .val (.int (5 : Int32)), .val (.ref bv), .val (.ref bt), .unset] [(.int p3), (.int (2 : Int32)), (.ref bt)])
    obtain ⟨T71, h71, X71, e71, W71, V71, st71⟩ := own_stI X70 hx hZ e70 V70 (i := 2) (by decide) (by decide) (by decide) (g := (mkF m 73 #[.val (.int p0), .val (.int p1), .val (.int p2), .val (.int p3), .val (.int p4), .val (.int p5), .val (.int (5 : Int32)), .val (.ref bv), .val (.ref bt), .unset] [(.int p3), (.int (2 : Int32)), (.ref bt)])) rfl rfl (hb hby at_73)
    have N71 := Fr.snoc X71 N70 g_bt
    have K_71 := K_70.wr W71 (Or.inr sz_bt)
    have V_bv_71 := V_bv_70.other W71 ne_bv_bt
    refine own_go st71 ?_
    show own_Ends _ _ _ _ _ _ _ T71 (mkF m 74 #[.val (.int p0), .val (.int p1), .val (.int p2), .val (.int p3), .val (.int p4), .val (.int p5), .val (.int (5 : Int32)), .val (.ref bv), .val (.ref bt), .unset] [])
    refine own_go (fun _ k => XS.iload X71.here hx rfl (hb hby at_74) rfl k) ?_
    show own_Ends _ _ _ _ _ _ _ T71 (mkF m 76 #[.val (.int p0), .val (.int p1), .val (.int p2), .val (.int p3), .val (.int p4), .val (.int p5), .val (.int (5 : Int32)), .val (.ref bv), .val (.ref bt), .unset] [(.int (5 : Int32))])
    refine own_go (fun _ k => XS.iconst X71.here hx rfl (hb hby at_76) k) ?_
    show own_Ends _ _ _ _ _ _ _ T71 (mkF m 77 #[.val (.int p0), .val (.int p1), .val (.int p2), .val (.int p3), .val (.int p4), .val (.int p5), .val (.int (5 : Int32)), .val (.ref bv), .val (.ref bt), .unset] [(.int (3 : Int32)), (.int (5 : Int32))])
    refine own_go (fun _ k => XS.icmpNo X71.here hx rfl (hb hby at_77) rfl (tlt (by decide)).2.2.2 k) ?_
    show own_Ends _ _ _ _ _ _ _ T71 (mkF m 80 #[.val (.int p0), .val (.int p1), .val (.int p2), .val (.int p3), .val (.int p4), .val (.int p5), .val (.int (5 : Int32)), .val (.ref bv), .val (.ref bt), .unset] [])
    refine own_go (fun _ k => XS.aload X71.here hx rfl (hb hby at_80) rfl rfl k) ?_
    show own_Ends _ _ _ _ _ _ _ T71 (mkF m 82 #[.val (.int p0), .val (.int p1), .val (.int p2), .val (.int p3), .val (.int p4), .val (.int p5), .val (.int (5 : Int32)), .val (.ref bv), .val (.ref bt), .unset] [(.ref bt)])
    refine own_go (fun _ k => XS.iconst X71.here hx rfl (hb hby at_82) k) ?_
    show own_Ends _ _ _ _ _ _ _ T71 (mkF m 83 #[.val (.int p0), .val (.int p1), .val (.int p2), .val (.int p3), .val (.int p4), .val (.int p5), .val (.int (5 : Int32)), .val (.ref bv), .val (.ref bt), .unset] [(.int (3 : Int32)), (.ref bt)])
    refine own_go (fun _ k => XS.iload X71.here hx rfl (hb hby at_83) rfl k) ?_
    show own_Ends _ _ _ _ _ _ _ T71 (mkF m 85 #[.val (.int p0), .val (.int p1), .val (.int p2), .val (.int p3), .val (.int p4), .val (.int p5), .val (.int (5 : Int32)), .val (.ref bv), .val (.ref bt), .unset] [(.int p4), (.int (3 : Int32)), (.ref bt)])
    obtain ⟨T72, h72, X72, e72, W72, V72, st72⟩ := own_stI X71 hx hZ e71 V71 (i := 3) (by decide) (by decide) (by decide) (g := (mkF m 85 #[.val (.int p0), .val (.int p1), .val (.int p2), .val (.int p3), .val (.int p4), .val (.int p5), .val (.int (5 : Int32)), .val (.ref bv), .val (.ref bt), .unset] [(.int p4), (.int (3 : Int32)), (.ref bt)])) rfl rfl (hb hby at_85)
    have N72 := Fr.snoc X72 N71 g_bt
    have K_72 := K_71.wr W72 (Or.inr sz_bt)
    have V_bv_72 := V_bv_71.other W72 ne_bv_bt
    refine own_go st72 ?_
    show own_Ends _ _ _ _ _ _ _ T72 (mkF m 86 #[.val (.int p0), .val (.int p1), .val (.int p2), .val (.int p3), .val (.int p4), .val (.int p5), .val (.int (5 : Int32)), .val (.ref bv), .val (.ref bt), .unset] [])
    refine own_go (fun _ k => XS.iload X72.here hx rfl (hb hby at_86) rfl k) ?_
    show own_Ends _ _ _ _ _ _ _ T72 (mkF m 88 #[.val (.int p0), .val (.int p1), .val (.int p2), .val (.int p3), .val (.int p4), .val (.int p5), .val (.int (5 : Int32)), .val (.ref bv), .val (.ref bt), .unset] [(.int (5 : Int32))])
    refine own_go (fun _ k => XS.iconst X72.here hx rfl (hb hby at_88) k) ?_
    show own_Ends _ _ _ _ _ _ _ T72 (mkF m 89 #[.val (.int p0), .val (.int p1), .val (.int p2), .val (.int p3), .val (.int p4), .val (.int p5), .val (.int (5 : Int32)), .val (.ref bv), .val (.ref bt), .unset] [(.int (4 : Int32)), (.int (5 : Int32))])
    refine own_go (fun _ k => XS.icmpNo X72.here hx rfl (hb hby at_89) rfl (tlt (by decide)).2.2.2 k) ?_
    show own_Ends _ _ _ _ _ _ _ T72 (mkF m 92 #[.val (.int p0), .val (.int p1), .val (.int p2), .val (.int p3), .val (.int p4), .val (.int p5), .val (.int (5 : Int32)), .val (.ref bv), .val (.ref bt), .unset] [])
    refine own_go (fun _ k => XS.aload X72.here hx rfl (hb hby at_92) rfl rfl k) ?_
    show own_Ends _ _ _ _ _ _ _ T72 (mkF m 94 #[.val (.int p0), .val (.int p1), .val (.int p2), .val (.int p3), .val (.int p4), .val (.int p5), .val (.int (5 : Int32)), .val (.ref bv), .val (.ref bt), .unset] [(.ref bt)])
    refine own_go (fun _ k => XS.iconst X72.here hx rfl (hb hby at_94) k) ?_
    show own_Ends _ _ _ _ _ _ _ T72 (mkF m 95 #[.val (.int p0), .val (.int p1), .val (.int p2), .val (.int p3), .val (.int p4), .val (.int p5), .val (.int (5 : Int32)), .val (.ref bv), .val (.ref bt), .unset] [(.int (4 : Int32)), (.ref bt)])
    refine own_go (fun _ k => XS.iload X72.here hx rfl (hb hby at_95) rfl k) ?_
    show own_Ends _ _ _ _ _ _ _ T72 (mkF m 97 #[.val (.int p0), .val (.int p1), .val (.int p2), .val (.int p3), .val (.int p4), .val (.int p5), .val (.int (5 : Int32)), .val (.ref bv), .val (.ref bt), .unset] [(.int p5), (.int (4 : Int32)), (.ref bt)])
    obtain ⟨T73, h73, X73, e73, W73, V73, st73⟩ := own_stI X72 hx hZ e72 V72 (i := 4) (by decide) (by decide) (by decide) (g := (mkF m 97 #[.val (.int p0), .val (.int p1), .val (.int p2), .val (.int p3), .val (.int p4), .val (.int p5), .val (.int (5 : Int32)), .val (.ref bv), .val (.ref bt), .unset] [(.int p5), (.int (4 : Int32)), (.ref bt)])) rfl rfl (hb hby at_97)
    have N73 := Fr.snoc X73 N72 g_bt
    have K_73 := K_72.wr W73 (Or.inr sz_bt)
    have V_bv_73 := V_bv_72.other W73 ne_bv_bt
    refine own_go st73 ?_
    show own_Ends _ _ _ _ _ _ _ T73 (mkF m 98 #[.val (.int p0), .val (.int p1), .val (.int p2), .val (.int p3), .val (.int p4), .val (.int p5), .val (.int (5 : Int32)), .val (.ref bv), .val (.ref bt), .unset] [])
    refine own_go (fun _ k => XS.aload X73.here hx rfl (hb hby at_98) rfl rfl k) ?_
    show own_Ends _ _ _ _ _ _ _ T73 (mkF m 100 #[.val (.int p0), .val (.int p1), .val (.int p2), .val (.int p3), .val (.int p4), .val (.int p5), .val (.int (5 : Int32)), .val (.ref bv), .val (.ref bt), .unset] [(.ref bt)])
    obtain ⟨v74, T74, L74, X74, hQ74, st74⟩ := own_callS X73 hx hZ hown (hw _ (List.mem_of_getElem? (i := 2) rfl)) (hw _ (List.mem_of_getElem? (i := 3) rfl)) (hw _ (List.mem_of_getElem? (i := 4) rfl)) (hw _ (List.mem_of_getElem? (i := 5) rfl)) (rm1_5 l Z a0 hw bt h73 h0.size k68 (fun j => if j = 4 then (.int p5) else (fun j => if j = 3 then (.int p4) else (fun j => if j = 2 then (.int p3) else (fun j => if j = 1 then (.int p2) else (fun j => if j = 0 then (.int p1) else (fun _ => (.int (0 : Int32))) j) j) j) j) j) K_73.1 V73 (fun i _ => (own_fit_set (own_fit_set (own_fit_set (own_fit_set (own_fit_set own_fit0))))) i)) e73 (g := (mkF m 100 #[.val (.int p0), .val (.int p1), .val (.int p2), .val (.int p3), .val (.int p4), .val (.int p5), .val (.int (5 : Int32)), .val (.ref bv), .val (.ref bt), .unset] [(.ref bt)])) rfl (by rw [hml]; rfl) (argsL := [(.ref bt)]) (rest := []) (lenOf pd_0 rfl) rfl rfl (W := 0) (by show 2 * 0 + _ ≤ _; exact Nat.le_of_eq rfl) (hb hby at_100) (by decide) (by decide) (by decide) (by decide) (by decide)
    obtain ⟨br, kr, g, rfl, N74q, K74, A74, s74, g0, g1, g2, g3, g4⟩ := hQ74
    refine own_go st74 ?_
    have N74 := Fr.app N73 N74q
    show own_Ends _ _ _ _ _ _ _ T74 (mkF m 103 #[.val (.int p0), .val (.int p1), .val (.int p2), .val (.int p3), .val (.int p4), .val (.int p5), .val (.int (5 : Int32)), .val (.ref bv), .val (.ref bt), .unset] [(.ref br)])
    have ne_bt_br : bt ≠ br := Nat.ne_of_lt (Nat.lt_of_lt_of_le V73.lt s74)
    have K_74 := K_73.trans K74 all0
    have V_bv_74 := V_bv_73.keep K74 nin0
    have V_bt_74 := V73.keep K74 nin0
    show own_Ends _ _ _ _ _ _ _ T74 (mkF m 103 #[.val (.int p0), .val (.int p1), .val (.int p2), .val (.int p3), .val (.int p4), .val (.int p5), .val (.int (5 : Int32)), .val (.ref bv), .val (.ref bt), .unset] [(.ref br)])
    refine own_go (fun _ k => XS.astore X74.here hx rfl (hb hby at_103) rfl rfl (l' := #[.val (.int p0), .val (.int p1), .val (.int p2), .val (.int p3), .val (.int p4), .val (.int p5), .val (.int (5 : Int32)), .val (.ref bv), .val (.ref bt), .val (.ref br)]) rfl k) ?_
    show own_Ends _ _ _ _ _ _ _ T74 (mkF m 105 #[.val (.int p0), .val (.int p1), .val (.int p2), .val (.int p3), .val (.int p4), .val (.int p5), .val (.int (5 : Int32)), .val (.ref bv), .val (.ref bt), .val (.ref br)] [])
    refine own_go (fun _ k => XS.aload X74.here hx rfl (hb hby at_105) rfl rfl k) ?_
    show own_Ends _ _ _ _ _ _ _ T74 (mkF m 107 #[.val (.int p0), .val (.int p1), .val (.int p2), .val (.int p3), .val (.int p4), .val (.int p5), .val (.int (5 : Int32)), .val (.ref bv), .val (.ref bt), .val (.ref br)] [(.ref br)])
    refine own_go (fun _ k => XS.ifnullNo X74.here hx rfl (hb hby at_107) rfl k) ?_
    show own_Ends _ _ _ _ _ _ _ T74 (mkF m 110 #[.val (.int p0), .val (.int p1), .val (.int p2), .val (.int p3), .val (.int p4), .val (.int p5), .val (.int (5 : Int32)), .val (.ref bv), .val (.ref bt), .val (.ref br)] [])
    refine own_go (fun _ k => XS.aload X74.here hx rfl (hb hby at_110) rfl rfl k) ?_
    show own_Ends _ _ _ _ _ _ _ T74 (mkF m 112 #[.val (.int p0), .val (.int p1), .val (.int p2), .val (.int p3), .val (.int p4), .val (.int p5), .val (.int (5 : Int32)), .val (.ref bv), .val (.ref bt), .val (.ref br)] [(.ref br)])
    refine own_go (fun _ k => XS.aload X74.here hx rfl (hb hby at_112) rfl rfl k) ?_
    show own_Ends _ _ _ _ _ _ _ T74 (mkF m 114 #[.val (.int p0), .val (.int p1), .val (.int p2), .val (.int p3), .val (.int p4), .val (.int p5), .val (.int (5 : Int32)), .val (.ref bv), .val (.ref bt), .val (.ref br)] [(.ref bt), (.ref br)])
    refine own_go (fun _ k => Jvm.RoadKit.acmp (g := (mkF m 114 #[.val (.int p0), .val (.int p1), .val (.int p2), .val (.int p3), .val (.int p4), .val (.int p5), .val (.int (5 : Int32)), .val (.ref bv), .val (.ref bt), .val (.ref br)] [(.ref bt), (.ref br)])) X74 hx rfl rfl rfl (pc0 := 114) (pc' := 117) (same := false) rfl (hb hby at_114) rfl (decide_eq_false fun q => ne_bt_br (Value.ref.inj q).symm) (by decide) (by decide) k) ?_
    show own_Ends _ _ _ _ _ _ _ T74 (mkF m 117 #[.val (.int p0), .val (.int p1), .val (.int p2), .val (.int p3), .val (.int p4), .val (.int p5), .val (.int (5 : Int32)), .val (.ref bv), .val (.ref bt), .val (.ref br)] [])
    refine own_go (fun _ k => XS.aload X74.here hx rfl (hb hby at_117) rfl rfl k) ?_
    show own_Ends _ _ _ _ _ _ _ T74 (mkF m 119 #[.val (.int p0), .val (.int p1), .val (.int p2), .val (.int p3), .val (.int p4), .val (.int p5), .val (.int (5 : Int32)), .val (.ref bv), .val (.ref bt), .val (.ref br)] [(.ref br)])
    refine own_go (fun _ k => own_len X74 hx hZ rfl A74 (z := (5 : Int32)) rfl (g := (mkF m 119 #[.val (.int p0), .val (.int p1), .val (.int p2), .val (.int p3), .val (.int p4), .val (.int p5), .val (.int (5 : Int32)), .val (.ref bv), .val (.ref bt), .val (.ref br)] [(.ref br)])) rfl rfl (hb hby at_119) _ k) ?_
    show own_Ends _ _ _ _ _ _ _ T74 (mkF m 120 #[.val (.int p0), .val (.int p1), .val (.int p2), .val (.int p3), .val (.int p4), .val (.int p5), .val (.int (5 : Int32)), .val (.ref bv), .val (.ref bt), .val (.ref br)] [(.int (5 : Int32))])
    refine own_go (fun _ k => XS.iload X74.here hx rfl (hb hby at_120) rfl k) ?_
    show own_Ends _ _ _ _ _ _ _ T74 (mkF m 122 #[.val (.int p0), .val (.int p1), .val (.int p2), .val (.int p3), .val (.int p4), .val (.int p5), .val (.int (5 : Int32)), .val (.ref bv), .val (.ref bt), .val (.ref br)] [(.int (5 : Int32)), (.int (5 : Int32))])
    refine own_go (fun _ k => XS.icmpNo X74.here hx rfl (hb hby at_122) rfl (teq (rfl)).2 k) ?_
    show own_Ends _ _ _ _ _ _ _ T74 (mkF m 125 #[.val (.int p0), .val (.int p1), .val (.int p2), .val (.int p3), .val (.int p4), .val (.int p5), .val (.int (5 : Int32)), .val (.ref bv), .val (.ref bt), .val (.ref br)] [])
    refine own_go (fun _ k => XS.aload X74.here hx rfl (hb hby at_125) rfl rfl k) ?_
    show own_Ends _ _ _ _ _ _ _ T74 (mkF m 127 #[.val (.int p0), .val (.int p1), .val (.int p2), .val (.int p3), .val (.int p4), .val (.int p5), .val (.int (5 : Int32)), .val (.ref bv), .val (.ref bt), .val (.ref br)] [(.ref bt)])
    refine own_go (fun _ k => own_len X74 hx hZ rfl V_bt_74 (z := (5 : Int32)) rfl (g := (mkF m 127 #[.val (.int p0), .val (.int p1), .val (.int p2), .val (.int p3), .val (.int p4), .val (.int p5), .val (.int (5 : Int32)), .val (.ref bv), .val (.ref bt), .val (.ref br)] [(.ref bt)])) rfl rfl (hb hby at_127) _ k) ?_
    show own_Ends _ _ _ _ _ _ _ T74 (mkF m 128 #[.val (.int p0), .val (.int p1), .val (.int p2), .val (.int p3), .val (.int p4), .val (.int p5), .val (.int (5 : Int32)), .val (.ref bv), .val (.ref bt), .val (.ref br)] [(.int (5 : Int32))])
    refine own_go (fun _ k => XS.iload X74.here hx rfl (hb hby at_128) rfl k) ?_
    show own_Ends _ _ _ _ _ _ _ T74 (mkF m 130 #[.val (.int p0), .val (.int p1), .val (.int p2), .val (.int p3), .val (.int p4), .val (.int p5), .val (.int (5 : Int32)), .val (.ref bv), .val (.ref bt), .val (.ref br)] [(.int (5 : Int32)), (.int (5 : Int32))])
    refine own_go (fun _ k => XS.icmpYes X74.here hx rfl (pc0 := 130) (pc' := 135) rfl (hb hby at_130) rfl (teq (rfl)).1 (by decide) (by decide) k) ?_
    show own_Ends _ _ _ _ _ _ _ T74 (mkF m 135 #[.val (.int p0), .val (.int p1), .val (.int p2), .val (.int p3), .val (.int p4), .val (.int p5), .val (.int (5 : Int32)), .val (.ref bv), .val (.ref bt), .val (.ref br)] [])
    refine own_go (fun _ k => XS.aload X74.here hx rfl (hb hby at_135) rfl rfl k) ?_
    show own_Ends _ _ _ _ _ _ _ T74 (mkF m 137 #[.val (.int p0), .val (.int p1), .val (.int p2), .val (.int p3), .val (.int p4), .val (.int p5), .val (.int (5 : Int32)), .val (.ref bv), .val (.ref bt), .val (.ref br)] [(.ref bt)])
    refine own_go (fun _ k => XS.aload X74.here hx rfl (hb hby at_137) rfl rfl k) ?_
    show own_Ends _ _ _ _ _ _ _ T74 (mkF m 139 #[.val (.int p0), .val (.int p1), .val (.int p2), .val (.int p3), .val (.int p4), .val (.int p5), .val (.int (5 : Int32)), .val (.ref bv), .val (.ref bt), .val (.ref br)] [(.ref br), (.ref bt)])
    refine own_go (fun _ k => XS.aload X74.here hx rfl (hb hby at_139) rfl rfl k) ?_
    show own_Ends _ _ _ _ _ _ _ T74 (mkF m 141 #[.val (.int p0), .val (.int p1), .val (.int p2), .val (.int p3), .val (.int p4), .val (.int p5), .val (.int (5 : Int32)), .val (.ref bv), .val (.ref bt), .val (.ref br)] [(.ref bv), (.ref br), (.ref bt)])
    refine own_go (fun _ k => XS.iconst X74.here hx rfl (hb hby at_141) k) ?_
    show own_Ends _ _ _ _ _ _ _ T74 (mkF m 142 #[.val (.int p0), .val (.int p1), .val (.int p2), .val (.int p3), .val (.int p4), .val (.int p5), .val (.int (5 : Int32)), .val (.ref bv), .val (.ref bt), .val (.ref br)] [(.int (0 : Int32)), (.ref bv), (.ref br), (.ref bt)])
    refine own_go (fun _ k => XS.iload X74.here hx rfl (hb hby at_142) rfl k) ?_
    show own_Ends _ _ _ _ _ _ _ T74 (mkF m 144 #[.val (.int p0), .val (.int p1), .val (.int p2), .val (.int p3), .val (.int p4), .val (.int p5), .val (.int (5 : Int32)), .val (.ref bv), .val (.ref bt), .val (.ref br)] [(.int (5 : Int32)), (.int (0 : Int32)), (.ref bv), (.ref br), (.ref bt)])
    obtain ⟨v75, T75, L75, X75, hQ75, st75⟩ := own_callS X74 hx hZ hown (hw _ (List.mem_of_getElem? (i := 6) rfl)) (hw _ (List.mem_of_getElem? (i := 7) rfl)) (hw _ (List.mem_of_getElem? (i := 8) rfl)) (hw _ (List.mem_of_getElem? (i := 9) rfl)) (rm2_0 l Z a0 hw bt br bv (0 : Int32) (5 : Int32) T74.heap k68 kr k17 5 5 5 (fun j => if j = 4 then (.int p5) else (fun j => if j = 3 then (.int p4) else (fun j => if j = 2 then (.int p3) else (fun j => if j = 1 then (.int p2) else (fun j => if j = 0 then (.int p1) else (fun _ => (.int (0 : Int32))) j) j) j) j) j) g (fun j => if j = 4 then (.int p5) else (fun j => if j = 3 then (.int p4) else (fun j => if j = 2 then (.int p3) else (fun j => if j = 1 then (.int p2) else (fun j => if j = 0 then (.int p1) else (fun _ => (.int (0 : Int32))) j) j) j) j) j) p1 V_bt_74 A74 V_bv_74 (by decide) (by decide) (by decide) rfl (by decide) (by first | rfl | simp) (by first | rfl | simp) g0) rfl (g := (mkF m 144 #[.val (.int p0), .val (.int p1), .val (.int p2), .val (.int p3), .val (.int p4), .val (.int p5), .val (.int (5 : Int32)), .val (.ref bv), .val (.ref bt), .val (.ref br)] [(.int (5 : Int32)), (.int (0 : Int32)), (.ref bv), (.ref br), (.ref bt)])) rfl (by rw [hml]; rfl) (argsL := [(.ref bt), (.ref br), (.ref bv), (.int (0 : Int32)), (.int (5 : Int32))]) (rest := []) (lenOf pd_1 rfl) rfl rfl (W := 0) (by show 2 * 0 + _ ≤ _; exact Nat.le_of_eq rfl) (hb hby at_144) (by decide) (by decide) (by decide) (by decide) (by decide)
    obtain ⟨rfl, rfl, e75⟩ := hQ75
    refine own_go st75 ?_
    have N75 := Fr.app N74 (Fr.nil _)
    show own_Ends _ _ _ _ _ _ _ T75 (mkF m 147 #[.val (.int p0), .val (.int p1), .val (.int p2), .val (.int p3), .val (.int p4), .val (.int p5), .val (.int (5 : Int32)), .val (.ref bv), .val (.ref bt), .val (.ref br)] [(.int (1 : Int32))])
    refine own_go (fun _ k => XS.ifNo X75.here hx rfl (hb hby at_147) rfl ((if0 _ _).trans (feq (by decide)).1) k) ?_
    show own_Ends _ _ _ _ _ _ _ T75 (mkF m 150 #[.val (.int p0), .val (.int p1), .val (.int p2), .val (.int p3), .val (.int p4), .val (.int p5), .val (.int (5 : Int32)), .val (.ref bv), .val (.ref bt), .val (.ref br)] [])
    refine own_go (fun _ k => XS.aload X75.here hx rfl (hb hby at_150) rfl rfl k) ?_
    show own_Ends _ _ _ _ _ _ _ T75 (mkF m 152 #[.val (.int p0), .val (.int p1), .val (.int p2), .val (.int p3), .val (.int p4), .val (.int p5), .val (.int (5 : Int32)), .val (.ref bv), .val (.ref bt), .val (.ref br)] [(.ref bt)])
    refine own_go (fun _ k => XS.aload X75.here hx rfl (hb hby at_152) rfl rfl k) ?_
    show own_Ends _ _ _ _ _ _ _ T75 (mkF m 154 #[.val (.int p0), .val (.int p1), .val (.int p2), .val (.int p3), .val (.int p4), .val (.int p5), .val (.int (5 : Int32)), .val (.ref bv), .val (.ref bt), .val (.ref br)] [(.ref br), (.ref bt)])
    refine own_go (fun _ k => XS.aload X75.here hx rfl (hb hby at_154) rfl rfl k) ?_
    show own_Ends _ _ _ _ _ _ _ T75 (mkF m 156 #[.val (.int p0), .val (.int p1), .val (.int p2), .val (.int p3), .val (.int p4), .val (.int p5), .val (.int (5 : Int32)), .val (.ref bv), .val (.ref bt), .val (.ref br)] [(.ref bv), (.ref br), (.ref bt)])
    refine own_go (fun _ k => XS.iconst X75.here hx rfl (hb hby at_156) k) ?_
    show own_Ends _ _ _ _ _ _ _ T75 (mkF m 157 #[.val (.int p0), .val (.int p1), .val (.int p2), .val (.int p3), .val (.int p4), .val (.int p5), .val (.int (5 : Int32)), .val (.ref bv), .val (.ref bt), .val (.ref br)] [(.int (1 : Int32)), (.ref bv), (.ref br), (.ref bt)])
    refine own_go (fun _ k => XS.iload X75.here hx rfl (hb hby at_157) rfl k) ?_
    show own_Ends _ _ _ _ _ _ _ T75 (mkF m 159 #[.val (.int p0), .val (.int p1), .val (.int p2), .val (.int p3), .val (.int p4), .val (.int p5), .val (.int (5 : Int32)), .val (.ref bv), .val (.ref bt), .val (.ref br)] [(.int (5 : Int32)), (.int (1 : Int32)), (.ref bv), (.ref br), (.ref bt)])
    obtain ⟨v76, T76, L76, X76, hQ76, st76⟩ := own_callS X75 hx hZ hown (hw _ (List.mem_of_getElem? (i := 6) rfl)) (hw _ (List.mem_of_getElem? (i := 7) rfl)) (hw _ (List.mem_of_getElem? (i := 8) rfl)) (hw _ (List.mem_of_getElem? (i := 9) rfl)) (rm2_1 l Z a0 hw bt br bv (1 : Int32) (5 : Int32) T74.heap k68 kr k17 5 5 5 (fun j => if j = 4 then (.int p5) else (fun j => if j = 3 then (.int p4) else (fun j => if j = 2 then (.int p3) else (fun j => if j = 1 then (.int p2) else (fun j => if j = 0 then (.int p1) else (fun _ => (.int (0 : Int32))) j) j) j) j) j) g (fun j => if j = 4 then (.int p5) else (fun j => if j = 3 then (.int p4) else (fun j => if j = 2 then (.int p3) else (fun j => if j = 1 then (.int p2) else (fun j => if j = 0 then (.int p1) else (fun _ => (.int (0 : Int32))) j) j) j) j) j) p2 p1 V_bt_74 A74 V_bv_74 (by decide) (by decide) (by decide) rfl (by decide) (by first | rfl | simp) (by first | rfl | simp) (by first | rfl | simp) (g1.trans (by first | rfl | simp))) e75 (g := (mkF m 159 #[.val (.int p0), .val (.int p1), .val (.int p2), .val (.int p3), .val (.int p4), .val (.int p5), .val (.int (5 : Int32)), .val (.ref bv), .val (.ref bt), .val (.ref br)] [(.int (5 : Int32)), (.int (1 : Int32)), (.ref bv), (.ref br), (.ref bt)])) rfl (by rw [hml]; rfl) (argsL := [(.ref bt), (.ref br), (.ref bv), (.int (1 : Int32)), (.int (5 : Int32))]) (rest := []) (lenOf pd_1 rfl) rfl rfl (W := 0) (by show 2 * 0 + _ ≤ _; exact Nat.le_of_eq rfl) (hb hby at_159) (by decide) (by decide) (by decide) (by decide) (by decide)
    obtain ⟨rfl, rfl, e76⟩ := hQ76
    refine own_go st76 ?_
    have N76 := Fr.app N75 (Fr.nil _)
    show own_Ends _ _ _ _ _ _ _ T76 (mkF m 162 #[.val (.int p0), .val (.int p1), .val (.int p2), .val (.int p3), .val (.int p4), .val (.int p5), .val (.int (5 : Int32)), .val (.ref bv), .val (.ref bt), .val (.ref br)] [(.int (1 : Int32))])
    refine own_go (fun _ k => XS.ifNo X76.here hx rfl (hb hby at_162) rfl ((if0 _ _).trans (feq (by decide)).1) k) ?_
    show own_Ends _ _ _ _ _ _ _ T76 (mkF m 165 #[.val (.int p0), .val (.int p1), .val (.int p2), .val (.int p3), .val (.int p4), .val (.int p5), .val (.int (5 : Int32)), .val (.ref bv), .val (.ref bt), .val (.ref br)] [])
    refine own_go (fun _ k => XS.aload X76.here hx rfl (hb hby at_165) rfl rfl k) ?_
    show own_Ends _ _ _ _ _ _ _ T76 (mkF m 167 #[.val (.int p0), .val (.int p1), .val (.int p2), .val (.int p3), .val (.int p4), .val (.int p5), .val (.int (5 : Int32)), .val (.ref bv), .val (.ref bt), .val (.ref br)] [(.ref bt)])
    refine own_go (fun _ k => XS.aload X76.here hx rfl (hb hby at_167) rfl rfl k) ?_
    show own_Ends _ _ _ _ _ _ _ T76 (mkF m 169 #[.val (.int p0), .val (.int p1), .val (.int p2), .val (.int p3), .val (.int p4), .val (.int p5), .val (.int (5 : Int32)), .val (.ref bv), .val (.ref bt), .val (.ref br)] [(.ref br), (.ref bt)])
    refine own_go (fun _ k => XS.aload X76.here hx rfl (hb hby at_169) rfl rfl k) ?_
    show own_Ends _ _ _ _ _ _ _ T76 (mkF m 171 #[.val (.int p0), .val (.int p1), .val (.int p2), .val (.int p3), .val (.int p4), .val (.int p5), .val (.int (5 : Int32)), .val (.ref bv), .val (.ref bt), .val (.ref br)] [(.ref bv), (.ref br), (.ref bt)])
    refine own_go (fun _ k => XS.iconst X76.here hx rfl (hb hby at_171) k) ?_
    show own_Ends _ _ _ _ _ _ _ T76 (mkF m 172 #[.val (.int p0), .val (.int p1), .val (.int p2), .val (.int p3), .val (.int p4), .val (.int p5), .val (.int (5 : Int32)), .val (.ref bv), .val (.ref bt), .val (.ref br)] [(.int (2 : Int32)), (.ref bv), (.ref br), (.ref bt)])
    refine own_go (fun _ k => XS.iload X76.here hx rfl (hb hby at_172) rfl k) ?_
    show own_Ends _ _ _ _ _ _ _ T76 (mkF m 174 #[.val (.int p0), .val (.int p1), .val (.int p2), .val (.int p3), .val (.int p4), .val (.int p5), .val (.int (5 : Int32)), .val (.ref bv), .val (.ref bt), .val (.ref br)] [(.int (5 : Int32)), (.int (2 : Int32)), (.ref bv), (.ref br), (.ref bt)])
    obtain ⟨v77, T77, L77, X77, hQ77, st77⟩ := own_callS X76 hx hZ hown (hw _ (List.mem_of_getElem? (i := 6) rfl)) (hw _ (List.mem_of_getElem? (i := 7) rfl)) (hw _ (List.mem_of_getElem? (i := 8) rfl)) (hw _ (List.mem_of_getElem? (i := 9) rfl)) (rm2_2 l Z a0 hw bt br bv (2 : Int32) (5 : Int32) T74.heap k68 kr k17 5 5 5 (fun j => if j = 4 then (.int p5) else (fun j => if j = 3 then (.int p4) else (fun j => if j = 2 then (.int p3) else (fun j => if j = 1 then (.int p2) else (fun j => if j = 0 then (.int p1) else (fun _ => (.int (0 : Int32))) j) j) j) j) j) g (fun j => if j = 4 then (.int p5) else (fun j => if j = 3 then (.int p4) else (fun j => if j = 2 then (.int p3) else (fun j => if j = 1 then (.int p2) else (fun j => if j = 0 then (.int p1) else (fun _ => (.int (0 : Int32))) j) j) j) j) j) p3 p2 V_bt_74 A74 V_bv_74 (by decide) (by decide) (by decide) rfl (by decide) (by first | rfl | simp) (by first | rfl | simp) (by first | rfl | simp) (g2.trans (by first | rfl | simp))) e76 (g := (mkF m 174 #[.val (.int p0), .val (.int p1), .val (.int p2), .val (.int p3), .val (.int p4), .val (.int p5), .val (.int (5 : Int32)), .val (.ref bv), .val (.ref bt), .val (.ref br)] [(.int (5 : Int32)), (.int (2 : Int32)), (.ref bv), (.ref br), (.ref bt)])) rfl (by rw [hml]; rfl) (argsL := [(.ref bt), (.ref br), (.ref bv), (.int (2 : Int32)), (.int (5 : Int32))]) (rest := []) (lenOf pd_1 rfl) rfl rfl (W := 0) (by show 2 * 0 + _ ≤ _; exact Nat.le_of_eq rfl) (hb hby at_174) (by decide) (by decide) (by decide) (by decide) (by decide)
    obtain ⟨rfl, rfl, e77⟩ := hQ77
    refine own_go st77 ?_
    have N77 := Fr.app N76 (Fr.nil _)
    show own_Ends _ _ _ _ _ _ _ T77 (mkF m 177 #[.val (.int p0), .val (.int p1), .val (.int p2), .val (.int p3), .val (.int p4), .val (.int p5), .val (.int (5 : Int32)), .val (.ref bv), .val (.ref bt), .val (.ref br)] [(.int (1 : Int32))])
    refine own_go (fun _ k => XS.ifNo X77.here hx rfl (hb hby at_177) rfl ((if0 _ _).trans (feq (by decide)).1) k) ?_
    show own_Ends _ _ _ _ _ _ _ T77 (mkF m 180 #[.val (.int p0), .val (.int p1), .val (.int p2), .val (.int p3), .val (.int p4), .val (.int p5), .val (.int (5 : Int32)), .val (.ref bv), .val (.ref bt), .val (.ref br)] [])
    refine own_go (fun _ k => XS.aload X77.here hx rfl (hb hby at_180) rfl rfl k) ?_
    show own_Ends _ _ _ _ _ _ _ T77 (mkF m 182 #[.val (.int p0), .val (.int p1), .val (.int p2), .val (.int p3), .val (.int p4), .val (.int p5), .val (.int (5 : Int32)), .val (.ref bv), .val (.ref bt), .val (.ref br)] [(.ref bt)])
    refine own_go (fun _ k => XS.aload X77.here hx rfl (hb hby at_182) rfl rfl k) ?_
    show own_Ends _ _ _ _ _ _ _ T77 (mkF m 184 #[.val (.int p0), .val (.int p1), .val (.int p2), .val (.int p3), .val (.int p4), .val (.int p5), .val (.int (5 : Int32)), .val (.ref bv), .val (.ref bt), .val (.ref br)] [(.ref br), (.ref bt)])
    refine own_go (fun _ k => XS.aload X77.here hx rfl (hb hby at_184) rfl rfl k) ?_
    show own_Ends _ _ _ _ _ _ _ T77 (mkF m 186 #[.val (.int p0), .val (.int p1), .val (.int p2), .val (.int p3), .val (.int p4), .val (.int p5), .val (.int (5 : Int32)), .val (.ref bv), .val (.ref bt), .val (.ref br)] [(.ref bv), (.ref br), (.ref bt)])
    refine own_go (fun _ k => XS.iconst X77.here hx rfl (hb hby at_186) k) ?_
    show own_Ends _ _ _ _ _ _ _ T77 (mkF m 187 #[.val (.int p0), .val (.int p1), .val (.int p2), .val (.int p3), .val (.int p4), .val (.int p5), .val (.int (5 : Int32)), .val (.ref bv), .val (.ref bt), .val (.ref br)] [(.int (3 : Int32)), (.ref bv), (.ref br), (.ref bt)])
    refine own_go (fun _ k => XS.iload X77.here hx rfl (hb hby at_187) rfl k) ?_
    show own_Ends _ _ _ _ _ _ _ T77 (mkF m 189 #[.val (.int p0), .val (.int p1), .val (.int p2), .val (.int p3), .val (.int p4), .val (.int p5), .val (.int (5 : Int32)), .val (.ref bv), .val (.ref bt), .val (.ref br)] [(.int (5 : Int32)), (.int (3 : Int32)), (.ref bv), (.ref br), (.ref bt)])
    obtain ⟨v78, T78, L78, X78, hQ78, st78⟩ := own_callS X77 hx hZ hown (hw _ (List.mem_of_getElem? (i := 6) rfl)) (hw _ (List.mem_of_getElem? (i := 7) rfl)) (hw _ (List.mem_of_getElem? (i := 8) rfl)) (hw _ (List.mem_of_getElem? (i := 9) rfl)) (rm2_3 l Z a0 hw bt br bv (3 : Int32) (5 : Int32) T74.heap k68 kr k17 5 5 5 (fun j => if j = 4 then (.int p5) else (fun j => if j = 3 then (.int p4) else (fun j => if j = 2 then (.int p3) else (fun j => if j = 1 then (.int p2) else (fun j => if j = 0 then (.int p1) else (fun _ => (.int (0 : Int32))) j) j) j) j) j) g (fun j => if j = 4 then (.int p5) else (fun j => if j = 3 then (.int p4) else (fun j => if j = 2 then (.int p3) else (fun j => if j = 1 then (.int p2) else (fun j => if j = 0 then (.int p1) else (fun _ => (.int (0 : Int32))) j) j) j) j) j) p4 p3 V_bt_74 A74 V_bv_74 (by decide) (by decide) (by decide) rfl (by decide) (by first | rfl | simp) (by first | rfl | simp) (by first | rfl | simp) (g3.trans (by first | rfl | simp))) e77 (g := (mkF m 189 #[.val (.int p0), .val (.int p1), .val (.int p2), .val (.int p3), .val (.int p4), .val (.int p5), .val (.int (5 : Int32)), .val (.ref bv), .val (.ref bt), .val (.ref br)] [(.int (5 : Int32)), (.int (3 : Int32)), (.ref bv), (.ref br), (.ref bt)])) rfl (by rw [hml]; rfl) (argsL := [(.ref bt), (.ref br), (.ref bv), (.int (3 : Int32)), (.int (5 : Int32))]) (rest := []) (lenOf pd_1 rfl) rfl rfl (W := 0) (by show 2 * 0 + _ ≤ _; exact Nat.le_of_eq rfl) (hb hby at_189) (by decide) (by decide) (by decide) (by decide) (by decide)
    obtain ⟨rfl, rfl, e78⟩ := hQ78
    refine own_go st78 ?_
    have N78 := Fr.app N77 (Fr.nil _)
    show own_Ends _ _ _ _ _ _ _ T78 (mkF m 192 #[.val (.int p0), .val (.int p1), .val (.int p2), .val (.int p3), .val (.int p4), .val (.int p5), .val (.int (5 : Int32)), .val (.ref bv), .val (.ref bt), .val (.ref br)] [(.int (1 : Int32))])
    refine own_go (fun _ k => XS.ifNo X78.here hx rfl (hb hby at_192) rfl ((if0 _ _).trans (feq (by decide)).1) k) ?_
    show own_Ends _ _ _ _ _ _ _ T78 (mkF m 195 #[.val (.int p0), .val (.int p1), .val (.int p2), .val (.int p3), .val (.int p4), .val (.int p5), .val (.int (5 : Int32)), .val (.ref bv), .val (.ref bt), .val (.ref br)] [])
    refine own_go (fun _ k => XS.aload X78.here hx rfl (hb hby at_195) rfl rfl k) ?_
    show own_Ends _ _ _ _ _ _ _ T78 (mkF m 197 #[.val (.int p0), .val (.int p1), .val (.int p2), .val (.int p3), .val (.int p4), .val (.int p5), .val (.int (5 : Int32)), .val (.ref bv), .val (.ref bt), .val (.ref br)] [(.ref bt)])
    refine own_go (fun _ k => XS.aload X78.here hx rfl (hb hby at_197) rfl rfl k) ?_
    show own_Ends _ _ _ _ _ _ _ T78 (mkF m 199 #[.val (.int p0), .val (.int p1), .val (.int p2), .val (.int p3), .val (.int p4), .val (.int p5), .val (.int (5 : Int32)), .val (.ref bv), .val (.ref bt), .val (.ref br)] [(.ref br), (.ref bt)])
    refine own_go (fun _ k => XS.aload X78.here hx rfl (hb hby at_199) rfl rfl k) ?_
    show own_Ends _ _ _ _ _ _ _ T78 (mkF m 201 #[.val (.int p0), .val (.int p1), .val (.int p2), .val (.int p3), .val (.int p4), .val (.int p5), .val (.int (5 : Int32)), .val (.ref bv), .val (.ref bt), .val (.ref br)] [(.ref bv), (.ref br), (.ref bt)])
    refine own_go (fun _ k => XS.iconst X78.here hx rfl (hb hby at_201) k) ?_
    show own_Ends _ _ _ _ _ _ _ T78 (mkF m 202 #[.val (.int p0), .val (.int p1), .val (.int p2), .val (.int p3), .val (.int p4), .val (.int p5), .val (.int (5 : Int32)), .val (.ref bv), .val (.ref bt), .val (.ref br)] [(.int (4 : Int32)), (.ref bv), (.ref br), (.ref bt)])
    refine own_go (fun _ k => XS.iload X78.here hx rfl (hb hby at_202) rfl k) ?_
    show own_Ends _ _ _ _ _ _ _ T78 (mkF m 204 #[.val (.int p0), .val (.int p1), .val (.int p2), .val (.int p3), .val (.int p4), .val (.int p5), .val (.int (5 : Int32)), .val (.ref bv), .val (.ref bt), .val (.ref br)] [(.int (5 : Int32)), (.int (4 : Int32)), (.ref bv), (.ref br), (.ref bt)])
    obtain ⟨v79, T79, L79, X79, hQ79, st79⟩ := own_callS X78 hx hZ hown (hw _ (List.mem_of_getElem? (i := 6) rfl)) (hw _ (List.mem_of_getElem? (i := 7) rfl)) (hw _ (List.mem_of_getElem? (i := 8) rfl)) (hw _ (List.mem_of_getElem? (i := 9) rfl)) (rm2_4 l Z a0 hw bt br bv (4 : Int32) (5 : Int32) T74.heap k68 kr k17 5 5 5 (fun j => if j = 4 then (.int p5) else (fun j => if j = 3 then (.int p4) else (fun j => if j = 2 then (.int p3) else (fun j => if j = 1 then (.int p2) else (fun j => if j = 0 then (.int p1) else (fun _ => (.int (0 : Int32))) j) j) j) j) j) g (fun j => if j = 4 then (.int p5) else (fun j => if j = 3 then (.int p4) else (fun j => if j = 2 then (.int p3) else (fun j => if j = 1 then (.int p2) else (fun j => if j = 0 then (.int p1) else (fun _ => (.int (0 : Int32))) j) j) j) j) j) p5 p4 V_bt_74 A74 V_bv_74 (by decide) (by decide) (by decide) rfl (by decide) (by first | rfl | simp) (by first | rfl | simp) (by first | rfl | simp) (g4.trans (by first | rfl | simp))) e78 (g := (mkF m 204 #[.val (.int p0), .val (.int p1), .val (.int p2), .val (.int p3), .val (.int p4), .val (.int p5), .val (.int (5 : Int32)), .val (.ref bv), .val (.ref bt), .val (.ref br)] [(.int (5 : Int32)), (.int (4 : Int32)), (.ref bv), (.ref br), (.ref bt)])) rfl (by rw [hml]; rfl) (argsL := [(.ref bt), (.ref br), (.ref bv), (.int (4 : Int32)), (.int (5 : Int32))]) (rest := []) (lenOf pd_1 rfl) rfl rfl (W := 0) (by show 2 * 0 + _ ≤ _; exact Nat.le_of_eq rfl) (hb hby at_204) (by decide) (by decide) (by decide) (by decide) (by decide)
    obtain ⟨rfl, rfl, e79⟩ := hQ79
    refine own_go st79 ?_
    have N79 := Fr.app N78 (Fr.nil _)
    show own_Ends _ _ _ _ _ _ _ T79 (mkF m 207 #[.val (.int p0), .val (.int p1), .val (.int p2), .val (.int p3), .val (.int p4), .val (.int p5), .val (.int (5 : Int32)), .val (.ref bv), .val (.ref bt), .val (.ref br)] [(.int (1 : Int32))])
    refine own_go (fun _ k => XS.ifNo X79.here hx rfl (hb hby at_207) rfl ((if0 _ _).trans (feq (by decide)).1) k) ?_
    show own_Ends _ _ _ _ _ _ _ T79 (mkF m 210 #[.val (.int p0), .val (.int p1), .val (.int p2), .val (.int p3), .val (.int p4), .val (.int p5), .val (.int (5 : Int32)), .val (.ref bv), .val (.ref bt), .val (.ref br)] [])
    refine own_go (fun _ k => XS.iconst X79.here hx rfl (hb hby at_210) k) ?_
    show own_Ends _ _ _ _ _ _ _ T79 (mkF m 211 #[.val (.int p0), .val (.int p1), .val (.int p2), .val (.int p3), .val (.int p4), .val (.int p5), .val (.int (5 : Int32)), .val (.ref bv), .val (.ref bt), .val (.ref br)] [(.int (1 : Int32))])
    refine own_go (fun _ k => XS.goto X79.here hx rfl (pc0 := 211) (pc' := 215) rfl (hb hby at_211) (by decide) (by decide) k) ?_
    show own_Ends _ _ _ _ _ _ _ T79 (mkF m 215 #[.val (.int p0), .val (.int p1), .val (.int p2), .val (.int p3), .val (.int p4), .val (.int p5), .val (.int (5 : Int32)), .val (.ref bv), .val (.ref bt), .val (.ref br)] [(.int (1 : Int32))])
    exact own_retZ X79 hx hlk hret (by decide) (hb hby at_215) (by decide) (by decide) ⟨rfl, N79⟩
set_option maxRecDepth 65536 in
set_option maxHeartbeats 40000000 in
theorem comes_1 {Post : Tables → Env → Array Value → State → Outcome → State → Prop} (hpost : ∀ tb e args s v u, (limb_1_1.after args s (.returned v) u = true ∧ limb_1_2.after args s (.returned v) u = true ∧ True) → FrameEnd s (.returned v) u (Jvm.fieldLocs frame_1_writes args s ++ Jvm.arrayLocs frame_1_arrays args s ++ Jvm.staticLocs frame_1_statics s) 16 128 → Post tb e args s (.returned v) u) :
    ArmFor flags0 classFile x code maxLocals ret World_1 tables_1 room_1 Calls_1 rest_1 Pre_1 Post := by
  intro l hfl _ _ p e ha hc hk s m args below hf hA hF happ hP
  obtain ⟨hcalls, hrest, hpre⟩ := hP
  obtain ⟨-, -, -, hnamed, -, -, -, hat⟩ := (Spec.applies_iff hf).mp happ
  obtain ⟨hg, hn⟩ := and_e (Cond.before_iff.mp (show (Jvm.Cond.and given_1 narrow_1).before args s = true from hpre))
  obtain ⟨g0, gr0⟩ := and_e hg
  obtain ⟨ga0, gr1⟩ := and_e gr0
  obtain ⟨ga1, gr2⟩ := and_e gr1
  obtain ⟨ga2, gr3⟩ := and_e gr2
  obtain ⟨ga3, gr4⟩ := and_e gr3
  obtain ⟨ga4, gr5⟩ := and_e gr4
  have ga5 := gr5
  obtain ⟨w0, w1, w2, w3, w4, w5, rfl⟩ : ∃ w0 w1 w2 w3 w4 w5 : Value, args = #[w0, w1, w2, w3, w4, w5] := by
    have hs : args.size = 6 := by simpa [Cond.value, given_1] using g0
    obtain ⟨L⟩ := args
    match L, hs with
    | [w0, w1, w2, w3, w4, w5], _ => exact ⟨w0, w1, w2, w3, w4, w5, rfl⟩
  have hw := fun d (hd : d ∈ tables_1) => atoms_spec (ws := Jvm.Cond.code x code maxLocals ret :: tables_1) hat d (List.mem_cons_of_mem _ hd)
  have hfit : Fit s := fun {y c} hc i hi => by
    obtain ⟨ha, rfl⟩ := Array.getElem?_eq_some_iff.mp hc
    have q := List.all_eq_true.mp ((Array.all_eq_true_iff_forall_mem.mp hF) _ (Array.getElem_mem ha)) i (List.mem_range.mpr hi)
    simpa [Array.getElem?_eq_getElem hi] using q
  obtain ⟨i0, ei0⟩ := is_v ga0
  obtain rfl : w0 = (.int i0) := Option.some.inj ei0
  obtain ⟨i1, ei1⟩ := is_v ga1
  obtain rfl : w1 = (.int i1) := Option.some.inj ei1
  obtain ⟨i2, ei2⟩ := is_v ga2
  obtain rfl : w2 = (.int i2) := Option.some.inj ei2
  obtain ⟨i3, ei3⟩ := is_v ga3
  obtain rfl : w3 = (.int i3) := Option.some.inj ei3
  obtain ⟨i4, ei4⟩ := is_v ga4
  obtain rfl : w4 = (.int i4) := Option.some.inj ei4
  obtain ⟨i5, ei5⟩ := is_v ga5
  obtain rfl : w5 = (.int i5) := Option.some.inj ei5
  obtain ⟨n, o, h1, h2, h3, _, L, rfl, ⟨rfl, N⟩, hq⟩ := rm0 l s _ hw i0 i1 i2 i3 i4 i5 s.heap  tables_1 p e ha hc hk s m _ below hf ((Spec.applies_iff_loose hf).mp happ).1 ⟨rfl, State.Warmed39.refl s, rfl⟩ trivial
  refine ⟨n, _, h1, h2, h3, hpost _ _ _ _ _ _ ⟨Cond.after_iff.mpr rfl, Cond.after_iff.mpr (eq_i res_at (Term.int_eval (1)) rfl), trivial⟩ ⟨hq.1, hq.2.1, (hq.2.2.sift fun y hy => Or.inr (N y hy)).mono (by decide) (by decide)⟩⟩
theorem main_1_1 : Claimed_1_1 := comes_1 fun _ _ _ _ _ _ h hF => ⟨h.1, hF⟩
theorem main_1_2 : Claimed_1_2 := comes_1 fun _ _ _ _ _ _ h hF => ⟨h.2.1, hF⟩

end Jvm.Pilot.@@N@@
namespace Jvm.Pilot.@@N@@
open Jvm Jvm.ClassFile Sem Op Lib Jvm.Free Jvm.Stand Jvm.Pilot.@@N@@.Jvm.D
/-! MADE BY PROGRAM (witnessworld.py) out of the Statement's table words and the real class files: 10 classes; the members and pool entries that the words name. The judged class is class 1, her method 1. -/
namespace start1
open Jvm.ClassFile
def u (s : String) : CpInfo := .utf8 (stringToUtf16 s)
/-- a pool by its gaps: so many unusable entries, then the entry; so many at the end -/
def gap : Nat → List CpInfo → List CpInfo
  | 0, r => r
  | n + 1, r => .unusable :: gap n r
def poolList (es : List (Nat × CpInfo)) (last : Nat) : List CpInfo := es.foldr (fun e r => gap e.1 (e.2 :: r)) (gap last [])
def pool (es : List (Nat × CpInfo)) (last : Nat) : Array CpInfo := ⟨poolList es last⟩
def fileOf (pool : Array CpInfo) (this : Nat) (attrs : Array Attribute := #[]) (ms : Array MethodInfo := #[]) (fl : Nat := 33) (sup : Nat := 0) (ifs : Array Nat := #[]) (fds : Array FieldInfo := #[]) : ClassFile where
  minorVersion := 0
  majorVersion := 65
  constantPool := pool
  accessFlags := fl
  thisClass := this
  superClass := sup
  interfaces := ifs
  fields := fds
  methods := ms
  attributes := attrs
def plain (name : String) (sup : Option ClassId) : Class where
  name := name
  kind := .ordinary
  loader := none
  accessFlags := 33
  super := sup
  interfaces := #[]
  cf := none
  fields := #[]
  methods := #[]
  instanceTypes := #[]
  staticTypes := #[]
  resolved := #[]
  callSites := []
  init := .initialized
  statics := none
  mirror := none

def pool0 : Array CpInfo := pool [(5, u "<init>"), (0, u "()V"), (1, .class_ 10), (1, u "java/lang/Object")] 113

def k0m0 : Method := { name := "<init>", desc := "()V", sig := { parameters := [], returnType := none }, accessFlags := 1, code := none }
/-- java/lang/Object -/
def k0 : Class := { plain "java/lang/Object" none with
  accessFlags := 33
  interfaces := #[]
  cf := some (fileOf pool0 8 #[] #[{ accessFlags := 1, nameIndex := 5, descriptorIndex := 6, attributes := #[] }] 33 0 #[] #[])
  fields := #[]
  methods := #[k0m0]
  instanceTypes := #[]
  staticTypes := #[]
  resolved := Array.replicate 124 none
  statics := none }

def pool1 : Array CpInfo := pool [(2, .class_ 4), (1, u "java/lang/Object"), (0, u "<init>"), (0, u "()V"), (0, .integer 2147483647), (0, .methodref 9 10), (0, .class_ 11), (0, .nameAndType 12 13), (0, u "com/example/prefixleap/prefixleap/core/PrefixTable"), (0, u "shifted"), (0, u "([I)[I"), (0, .methodref 15 16), (0, .class_ 17), (0, .nameAndType 18 19), (0, u "com/example/prefixleap/prefixleap/core/PrefixTableShiftedPinLaw"), (0, u "slot"), (0, u "([I[I[III)Z"), (2, u "law"), (0, u "(IIIIII)Z")] 5

def k1m0 : Method := { name := "<init>", desc := "()V", sig := { parameters := [], returnType := none }, accessFlags := 2, code := none }
def k1c1 : Code := { maxStack := 5, maxLocals := 10, code := code, exceptionTable := #[], attributes := #[] }
def k1m1 : Method := { name := "law", desc := "(IIIIII)Z", sig := { parameters := [.int, .int, .int, .int, .int, .int], returnType := some .boolean }, accessFlags := 9, code := some k1c1 }
def k1c2 : Code := { maxStack := 3, maxLocals := 6, code := method_3_code, exceptionTable := #[], attributes := #[] }
def k1m2 : Method := { name := "slot", desc := "([I[I[III)Z", sig := { parameters := [(.array .int), (.array .int), (.array .int), .int, .int], returnType := some .boolean }, accessFlags := 10, code := some k1c2 }
/-- com/example/prefixleap/prefixleap/core/PrefixTableShiftedPinLaw -/
def k1 : Class := { plain "com/example/prefixleap/prefixleap/core/PrefixTableShiftedPinLaw" (some 0) with
  accessFlags := 49
  interfaces := #[]
  cf := some (fileOf pool1 15 #[] #[{ accessFlags := 2, nameIndex := 5, descriptorIndex := 6, attributes := #[] }, { accessFlags := 9, nameIndex := 22, descriptorIndex := 23, attributes := #[] }, { accessFlags := 10, nameIndex := 18, descriptorIndex := 19, attributes := #[] }] 49 2 #[] #[])
  fields := #[]
  methods := #[k1m0, k1m1, k1m2]
  instanceTypes := #[]
  staticTypes := #[]
  resolved := Array.replicate 29 none
  statics := none }

def pool2 : Array CpInfo := pool [(2, .class_ 4), (1, u "java/lang/Object"), (0, u "<init>"), (0, u "()V"), (5, .class_ 14), (1, u "com/example/prefixleap/prefixleap/core/PrefixTable"), (11, .methodref 27 28), (0, .class_ 29), (0, .nameAndType 30 31), (0, u "java/lang/System"), (0, u "arraycopy"), (0, u "(Ljava/lang/Object;ILjava/lang/Object;II)V"), (1, .class_ 35), (1, u "com/example/prefixleap/prefixleap/core/PrefixTable$SameUnit"), (10, u "shifted"), (0, u "([I)[I")] 32

def k2m0 : Method := { name := "<init>", desc := "()V", sig := { parameters := [], returnType := none }, accessFlags := 2, code := none }
def k2c1 : Code := { maxStack := 6, maxLocals := 2, code := prog_12_method_4_code, exceptionTable := #[], attributes := #[] }
def k2m1 : Method := { name := "shifted", desc := "([I)[I", sig := { parameters := [(.array .int)], returnType := some (.array .int) }, accessFlags := 9, code := some k2c1 }
/-- com/example/prefixleap/prefixleap/core/PrefixTable -/
def k2 : Class := { plain "com/example/prefixleap/prefixleap/core/PrefixTable" (some 0) with
  accessFlags := 49
  interfaces := #[]
  cf := some (fileOf pool2 12 #[.nestMembers #[33]] #[{ accessFlags := 2, nameIndex := 5, descriptorIndex := 6, attributes := #[] }, { accessFlags := 9, nameIndex := 46, descriptorIndex := 47, attributes := #[] }] 49 2 #[] #[])
  fields := #[]
  methods := #[k2m0, k2m1]
  instanceTypes := #[]
  staticTypes := #[]
  resolved := Array.replicate 80 none
  statics := none }

def pool3 : Array CpInfo := pool [(2, .class_ 4), (1, u "java/lang/Object"), (0, u "<init>"), (0, u "()V"), (1, .class_ 10), (1, u "java/lang/System"), (0, u "allowSecurityManager"), (0, u "I"), (16, u "cons"), (0, u "Ljava/io/Console;"), (77, .class_ 110), (1, u "java/lang/System$CallersHolder"), (43, u "initialErrStream"), (0, u "Ljava/io/PrintStream;"), (19, u "security"), (0, u "Ljava/lang/SecurityManager;"), (31, .class_ 209), (0, u "java/lang/System$1"), (7, u "props"), (0, u "Ljava/util/Properties;"), (2, u "lineSeparator"), (0, u "Ljava/lang/String;"), (96, .class_ 321), (1, u "java/lang/System$LoggerFinder"), (5, .class_ 328), (0, u "java/lang/System$Logger"), (67, u "err"), (2, u "out"), (91, u "notSupportedJnuEncoding"), (15, u "in"), (17, u "initialIn"), (0, u "Ljava/io/InputStream;"), (35, u "bootLayer"), (0, u "Ljava/lang/ModuleLayer;"), (99, .class_ 664), (0, u "java/lang/System$2"), (9, u "NEVER"), (2, u "MAYBE"), (49, u "arraycopy"), (0, u "(Ljava/lang/Object;ILjava/lang/Object;II)V"), (72, .class_ 802), (0, u "java/lang/System$Logger$Level")] 31

def k3m0 : Method := { name := "<init>", desc := "()V", sig := { parameters := [], returnType := none }, accessFlags := 2, code := none }
def k3m1 : Method := { name := "arraycopy", desc := "(Ljava/lang/Object;ILjava/lang/Object;II)V", sig := { parameters := [(.object "java/lang/Object"), .int, (.object "java/lang/Object"), .int, .int], returnType := none }, accessFlags := 265, code := none }
/-- java/lang/System -/
def k3 : Class := { plain "java/lang/System" (some 0) with
  accessFlags := 49
  interfaces := #[]
  cf := some (fileOf pool3 8 #[.nestMembers #[319, 327, 801, 108, 663, 208]] #[{ accessFlags := 2, nameIndex := 5, descriptorIndex := 6, attributes := #[] }, { accessFlags := 265, nameIndex := 727, descriptorIndex := 728, attributes := #[] }] 49 2 #[] #[{ accessFlags := 25, nameIndex := 507, descriptorIndex := 526, attributes := #[] }, { accessFlags := 25, nameIndex := 399, descriptorIndex := 155, attributes := #[] }, { accessFlags := 25, nameIndex := 396, descriptorIndex := 155, attributes := #[] }, { accessFlags := 10, nameIndex := 525, descriptorIndex := 526, attributes := #[] }, { accessFlags := 26, nameIndex := 674, descriptorIndex := 12, attributes := #[] }, { accessFlags := 26, nameIndex := 677, descriptorIndex := 12, attributes := #[] }, { accessFlags := 10, nameIndex := 11, descriptorIndex := 12, attributes := #[] }, { accessFlags := 74, nameIndex := 175, descriptorIndex := 176, attributes := #[] }, { accessFlags := 10, nameIndex := 491, descriptorIndex := 222, attributes := #[] }, { accessFlags := 74, nameIndex := 29, descriptorIndex := 30, attributes := #[] }, { accessFlags := 74, nameIndex := 154, descriptorIndex := 155, attributes := #[] }, { accessFlags := 10, nameIndex := 217, descriptorIndex := 218, attributes := #[] }, { accessFlags := 10, nameIndex := 221, descriptorIndex := 222, attributes := #[] }, { accessFlags := 8, nameIndex := 562, descriptorIndex := 563, attributes := #[] }])
  fields := #[{ name := "in", type := (.object "java/io/InputStream"), accessFlags := 25, slot := 0, constantValue := 0 }, { name := "out", type := (.object "java/io/PrintStream"), accessFlags := 25, slot := 1, constantValue := 0 }, { name := "err", type := (.object "java/io/PrintStream"), accessFlags := 25, slot := 2, constantValue := 0 }, { name := "initialIn", type := (.object "java/io/InputStream"), accessFlags := 10, slot := 3, constantValue := 0 }, { name := "NEVER", type := .int, accessFlags := 26, slot := 4, constantValue := 0 }, { name := "MAYBE", type := .int, accessFlags := 26, slot := 5, constantValue := 0 }, { name := "allowSecurityManager", type := .int, accessFlags := 10, slot := 6, constantValue := 0 }, { name := "security", type := (.object "java/lang/SecurityManager"), accessFlags := 74, slot := 7, constantValue := 0 }, { name := "notSupportedJnuEncoding", type := (.object "java/lang/String"), accessFlags := 10, slot := 8, constantValue := 0 }, { name := "cons", type := (.object "java/io/Console"), accessFlags := 74, slot := 9, constantValue := 0 }, { name := "initialErrStream", type := (.object "java/io/PrintStream"), accessFlags := 74, slot := 10, constantValue := 0 }, { name := "props", type := (.object "java/util/Properties"), accessFlags := 10, slot := 11, constantValue := 0 }, { name := "lineSeparator", type := (.object "java/lang/String"), accessFlags := 10, slot := 12, constantValue := 0 }, { name := "bootLayer", type := (.object "java/lang/ModuleLayer"), accessFlags := 8, slot := 13, constantValue := 0 }]
  methods := #[k3m0, k3m1]
  instanceTypes := #[]
  staticTypes := #[(.object "java/io/InputStream"), (.object "java/io/PrintStream"), (.object "java/io/PrintStream"), (.object "java/io/InputStream"), .int, .int, .int, (.object "java/lang/SecurityManager"), (.object "java/lang/String"), (.object "java/io/Console"), (.object "java/io/PrintStream"), (.object "java/util/Properties"), (.object "java/lang/String"), (.object "java/lang/ModuleLayer")]
  resolved := Array.replicate 834 none
  statics := none }

def pool4 : Array CpInfo := pool [(1, u "java/lang/Cloneable"), (0, .class_ 1), (0, u "java/lang/Object"), (0, .class_ 3)] 3

/-- java/lang/Cloneable -/
def k4 : Class := { plain "java/lang/Cloneable" (some 0) with
  accessFlags := 1537
  interfaces := #[]
  cf := some (fileOf pool4 2 #[] #[] 1537 4 #[] #[])
  fields := #[]
  methods := #[]
  instanceTypes := #[]
  staticTypes := #[]
  resolved := Array.replicate 8 none
  statics := none }

def pool5 : Array CpInfo := pool [(1, u "java/io/Serializable"), (0, .class_ 1), (0, u "java/lang/Object"), (0, .class_ 3)] 3

/-- java/io/Serializable -/
def k5 : Class := { plain "java/io/Serializable" (some 0) with
  accessFlags := 1537
  interfaces := #[]
  cf := some (fileOf pool5 2 #[] #[] 1537 4 #[] #[])
  fields := #[]
  methods := #[]
  instanceTypes := #[]
  staticTypes := #[]
  resolved := Array.replicate 8 none
  statics := none }

/-- the primitive byte -/
def k6 : Class := { plain "byte" none with kind := .primitive 'B', accessFlags := 0x411 }
/-- [B -/
def k7 : Class := { plain "[B" (some 0) with kind := .array 6 .byte, interfaces := #[4, 5], accessFlags := 1041 }

/-- the primitive int -/
def k8 : Class := { plain "int" none with kind := .primitive 'I', accessFlags := 0x411 }
/-- [I -/
def k9 : Class := { plain "[I" (some 0) with kind := .array 8 .int, interfaces := #[4, 5], accessFlags := 1041 }

def heap : Heap := #[]
def classes : Array Class := #[k0, k1, k2, k3, k4, k5, k6, k7, k8, k9]
def interned : List (Array UInt16 × Addr) := []
def slotsUsed : Nat := 0
def theMethod : MethodId := ⟨1, 1⟩
def args0 : Array Value := #[.int 0, .int 1, .int 2, .int 3, .int 4, .int 5]
def aboutOver (below : List Frame) : State where
  vm := { classes := classes, interned := interned.toArray }
  heap := heap
  slotsUsed := slotsUsed
  threads := #[{ frames := .invoking theMethod args0 :: below }]
def below0 : List Frame := [.native { method := ⟨0, 0⟩, args := #[] }]
def about1 : State := aboutOver below0
def p0 : Program := .bare "" "" ""
def e0 : Env := launch0.env 0 0 0
theorem w_frames : about1.frames = Frame.invoking theMethod args0 :: below0 := rfl
set_option maxRecDepth 65536 in
theorem w_args : argsFit about1.vm theMethod args0 = true := by decide +kernel
set_option maxRecDepth 65536 in
theorem w_heap : heapFits about1 = true := by decide +kernel
set_option maxRecDepth 65536 in
theorem w_runnable : about1.curStatus? = some .runnable := by decide +kernel
set_option maxRecDepth 65536 in
theorem w_alone : about1.alone = true := by decide +kernel
set_option maxRecDepth 65536 in
theorem w_named : about1.methodNamed? x = some theMethod := by decide +kernel
set_option maxRecDepth 65536 in
theorem w_hears : about1.hears theMethod below0 = true := by decide +kernel
set_option maxRecDepth 65536 in
theorem w_ripe : about1.ripe theMethod args0 below0 = true := by decide +kernel
theorem w_running : about1.status = .running := rfl
set_option maxRecDepth 65536 in
theorem w_room : about1.hasRoom e0.platform room_1 = true :=
  launch0.hasRoom_least _ room_1 (by decide +kernel) (by decide +kernel) (by decide +kernel) (by decide +kernel) (by decide +kernel) (by decide +kernel)
theorem allAtoms_all (ts : List Jvm.Cond) (a : Array Jvm.Value) (st : Jvm.State) : (allAtoms ts).before a st = ts.all (fun c => c.before a st) := by
  induction ts with
  | nil => rfl
  | cons c t ih =>
    show (Jvm.Cond.and c (allAtoms t)).before a st = _
    rw [Jvm.Cond.before_and, ih, List.all_cons]
def words1 : List Jvm.Cond := Jvm.Cond.code x code maxLocals ret :: tables_1
/-- a 'code' word, met by the world's own term for the bytes: nothing is compared byte by byte -/
theorem code_word {y : MethodName} {bytes : ByteArray} {mx : Nat} {rt : Option FieldType} {a : Array Value} {s : State} {m : MethodId} {meth : Method} {c : Code} (h1 : s.methodNamed? y = some m) (h2 : s.vm.method? m = some meth) (h3 : meth.code = some c) (h4 : c.code = bytes)
    (h5 : (c.maxLocals == mx && c.exceptionTable.isEmpty && decide (c.maxStack ≤ mostOperands) && decide (meth.sig.returnType = rt) && !meth.locks && decide (parseMethodDescriptor y.desc = some meth.sig)) = true) : (Jvm.Cond.code y bytes mx rt).before a s = true := by
  simp only [Bool.and_eq_true, beq_iff_eq, Bool.not_eq_true', decide_eq_true_eq] at h5
  obtain ⟨⟨⟨⟨⟨g1, g2⟩, g3⟩, g4⟩, g5⟩, g6⟩ := h5
  simp [Cond.before, Cond.holds, Cond.value, h1, h2, h3, h4, g1, g2, g3, g4, g5, g6]
def isCode : Jvm.Cond → Bool
  | .code _ _ _ _ => true
  | _ => false
theorem all_split {L : List Jvm.Cond} {P : Jvm.Cond → Bool} (h1 : L.all (fun c => isCode c || P c) = true) (h2 : ∀ c ∈ L.filter isCode, P c = true) : L.all P = true := by
  refine List.all_eq_true.mpr fun c hc => ?_
  have h := List.all_eq_true.mp h1 c hc
  rcases Bool.eq_false_or_eq_true (isCode c) with hi | hi
  · exact h2 c (List.mem_filter.mpr ⟨hc, hi⟩)
  · simpa [hi] using h
set_option maxRecDepth 65536 in
theorem w_c0 : (Jvm.Cond.code x code maxLocals ret).before args0 about1 = true := code_word (m := ⟨1, 1⟩) (meth := k1m1) (c := k1c1) (by decide +kernel) rfl rfl rfl (by decide +kernel)
set_option maxRecDepth 65536 in
theorem w_c1 : (Jvm.Cond.code ({ cls := "com/example/prefixleap/prefixleap/core/PrefixTable", name := "shifted", desc := "([I)[I" } : Jvm.MethodName) prog_12_method_4_code (2 : Nat) (Option.some (Jvm.ClassFile.FieldType.array Jvm.ClassFile.FieldType.int))).before args0 about1 = true := code_word (m := ⟨2, 1⟩) (meth := k2m1) (c := k2c1) (by decide +kernel) rfl rfl rfl (by decide +kernel)
set_option maxRecDepth 65536 in
theorem w_c2 : (Jvm.Cond.code ({ cls := "com/example/prefixleap/prefixleap/core/PrefixTableShiftedPinLaw", name := "slot", desc := "([I[I[III)Z" } : Jvm.MethodName) method_3_code (6 : Nat) (Option.some Jvm.ClassFile.FieldType.boolean)).before args0 about1 = true := code_word (m := ⟨1, 2⟩) (meth := k1m2) (c := k1c2) (by decide +kernel) rfl rfl rfl (by decide +kernel)
def codes1 : List Jvm.Cond := [Jvm.Cond.code x code maxLocals ret, Jvm.Cond.code ({ cls := "com/example/prefixleap/prefixleap/core/PrefixTable", name := "shifted", desc := "([I)[I" } : Jvm.MethodName) prog_12_method_4_code (2 : Nat) (Option.some (Jvm.ClassFile.FieldType.array Jvm.ClassFile.FieldType.int)), Jvm.Cond.code ({ cls := "com/example/prefixleap/prefixleap/core/PrefixTableShiftedPinLaw", name := "slot", desc := "([I[I[III)Z" } : Jvm.MethodName) method_3_code (6 : Nat) (Option.some Jvm.ClassFile.FieldType.boolean)]
set_option maxRecDepth 65536 in
theorem codes_eq : words1.filter isCode = codes1 := rfl
theorem w_codes : ∀ c ∈ words1.filter isCode, c.before args0 about1 = true := by
  rw [codes_eq]
  intro c hc
  simp only [codes1, List.mem_cons, List.not_mem_nil, or_false] at hc
  rcases hc with rfl | rfl | rfl
  · exact w_c0
  · exact w_c1
  · exact w_c2
set_option maxRecDepth 65536 in
theorem w_t1 : words1.all (fun c => isCode c || c.before args0 about1) = true := by decide +kernel
theorem w_tables : (allAtoms (Jvm.Cond.code x code maxLocals ret :: tables_1)).before args0 about1 = true := by
  rw [allAtoms_all]
  show words1.all (fun c => c.before args0 about1) = true
  refine all_split ?_ w_codes
  rw [w_t1]
set_option maxRecDepth 65536 in
theorem w_case : (Jvm.Cond.and given_1 narrow_1).before args0 about1 = true := by decide +kernel
theorem w_applies : (headSpec (Jvm.Cond.code x code maxLocals ret :: tables_1) room_1).applies x e0.platform about1 = true :=
  (Spec.applies_iff w_frames).mpr ⟨w_running, w_runnable, w_alone, w_named, w_hears, w_ripe, w_room, w_tables⟩
theorem atStart : AtStart classFile x code maxLocals ret World_1 tables_1 room_1 Calls_1 rest_1 Pre_1 launch0 p0 e0 about1 theMethod args0 below0 :=
  ⟨lists_1, trivial, launch0.admits_env _ _ _, launch0.least_env, fairChoices_fair.cas, fairChoices_fair.clock, w_frames, w_args, w_heap, w_applies, trivial, trivial, w_case⟩
end start1
theorem witness_1 : WitnessClaimed_1 := ⟨start1.p0, start1.e0, start1.about1, start1.theMethod, start1.args0, start1.below0, start1.atStart⟩
end Jvm.Pilot.@@N@@
