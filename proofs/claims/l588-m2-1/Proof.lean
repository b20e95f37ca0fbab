import JvmDerived
import JvmDerived.Pilot.@@N@@Statement
import JvmDerived.Pilot.@@N@@Code
set_option linter.unusedVariables false
set_option linter.unusedSimpArgs false
namespace Jvm.Pilot.@@N@@
open Jvm Jvm.ClassFile Sem Op Lib Jvm.Free Jvm.Stand Jvm.LawKit Jvm.RoadKit Bundle Jvm.Pilot.@@N@@.Jvm.D
section OwnLayer
variable {p : Program} {l : Launch} {e : Env} {R : Room} {s : State} {m : MethodId} {args : Array Value} {below : List Frame} {meth : Method} {c : Code} {T : State} {locs : List Loc} {cells slots : Nat} {Z : State} {a0 : Array Value} {h : Heap}
/-- from here the body comes to its return, and Q holds of what it returns, of the heap and of the places written -/
def own_Ends (p : Program) (e : Env) (s : State) (below : List Frame) (C S : Nat) (Q : Option Value → Heap → List Loc → Prop) (T : State) (g : JFrame) : Prop :=
  ∃ s₂ o, Steps p.tables e below (T.setTop g) s₂ ∧ s₂.status = .running ∧ Ended s₂ below o ∧ ∃ v L, o = .returned v ∧ Q v s₂.heap L ∧ FrameEnd s o s₂ L C S
theorem own_go {C S : Nat} {Q : Option Value → Heap → List Loc → Prop} {T' : State} {g g' : JFrame} (st : ∀ t, Steps p.tables e below (T'.setTop g') t → Steps p.tables e below (T.setTop g) t) (k : own_Ends p e s below C S Q T' g') : own_Ends p e s below C S Q T g := by
  obtain ⟨s₂, o, h, r⟩ := k
  exact ⟨s₂, o, st _ h, r⟩
theorem own_cast {C S : Nat} {Q : Option Value → Heap → List Loc → Prop} {g g' : JFrame} (q : g = g') (k : own_Ends p e s below C S Q T g') : own_Ends p e s below C S Q T g := q ▸ k
/-- a body's contract -/
def own_C (l : Launch) (y : MethodName) (bytes : ByteArray) (maxL : Nat) (ret : Option FieldType) (rm : Room) (Z : State) (A : Array Value) (h : Heap) (Q : Option Value → Heap → List Loc → Prop) : Prop :=
  ∀ ws : List Jvm.Cond, MetFree l y (head1 (Jvm.Cond.code y bytes maxL ret :: ws) rm) (fun a U => a = A ∧ Z.Warmed39 U.vm ∧ U.heap = h) (fun _ _ _ _ _ => True) (fun _ U o U' => ∃ v L, o = .returned v ∧ Q v U'.heap L ∧ FrameEnd U o U' L rm.cells rm.slots)
theorem own_enter {y : MethodName} {bytes : ByteArray} {maxL : Nat} {ret : Option FieldType} {rm : Room} {A : Array Value} {Q : Option Value → Heap → List Loc → Prop} (hp : plainFor y = true)
    (body : ∀ (p : Program) (e : Env) (s : State) (m : MethodId) (below : List Frame) (meth : Method) (c : Code) (s₁ : State), Stand p l e rm s m A below meth c s₁ [] 0 0 → p.tables.exec = Jvm.exec → c.code = bytes → c.maxLocals = maxL → s.vm.findClass y.cls = some m.cls → meth.name = y.name → meth.sig.returnType = ret → meth.locks = false → Z.Warmed39 s.vm → s₁.heap = h →
      own_Ends p e s below rm.cells rm.slots Q s₁ (entryFrame m A maxL)) : own_C l y bytes maxL ret rm Z A h Q := by
  intro ws
  refine MetFree.of_bodySF hp hisR ?_
  intro p e s m args below meth c s₁ Bd hml hP hK
  obtain ⟨rfl, hZ, hh⟩ := hP
  exact body p e s m below meth c s₁ (Stand.of_body Bd) Bd.exec Bd.bytes hml (findClass_of_methodNamed Bd.named) (name_of_methodNamed Bd.named Bd.method).1 Bd.returns Bd.notSynchronized hZ (by rw [← hh, Bd.state]; rfl)
theorem own_ret (X : Stand p l e R s m args below meth c T locs cells slots) (hx : p.tables.exec = Jvm.exec) (hlk : meth.locks = false) {Q : Option Value → Heap → List Loc → Prop} {C S pc : Nat} {Ls : Array Slot} {w : Value} {t : FieldType} {i : Instr} {rest : List Value} (hret : meth.sig.returnType = some t) (hn : narrow t w = w)
    (hi : (i = .ireturn ∧ (t = .int ∨ t = .boolean ∨ t = .byte ∨ t = .char ∨ t = .short) ∧ ∃ z, w = .int z) ∨ (i = .lreturn ∧ t = .long ∧ ∃ z, w = .long z) ∨ (i = .dreturn ∧ t = .double ∧ ∃ z, w = .double z) ∨ (i = .freturn ∧ t = .float ∧ ∃ z, w = .float z) ∨ (i = .areturn ∧ t.isReference = true ∧ w.isRef = true))
    (hd : decode c.code pc = .ok (i, 1)) (hc : cells ≤ C) (hs : slots ≤ S) (hq : Q (some w) T.heap locs) : own_Ends p e s below C S Q T (mkF m pc Ls (w :: rest)) := by
  obtain ⟨fs, hr, hrun, hended, hW, hsame⟩ := X.leave (v := some w) (fun h => by rw [hret] at h; cases h) hlk
  exact ⟨_, _, retOut X hx hret hn hi hd hr, hrun, hended, _, _, rfl, hq, ⟨_, rfl⟩, hW, hsame.mono hc hs⟩
theorem own_retI (X : Stand p l e R s m args below meth c T locs cells slots) (hx : p.tables.exec = Jvm.exec) (hlk : meth.locks = false) {Q : Option Value → Heap → List Loc → Prop} {C S pc : Nat} {Ls : Array Slot} {z : Int32} {rest : List Value} (hret : meth.sig.returnType = some .int)
    (hd : decode c.code pc = .ok (.ireturn, 1)) (hc : cells ≤ C) (hs : slots ≤ S) (hq : Q (some (.int z)) T.heap locs) : own_Ends p e s below C S Q T (mkF m pc Ls (.int z :: rest)) :=
  own_ret X hx hlk hret rfl (Or.inl ⟨rfl, Or.inl rfl, z, rfl⟩) hd hc hs hq
theorem own_retZ (X : Stand p l e R s m args below meth c T locs cells slots) (hx : p.tables.exec = Jvm.exec) (hlk : meth.locks = false) {Q : Option Value → Heap → List Loc → Prop} {C S pc : Nat} {Ls : Array Slot} {z : Int32} {rest : List Value} (hret : meth.sig.returnType = some .boolean) (hz : z = 0 ∨ z = 1)
    (hd : decode c.code pc = .ok (.ireturn, 1)) (hc : cells ≤ C) (hs : slots ≤ S) (hq : Q (some (.int z)) T.heap locs) : own_Ends p e s below C S Q T (mkF m pc Ls (.int z :: rest)) :=
  own_ret X hx hlk hret (by rcases hz with rfl | rfl <;> rfl) (Or.inl ⟨rfl, Or.inr (Or.inl rfl), z, rfl⟩) hd hc hs hq
theorem own_retJ (X : Stand p l e R s m args below meth c T locs cells slots) (hx : p.tables.exec = Jvm.exec) (hlk : meth.locks = false) {Q : Option Value → Heap → List Loc → Prop} {C S pc : Nat} {Ls : Array Slot} {z : Int64} {rest : List Value} (hret : meth.sig.returnType = some .long)
    (hd : decode c.code pc = .ok (.lreturn, 1)) (hc : cells ≤ C) (hs : slots ≤ S) (hq : Q (some (.long z)) T.heap locs) : own_Ends p e s below C S Q T (mkF m pc Ls (.long z :: rest)) :=
  own_ret X hx hlk hret rfl (Or.inr (Or.inl ⟨rfl, rfl, z, rfl⟩)) hd hc hs hq
theorem own_retR (X : Stand p l e R s m args below meth c T locs cells slots) (hx : p.tables.exec = Jvm.exec) (hlk : meth.locks = false) {Q : Option Value → Heap → List Loc → Prop} {C S pc : Nat} {Ls : Array Slot} {w : Value} {t : FieldType} {rest : List Value} (hret : meth.sig.returnType = some t) (ht : t.isReference = true) (hn : narrow t w = w) (hw : w.isRef = true)
    (hd : decode c.code pc = .ok (.areturn, 1)) (hc : cells ≤ C) (hs : slots ≤ S) (hq : Q (some w) T.heap locs) : own_Ends p e s below C S Q T (mkF m pc Ls (w :: rest)) :=
  own_ret X hx hlk hret hn (Or.inr (Or.inr (Or.inr (Or.inr ⟨rfl, ht, hw⟩)))) hd hc hs hq
theorem own_retV (X : Stand p l e R s m args below meth c T locs cells slots) (hx : p.tables.exec = Jvm.exec) (hlk : meth.locks = false) {Q : Option Value → Heap → List Loc → Prop} {C S pc : Nat} {Ls : Array Slot} (hret : meth.sig.returnType = none)
    (hd : decode c.code pc = .ok (.return_, 1)) (hc : cells ≤ C) (hs : slots ≤ S) (hq : Q none T.heap locs) : own_Ends p e s below C S Q T (mkF m pc Ls []) := by
  obtain ⟨fs, hr, hrun, hended, hW, hsame⟩ := X.leave (v := none) (fun _ => rfl) hlk
  exact ⟨_, _, X.returnOut hx hret hd hr, hrun, hended, _, _, rfl, hq, ⟨_, rfl⟩, hW, hsame.mono hc hs⟩
theorem own_callS (X : Stand p l e R s m args below meth c T locs cells slots) (hx : p.tables.exec = Jvm.exec) (hZ : Z.Warmed39 s.vm) {own : String} {index : Nat} {y : MethodName} {bytes : ByteArray} {maxL W : Nat} {ret : Option FieldType} {rm : Room} {A : Array Value} {Q : Option Value → Heap → List Loc → Prop}
    (hown : s.vm.findClass own = some m.cls) (wl : (Cond.methodLink own index y).before a0 Z = true) (ws : (Cond.static y).before a0 Z = true) (wz : (Cond.initialized y.cls).before a0 Z = true) (wc : (Cond.code y bytes maxL ret).before a0 Z = true)
    (hM : own_C l y bytes maxL ret rm Z A h Q) (eT : T.heap = h) {g : JFrame} (hg : g.method = m) (hsize : g.locals.size = c.maxLocals) {argsL rest : List Value} (hlen : ∀ sig, parseMethodDescriptor y.desc = some sig → argsL.length = sig.parameters.length) (hstack : g.stack = argsL.reverse ++ rest) (hA : argsL.toArray = A)
    (hW : 2 * g.monitorRoom + (rest.map fun v => v.category).sum ≤ W) (hd : decode c.code g.pc = .ok (.invokestatic index, 3)) (hy : y.cls ≠ "java/lang/invoke/MethodHandle" ∧ y.cls ≠ "java/lang/invoke/VarHandle")
    (hf : rm.frames + 1 ≤ R.frames) (hl : W + (maxL + 11) + rm.locals ≤ R.locals) (hc : cells + rm.cells ≤ R.cells) (hs : slots + rm.slots ≤ R.slots) :
    ∃ v T' L, Stand p l e R s m args below meth c T' (locs ++ L) (cells + rm.cells) (slots + rm.slots) ∧ Q v T'.heap L ∧ ∀ target, Steps p.tables e below (T'.setTop { g with pc := g.pc + 3, stack := v.toList ++ rest }) target → Steps p.tables e below (T.setTop g) target := by
  obtain ⟨v, vm₁, ⟨T', L', k', n'⟩, -, X', ⟨L, hQ, l1, l2, l3⟩, st⟩ := Jvm.LawKit.callS X hx hown (mvT hZ wl) (mvT hZ ws) (mvT hZ wz) (mvT hZ wc) hy (backOf (W := W) (hM []) hZ wc wz hf hl) hg hsize hlen hstack hW hd (fun _ _ => ⟨hA, eT, hc, hs⟩)
  dsimp only [Pt.U, Pt.locs, Pt.cells, Pt.slots] at X' l1 l2 l3 st hQ
  subst l1 l2 l3
  exact ⟨v, T', L, X', hQ, st⟩
theorem own_callI (X : Stand p l e R s m args below meth c T locs cells slots) (hx : p.tables.exec = Jvm.exec) (hZ : Z.Warmed39 s.vm) {own : String} {index : Nat} {y : MethodName} {bytes : ByteArray} {maxL W : Nat} {rm : Room} {A : Array Value} {Q : Option Value → Heap → List Loc → Prop}
    (hown : s.vm.findClass own = some m.cls) (hy1 : y.name = "<init>") (wl : (Cond.methodLink own index y).before a0 Z = true) (ws : (Cond.instanceMethod y).before a0 Z = true) (wz : (Cond.initialized y.cls).before a0 Z = true) (wc : (Cond.code y bytes maxL none).before a0 Z = true)
    (hM : own_C l y bytes maxL none rm Z A h Q) (eT : T.heap = h) {g : JFrame} (hg : g.method = m) (hsize : g.locals.size = c.maxLocals) {a : Addr} {argsL rest : List Value} (hlen : ∀ sig, parseMethodDescriptor y.desc = some sig → argsL.length = sig.parameters.length) (hstack : g.stack = argsL.reverse ++ .ref a :: rest) (hA : (.ref a :: argsL).toArray = A)
    (hW : 2 * g.monitorRoom + (rest.map fun v => v.category).sum ≤ W) (hd : decode c.code g.pc = .ok (.invokespecial index, 3)) (hy : y.cls ≠ "java/lang/invoke/MethodHandle" ∧ y.cls ≠ "java/lang/invoke/VarHandle")
    (hf : rm.frames + 1 ≤ R.frames) (hl : W + (maxL + 11) + rm.locals ≤ R.locals) (hc : cells + rm.cells ≤ R.cells) (hs : slots + rm.slots ≤ R.slots) :
    ∃ v T' L, Stand p l e R s m args below meth c T' (locs ++ L) (cells + rm.cells) (slots + rm.slots) ∧ Q v T'.heap L ∧ ∀ target, Steps p.tables e below (T'.setTop { g with pc := g.pc + 3, stack := v.toList ++ rest }) target → Steps p.tables e below (T.setTop g) target := by
  obtain ⟨v, vm₁, ⟨T', L', k', n'⟩, -, X', ⟨L, hQ, l1, l2, l3⟩, st⟩ := X.specialBack hx hy1 hown (mvT hZ wl) (mvT hZ ws) (mvT hZ wc) hy (backOf (W := W) (hM []) hZ wc wz hf hl) hg hsize (Steps.refl _) hlen hstack hW hd (fun _ _ => ⟨hA, eT, hc, hs⟩)
  dsimp only [Pt.U, Pt.locs, Pt.cells, Pt.slots] at X' l1 l2 l3 st hQ
  subst l1 l2 l3
  exact ⟨v, T', L, X', hQ, fun _ k => st.trans k⟩
theorem own_callV (X : Stand p l e R s m args below meth c T locs cells slots) (hx : p.tables.exec = Jvm.exec) (hZ : Z.Warmed39 s.vm) {own K : String} {index : Nat} {y : MethodName} {bytes : ByteArray} {maxL W : Nat} {ret : Option FieldType} {rm : Room} {A : Array Value} {Q : Option Value → Heap → List Loc → Prop}
    (hown : s.vm.findClass own = some m.cls) (wl : (Cond.methodLink own index y).before a0 Z = true) (wd : (Cond.declares y).before a0 Z = true) (wsel : (Cond.selects K y y).before a0 Z = true) (ws : (Cond.instanceMethod y).before a0 Z = true) (wz : (Cond.initialized y.cls).before a0 Z = true) (wc : (Cond.code y bytes maxL ret).before a0 Z = true)
    (hM : own_C l y bytes maxL ret rm Z A h Q) (eT : T.heap = h) {g : JFrame} (hg : g.method = m) (hsize : g.locals.size = c.maxLocals) {a : Addr} {argsL rest : List Value} (hE : Exa Z h a K) (hlen : ∀ sig, parseMethodDescriptor y.desc = some sig → argsL.length = sig.parameters.length) (hstack : g.stack = argsL.reverse ++ .ref a :: rest) (hA : (.ref a :: argsL).toArray = A)
    (hW : 2 * g.monitorRoom + (rest.map fun v => v.category).sum ≤ W) (hd : decode c.code g.pc = .ok (.invokevirtual index, 3)) (hy : y.cls ≠ "java/lang/invoke/MethodHandle" ∧ y.cls ≠ "java/lang/invoke/VarHandle")
    (hf : rm.frames + 1 ≤ R.frames) (hl : W + (maxL + 11) + rm.locals ≤ R.locals) (hc : cells + rm.cells ≤ R.cells) (hs : slots + rm.slots ≤ R.slots) :
    ∃ v T' L, Stand p l e R s m args below meth c T' (locs ++ L) (cells + rm.cells) (slots + rm.slots) ∧ Q v T'.heap L ∧ ∀ target, Steps p.tables e below (T'.setTop { g with pc := g.pc + 3, stack := v.toList ++ rest }) target → Steps p.tables e below (T.setTop g) target := by
  obtain ⟨cq, kq, qa, qb, qc⟩ := isOf hZ eT hE
  obtain ⟨v, vm₁, ⟨T', L', k', n'⟩, -, X', ⟨L, hQ, l1, l2, l3⟩, st⟩ := X.virtualBack hx hown (mvT hZ wl) (mvT hZ wd) (notFace_of_selects (args := #[]) (mvT hZ wsel)) (mvT hZ wsel) (mvT hZ ws) hy (backOf (W := W) (hM []) hZ wc wz hf hl) qa qc hg hsize (Steps.refl _) hlen hstack hW hd (fun _ _ => ⟨hA, eT, hc, hs⟩)
  dsimp only [Pt.U, Pt.locs, Pt.cells, Pt.slots] at X' l1 l2 l3 st hQ
  subst l1 l2 l3
  exact ⟨v, T', L, X', hQ, fun _ k => st.trans k⟩
theorem own_callP (X : Stand p l e R s m args below meth c T locs cells slots) (hx : p.tables.exec = Jvm.exec) (hZ : Z.Warmed39 s.vm) {own K : String} {index kk : Nat} {y : MethodName} {bytes : ByteArray} {maxL W : Nat} {ret : Option FieldType} {rm : Room} {A : Array Value} {Q : Option Value → Heap → List Loc → Prop}
    (hown : s.vm.findClass own = some m.cls) (wl : (Cond.methodLink own index y).before a0 Z = true) (wp : (Cond.privateMethod y).before a0 Z = true) (wi : (Cond.instantiable y.cls kk).before a0 Z = true) (ws : (Cond.instanceMethod y).before a0 Z = true) (wz : (Cond.initialized y.cls).before a0 Z = true) (wc : (Cond.code y bytes maxL ret).before a0 Z = true)
    (hM : own_C l y bytes maxL ret rm Z A h Q) (eT : T.heap = h) {g : JFrame} (hg : g.method = m) (hsize : g.locals.size = c.maxLocals) {a : Addr} {argsL rest : List Value} (hE : Exa Z h a K) (hlen : ∀ sig, parseMethodDescriptor y.desc = some sig → argsL.length = sig.parameters.length) (hstack : g.stack = argsL.reverse ++ .ref a :: rest) (hA : (.ref a :: argsL).toArray = A)
    (hW : 2 * g.monitorRoom + (rest.map fun v => v.category).sum ≤ W) (hd : decode c.code g.pc = .ok (.invokevirtual index, 3)) (hy : y.cls ≠ "java/lang/invoke/MethodHandle" ∧ y.cls ≠ "java/lang/invoke/VarHandle")
    (hf : rm.frames + 1 ≤ R.frames) (hl : W + (maxL + 11) + rm.locals ≤ R.locals) (hc : cells + rm.cells ≤ R.cells) (hs : slots + rm.slots ≤ R.slots) :
    ∃ v T' L, Stand p l e R s m args below meth c T' (locs ++ L) (cells + rm.cells) (slots + rm.slots) ∧ Q v T'.heap L ∧ ∀ target, Steps p.tables e below (T'.setTop { g with pc := g.pc + 3, stack := v.toList ++ rest }) target → Steps p.tables e below (T.setTop g) target := by
  obtain ⟨cq, q1, q2⟩ := hE.cell
  have hpriv : s.PrivateAt y := Cond.privateMethod_at (mvP hZ wp (args := #[]))
  obtain ⟨cc, kc, i1, i2, -, i4, -⟩ := Cond.instantiable_spec (mvT (args := #[]) hZ wi)
  have hni : kc.isInterface = false := (Bool.or_eq_false_iff.mp i4).1
  have hsel : (Cond.selects y.cls y y).before args s = true := selects_self_of_private i1 i2 hni hpriv (mvT hZ ws) hy
  obtain ⟨v, vm₁, ⟨T', L', k', n'⟩, -, X', ⟨L, hQ, l1, l2, l3⟩, st⟩ := X.privateBack hx hown (mvT hZ wl) (mvT hZ ws) hsel hpriv (mvT hZ wc) hy (backOf (W := W) (hM []) hZ wc wz hf hl) hg hsize (Steps.refl _) (by rw [eT]; exact q1) q2 hlen hstack hW hd (fun _ _ => ⟨hA, eT, hc, hs⟩)
  dsimp only [Pt.U, Pt.locs, Pt.cells, Pt.slots] at X' l1 l2 l3 st hQ
  subst l1 l2 l3
  exact ⟨v, T', L, X', hQ, fun _ k => st.trans k⟩
end OwnLayer
theorem own_lct {x y : Int64} (q : x < y) : ifCond.holds .lt (lcmpW x y) = true ∧ ifCond.holds .ge (lcmpW x y) = false := by
  have r := (lw_lt x y).mpr q
  exact ⟨(if0 _ _).trans (tlt r).1, (if0 _ _).trans (tlt r).2.1⟩
theorem own_lcf {x y : Int64} (q : ¬ x < y) : ifCond.holds .lt (lcmpW x y) = false ∧ ifCond.holds .ge (lcmpW x y) = true := by
  have r : ¬ lcmpW x y < 0 := fun z => q ((lw_lt x y).mp z)
  exact ⟨(if0 _ _).trans (flt r).1, (if0 _ _).trans (flt r).2.1⟩
theorem own_lgt {x y : Int64} (q : y < x) : ifCond.holds .gt (lcmpW x y) = true ∧ ifCond.holds .le (lcmpW x y) = false := by
  have r := (lw_gt x y).mpr q
  exact ⟨(if0 _ _).trans (tlt r).2.2.1, (if0 _ _).trans (tlt r).2.2.2⟩
theorem own_lgf {x y : Int64} (q : ¬ y < x) : ifCond.holds .gt (lcmpW x y) = false ∧ ifCond.holds .le (lcmpW x y) = true := by
  have r : ¬ 0 < lcmpW x y := fun z => q ((lw_gt x y).mp z)
  exact ⟨(if0 _ _).trans (flt r).2.2.1, (if0 _ _).trans (flt r).2.2.2⟩
theorem own_let {x y : Int64} (q : x = y) : ifCond.holds .eq (lcmpW x y) = true ∧ ifCond.holds .ne (lcmpW x y) = false := by
  have r := (lw_eq x y).mpr q
  exact ⟨(if0 _ _).trans (teq r).1, (if0 _ _).trans (teq r).2⟩
theorem own_lef {x y : Int64} (q : ¬ x = y) : ifCond.holds .eq (lcmpW x y) = false ∧ ifCond.holds .ne (lcmpW x y) = true := by
  have r : ¬ lcmpW x y = 0 := fun z => q ((lw_eq x y).mp z)
  exact ⟨(if0 _ _).trans (feq r).1, (if0 _ _).trans (feq r).2⟩
section OwnArrays
variable {p : Program} {l : Launch} {e : Env} {R : Room} {s : State} {m : MethodId} {args : Array Value} {below : List Frame} {meth : Method} {c : Code} {T : State} {locs : List Loc} {cells slots : Nat} {Z : State} {a0 : Array Value} {h h' : Heap} {a b : Addr} {k : ClassId} {ty : FieldType} {n i sl : Nat} {f : Nat → Value} {v : Value} {ws : List Addr}
/-- an array by its length and what each place holds -/
def own_Ar (Z : State) (h : Heap) (a : Addr) (k : ClassId) (ty : FieldType) (n : Nat) (f : Nat → Value) : Prop := ∃ c : Cell, Arr Z h a c ty ∧ c.cls = k ∧ c.slots.size = n ∧ n < 2 ^ 31 ∧ ∀ i, i < n → c.slots[i]? = some (f i)
theorem own_Ar.lt (F : own_Ar Z h a k ty n f) : a < h.size := by obtain ⟨c, A, -⟩ := F; exact A.lt
theorem own_Ar.ext (F : own_Ar Z h a k ty n f) (E : Ext h h') : own_Ar Z h' a k ty n f := by obtain ⟨c, A, r⟩ := F; exact ⟨c, A.ext E, r⟩
theorem own_Ar.other (F : own_Ar Z h a k ty n f) (W : Wr h h' b sl v) (q : a ≠ b) : own_Ar Z h' a k ty n f := by obtain ⟨c, A, r⟩ := F; exact ⟨c, A.other W q, r⟩
theorem own_Ar.keep (F : own_Ar Z h a k ty n f) (K : Keep h h' ws) (q : a ∉ ws) : own_Ar Z h' a k ty n f := by obtain ⟨c, A, r⟩ := F; exact ⟨c, ⟨K.2.1 a c A.1 q, A.2⟩, r⟩
theorem own_Ar.cong (F : own_Ar Z h a k ty n f) {g : Nat → Value} (q : ∀ i, i < n → f i = g i) : own_Ar Z h a k ty n g := by
  obtain ⟨c, A, r1, r2, r3, r4⟩ := F
  exact ⟨c, A, r1, r2, r3, fun i hi => by rw [r4 i hi, q i hi]⟩
theorem own_Ar.set (F : own_Ar Z h a k ty n f) (W : Wr h h' a i v) : own_Ar Z h' a k ty n (fun j => if j = i then v else f j) := by
  obtain ⟨c, A, r1, r2, r3, r4⟩ := F
  refine ⟨c.setSlot i v, A.same W, r1, by rw [sz_set]; exact r2, r3, fun j hj => ?_⟩
  show _ = some (if j = i then v else f j)
  by_cases q : j = i
  · subst q
    rw [if_pos rfl]
    show (c.slots.setIfInBounds j v)[j]? = some v
    simp [r2, hj]
  · rw [if_neg q]
    show (c.slots.setIfInBounds i v)[j]? = some (f j)
    rw [Array.getElem?_setIfInBounds_ne (fun z => q z.symm)]
    exact r4 j hj
theorem own_in {c : Cell} {j : Int32} (hj : ¬ j < 0) (hi : j.toNatClampNeg = i) (r : c.slots.size = n) (hn : i < n) : ¬ (j < 0 ∨ c.slots.size ≤ j.toNatClampNeg) := by
  rintro (q | q)
  · exact hj q
  · rw [hi, r] at q; exact absurd hn (Nat.not_lt.mpr q)
theorem own_len (X : Stand p l e R s m args below meth c T locs cells slots) (hx : p.tables.exec = Jvm.exec) (hZ : Z.Warmed39 s.vm) (eT : T.heap = h) (F : own_Ar Z h a k ty n f) {z : Int32} (hz : Int32.ofNat n = z) {g : JFrame} (hg : g.method = m) {rest : List Value} (hs : g.stack = .ref a :: rest) (hd : decode c.code g.pc = .ok (.arraylength, 1)) (target : State)
    (kt : Steps p.tables e below (T.setTop { g with pc := g.pc + 1, stack := .int z :: rest }) target) : Steps p.tables e below (T.setTop g) target := by
  obtain ⟨cl, A, -, r2, r3, -⟩ := F
  refine X.arraylength hx (by rw [eT]; exact A.1) (State.isArrayOf_alike hZ.alike A.2.1) hg hs hd _ ?_
  have q : cl.slots.size.toInt32 = z := by rw [r2]; exact hz
  rw [q]; exact kt
theorem own_ldI (X : Stand p l e R s m args below meth c T locs cells slots) (hx : p.tables.exec = Jvm.exec) (hZ : Z.Warmed39 s.vm) (eT : T.heap = h) (F : own_Ar Z h a k .int n f) {j : Int32} (hj : ¬ j < 0) (hi : j.toNatClampNeg = i) (hn : i < n) (hv : f i = v) {g : JFrame} (hg : g.method = m) {rest : List Value} (hs : g.stack = .int j :: .ref a :: rest) (hd : decode c.code g.pc = .ok (.iaload, 1)) (target : State)
    (kt : Steps p.tables e below (T.setTop { g with pc := g.pc + 1, stack := v :: rest }) target) : Steps p.tables e below (T.setTop g) target := by
  obtain ⟨cl, A, -, r2, r3, r4⟩ := F
  exact X.iaload hx (by rw [eT]; exact A.1) (State.isArrayOf_alike hZ.alike A.2.1) A.2.2 (own_in hj hi r2 hn) (by rw [hi, r4 i hn, hv]) hg hs hd _ kt
theorem own_ldJ (X : Stand p l e R s m args below meth c T locs cells slots) (hx : p.tables.exec = Jvm.exec) (hZ : Z.Warmed39 s.vm) (eT : T.heap = h) (F : own_Ar Z h a k .long n f) {j : Int32} (hj : ¬ j < 0) (hi : j.toNatClampNeg = i) (hn : i < n) (hv : f i = v) {g : JFrame} (hg : g.method = m) {rest : List Value} (hs : g.stack = .int j :: .ref a :: rest) (hd : decode c.code g.pc = .ok (.laload, 1)) (target : State)
    (kt : Steps p.tables e below (T.setTop { g with pc := g.pc + 1, stack := v :: rest }) target) : Steps p.tables e below (T.setTop g) target := by
  obtain ⟨cl, A, -, r2, r3, r4⟩ := F
  exact X.laload hx (by rw [eT]; exact A.1) (State.isArrayOf_alike hZ.alike A.2.1) A.2.2 (own_in hj hi r2 hn) (by rw [hi, r4 i hn, hv]) hg hs hd _ kt
theorem own_ldC (X : Stand p l e R s m args below meth c T locs cells slots) (hx : p.tables.exec = Jvm.exec) (hZ : Z.Warmed39 s.vm) (eT : T.heap = h) (F : own_Ar Z h a k .char n f) {j : Int32} (hj : ¬ j < 0) (hi : j.toNatClampNeg = i) (hn : i < n) (hv : f i = v) {g : JFrame} (hg : g.method = m) {rest : List Value} (hs : g.stack = .int j :: .ref a :: rest) (hd : decode c.code g.pc = .ok (.caload, 1)) (target : State)
    (kt : Steps p.tables e below (T.setTop { g with pc := g.pc + 1, stack := v :: rest }) target) : Steps p.tables e below (T.setTop g) target := by
  obtain ⟨cl, A, -, r2, r3, r4⟩ := F
  exact X.caload hx (by rw [eT]; exact A.1) (State.isArrayOf_alike hZ.alike A.2.1) A.2.2 (own_in hj hi r2 hn) (by rw [hi, r4 i hn, hv]) hg hs hd _ kt
theorem own_ldB (X : Stand p l e R s m args below meth c T locs cells slots) (hx : p.tables.exec = Jvm.exec) (hZ : Z.Warmed39 s.vm) (eT : T.heap = h) (F : own_Ar Z h a k .byte n f) {j : Int32} (hj : ¬ j < 0) (hi : j.toNatClampNeg = i) (hn : i < n) (hv : f i = v) {g : JFrame} (hg : g.method = m) {rest : List Value} (hs : g.stack = .int j :: .ref a :: rest) (hd : decode c.code g.pc = .ok (.baload, 1)) (target : State)
    (kt : Steps p.tables e below (T.setTop { g with pc := g.pc + 1, stack := v :: rest }) target) : Steps p.tables e below (T.setTop g) target := by
  obtain ⟨cl, A, -, r2, r3, r4⟩ := F
  exact X.baloadBytes hx (by rw [eT]; exact A.1) (State.isArrayOf_alike hZ.alike A.2.1) A.2.2 (own_in hj hi r2 hn) (by rw [hi, r4 i hn, hv]) hg hs hd _ kt
theorem own_ldZ (X : Stand p l e R s m args below meth c T locs cells slots) (hx : p.tables.exec = Jvm.exec) (hZ : Z.Warmed39 s.vm) (eT : T.heap = h) (F : own_Ar Z h a k .boolean n f) {j : Int32} (hj : ¬ j < 0) (hi : j.toNatClampNeg = i) (hn : i < n) (hv : f i = v) {g : JFrame} (hg : g.method = m) {rest : List Value} (hs : g.stack = .int j :: .ref a :: rest) (hd : decode c.code g.pc = .ok (.baload, 1)) (target : State)
    (kt : Steps p.tables e below (T.setTop { g with pc := g.pc + 1, stack := v :: rest }) target) : Steps p.tables e below (T.setTop g) target := by
  obtain ⟨cl, A, -, r2, r3, r4⟩ := F
  exact X.baloadBooleans hx (by rw [eT]; exact A.1) (State.isArrayOf_alike hZ.alike A.2.1) A.2.2 (own_in hj hi r2 hn) (by rw [hi, r4 i hn, hv]) hg hs hd _ kt
theorem own_ldR (X : Stand p l e R s m args below meth c T locs cells slots) (hx : p.tables.exec = Jvm.exec) (hZ : Z.Warmed39 s.vm) (eT : T.heap = h) (F : own_Ar Z h a k ty n f) (ht : ty.isReference = true) {j : Int32} (hj : ¬ j < 0) (hi : j.toNatClampNeg = i) (hn : i < n) (hv : f i = v) {g : JFrame} (hg : g.method = m) {rest : List Value} (hs : g.stack = .int j :: .ref a :: rest) (hd : decode c.code g.pc = .ok (.aaload, 1)) (target : State)
    (kt : Steps p.tables e below (T.setTop { g with pc := g.pc + 1, stack := v :: rest }) target) : Steps p.tables e below (T.setTop g) target := by
  obtain ⟨cl, A, -, r2, r3, r4⟩ := F
  exact X.aaload hx (by rw [eT]; exact A.1) (State.isArrayOf_alike hZ.alike A.2.1) ht A.2.2 (own_in hj hi r2 hn) (by rw [hi, r4 i hn, hv]) hg hs hd _ kt
theorem own_newP (X : Stand p l e R s m args below meth c T locs cells slots) (hx : p.tables.exec = Jvm.exec) (hZ : Z.Warmed39 s.vm) {aty : ArrayType} (w : (Cond.arrayClass (newarray.typeOf aty)).before a0 Z = true) (eT : T.heap = h) {g : JFrame} (hg : g.method = m) (hd : decode c.code g.pc = .ok (.newarray aty, 2)) {z : Int32} {rest : List Value} (hs : g.stack = .int z :: rest)
    (hz : ¬ z < 0) (hzn : z.toNatClampNeg = n) {cap : Nat} (hcap : n ≤ cap) (hb : cap * 8 ≤ 536870912) (hc : cells + 1 ≤ R.cells) (hl : slots + cap ≤ R.slots) :
    ∃ T' h' k, Stand p l e R s m args below meth c T' locs (cells + 1) (slots + cap) ∧ T'.heap = h' ∧ Ext h h' ∧ own_Ar Z h' h.size k (newarray.typeOf aty) n (fun _ => defaultValue (newarray.typeOf aty)) ∧
      ∀ target, Steps p.tables e below (T'.setTop { g with pc := g.pc + 2, stack := .ref h.size :: rest }) target → Steps p.tables e below (T.setTop g) target := by
  obtain ⟨T', h', cA, X', e', E, A, st⟩ := newP X hx hZ w eT hg hd hs hz (cap := cap) (by rw [hzn]; exact hcap) hb hc hl
  refine ⟨T', h', cA, X', e', E, ⟨_, A, rfl, (sz_new _ _ _).trans hzn, by omega, fun i hi => ?_⟩, st⟩
  have hs : i < z.toNatClampNeg := by rw [hzn]; exact hi
  simp [newA, hs, defaultValue]
theorem own_stI (X : Stand p l e R s m args below meth c T locs cells slots) (hx : p.tables.exec = Jvm.exec) (hZ : Z.Warmed39 s.vm) (eT : T.heap = h) (F : own_Ar Z h a k .int n f) {j x : Int32} (hj : ¬ j < 0) (hi : j.toNatClampNeg = i) (hn : i < n) {g : JFrame} (hg : g.method = m) {rest : List Value} (hs : g.stack = .int x :: .int j :: .ref a :: rest) (hd : decode c.code g.pc = .ok (.iastore, 1)) :
    ∃ T' h', Stand p l e R s m args below meth c T' (locs ++ [⟨a, i⟩]) cells slots ∧ T'.heap = h' ∧ Wr h h' a i (.int x) ∧ own_Ar Z h' a k .int n (fun j => if j = i then .int x else f j) ∧ ∀ target, Steps p.tables e below (T'.setTop { g with pc := g.pc + 1, stack := rest }) target → Steps p.tables e below (T.setTop g) target := by
  obtain ⟨cl, A, r1, r2, r3, r4⟩ := F
  obtain ⟨T', h', X', e', W, st⟩ := stI X hx hZ eT A (own_in hj hi r2 hn) hg hs hd
  rw [hi] at X' W
  exact ⟨T', h', X', e', W, own_Ar.set ⟨cl, A, r1, r2, r3, r4⟩ W, st⟩
theorem own_stJ (X : Stand p l e R s m args below meth c T locs cells slots) (hx : p.tables.exec = Jvm.exec) (hZ : Z.Warmed39 s.vm) (eT : T.heap = h) (F : own_Ar Z h a k .long n f) {j : Int32} {x : Int64} (hj : ¬ j < 0) (hi : j.toNatClampNeg = i) (hn : i < n) {g : JFrame} (hg : g.method = m) {rest : List Value} (hs : g.stack = .long x :: .int j :: .ref a :: rest) (hd : decode c.code g.pc = .ok (.lastore, 1)) :
    ∃ T' h', Stand p l e R s m args below meth c T' (locs ++ [⟨a, i⟩]) cells slots ∧ T'.heap = h' ∧ Wr h h' a i (.long x) ∧ own_Ar Z h' a k .long n (fun j => if j = i then .long x else f j) ∧ ∀ target, Steps p.tables e below (T'.setTop { g with pc := g.pc + 1, stack := rest }) target → Steps p.tables e below (T.setTop g) target := by
  obtain ⟨cl, A, r1, r2, r3, r4⟩ := F
  obtain ⟨T', h', X', e', W, st⟩ := stJ X hx hZ eT A (own_in hj hi r2 hn) hg hs hd
  rw [hi] at X' W
  exact ⟨T', h', X', e', W, own_Ar.set ⟨cl, A, r1, r2, r3, r4⟩ W, st⟩
theorem own_stB (X : Stand p l e R s m args below meth c T locs cells slots) (hx : p.tables.exec = Jvm.exec) (hZ : Z.Warmed39 s.vm) (eT : T.heap = h) (F : own_Ar Z h a k .byte n f) {j x : Int32} (hj : ¬ j < 0) (hi : j.toNatClampNeg = i) (hn : i < n) {g : JFrame} (hg : g.method = m) {rest : List Value} (hs : g.stack = .int x :: .int j :: .ref a :: rest) (hd : decode c.code g.pc = .ok (.bastore, 1)) :
    ∃ T' h', Stand p l e R s m args below meth c T' (locs ++ [⟨a, i⟩]) cells slots ∧ T'.heap = h' ∧ Wr h h' a i (.int (nar .byte x)) ∧ own_Ar Z h' a k .byte n (fun j => if j = i then .int (nar .byte x) else f j) ∧ ∀ target, Steps p.tables e below (T'.setTop { g with pc := g.pc + 1, stack := rest }) target → Steps p.tables e below (T.setTop g) target := by
  obtain ⟨cl, A, r1, r2, r3, r4⟩ := F
  obtain ⟨T', h', X', e', W, st⟩ := stB X hx hZ eT A (own_in hj hi r2 hn) hg hs hd
  rw [hi] at X' W
  exact ⟨T', h', X', e', W, own_Ar.set ⟨cl, A, r1, r2, r3, r4⟩ W, st⟩
theorem own_stZ (X : Stand p l e R s m args below meth c T locs cells slots) (hx : p.tables.exec = Jvm.exec) (hZ : Z.Warmed39 s.vm) (eT : T.heap = h) (F : own_Ar Z h a k .boolean n f) {j x : Int32} (hj : ¬ j < 0) (hi : j.toNatClampNeg = i) (hn : i < n) {g : JFrame} (hg : g.method = m) {rest : List Value} (hs : g.stack = .int x :: .int j :: .ref a :: rest) (hd : decode c.code g.pc = .ok (.bastore, 1)) :
    ∃ T' h', Stand p l e R s m args below meth c T' (locs ++ [⟨a, i⟩]) cells slots ∧ T'.heap = h' ∧ Wr h h' a i (.int (nar .boolean x)) ∧ own_Ar Z h' a k .boolean n (fun j => if j = i then .int (nar .boolean x) else f j) ∧ ∀ target, Steps p.tables e below (T'.setTop { g with pc := g.pc + 1, stack := rest }) target → Steps p.tables e below (T.setTop g) target := by
  obtain ⟨cl, A, r1, r2, r3, r4⟩ := F
  obtain ⟨T', h', X', e', W, st⟩ := stZ X hx hZ eT A (own_in hj hi r2 hn) hg hs hd
  rw [hi] at X' W
  exact ⟨T', h', X', e', W, own_Ar.set ⟨cl, A, r1, r2, r3, r4⟩ W, st⟩
theorem own_stC (X : Stand p l e R s m args below meth c T locs cells slots) (hx : p.tables.exec = Jvm.exec) (hZ : Z.Warmed39 s.vm) (eT : T.heap = h) (F : own_Ar Z h a k .char n f) {j x : Int32} (hj : ¬ j < 0) (hi : j.toNatClampNeg = i) (hn : i < n) {g : JFrame} (hg : g.method = m) {rest : List Value} (hs : g.stack = .int x :: .int j :: .ref a :: rest) (hd : decode c.code g.pc = .ok (.castore, 1)) :
    ∃ T' h', Stand p l e R s m args below meth c T' (locs ++ [⟨a, i⟩]) cells slots ∧ T'.heap = h' ∧ Wr h h' a i (.int (nar .char x)) ∧ own_Ar Z h' a k .char n (fun j => if j = i then .int (nar .char x) else f j) ∧ ∀ target, Steps p.tables e below (T'.setTop { g with pc := g.pc + 1, stack := rest }) target → Steps p.tables e below (T.setTop g) target := by
  obtain ⟨cl, A, r1, r2, r3, r4⟩ := F
  obtain ⟨T', h', X', e', W, st⟩ := stC X hx hZ eT A (own_in hj hi r2 hn) hg hs hd
  rw [hi] at X' W
  exact ⟨T', h', X', e', W, own_Ar.set ⟨cl, A, r1, r2, r3, r4⟩ W, st⟩
theorem own_stR (X : Stand p l e R s m args below meth c T locs cells slots) (hx : p.tables.exec = Jvm.exec) (hZ : Z.Warmed39 s.vm) (eT : T.heap = h) (F : own_Ar Z h a k ty n f) (ht : ty.isReference = true) {j : Int32} (S : Sto Z h a v) (hj : ¬ j < 0) (hi : j.toNatClampNeg = i) (hn : i < n) {g : JFrame} (hg : g.method = m) {rest : List Value} (hs : g.stack = v :: .int j :: .ref a :: rest) (hd : decode c.code g.pc = .ok (.aastore, 1)) :
    ∃ T' h', Stand p l e R s m args below meth c T' (locs ++ [⟨a, i⟩]) cells slots ∧ T'.heap = h' ∧ Wr h h' a i v ∧ own_Ar Z h' a k ty n (fun j => if j = i then v else f j) ∧ ∀ target, Steps p.tables e below (T'.setTop { g with pc := g.pc + 1, stack := rest }) target → Steps p.tables e below (T.setTop g) target := by
  obtain ⟨cl, A, r1, r2, r3, r4⟩ := F
  obtain ⟨T', h', X', e', W, st⟩ := stR X hx hZ eT A (own_in hj hi r2 hn) ht S hg hs hd
  rw [hi] at X' W
  exact ⟨T', h', X', e', W, own_Ar.set ⟨cl, A, r1, r2, r3, r4⟩ W, st⟩
theorem own_newR (X : Stand p l e R s m args below meth c T locs cells slots) (hx : p.tables.exec = Jvm.exec) (hZ : Z.Warmed39 s.vm) {own C : String} {index : Nat} (hown : s.vm.findClass own = some m.cls) (w1 : (Cond.classLink own index C).before a0 Z = true) (w2 : (Cond.arrayOver (.object C)).before a0 Z = true)
    (eT : T.heap = h) {g : JFrame} (hg : g.method = m) (hd : decode c.code g.pc = .ok (.anewarray index, 3)) {z : Int32} {rest : List Value} (hs : g.stack = .int z :: rest) (hz : ¬ z < 0) (hzn : z.toNatClampNeg = n) {cap : Nat} (hcap : n ≤ cap) (hb : cap * 8 ≤ 536870912) (hc : cells + 1 ≤ R.cells) (hl : slots + cap ≤ R.slots) :
    ∃ T' h' k, Stand p l e R s m args below meth c T' locs (cells + 1) (slots + cap) ∧ T'.heap = h' ∧ Ext h h' ∧ own_Ar Z h' h.size k (.object C) n (fun _ => .null) ∧ Ovr Z k C ∧
      ∀ target, Steps p.tables e below (T'.setTop { g with pc := g.pc + 3, stack := .ref h.size :: rest }) target → Steps p.tables e below (T.setTop g) target := by
  obtain ⟨T', h', cA, X', e', E, A, O, st⟩ := newR X hx hZ hown w1 w2 eT hg hd hs hz (cap := cap) (by rw [hzn]; exact hcap) hb hc hl
  refine ⟨T', h', cA, X', e', E, ⟨_, A, rfl, (sz_new _ _ _).trans hzn, by omega, fun i hi => ?_⟩, O, st⟩
  have hs : i < z.toNatClampNeg := by rw [hzn]; exact hi
  simp [newA, hs, defaultValue]
theorem own_Ar.sto {C : String} {y : Addr} (F : own_Ar Z h a k ty n f) (O : Ovr Z k C) (I : Ins Z h y C true) : Sto Z h a (.ref y) := by
  obtain ⟨cl, A, r1, -⟩ := F
  exact Sto.of A (r1 ▸ O) I
end OwnArrays
theorem pn_1 : plainFor (⟨"java/lang/Math", "min", "(II)I"⟩ : MethodName) = true := Jvm.Free.JP.mathPlain rfl (by decide +kernel)
theorem d1_0 : decode jdk_29_method_69_code 0 = .ok (.iload_n 0, 1) := by decide +kernel
theorem d1_1 : decode jdk_29_method_69_code 1 = .ok (.iload_n 1, 1) := by decide +kernel
theorem d1_2 : decode jdk_29_method_69_code 2 = .ok (.if_icmp .gt 7, 3) := by decide +kernel
theorem d1_9 : decode jdk_29_method_69_code 9 = .ok (.iload_n 1, 1) := by decide +kernel
theorem d1_10 : decode jdk_29_method_69_code 10 = .ok (.ireturn, 1) := by decide +kernel
theorem d1_5 : decode jdk_29_method_69_code 5 = .ok (.iload_n 0, 1) := by decide +kernel
theorem d1_6 : decode jdk_29_method_69_code 6 = .ok (.goto 4, 3) := by decide +kernel
theorem pn_2 : plainFor (⟨"java/lang/Math", "max", "(II)I"⟩ : MethodName) = true := Jvm.Free.JP.mathPlain rfl (by decide +kernel)
theorem d2_0 : decode jdk_29_method_65_code 0 = .ok (.iload_n 0, 1) := by decide +kernel
theorem d2_1 : decode jdk_29_method_65_code 1 = .ok (.iload_n 1, 1) := by decide +kernel
theorem d2_2 : decode jdk_29_method_65_code 2 = .ok (.if_icmp .lt 7, 3) := by decide +kernel
theorem d2_9 : decode jdk_29_method_65_code 9 = .ok (.iload_n 1, 1) := by decide +kernel
theorem d2_10 : decode jdk_29_method_65_code 10 = .ok (.ireturn, 1) := by decide +kernel
theorem d2_5 : decode jdk_29_method_65_code 5 = .ok (.iload_n 0, 1) := by decide +kernel
theorem d2_6 : decode jdk_29_method_65_code 6 = .ok (.goto 4, 3) := by decide +kernel
theorem pnn_5 : plainName "com/example/valq/valq/CodePointSet" = true := by first | (simp [plainName, overriddenIn]; done) | decide +kernel
theorem pn_5 : plainFor (⟨"com/example/valq/valq/CodePointSet", "<init>", "([II[IZ)V"⟩ : MethodName) = true := plainFor_of_name pnn_5
theorem d5_0 : decode prog_9_method_2_code 0 = .ok (.aload_n 0, 1) := by decide +kernel
theorem d5_1 : decode prog_9_method_2_code 1 = .ok (.invokespecial 9, 3) := by decide +kernel
theorem d5_4 : decode prog_9_method_2_code 4 = .ok (.aload_n 0, 1) := by decide +kernel
theorem d5_5 : decode prog_9_method_2_code 5 = .ok (.aload_n 1, 1) := by decide +kernel
theorem d5_6 : decode prog_9_method_2_code 6 = .ok (.putfield 14, 3) := by decide +kernel
theorem d5_9 : decode prog_9_method_2_code 9 = .ok (.aload_n 0, 1) := by decide +kernel
theorem d5_10 : decode prog_9_method_2_code 10 = .ok (.iload_n 2, 1) := by decide +kernel
theorem d5_11 : decode prog_9_method_2_code 11 = .ok (.putfield 18, 3) := by decide +kernel
theorem d5_14 : decode prog_9_method_2_code 14 = .ok (.aload_n 0, 1) := by decide +kernel
theorem d5_15 : decode prog_9_method_2_code 15 = .ok (.aload_n 3, 1) := by decide +kernel
theorem d5_16 : decode prog_9_method_2_code 16 = .ok (.putfield 22, 3) := by decide +kernel
theorem d5_19 : decode prog_9_method_2_code 19 = .ok (.aload_n 0, 1) := by decide +kernel
theorem d5_20 : decode prog_9_method_2_code 20 = .ok (.iload 4, 2) := by decide +kernel
theorem d5_22 : decode prog_9_method_2_code 22 = .ok (.putfield 25, 3) := by decide +kernel
theorem d5_25 : decode prog_9_method_2_code 25 = .ok (.return_, 1) := by decide +kernel
theorem pnn_4 : plainName "com/example/valq/valq/CodePointSet" = true := by first | (simp [plainName, overriddenIn]; done) | decide +kernel
theorem pn_4 : plainFor (⟨"com/example/valq/valq/CodePointSet", "<init>", "([I)V"⟩ : MethodName) = true := plainFor_of_name pnn_4
theorem d4_0 : decode prog_9_method_1_code 0 = .ok (.aload_n 0, 1) := by decide +kernel
theorem d4_1 : decode prog_9_method_1_code 1 = .ok (.aload_n 1, 1) := by decide +kernel
theorem d4_2 : decode prog_9_method_1_code 2 = .ok (.iconst 0, 1) := by decide +kernel
theorem d4_3 : decode prog_9_method_1_code 3 = .ok (.aload_n 1, 1) := by decide +kernel
theorem d4_4 : decode prog_9_method_1_code 4 = .ok (.iconst 0, 1) := by decide +kernel
theorem pd_0 : parseMethodDescriptor "([II[IZ)V" = some ⟨[(.array .int), .int, (.array .int), .boolean], none⟩ := by decide +kernel
theorem d4_5 : decode prog_9_method_1_code 5 = .ok (.invokespecial 3, 3) := by decide +kernel
theorem d4_8 : decode prog_9_method_1_code 8 = .ok (.return_, 1) := by decide +kernel
theorem pnn_3 : plainName "com/example/valq/valq/CodePointSet" = true := by first | (simp [plainName, overriddenIn]; done) | decide +kernel
theorem pn_3 : plainFor (⟨"com/example/valq/valq/CodePointSet", "range", "(II)Lcom/example/valq/valq/CodePointSet;"⟩ : MethodName) = true := plainFor_of_name pnn_3
theorem d3_0 : decode prog_9_method_3_code 0 = .ok (.new 4, 3) := by decide +kernel
theorem d3_3 : decode prog_9_method_3_code 3 = .ok (.dup, 1) := by decide +kernel
theorem d3_4 : decode prog_9_method_3_code 4 = .ok (.iconst 2, 1) := by decide +kernel
theorem d3_5 : decode prog_9_method_3_code 5 = .ok (.newarray .int, 2) := by decide +kernel
theorem d3_7 : decode prog_9_method_3_code 7 = .ok (.dup, 1) := by decide +kernel
theorem d3_8 : decode prog_9_method_3_code 8 = .ok (.iconst 0, 1) := by decide +kernel
theorem d3_9 : decode prog_9_method_3_code 9 = .ok (.iload_n 0, 1) := by decide +kernel
theorem d3_10 : decode prog_9_method_3_code 10 = .ok (.iastore, 1) := by decide +kernel
theorem d3_11 : decode prog_9_method_3_code 11 = .ok (.dup, 1) := by decide +kernel
theorem d3_12 : decode prog_9_method_3_code 12 = .ok (.iconst 1, 1) := by decide +kernel
theorem d3_13 : decode prog_9_method_3_code 13 = .ok (.iload_n 1, 1) := by decide +kernel
theorem d3_14 : decode prog_9_method_3_code 14 = .ok (.iastore, 1) := by decide +kernel
theorem pd_1 : parseMethodDescriptor "([I)V" = some ⟨[(.array .int)], none⟩ := by decide +kernel
theorem d3_15 : decode prog_9_method_3_code 15 = .ok (.invokespecial 29, 3) := by decide +kernel
theorem d3_18 : decode prog_9_method_3_code 18 = .ok (.areturn, 1) := by decide +kernel
theorem pnn_7 : plainName "com/example/valq/valq/CodePointSet" = true := by first | (simp [plainName, overriddenIn]; done) | decide +kernel
theorem pn_7 : plainFor (⟨"com/example/valq/valq/CodePointSet", "contains", "(I)Z"⟩ : MethodName) = true := plainFor_of_name pnn_7
theorem d7_0 : decode prog_9_method_9_code 0 = .ok (.iconst 0, 1) := by decide +kernel
theorem d7_1 : decode prog_9_method_9_code 1 = .ok (.istore_n 2, 1) := by decide +kernel
theorem d7_2 : decode prog_9_method_9_code 2 = .ok (.aload_n 0, 1) := by decide +kernel
theorem d7_3 : decode prog_9_method_9_code 3 = .ok (.getfield 14, 3) := by decide +kernel
theorem d7_6 : decode prog_9_method_9_code 6 = .ok (.arraylength, 1) := by decide +kernel
theorem d7_7 : decode prog_9_method_9_code 7 = .ok (.iconst 2, 1) := by decide +kernel
theorem d7_8 : decode prog_9_method_9_code 8 = .ok (.idiv, 1) := by decide +kernel
theorem d7_9 : decode prog_9_method_9_code 9 = .ok (.iconst 1, 1) := by decide +kernel
theorem d7_10 : decode prog_9_method_9_code 10 = .ok (.isub, 1) := by decide +kernel
theorem d7_11 : decode prog_9_method_9_code 11 = .ok (.istore_n 3, 1) := by decide +kernel
theorem d7_12 : decode prog_9_method_9_code 12 = .ok (.iload_n 2, 1) := by decide +kernel
theorem d7_13 : decode prog_9_method_9_code 13 = .ok (.iload_n 3, 1) := by decide +kernel
theorem d7_14 : decode prog_9_method_9_code 14 = .ok (.if_icmp .gt 59, 3) := by decide +kernel
theorem d7_17 : decode prog_9_method_9_code 17 = .ok (.iload_n 2, 1) := by decide +kernel
theorem d7_18 : decode prog_9_method_9_code 18 = .ok (.iload_n 3, 1) := by decide +kernel
theorem d7_19 : decode prog_9_method_9_code 19 = .ok (.iadd, 1) := by decide +kernel
theorem d7_20 : decode prog_9_method_9_code 20 = .ok (.iconst 1, 1) := by decide +kernel
theorem d7_21 : decode prog_9_method_9_code 21 = .ok (.iushr, 1) := by decide +kernel
theorem d7_22 : decode prog_9_method_9_code 22 = .ok (.istore 4, 2) := by decide +kernel
theorem d7_24 : decode prog_9_method_9_code 24 = .ok (.iload_n 1, 1) := by decide +kernel
theorem d7_25 : decode prog_9_method_9_code 25 = .ok (.aload_n 0, 1) := by decide +kernel
theorem d7_26 : decode prog_9_method_9_code 26 = .ok (.getfield 14, 3) := by decide +kernel
theorem d7_29 : decode prog_9_method_9_code 29 = .ok (.iconst 2, 1) := by decide +kernel
theorem d7_30 : decode prog_9_method_9_code 30 = .ok (.iload 4, 2) := by decide +kernel
theorem d7_32 : decode prog_9_method_9_code 32 = .ok (.imul, 1) := by decide +kernel
theorem d7_33 : decode prog_9_method_9_code 33 = .ok (.iaload, 1) := by decide +kernel
theorem d7_34 : decode prog_9_method_9_code 34 = .ok (.if_icmp .ge 11, 3) := by decide +kernel
theorem d7_37 : decode prog_9_method_9_code 37 = .ok (.iload 4, 2) := by decide +kernel
theorem d7_39 : decode prog_9_method_9_code 39 = .ok (.iconst 1, 1) := by decide +kernel
theorem d7_40 : decode prog_9_method_9_code 40 = .ok (.isub, 1) := by decide +kernel
theorem d7_41 : decode prog_9_method_9_code 41 = .ok (.istore_n 3, 1) := by decide +kernel
theorem d7_42 : decode prog_9_method_9_code 42 = .ok (.goto 28, 3) := by decide +kernel
theorem d7_70 : decode prog_9_method_9_code 70 = .ok (.goto (-58), 3) := by decide +kernel
theorem d7_73 : decode prog_9_method_9_code 73 = .ok (.iconst 0, 1) := by decide +kernel
theorem d7_74 : decode prog_9_method_9_code 74 = .ok (.ireturn, 1) := by decide +kernel
theorem d7_45 : decode prog_9_method_9_code 45 = .ok (.iload_n 1, 1) := by decide +kernel
theorem d7_46 : decode prog_9_method_9_code 46 = .ok (.aload_n 0, 1) := by decide +kernel
theorem d7_47 : decode prog_9_method_9_code 47 = .ok (.getfield 14, 3) := by decide +kernel
theorem d7_50 : decode prog_9_method_9_code 50 = .ok (.iconst 2, 1) := by decide +kernel
theorem d7_51 : decode prog_9_method_9_code 51 = .ok (.iload 4, 2) := by decide +kernel
theorem d7_53 : decode prog_9_method_9_code 53 = .ok (.imul, 1) := by decide +kernel
theorem d7_54 : decode prog_9_method_9_code 54 = .ok (.iconst 1, 1) := by decide +kernel
theorem d7_55 : decode prog_9_method_9_code 55 = .ok (.iadd, 1) := by decide +kernel
theorem d7_56 : decode prog_9_method_9_code 56 = .ok (.iaload, 1) := by decide +kernel
theorem d7_57 : decode prog_9_method_9_code 57 = .ok (.if_icmp .le 11, 3) := by decide +kernel
theorem d7_60 : decode prog_9_method_9_code 60 = .ok (.iload 4, 2) := by decide +kernel
theorem d7_62 : decode prog_9_method_9_code 62 = .ok (.iconst 1, 1) := by decide +kernel
theorem d7_63 : decode prog_9_method_9_code 63 = .ok (.iadd, 1) := by decide +kernel
theorem d7_64 : decode prog_9_method_9_code 64 = .ok (.istore_n 2, 1) := by decide +kernel
theorem d7_65 : decode prog_9_method_9_code 65 = .ok (.goto 5, 3) := by decide +kernel
theorem d7_68 : decode prog_9_method_9_code 68 = .ok (.iconst 1, 1) := by decide +kernel
theorem d7_69 : decode prog_9_method_9_code 69 = .ok (.ireturn, 1) := by decide +kernel
theorem pnn_8 : plainName "com/example/valq/valq/CodePointSet" = true := by first | (simp [plainName, overriddenIn]; done) | decide +kernel
theorem pn_8 : plainFor (⟨"com/example/valq/valq/CodePointSet", "only", "()I"⟩ : MethodName) = true := plainFor_of_name pnn_8
theorem d8_0 : decode prog_9_method_10_code 0 = .ok (.aload_n 0, 1) := by decide +kernel
theorem d8_1 : decode prog_9_method_10_code 1 = .ok (.getfield 14, 3) := by decide +kernel
theorem d8_4 : decode prog_9_method_10_code 4 = .ok (.arraylength, 1) := by decide +kernel
theorem d8_5 : decode prog_9_method_10_code 5 = .ok (.iconst 2, 1) := by decide +kernel
theorem d8_6 : decode prog_9_method_10_code 6 = .ok (.if_icmp .ne 27, 3) := by decide +kernel
theorem d8_9 : decode prog_9_method_10_code 9 = .ok (.aload_n 0, 1) := by decide +kernel
theorem d8_10 : decode prog_9_method_10_code 10 = .ok (.getfield 14, 3) := by decide +kernel
theorem d8_13 : decode prog_9_method_10_code 13 = .ok (.iconst 0, 1) := by decide +kernel
theorem d8_14 : decode prog_9_method_10_code 14 = .ok (.iaload, 1) := by decide +kernel
theorem d8_15 : decode prog_9_method_10_code 15 = .ok (.aload_n 0, 1) := by decide +kernel
theorem d8_16 : decode prog_9_method_10_code 16 = .ok (.getfield 14, 3) := by decide +kernel
theorem d8_19 : decode prog_9_method_10_code 19 = .ok (.iconst 1, 1) := by decide +kernel
theorem d8_20 : decode prog_9_method_10_code 20 = .ok (.iaload, 1) := by decide +kernel
theorem d8_21 : decode prog_9_method_10_code 21 = .ok (.if_icmp .ne 12, 3) := by decide +kernel
theorem d8_24 : decode prog_9_method_10_code 24 = .ok (.aload_n 0, 1) := by decide +kernel
theorem d8_25 : decode prog_9_method_10_code 25 = .ok (.getfield 14, 3) := by decide +kernel
theorem d8_28 : decode prog_9_method_10_code 28 = .ok (.iconst 0, 1) := by decide +kernel
theorem d8_29 : decode prog_9_method_10_code 29 = .ok (.iaload, 1) := by decide +kernel
theorem d8_30 : decode prog_9_method_10_code 30 = .ok (.goto 4, 3) := by decide +kernel
theorem d8_34 : decode prog_9_method_10_code 34 = .ok (.ireturn, 1) := by decide +kernel
theorem d8_33 : decode prog_9_method_10_code 33 = .ok (.iconst (-1), 1) := by decide +kernel
theorem pnn_9 : plainName "com/example/valq/valq/CodePointSet" = true := by first | (simp [plainName, overriddenIn]; done) | decide +kernel
theorem pn_9 : plainFor (⟨"com/example/valq/valq/CodePointSet", "listedCount", "()I"⟩ : MethodName) = true := plainFor_of_name pnn_9
theorem d9_0 : decode prog_9_method_12_code 0 = .ok (.aload_n 0, 1) := by decide +kernel
theorem d9_1 : decode prog_9_method_12_code 1 = .ok (.getfield 22, 3) := by decide +kernel
theorem d9_4 : decode prog_9_method_12_code 4 = .ok (.arraylength, 1) := by decide +kernel
theorem d9_5 : decode prog_9_method_12_code 5 = .ok (.iconst 2, 1) := by decide +kernel
theorem d9_6 : decode prog_9_method_12_code 6 = .ok (.idiv, 1) := by decide +kernel
theorem d9_7 : decode prog_9_method_12_code 7 = .ok (.ireturn, 1) := by decide +kernel
theorem pnn_10 : plainName "com/example/valq/valq/CodePointSet" = true := by first | (simp [plainName, overriddenIn]; done) | decide +kernel
theorem pn_10 : plainFor (⟨"com/example/valq/valq/CodePointSet", "listedFirst", "(I)I"⟩ : MethodName) = true := plainFor_of_name pnn_10
theorem d10_0 : decode prog_9_method_13_code 0 = .ok (.aload_n 0, 1) := by decide +kernel
theorem d10_1 : decode prog_9_method_13_code 1 = .ok (.getfield 22, 3) := by decide +kernel
theorem d10_4 : decode prog_9_method_13_code 4 = .ok (.iconst 2, 1) := by decide +kernel
theorem d10_5 : decode prog_9_method_13_code 5 = .ok (.iload_n 1, 1) := by decide +kernel
theorem d10_6 : decode prog_9_method_13_code 6 = .ok (.imul, 1) := by decide +kernel
theorem d10_7 : decode prog_9_method_13_code 7 = .ok (.iaload, 1) := by decide +kernel
theorem d10_8 : decode prog_9_method_13_code 8 = .ok (.ireturn, 1) := by decide +kernel
theorem pnn_11 : plainName "com/example/valq/valq/CodePointSet" = true := by first | (simp [plainName, overriddenIn]; done) | decide +kernel
theorem pn_11 : plainFor (⟨"com/example/valq/valq/CodePointSet", "listedLast", "(I)I"⟩ : MethodName) = true := plainFor_of_name pnn_11
theorem d11_0 : decode prog_9_method_14_code 0 = .ok (.aload_n 0, 1) := by decide +kernel
theorem d11_1 : decode prog_9_method_14_code 1 = .ok (.getfield 22, 3) := by decide +kernel
theorem d11_4 : decode prog_9_method_14_code 4 = .ok (.iconst 2, 1) := by decide +kernel
theorem d11_5 : decode prog_9_method_14_code 5 = .ok (.iload_n 1, 1) := by decide +kernel
theorem d11_6 : decode prog_9_method_14_code 6 = .ok (.imul, 1) := by decide +kernel
theorem d11_7 : decode prog_9_method_14_code 7 = .ok (.iconst 1, 1) := by decide +kernel
theorem d11_8 : decode prog_9_method_14_code 8 = .ok (.iadd, 1) := by decide +kernel
theorem d11_9 : decode prog_9_method_14_code 9 = .ok (.iaload, 1) := by decide +kernel
theorem d11_10 : decode prog_9_method_14_code 10 = .ok (.ireturn, 1) := by decide +kernel
theorem pnn_12 : plainName "com/example/valq/valq/CodePointSet" = true := by first | (simp [plainName, overriddenIn]; done) | decide +kernel
theorem pn_12 : plainFor (⟨"com/example/valq/valq/CodePointSet", "categories", "()I"⟩ : MethodName) = true := plainFor_of_name pnn_12
theorem d12_0 : decode prog_9_method_11_code 0 = .ok (.aload_n 0, 1) := by decide +kernel
theorem d12_1 : decode prog_9_method_11_code 1 = .ok (.getfield 18, 3) := by decide +kernel
theorem d12_4 : decode prog_9_method_11_code 4 = .ok (.ireturn, 1) := by decide +kernel
theorem pnn_13 : plainName "com/example/valq/valq/CodePointSet" = true := by first | (simp [plainName, overriddenIn]; done) | decide +kernel
theorem pn_13 : plainFor (⟨"com/example/valq/valq/CodePointSet", "complemented", "()Z"⟩ : MethodName) = true := plainFor_of_name pnn_13
theorem d13_0 : decode prog_9_method_15_code 0 = .ok (.aload_n 0, 1) := by decide +kernel
theorem d13_1 : decode prog_9_method_15_code 1 = .ok (.getfield 25, 3) := by decide +kernel
theorem d13_4 : decode prog_9_method_15_code 4 = .ok (.ireturn, 1) := by decide +kernel
theorem pnn_0 : plainName "com/example/valq/valq/CodePointSetRangePinLaw" = true := by first | (simp [plainName, overriddenIn]; done) | decide +kernel
theorem pn_0 : plainFor (⟨"com/example/valq/valq/CodePointSetRangePinLaw", "law", "(IIII)Z"⟩ : MethodName) = true := plainFor_of_name pnn_0
theorem pd_2 : parseMethodDescriptor "(II)I" = some ⟨[.int, .int], some .int⟩ := by decide +kernel
theorem pd_3 : parseMethodDescriptor "(II)Lcom/example/valq/valq/CodePointSet;" = some ⟨[.int, .int], some (.object "com/example/valq/valq/CodePointSet")⟩ := by decide +kernel
theorem pd_4 : parseMethodDescriptor "(I)Z" = some ⟨[.int], some .boolean⟩ := by decide +kernel
theorem pd_5 : parseMethodDescriptor "()I" = some ⟨[], some .int⟩ := by decide +kernel
theorem pd_6 : parseMethodDescriptor "(I)I" = some ⟨[.int], some .int⟩ := by decide +kernel
theorem pd_7 : parseMethodDescriptor "()Z" = some ⟨[], some .boolean⟩ := by decide +kernel
def own_min (x y : Int32) : Int32 := if y < x then y else x
def own_max (x y : Int32) : Int32 := if x < y then y else x
def own_inr (lo hi x : Int32) : Int32 := if x < lo then 0 else if hi < x then 0 else 1
def own_only (lo hi : Int32) : Int32 := if lo = hi then lo else -1
theorem own_le (x y : Int32) : ¬ own_max x y < own_min x y := by
  unfold own_min own_max
  split <;> split <;> rename_i q1 q2 <;> rw [Int32.lt_iff_toInt_lt] at * <;> omega
set_option maxRecDepth 65536 in
set_option maxHeartbeats 40000000 in
theorem rm1 (l : Launch) (Z : State) (a0 : Array Value) (hw : ∀ d ∈ tables_1, d.before a0 Z = true) (p0 : Int32) (p1 : Int32) (h0 : Heap) :
    own_C l (⟨"java/lang/Math", "min", "(II)I"⟩ : MethodName) jdk_29_method_69_code 2 (some .int) ({ frames := 0, cells := 0, slots := 0, locals := 0 } : Room) Z #[(.int p0), (.int p1)] h0 (fun v h L => v = some (.int (own_min p0 p1)) ∧ L = [] ∧ h = h0) := by
  refine own_enter pn_1 ?_
  intro p e s m below meth c s₁ X0 hx hby hml hown hnm hret hlk hZ e0
  replace hown : s.vm.findClass "java/lang/Math" = some m.cls := hown
  have ef : entryFrame m #[(.int p0), (.int p1)] 2 = mkF m 0 #[.val (.int p0), .val (.int p1)] [] := by first | rfl | (simp [entryFrame, mkF, argsToLocals, Value.category, maxLocals]; done)
  refine own_cast ef ?_
  show own_Ends _ _ _ _ _ _ _ s₁ (mkF m 0 #[.val (.int p0), .val (.int p1)] [])
  refine own_go (fun _ k => XS.iloadN X0.here hx rfl (hb hby d1_0) rfl k) ?_
  show own_Ends _ _ _ _ _ _ _ s₁ (mkF m 1 #[.val (.int p0), .val (.int p1)] [(.int p0)])
  refine own_go (fun _ k => XS.iloadN X0.here hx rfl (hb hby d1_1) rfl k) ?_
  show own_Ends _ _ _ _ _ _ _ s₁ (mkF m 2 #[.val (.int p0), .val (.int p1)] [(.int p1), (.int p0)])
  by_cases h1 : p1 < p0
  · refine own_go (fun _ k => XS.icmpYes X0.here hx rfl (pc0 := 2) (pc' := 9) rfl (hb hby d1_2) rfl (tlt h1).2.2.1 (by decide) (by decide) k) ?_
    show own_Ends _ _ _ _ _ _ _ s₁ (mkF m 9 #[.val (.int p0), .val (.int p1)] [])
    refine own_go (fun _ k => XS.iloadN X0.here hx rfl (hb hby d1_9) rfl k) ?_
    show own_Ends _ _ _ _ _ _ _ s₁ (mkF m 10 #[.val (.int p0), .val (.int p1)] [(.int p1)])
    exact own_retI X0 hx hlk hret (hb hby d1_10) (by decide) (by decide) ⟨by rw [own_min, if_pos h1], rfl, e0⟩
  · refine own_go (fun _ k => XS.icmpNo X0.here hx rfl (hb hby d1_2) rfl (flt h1).2.2.1 k) ?_
    show own_Ends _ _ _ _ _ _ _ s₁ (mkF m 5 #[.val (.int p0), .val (.int p1)] [])
    refine own_go (fun _ k => XS.iloadN X0.here hx rfl (hb hby d1_5) rfl k) ?_
    show own_Ends _ _ _ _ _ _ _ s₁ (mkF m 6 #[.val (.int p0), .val (.int p1)] [(.int p0)])
    refine own_go (fun _ k => XS.goto X0.here hx rfl (pc0 := 6) (pc' := 10) rfl (hb hby d1_6) (by decide) (by decide) k) ?_
    show own_Ends _ _ _ _ _ _ _ s₁ (mkF m 10 #[.val (.int p0), .val (.int p1)] [(.int p0)])
    exact own_retI X0 hx hlk hret (hb hby d1_10) (by decide) (by decide) ⟨by rw [own_min, if_neg h1], rfl, e0⟩
set_option maxRecDepth 65536 in
set_option maxHeartbeats 40000000 in
theorem rm2 (l : Launch) (Z : State) (a0 : Array Value) (hw : ∀ d ∈ tables_1, d.before a0 Z = true) (p0 : Int32) (p1 : Int32) (h0 : Heap) :
    own_C l (⟨"java/lang/Math", "max", "(II)I"⟩ : MethodName) jdk_29_method_65_code 2 (some .int) ({ frames := 0, cells := 0, slots := 0, locals := 0 } : Room) Z #[(.int p0), (.int p1)] h0 (fun v h L => v = some (.int (own_max p0 p1)) ∧ L = [] ∧ h = h0) := by
  refine own_enter pn_2 ?_
  intro p e s m below meth c s₁ X0 hx hby hml hown hnm hret hlk hZ e0
  replace hown : s.vm.findClass "java/lang/Math" = some m.cls := hown
  have ef : entryFrame m #[(.int p0), (.int p1)] 2 = mkF m 0 #[.val (.int p0), .val (.int p1)] [] := by first | rfl | (simp [entryFrame, mkF, argsToLocals, Value.category, maxLocals]; done)
  refine own_cast ef ?_
  show own_Ends _ _ _ _ _ _ _ s₁ (mkF m 0 #[.val (.int p0), .val (.int p1)] [])
  refine own_go (fun _ k => XS.iloadN X0.here hx rfl (hb hby d2_0) rfl k) ?_
  show own_Ends _ _ _ _ _ _ _ s₁ (mkF m 1 #[.val (.int p0), .val (.int p1)] [(.int p0)])
  refine own_go (fun _ k => XS.iloadN X0.here hx rfl (hb hby d2_1) rfl k) ?_
  show own_Ends _ _ _ _ _ _ _ s₁ (mkF m 2 #[.val (.int p0), .val (.int p1)] [(.int p1), (.int p0)])
  by_cases h1 : p0 < p1
  · refine own_go (fun _ k => XS.icmpYes X0.here hx rfl (pc0 := 2) (pc' := 9) rfl (hb hby d2_2) rfl (tlt h1).1 (by decide) (by decide) k) ?_
    show own_Ends _ _ _ _ _ _ _ s₁ (mkF m 9 #[.val (.int p0), .val (.int p1)] [])
    refine own_go (fun _ k => XS.iloadN X0.here hx rfl (hb hby d2_9) rfl k) ?_
    show own_Ends _ _ _ _ _ _ _ s₁ (mkF m 10 #[.val (.int p0), .val (.int p1)] [(.int p1)])
    exact own_retI X0 hx hlk hret (hb hby d2_10) (by decide) (by decide) ⟨by rw [own_max, if_pos h1], rfl, e0⟩
  · refine own_go (fun _ k => XS.icmpNo X0.here hx rfl (hb hby d2_2) rfl (flt h1).1 k) ?_
    show own_Ends _ _ _ _ _ _ _ s₁ (mkF m 5 #[.val (.int p0), .val (.int p1)] [])
    refine own_go (fun _ k => XS.iloadN X0.here hx rfl (hb hby d2_5) rfl k) ?_
    show own_Ends _ _ _ _ _ _ _ s₁ (mkF m 6 #[.val (.int p0), .val (.int p1)] [(.int p0)])
    refine own_go (fun _ k => XS.goto X0.here hx rfl (pc0 := 6) (pc' := 10) rfl (hb hby d2_6) (by decide) (by decide) k) ?_
    show own_Ends _ _ _ _ _ _ _ s₁ (mkF m 10 #[.val (.int p0), .val (.int p1)] [(.int p0)])
    exact own_retI X0 hx hlk hret (hb hby d2_10) (by decide) (by decide) ⟨by rw [own_max, if_neg h1], rfl, e0⟩
set_option maxRecDepth 65536 in
set_option maxHeartbeats 40000000 in
theorem rm5 (l : Launch) (Z : State) (a0 : Array Value) (hw : ∀ d ∈ tables_1, d.before a0 Z = true) (o0 : Addr) (r1 : Addr) (p2 : Int32) (r3 : Addr) (p4 : Int32) (h0 : Heap) (n0 : Nat) (Z0 : n0 ≤ h0.size) (E : Exa Z h0 o0 "com/example/valq/valq/CodePointSet") (F_bounds : Fld Z h0 o0 "com/example/valq/valq/CodePointSet" "bounds" "[I" .null) (F_categories : Fld Z h0 o0 "com/example/valq/valq/CodePointSet" "categories" "I" (.int (0 : Int32))) (F_listed : Fld Z h0 o0 "com/example/valq/valq/CodePointSet" "listed" "[I" .null) (F_complemented : Fld Z h0 o0 "com/example/valq/valq/CodePointSet" "complemented" "Z" (.int (0 : Int32))) (g : n0 ≤ o0) (hp : p4 = 0) :
    own_C l (⟨"com/example/valq/valq/CodePointSet", "<init>", "([II[IZ)V"⟩ : MethodName) prog_9_method_2_code 5 none ({ frames := 1, cells := 0, slots := 0, locals := 12 } : Room) Z #[(.ref o0), (.ref r1), (.int p2), (.ref r3), (.int p4)] h0 (fun v h L => v = none ∧ Fr n0 L ∧ Keep h0 h [o0] ∧ Exa Z h o0 "com/example/valq/valq/CodePointSet" ∧ Fld Z h o0 "com/example/valq/valq/CodePointSet" "bounds" "[I" (.ref r1) ∧ Fld Z h o0 "com/example/valq/valq/CodePointSet" "categories" "I" (.int p2) ∧ Fld Z h o0 "com/example/valq/valq/CodePointSet" "listed" "[I" (.ref r3) ∧ Fld Z h o0 "com/example/valq/valq/CodePointSet" "complemented" "Z" (.int (0 : Int32))) := by
  refine own_enter pn_5 ?_
  intro p e s m below meth c s₁ X0 hx hby hml hown hnm hret hlk hZ e0
  replace hown : s.vm.findClass "com/example/valq/valq/CodePointSet" = some m.cls := hown
  have ef : entryFrame m #[(.ref o0), (.ref r1), (.int p2), (.ref r3), (.int p4)] 5 = mkF m 0 #[.val (.ref o0), .val (.ref r1), .val (.int p2), .val (.ref r3), .val (.int p4)] [] := by first | rfl | (simp [entryFrame, mkF, argsToLocals, Value.category, maxLocals]; done)
  refine own_cast ef ?_
  show own_Ends _ _ _ _ _ _ _ s₁ (mkF m 0 #[.val (.ref o0), .val (.ref r1), .val (.int p2), .val (.ref r3), .val (.int p4)] [])
  subst hp
  show own_Ends _ _ _ _ _ _ _ s₁ (mkF m 0 #[.val (.ref o0), .val (.ref r1), .val (.int p2), .val (.ref r3), .val (.int (0 : Int32))] [])
  have N0 := Fr.nil n0
  have K0 : Keep h0 h0 [o0] := Keep.refl _ _
  refine own_go (fun _ k => XS.aloadN X0.here hx rfl (hb hby d5_0) rfl rfl k) ?_
  show own_Ends _ _ _ _ _ _ _ s₁ (mkF m 1 #[.val (.ref o0), .val (.ref r1), .val (.int p2), .val (.ref r3), .val (.int (0 : Int32))] [(.ref o0)])
  obtain ⟨T1, X1, e1, st1⟩ := initO X0 hx hZ hown (hw _ (List.mem_of_getElem? (i := 22) rfl)) (hw _ (List.mem_of_getElem? (i := 23) rfl)) (hw _ (List.mem_of_getElem? (i := 24) rfl)) e0 (g := (mkF m 1 #[.val (.ref o0), .val (.ref r1), .val (.int p2), .val (.ref r3), .val (.int (0 : Int32))] [(.ref o0)])) rfl (by rw [hml]; rfl) rfl (hb hby d5_1) (by decide) (W := 0) (by show 2 * 0 + _ ≤ _; exact Nat.le_of_eq rfl) (by decide)
  refine own_go st1 ?_
  show own_Ends _ _ _ _ _ _ _ T1 (mkF m 4 #[.val (.ref o0), .val (.ref r1), .val (.int p2), .val (.ref r3), .val (.int (0 : Int32))] [])
  refine own_go (fun _ k => XS.aloadN X1.here hx rfl (hb hby d5_4) rfl rfl k) ?_
  show own_Ends _ _ _ _ _ _ _ T1 (mkF m 5 #[.val (.ref o0), .val (.ref r1), .val (.int p2), .val (.ref r3), .val (.int (0 : Int32))] [(.ref o0)])
  refine own_go (fun _ k => XS.aloadN X1.here hx rfl (hb hby d5_5) rfl rfl k) ?_
  show own_Ends _ _ _ _ _ _ _ T1 (mkF m 6 #[.val (.ref o0), .val (.ref r1), .val (.int p2), .val (.ref r3), .val (.int (0 : Int32))] [(.ref r1), (.ref o0)])
  obtain ⟨T2, h2, X2, e2, W2, st2⟩ := putF X1 hx hZ hown (host := "") (Or.inl (hw _ (List.mem_of_getElem? (i := 25) rfl))) Via.refl e1 F_bounds E (Or.inr ⟨(hw _ (List.mem_of_getElem? (i := 26) rfl)), rfl, hnm⟩) (hw _ (List.mem_of_getElem? (i := 14) rfl)) (ty := (.array .int)) (by decide) rfl rfl (g := (mkF m 6 #[.val (.ref o0), .val (.ref r1), .val (.int p2), .val (.ref r3), .val (.int (0 : Int32))] [(.ref r1), (.ref o0)])) rfl rfl (hb hby d5_6)
  have N2 := Fr.snoc X2 N0 g
  have K_2 := K0.wr W2 (Or.inl (List.mem_of_getElem? (i := 0) rfl))
  have E_o0_2 := E.wr W2
  have F_o0_bounds_2 := F_bounds.same W2
  have F_o0_categories_2 := F_categories.other W2 (Or.inr (slot_ne (Or.inr (hw _ (List.mem_of_getElem? (i := 28) rfl))) (Or.inr (hw _ (List.mem_of_getElem? (i := 26) rfl))) (by decide) (t := .int) (t' := (.array .int)) (by decide) (by decide)))
  have F_o0_listed_2 := F_listed.other W2 (Or.inr (slot_ne (Or.inr (hw _ (List.mem_of_getElem? (i := 30) rfl))) (Or.inr (hw _ (List.mem_of_getElem? (i := 26) rfl))) (by decide) (t := (.array .int)) (t' := (.array .int)) (by decide) (by decide)))
  have F_o0_complemented_2 := F_complemented.other W2 (Or.inr (slot_ne (Or.inr (hw _ (List.mem_of_getElem? (i := 32) rfl))) (Or.inr (hw _ (List.mem_of_getElem? (i := 26) rfl))) (by decide) (t := .boolean) (t' := (.array .int)) (by decide) (by decide)))
  refine own_go st2 ?_
  show own_Ends _ _ _ _ _ _ _ T2 (mkF m 9 #[.val (.ref o0), .val (.ref r1), .val (.int p2), .val (.ref r3), .val (.int (0 : Int32))] [])
  refine own_go (fun _ k => XS.aloadN X2.here hx rfl (hb hby d5_9) rfl rfl k) ?_
  show own_Ends _ _ _ _ _ _ _ T2 (mkF m 10 #[.val (.ref o0), .val (.ref r1), .val (.int p2), .val (.ref r3), .val (.int (0 : Int32))] [(.ref o0)])
  refine own_go (fun _ k => XS.iloadN X2.here hx rfl (hb hby d5_10) rfl k) ?_
  show own_Ends _ _ _ _ _ _ _ T2 (mkF m 11 #[.val (.ref o0), .val (.ref r1), .val (.int p2), .val (.ref r3), .val (.int (0 : Int32))] [(.int p2), (.ref o0)])
  obtain ⟨T3, h3, X3, e3, W3, st3⟩ := putF X2 hx hZ hown (host := "") (Or.inl (hw _ (List.mem_of_getElem? (i := 27) rfl))) Via.refl e2 F_o0_categories_2 E_o0_2 (Or.inr ⟨(hw _ (List.mem_of_getElem? (i := 28) rfl)), rfl, hnm⟩) (hw _ (List.mem_of_getElem? (i := 14) rfl)) (ty := .int) (by decide) rfl rfl (g := (mkF m 11 #[.val (.ref o0), .val (.ref r1), .val (.int p2), .val (.ref r3), .val (.int (0 : Int32))] [(.int p2), (.ref o0)])) rfl rfl (hb hby d5_11)
  have N3 := Fr.snoc X3 N2 g
  have K_3 := K_2.wr W3 (Or.inl (List.mem_of_getElem? (i := 0) rfl))
  have E_o0_3 := E_o0_2.wr W3
  have F_o0_bounds_3 := F_o0_bounds_2.other W3 (Or.inr (slot_ne (Or.inr (hw _ (List.mem_of_getElem? (i := 26) rfl))) (Or.inr (hw _ (List.mem_of_getElem? (i := 28) rfl))) (by decide) (t := (.array .int)) (t' := .int) (by decide) (by decide)))
  have F_o0_categories_3 := F_o0_categories_2.same W3
  have F_o0_listed_3 := F_o0_listed_2.other W3 (Or.inr (slot_ne (Or.inr (hw _ (List.mem_of_getElem? (i := 30) rfl))) (Or.inr (hw _ (List.mem_of_getElem? (i := 28) rfl))) (by decide) (t := (.array .int)) (t' := .int) (by decide) (by decide)))
  have F_o0_complemented_3 := F_o0_complemented_2.other W3 (Or.inr (slot_ne (Or.inr (hw _ (List.mem_of_getElem? (i := 32) rfl))) (Or.inr (hw _ (List.mem_of_getElem? (i := 28) rfl))) (by decide) (t := .boolean) (t' := .int) (by decide) (by decide)))
  refine own_go st3 ?_
  show own_Ends _ _ _ _ _ _ _ T3 (mkF m 14 #[.val (.ref o0), .val (.ref r1), .val (.int p2), .val (.ref r3), .val (.int (0 : Int32))] [])
  refine own_go (fun _ k => XS.aloadN X3.here hx rfl (hb hby d5_14) rfl rfl k) ?_
  show own_Ends _ _ _ _ _ _ _ T3 (mkF m 15 #[.val (.ref o0), .val (.ref r1), .val (.int p2), .val (.ref r3), .val (.int (0 : Int32))] [(.ref o0)])
  refine own_go (fun _ k => XS.aloadN X3.here hx rfl (hb hby d5_15) rfl rfl k) ?_
  show own_Ends _ _ _ _ _ _ _ T3 (mkF m 16 #[.val (.ref o0), .val (.ref r1), .val (.int p2), .val (.ref r3), .val (.int (0 : Int32))] [(.ref r3), (.ref o0)])
  obtain ⟨T4, h4, X4, e4, W4, st4⟩ := putF X3 hx hZ hown (host := "") (Or.inl (hw _ (List.mem_of_getElem? (i := 29) rfl))) Via.refl e3 F_o0_listed_3 E_o0_3 (Or.inr ⟨(hw _ (List.mem_of_getElem? (i := 30) rfl)), rfl, hnm⟩) (hw _ (List.mem_of_getElem? (i := 14) rfl)) (ty := (.array .int)) (by decide) rfl rfl (g := (mkF m 16 #[.val (.ref o0), .val (.ref r1), .val (.int p2), .val (.ref r3), .val (.int (0 : Int32))] [(.ref r3), (.ref o0)])) rfl rfl (hb hby d5_16)
  have N4 := Fr.snoc X4 N3 g
  have K_4 := K_3.wr W4 (Or.inl (List.mem_of_getElem? (i := 0) rfl))
  have E_o0_4 := E_o0_3.wr W4
  have F_o0_bounds_4 := F_o0_bounds_3.other W4 (Or.inr (slot_ne (Or.inr (hw _ (List.mem_of_getElem? (i := 26) rfl))) (Or.inr (hw _ (List.mem_of_getElem? (i := 30) rfl))) (by decide) (t := (.array .int)) (t' := (.array .int)) (by decide) (by decide)))
  have F_o0_categories_4 := F_o0_categories_3.other W4 (Or.inr (slot_ne (Or.inr (hw _ (List.mem_of_getElem? (i := 28) rfl))) (Or.inr (hw _ (List.mem_of_getElem? (i := 30) rfl))) (by decide) (t := .int) (t' := (.array .int)) (by decide) (by decide)))
  have F_o0_listed_4 := F_o0_listed_3.same W4
  have F_o0_complemented_4 := F_o0_complemented_3.other W4 (Or.inr (slot_ne (Or.inr (hw _ (List.mem_of_getElem? (i := 32) rfl))) (Or.inr (hw _ (List.mem_of_getElem? (i := 30) rfl))) (by decide) (t := .boolean) (t' := (.array .int)) (by decide) (by decide)))
  refine own_go st4 ?_
  show own_Ends _ _ _ _ _ _ _ T4 (mkF m 19 #[.val (.ref o0), .val (.ref r1), .val (.int p2), .val (.ref r3), .val (.int (0 : Int32))] [])
  refine own_go (fun _ k => XS.aloadN X4.here hx rfl (hb hby d5_19) rfl rfl k) ?_
  show own_Ends _ _ _ _ _ _ _ T4 (mkF m 20 #[.val (.ref o0), .val (.ref r1), .val (.int p2), .val (.ref r3), .val (.int (0 : Int32))] [(.ref o0)])
  refine own_go (fun _ k => XS.iload X4.here hx rfl (hb hby d5_20) rfl k) ?_
  show own_Ends _ _ _ _ _ _ _ T4 (mkF m 22 #[.val (.ref o0), .val (.ref r1), .val (.int p2), .val (.ref r3), .val (.int (0 : Int32))] [(.int (0 : Int32)), (.ref o0)])
  obtain ⟨T5, h5, X5, e5, W5, st5⟩ := putFN X4 hx hZ hown (hw _ (List.mem_of_getElem? (i := 31) rfl)) Via.refl e4 F_o0_complemented_4 E_o0_4 (Or.inr ⟨(hw _ (List.mem_of_getElem? (i := 32) rfl)), rfl, hnm⟩) (hw _ (List.mem_of_getElem? (i := 14) rfl)) (ty := .boolean) (v' := (.int (0 : Int32))) (by decide) rfl (by first | rfl | exact fits_nar_bool _) (g := (mkF m 22 #[.val (.ref o0), .val (.ref r1), .val (.int p2), .val (.ref r3), .val (.int (0 : Int32))] [(.int (0 : Int32)), (.ref o0)])) rfl rfl (hb hby d5_22)
  have N5 := Fr.snoc X5 N4 g
  have K_5 := K_4.wr W5 (Or.inl (List.mem_of_getElem? (i := 0) rfl))
  have E_o0_5 := E_o0_4.wr W5
  have F_o0_bounds_5 := F_o0_bounds_4.other W5 (Or.inr (slot_ne (Or.inr (hw _ (List.mem_of_getElem? (i := 26) rfl))) (Or.inr (hw _ (List.mem_of_getElem? (i := 32) rfl))) (by decide) (t := (.array .int)) (t' := .boolean) (by decide) (by decide)))
  have F_o0_categories_5 := F_o0_categories_4.other W5 (Or.inr (slot_ne (Or.inr (hw _ (List.mem_of_getElem? (i := 28) rfl))) (Or.inr (hw _ (List.mem_of_getElem? (i := 32) rfl))) (by decide) (t := .int) (t' := .boolean) (by decide) (by decide)))
  have F_o0_listed_5 := F_o0_listed_4.other W5 (Or.inr (slot_ne (Or.inr (hw _ (List.mem_of_getElem? (i := 30) rfl))) (Or.inr (hw _ (List.mem_of_getElem? (i := 32) rfl))) (by decide) (t := (.array .int)) (t' := .boolean) (by decide) (by decide)))
  have F_o0_complemented_5 := F_o0_complemented_4.same W5
  refine own_go st5 ?_
  show own_Ends _ _ _ _ _ _ _ T5 (mkF m 25 #[.val (.ref o0), .val (.ref r1), .val (.int p2), .val (.ref r3), .val (.int (0 : Int32))] [])
  exact own_retV X5 hx hlk hret (hb hby d5_25) (by decide) (by decide) (by rw [e5]; exact ⟨rfl, N5, K_5, E_o0_5, F_o0_bounds_5, F_o0_categories_5, F_o0_listed_5, F_o0_complemented_5⟩)
set_option maxRecDepth 65536 in
set_option maxHeartbeats 40000000 in
theorem rm4 (l : Launch) (Z : State) (a0 : Array Value) (hw : ∀ d ∈ tables_1, d.before a0 Z = true) (o0 : Addr) (r1 : Addr) (h0 : Heap) (n0 : Nat) (Z0 : n0 ≤ h0.size) (E : Exa Z h0 o0 "com/example/valq/valq/CodePointSet") (F_bounds : Fld Z h0 o0 "com/example/valq/valq/CodePointSet" "bounds" "[I" .null) (F_categories : Fld Z h0 o0 "com/example/valq/valq/CodePointSet" "categories" "I" (.int (0 : Int32))) (F_listed : Fld Z h0 o0 "com/example/valq/valq/CodePointSet" "listed" "[I" .null) (F_complemented : Fld Z h0 o0 "com/example/valq/valq/CodePointSet" "complemented" "Z" (.int (0 : Int32))) (g : n0 ≤ o0) :
    own_C l (⟨"com/example/valq/valq/CodePointSet", "<init>", "([I)V"⟩ : MethodName) prog_9_method_1_code 2 none ({ frames := 2, cells := 0, slots := 0, locals := 40 } : Room) Z #[(.ref o0), (.ref r1)] h0 (fun v h L => v = none ∧ Fr n0 L ∧ Keep h0 h [o0] ∧ Exa Z h o0 "com/example/valq/valq/CodePointSet" ∧ Fld Z h o0 "com/example/valq/valq/CodePointSet" "bounds" "[I" (.ref r1) ∧ Fld Z h o0 "com/example/valq/valq/CodePointSet" "categories" "I" (.int (0 : Int32)) ∧ Fld Z h o0 "com/example/valq/valq/CodePointSet" "listed" "[I" (.ref r1) ∧ Fld Z h o0 "com/example/valq/valq/CodePointSet" "complemented" "Z" (.int (0 : Int32))) := by
  refine own_enter pn_4 ?_
  intro p e s m below meth c s₁ X0 hx hby hml hown hnm hret hlk hZ e0
  replace hown : s.vm.findClass "com/example/valq/valq/CodePointSet" = some m.cls := hown
  have ef : entryFrame m #[(.ref o0), (.ref r1)] 2 = mkF m 0 #[.val (.ref o0), .val (.ref r1)] [] := by first | rfl | (simp [entryFrame, mkF, argsToLocals, Value.category, maxLocals]; done)
  refine own_cast ef ?_
  show own_Ends _ _ _ _ _ _ _ s₁ (mkF m 0 #[.val (.ref o0), .val (.ref r1)] [])
  have N0 := Fr.nil n0
  have K0 : Keep h0 h0 [o0] := Keep.refl _ _
  refine own_go (fun _ k => XS.aloadN X0.here hx rfl (hb hby d4_0) rfl rfl k) ?_
  show own_Ends _ _ _ _ _ _ _ s₁ (mkF m 1 #[.val (.ref o0), .val (.ref r1)] [(.ref o0)])
  refine own_go (fun _ k => XS.aloadN X0.here hx rfl (hb hby d4_1) rfl rfl k) ?_
  show own_Ends _ _ _ _ _ _ _ s₁ (mkF m 2 #[.val (.ref o0), .val (.ref r1)] [(.ref r1), (.ref o0)])
  refine own_go (fun _ k => XS.iconst X0.here hx rfl (hb hby d4_2) k) ?_
  show own_Ends _ _ _ _ _ _ _ s₁ (mkF m 3 #[.val (.ref o0), .val (.ref r1)] [(.int (0 : Int32)), (.ref r1), (.ref o0)])
  refine own_go (fun _ k => XS.aloadN X0.here hx rfl (hb hby d4_3) rfl rfl k) ?_
  show own_Ends _ _ _ _ _ _ _ s₁ (mkF m 4 #[.val (.ref o0), .val (.ref r1)] [(.ref r1), (.int (0 : Int32)), (.ref r1), (.ref o0)])
  refine own_go (fun _ k => XS.iconst X0.here hx rfl (hb hby d4_4) k) ?_
  show own_Ends _ _ _ _ _ _ _ s₁ (mkF m 5 #[.val (.ref o0), .val (.ref r1)] [(.int (0 : Int32)), (.ref r1), (.int (0 : Int32)), (.ref r1), (.ref o0)])
  obtain ⟨v6, T6, L6, X6, hQ6, st6⟩ := own_callI X0 hx hZ hown rfl (hw _ (List.mem_of_getElem? (i := 19) rfl)) (hw _ (List.mem_of_getElem? (i := 20) rfl)) (hw _ (List.mem_of_getElem? (i := 11) rfl)) (hw _ (List.mem_of_getElem? (i := 21) rfl)) (rm5 l Z a0 hw o0 r1 0 r1 0 h0 n0 Z0 E F_bounds F_categories F_listed F_complemented g rfl) e0 (g := (mkF m 5 #[.val (.ref o0), .val (.ref r1)] [(.int (0 : Int32)), (.ref r1), (.int (0 : Int32)), (.ref r1), (.ref o0)])) rfl (by rw [hml]; rfl) (a := o0) (argsL := [(.ref r1), (.int (0 : Int32)), (.ref r1), (.int (0 : Int32))]) (rest := []) (lenOf pd_0 rfl) rfl rfl (W := 0) (by show 2 * 0 + _ ≤ _; exact Nat.le_of_eq rfl) (hb hby d4_5) (by decide) (by decide) (by decide) (by decide) (by decide)
  obtain ⟨rfl, N6q, K6, E6, B6, C6, D6, G6⟩ := hQ6
  refine own_go st6 ?_
  have N6 := Fr.app N0 N6q
  have K_6 := K0.trans K6 (allS (Or.inl (List.mem_of_getElem? (i := 0) rfl)) all0)
  have E_o0_6 := E.keep K6
  show own_Ends _ _ _ _ _ _ _ T6 (mkF m 8 #[.val (.ref o0), .val (.ref r1)] [])
  exact own_retV X6 hx hlk hret (hb hby d4_8) (by decide) (by decide) ⟨rfl, N6, K_6, E_o0_6, B6, C6, D6, G6⟩
set_option maxRecDepth 65536 in
set_option maxHeartbeats 40000000 in
theorem rm3 (l : Launch) (Z : State) (a0 : Array Value) (hw : ∀ d ∈ tables_1, d.before a0 Z = true) (p0 : Int32) (p1 : Int32) (h0 : Heap) (n0 : Nat) (Z0 : n0 ≤ h0.size) :
    own_C l (⟨"com/example/valq/valq/CodePointSet", "range", "(II)Lcom/example/valq/valq/CodePointSet;"⟩ : MethodName) prog_9_method_3_code 2 (some (.object "com/example/valq/valq/CodePointSet")) ({ frames := 3, cells := 2, slots := 7, locals := 60 } : Room) Z #[(.int p0), (.int p1)] h0 (fun v h L => ∃ (bo ba : Addr) (k : ClassId) (f : Nat → Value), v = some (.ref bo) ∧ Fr n0 L ∧ Keep h0 h [] ∧ Exa Z h bo "com/example/valq/valq/CodePointSet" ∧ Fld Z h bo "com/example/valq/valq/CodePointSet" "bounds" "[I" (.ref ba) ∧ Fld Z h bo "com/example/valq/valq/CodePointSet" "categories" "I" (.int (0 : Int32)) ∧ Fld Z h bo "com/example/valq/valq/CodePointSet" "listed" "[I" (.ref ba) ∧ Fld Z h bo "com/example/valq/valq/CodePointSet" "complemented" "Z" (.int (0 : Int32)) ∧ own_Ar Z h ba k .int 2 f ∧ f 0 = .int p0 ∧ f 1 = .int p1) := by
  refine own_enter pn_3 ?_
  intro p e s m below meth c s₁ X0 hx hby hml hown hnm hret hlk hZ e0
  replace hown : s.vm.findClass "com/example/valq/valq/CodePointSet" = some m.cls := hown
  have ef : entryFrame m #[(.int p0), (.int p1)] 2 = mkF m 0 #[.val (.int p0), .val (.int p1)] [] := by first | rfl | (simp [entryFrame, mkF, argsToLocals, Value.category, maxLocals]; done)
  refine own_cast ef ?_
  show own_Ends _ _ _ _ _ _ _ s₁ (mkF m 0 #[.val (.int p0), .val (.int p1)] [])
  have N0 := Fr.nil n0
  have K0 : Keep h0 h0 [] := Keep.refl _ _
  obtain ⟨T7, h7, X7, e7, E7, A7, D7, -, st7⟩ := newO X0 hx hZ hown (hw _ (List.mem_of_getElem? (i := 13) rfl)) (hw _ (List.mem_of_getElem? (i := 14) rfl)) (hw _ (List.mem_of_getElem? (i := 11) rfl)) e0 (g := (mkF m 0 #[.val (.int p0), .val (.int p1)] [])) rfl (hb hby d3_0) (by decide) (by decide)
  obtain ⟨bo, gq7⟩ : ∃ z, z = h0.size := ⟨_, rfl⟩
  rw [← gq7] at A7 D7 st7
  have sz_bo : h0.size ≤ bo := Nat.le_trans K0.1 (Nat.le_of_eq gq7.symm)
  have g_bo : n0 ≤ bo := Nat.le_trans Z0 sz_bo
  have K_7 := K0.ext E7
  have F_bounds_bo : Fld Z h7 bo "com/example/valq/valq/CodePointSet" "bounds" "[I" .null := D7 (Or.inr (hw _ (List.mem_of_getElem? (i := 26) rfl))) (ty := (.array .int)) (by decide)
  have F_categories_bo : Fld Z h7 bo "com/example/valq/valq/CodePointSet" "categories" "I" (.int (0 : Int32)) := D7 (Or.inr (hw _ (List.mem_of_getElem? (i := 28) rfl))) (ty := .int) (by decide)
  have F_listed_bo : Fld Z h7 bo "com/example/valq/valq/CodePointSet" "listed" "[I" .null := D7 (Or.inr (hw _ (List.mem_of_getElem? (i := 30) rfl))) (ty := (.array .int)) (by decide)
  have F_complemented_bo : Fld Z h7 bo "com/example/valq/valq/CodePointSet" "complemented" "Z" (.int (0 : Int32)) := D7 (Or.inr (hw _ (List.mem_of_getElem? (i := 32) rfl))) (ty := .boolean) (by decide)
  refine own_go st7 ?_
  show own_Ends _ _ _ _ _ _ _ T7 (mkF m 3 #[.val (.int p0), .val (.int p1)] [(.ref bo)])
  refine own_go (fun _ k => XS.dup X7.here hx rfl (hb hby d3_3) rfl rfl k) ?_
  show own_Ends _ _ _ _ _ _ _ T7 (mkF m 4 #[.val (.int p0), .val (.int p1)] [(.ref bo), (.ref bo)])
  refine own_go (fun _ k => XS.iconst X7.here hx rfl (hb hby d3_4) k) ?_
  show own_Ends _ _ _ _ _ _ _ T7 (mkF m 5 #[.val (.int p0), .val (.int p1)] [(.int (2 : Int32)), (.ref bo), (.ref bo)])
  obtain ⟨T8, h8, k8, X8, e8, E8, A8, st8⟩ := own_newP X7 hx hZ (aty := .int) (hw _ (List.mem_of_getElem? (i := 15) rfl)) e7 (g := (mkF m 5 #[.val (.int p0), .val (.int p1)] [(.int (2 : Int32)), (.ref bo), (.ref bo)])) rfl (hb hby d3_5) rfl (by decide) (n := 2) (by decide) (cap := 2) (by decide) (by decide) (by decide) (by decide)
  obtain ⟨ba, gq8⟩ : ∃ z, z = h7.size := ⟨_, rfl⟩
  rw [← gq8] at A8 st8
  have ne_bo_ba : bo ≠ ba := Nat.ne_of_lt (Nat.lt_of_lt_of_le A7.lt (Nat.le_of_eq gq8.symm))
  have sz_ba : h0.size ≤ ba := Nat.le_trans K_7.1 (Nat.le_of_eq gq8.symm)
  have g_ba : n0 ≤ ba := Nat.le_trans Z0 sz_ba
  have K_8 := K_7.ext E8
  have E_bo_8 := A7.ext E8
  have F_bo_bounds_8 := F_bounds_bo.ext E8
  have F_bo_categories_8 := F_categories_bo.ext E8
  have F_bo_listed_8 := F_listed_bo.ext E8
  have F_bo_complemented_8 := F_complemented_bo.ext E8
  have V_ba : own_Ar Z h8 ba k8 .int 2 (fun _ => (.int (0 : Int32))) := A8
  refine own_go st8 ?_
  show own_Ends _ _ _ _ _ _ _ T8 (mkF m 7 #[.val (.int p0), .val (.int p1)] [(.ref ba), (.ref bo), (.ref bo)])
  refine own_go (fun _ k => XS.dup X8.here hx rfl (hb hby d3_7) rfl rfl k) ?_
  show own_Ends _ _ _ _ _ _ _ T8 (mkF m 8 #[.val (.int p0), .val (.int p1)] [(.ref ba), (.ref ba), (.ref bo), (.ref bo)])
  refine own_go (fun _ k => XS.iconst X8.here hx rfl (hb hby d3_8) k) ?_
  show own_Ends _ _ _ _ _ _ _ T8 (mkF m 9 #[.val (.int p0), .val (.int p1)] [(.int (0 : Int32)), (.ref ba), (.ref ba), (.ref bo), (.ref bo)])
  refine own_go (fun _ k => XS.iloadN X8.here hx rfl (hb hby d3_9) rfl k) ?_
  show own_Ends _ _ _ _ _ _ _ T8 (mkF m 10 #[.val (.int p0), .val (.int p1)] [(.int p0), (.int (0 : Int32)), (.ref ba), (.ref ba), (.ref bo), (.ref bo)])
  obtain ⟨T9, h9, X9, e9, W9, V9, st9⟩ := own_stI X8 hx hZ e8 V_ba (i := 0) (by decide) (by decide) (by decide) (g := (mkF m 10 #[.val (.int p0), .val (.int p1)] [(.int p0), (.int (0 : Int32)), (.ref ba), (.ref ba), (.ref bo), (.ref bo)])) rfl rfl (hb hby d3_10)
  have N9 := Fr.snoc X9 N0 g_ba
  have K_9 := K_8.wr W9 (Or.inr sz_ba)
  have E_bo_9 := E_bo_8.wr W9
  have F_bo_bounds_9 := F_bo_bounds_8.other W9 (Or.inl ne_bo_ba)
  have F_bo_categories_9 := F_bo_categories_8.other W9 (Or.inl ne_bo_ba)
  have F_bo_listed_9 := F_bo_listed_8.other W9 (Or.inl ne_bo_ba)
  have F_bo_complemented_9 := F_bo_complemented_8.other W9 (Or.inl ne_bo_ba)
  refine own_go st9 ?_
  show own_Ends _ _ _ _ _ _ _ T9 (mkF m 11 #[.val (.int p0), .val (.int p1)] [(.ref ba), (.ref bo), (.ref bo)])
  refine own_go (fun _ k => XS.dup X9.here hx rfl (hb hby d3_11) rfl rfl k) ?_
  show own_Ends _ _ _ _ _ _ _ T9 (mkF m 12 #[.val (.int p0), .val (.int p1)] [(.ref ba), (.ref ba), (.ref bo), (.ref bo)])
  refine own_go (fun _ k => XS.iconst X9.here hx rfl (hb hby d3_12) k) ?_
  show own_Ends _ _ _ _ _ _ _ T9 (mkF m 13 #[.val (.int p0), .val (.int p1)] [(.int (1 : Int32)), (.ref ba), (.ref ba), (.ref bo), (.ref bo)])
  refine own_go (fun _ k => XS.iloadN X9.here hx rfl (hb hby d3_13) rfl k) ?_
  show own_Ends _ _ _ _ _ _ _ T9 (mkF m 14 #[.val (.int p0), .val (.int p1)] [(.int p1), (.int (1 : Int32)), (.ref ba), (.ref ba), (.ref bo), (.ref bo)])
  obtain ⟨T10, h10, X10, e10, W10, V10, st10⟩ := own_stI X9 hx hZ e9 V9 (i := 1) (by decide) (by decide) (by decide) (g := (mkF m 14 #[.val (.int p0), .val (.int p1)] [(.int p1), (.int (1 : Int32)), (.ref ba), (.ref ba), (.ref bo), (.ref bo)])) rfl rfl (hb hby d3_14)
  have N10 := Fr.snoc X10 N9 g_ba
  have K_10 := K_9.wr W10 (Or.inr sz_ba)
  have E_bo_10 := E_bo_9.wr W10
  have F_bo_bounds_10 := F_bo_bounds_9.other W10 (Or.inl ne_bo_ba)
  have F_bo_categories_10 := F_bo_categories_9.other W10 (Or.inl ne_bo_ba)
  have F_bo_listed_10 := F_bo_listed_9.other W10 (Or.inl ne_bo_ba)
  have F_bo_complemented_10 := F_bo_complemented_9.other W10 (Or.inl ne_bo_ba)
  refine own_go st10 ?_
  show own_Ends _ _ _ _ _ _ _ T10 (mkF m 15 #[.val (.int p0), .val (.int p1)] [(.ref ba), (.ref bo), (.ref bo)])
  obtain ⟨v11, T11, L11, X11, hQ11, st11⟩ := own_callI X10 hx hZ hown rfl (hw _ (List.mem_of_getElem? (i := 16) rfl)) (hw _ (List.mem_of_getElem? (i := 17) rfl)) (hw _ (List.mem_of_getElem? (i := 11) rfl)) (hw _ (List.mem_of_getElem? (i := 18) rfl)) (rm4 l Z a0 hw bo ba h10 n0 (Nat.le_trans Z0 K_10.1) E_bo_10 F_bo_bounds_10 F_bo_categories_10 F_bo_listed_10 F_bo_complemented_10 g_bo) e10 (g := (mkF m 15 #[.val (.int p0), .val (.int p1)] [(.ref ba), (.ref bo), (.ref bo)])) rfl (by rw [hml]; rfl) (a := bo) (argsL := [(.ref ba)]) (rest := [(.ref bo)]) (lenOf pd_1 rfl) rfl rfl (W := 1) (by show 2 * 0 + _ ≤ _; exact Nat.le_of_eq rfl) (hb hby d3_15) (by decide) (by decide) (by decide) (by decide) (by decide)
  obtain ⟨rfl, N11q, K11, E11, B11, C11, D11, G11⟩ := hQ11
  refine own_go st11 ?_
  have N11 := Fr.app N10 N11q
  have K_11 := K_10.trans K11 (allS (Or.inr sz_bo) all0)
  have E_bo_11 := E_bo_10.keep K11
  have V_ba_11 := V10.keep K11 (ninS (Ne.symm ne_bo_ba) nin0)
  show own_Ends _ _ _ _ _ _ _ T11 (mkF m 18 #[.val (.int p0), .val (.int p1)] [(.ref bo)])
  exact own_retR X11 hx hlk hret rfl rfl rfl (hb hby d3_18) (by decide) (by decide) ⟨bo, ba, k8, (fun j => if j = 1 then (.int p1) else (fun j => if j = 0 then (.int p0) else (fun _ => (.int (0 : Int32))) j) j), rfl, N11, K_11, E_bo_11, B11, C11, D11, G11, V_ba_11, by first | rfl | simp, by first | rfl | simp⟩
set_option maxRecDepth 65536 in
set_option maxHeartbeats 40000000 in
theorem rm7 (l : Launch) (Z : State) (a0 : Array Value) (hw : ∀ d ∈ tables_1, d.before a0 Z = true) (o0 : Addr) (p1 : Int32) (h0 : Heap) (ba : Addr) (kc : ClassId) (f : Nat → Value) (lo : Int32) (hi : Int32) (F : Fld Z h0 o0 "com/example/valq/valq/CodePointSet" "bounds" "[I" (.ref ba)) (A : own_Ar Z h0 ba kc .int 2 f) (f0 : f 0 = .int lo) (f1 : f 1 = .int hi) :
    own_C l (⟨"com/example/valq/valq/CodePointSet", "contains", "(I)Z"⟩ : MethodName) prog_9_method_9_code 5 (some .boolean) ({ frames := 0, cells := 0, slots := 0, locals := 0 } : Room) Z #[(.ref o0), (.int p1)] h0 (fun v h L => v = some (.int (own_inr lo hi p1)) ∧ L = [] ∧ h = h0) := by
  refine own_enter pn_7 ?_
  intro p e s m below meth c s₁ X0 hx hby hml hown hnm hret hlk hZ e0
  replace hown : s.vm.findClass "com/example/valq/valq/CodePointSet" = some m.cls := hown
  have ef : entryFrame m #[(.ref o0), (.int p1)] 5 = mkF m 0 #[.val (.ref o0), .val (.int p1), .unset, .unset, .unset] [] := by first | rfl | (simp [entryFrame, mkF, argsToLocals, Value.category, maxLocals]; done)
  refine own_cast ef ?_
  show own_Ends _ _ _ _ _ _ _ s₁ (mkF m 0 #[.val (.ref o0), .val (.int p1), .unset, .unset, .unset] [])
  refine own_go (fun _ k => XS.iconst X0.here hx rfl (hb hby d7_0) k) ?_
  show own_Ends _ _ _ _ _ _ _ s₁ (mkF m 1 #[.val (.ref o0), .val (.int p1), .unset, .unset, .unset] [(.int (0 : Int32))])
  refine own_go (fun _ k => XS.istoreN X0.here hx rfl (hb hby d7_1) rfl (l' := #[.val (.ref o0), .val (.int p1), .val (.int (0 : Int32)), .unset, .unset]) rfl k) ?_
  show own_Ends _ _ _ _ _ _ _ s₁ (mkF m 2 #[.val (.ref o0), .val (.int p1), .val (.int (0 : Int32)), .unset, .unset] [])
  refine own_go (fun _ k => XS.aloadN X0.here hx rfl (hb hby d7_2) rfl rfl k) ?_
  show own_Ends _ _ _ _ _ _ _ s₁ (mkF m 3 #[.val (.ref o0), .val (.int p1), .val (.int (0 : Int32)), .unset, .unset] [(.ref o0)])
  obtain ⟨T12, X12, e12, st12⟩ := getF X0 hx hZ hown (host := "") (Or.inl (hw _ (List.mem_of_getElem? (i := 25) rfl))) Via.refl e0 F (g := (mkF m 3 #[.val (.ref o0), .val (.int p1), .val (.int (0 : Int32)), .unset, .unset] [(.ref o0)])) rfl rfl (hb hby d7_3)
  refine own_go st12 ?_
  show own_Ends _ _ _ _ _ _ _ T12 (mkF m 6 #[.val (.ref o0), .val (.int p1), .val (.int (0 : Int32)), .unset, .unset] [(.ref ba)])
  refine own_go (fun _ k => own_len X12 hx hZ e12 A (z := (2 : Int32)) rfl (g := (mkF m 6 #[.val (.ref o0), .val (.int p1), .val (.int (0 : Int32)), .unset, .unset] [(.ref ba)])) rfl rfl (hb hby d7_6) _ k) ?_
  show own_Ends _ _ _ _ _ _ _ T12 (mkF m 7 #[.val (.ref o0), .val (.int p1), .val (.int (0 : Int32)), .unset, .unset] [(.int (2 : Int32))])
  refine own_go (fun _ k => XS.iconst X12.here hx rfl (hb hby d7_7) k) ?_
  show own_Ends _ _ _ _ _ _ _ T12 (mkF m 8 #[.val (.ref o0), .val (.int p1), .val (.int (0 : Int32)), .unset, .unset] [(.int (2 : Int32)), (.int (2 : Int32))])
  refine own_go (fun _ k => XS.idiv X12.here hx rfl (hb hby d7_8) rfl (by decide) k) ?_
  show own_Ends _ _ _ _ _ _ _ T12 (mkF m 9 #[.val (.ref o0), .val (.int p1), .val (.int (0 : Int32)), .unset, .unset] [(.int ((2 : Int32) / (2 : Int32)))])
  refine own_go (fun _ k => XS.iconst X12.here hx rfl (hb hby d7_9) k) ?_
  show own_Ends _ _ _ _ _ _ _ T12 (mkF m 10 #[.val (.ref o0), .val (.int p1), .val (.int (0 : Int32)), .unset, .unset] [(.int (1 : Int32)), (.int ((2 : Int32) / (2 : Int32)))])
  refine own_go (fun _ k => XS.isub X12.here hx rfl (hb hby d7_10) rfl k) ?_
  show own_Ends _ _ _ _ _ _ _ T12 (mkF m 11 #[.val (.ref o0), .val (.int p1), .val (.int (0 : Int32)), .unset, .unset] [(.int (((2 : Int32) / (2 : Int32)) - (1 : Int32)))])
  refine own_go (fun _ k => XS.istoreN X12.here hx rfl (hb hby d7_11) rfl (l' := #[.val (.ref o0), .val (.int p1), .val (.int (0 : Int32)), .val (.int (((2 : Int32) / (2 : Int32)) - (1 : Int32))), .unset]) rfl k) ?_
  show own_Ends _ _ _ _ _ _ _ T12 (mkF m 12 #[.val (.ref o0), .val (.int p1), .val (.int (0 : Int32)), .val (.int (((2 : Int32) / (2 : Int32)) - (1 : Int32))), .unset] [])
  refine own_go (fun _ k => XS.iloadN X12.here hx rfl (hb hby d7_12) rfl k) ?_
  show own_Ends _ _ _ _ _ _ _ T12 (mkF m 13 #[.val (.ref o0), .val (.int p1), .val (.int (0 : Int32)), .val (.int (((2 : Int32) / (2 : Int32)) - (1 : Int32))), .unset] [(.int (0 : Int32))])
  refine own_go (fun _ k => XS.iloadN X12.here hx rfl (hb hby d7_13) rfl k) ?_
  show own_Ends _ _ _ _ _ _ _ T12 (mkF m 14 #[.val (.ref o0), .val (.int p1), .val (.int (0 : Int32)), .val (.int (((2 : Int32) / (2 : Int32)) - (1 : Int32))), .unset] [(.int (((2 : Int32) / (2 : Int32)) - (1 : Int32))), (.int (0 : Int32))])
  refine own_go (fun _ k => XS.icmpNo X12.here hx rfl (hb hby d7_14) rfl (flt (by decide)).2.2.1 k) ?_
  show own_Ends _ _ _ _ _ _ _ T12 (mkF m 17 #[.val (.ref o0), .val (.int p1), .val (.int (0 : Int32)), .val (.int (((2 : Int32) / (2 : Int32)) - (1 : Int32))), .unset] [])
  refine own_go (fun _ k => XS.iloadN X12.here hx rfl (hb hby d7_17) rfl k) ?_
  show own_Ends _ _ _ _ _ _ _ T12 (mkF m 18 #[.val (.ref o0), .val (.int p1), .val (.int (0 : Int32)), .val (.int (((2 : Int32) / (2 : Int32)) - (1 : Int32))), .unset] [(.int (0 : Int32))])
  refine own_go (fun _ k => XS.iloadN X12.here hx rfl (hb hby d7_18) rfl k) ?_
  show own_Ends _ _ _ _ _ _ _ T12 (mkF m 19 #[.val (.ref o0), .val (.int p1), .val (.int (0 : Int32)), .val (.int (((2 : Int32) / (2 : Int32)) - (1 : Int32))), .unset] [(.int (((2 : Int32) / (2 : Int32)) - (1 : Int32))), (.int (0 : Int32))])
  refine own_go (fun _ k => XS.iadd X12.here hx rfl (hb hby d7_19) rfl k) ?_
  show own_Ends _ _ _ _ _ _ _ T12 (mkF m 20 #[.val (.ref o0), .val (.int p1), .val (.int (0 : Int32)), .val (.int (((2 : Int32) / (2 : Int32)) - (1 : Int32))), .unset] [(.int ((0 : Int32) + (((2 : Int32) / (2 : Int32)) - (1 : Int32))))])
  refine own_go (fun _ k => XS.iconst X12.here hx rfl (hb hby d7_20) k) ?_
  show own_Ends _ _ _ _ _ _ _ T12 (mkF m 21 #[.val (.ref o0), .val (.int p1), .val (.int (0 : Int32)), .val (.int (((2 : Int32) / (2 : Int32)) - (1 : Int32))), .unset] [(.int (1 : Int32)), (.int ((0 : Int32) + (((2 : Int32) / (2 : Int32)) - (1 : Int32))))])
  refine own_go (fun _ k => XS.iushr X12.here hx rfl (hb hby d7_21) rfl k) ?_
  show own_Ends _ _ _ _ _ _ _ T12 (mkF m 22 #[.val (.ref o0), .val (.int p1), .val (.int (0 : Int32)), .val (.int (((2 : Int32) / (2 : Int32)) - (1 : Int32))), .unset] [(.int ((((0 : Int32) + (((2 : Int32) / (2 : Int32)) - (1 : Int32))).toUInt32 >>> ((1 : Int32) &&& 31).toUInt32).toInt32))])
  refine own_go (fun _ k => XS.istore X12.here hx rfl (hb hby d7_22) rfl (l' := #[.val (.ref o0), .val (.int p1), .val (.int (0 : Int32)), .val (.int (((2 : Int32) / (2 : Int32)) - (1 : Int32))), .val (.int ((((0 : Int32) + (((2 : Int32) / (2 : Int32)) - (1 : Int32))).toUInt32 >>> ((1 : Int32) &&& 31).toUInt32).toInt32))]) rfl k) ?_
  show own_Ends _ _ _ _ _ _ _ T12 (mkF m 24 #[.val (.ref o0), .val (.int p1), .val (.int (0 : Int32)), .val (.int (((2 : Int32) / (2 : Int32)) - (1 : Int32))), .val (.int ((((0 : Int32) + (((2 : Int32) / (2 : Int32)) - (1 : Int32))).toUInt32 >>> ((1 : Int32) &&& 31).toUInt32).toInt32))] [])
  refine own_go (fun _ k => XS.iloadN X12.here hx rfl (hb hby d7_24) rfl k) ?_
  show own_Ends _ _ _ _ _ _ _ T12 (mkF m 25 #[.val (.ref o0), .val (.int p1), .val (.int (0 : Int32)), .val (.int (((2 : Int32) / (2 : Int32)) - (1 : Int32))), .val (.int ((((0 : Int32) + (((2 : Int32) / (2 : Int32)) - (1 : Int32))).toUInt32 >>> ((1 : Int32) &&& 31).toUInt32).toInt32))] [(.int p1)])
  refine own_go (fun _ k => XS.aloadN X12.here hx rfl (hb hby d7_25) rfl rfl k) ?_
  show own_Ends _ _ _ _ _ _ _ T12 (mkF m 26 #[.val (.ref o0), .val (.int p1), .val (.int (0 : Int32)), .val (.int (((2 : Int32) / (2 : Int32)) - (1 : Int32))), .val (.int ((((0 : Int32) + (((2 : Int32) / (2 : Int32)) - (1 : Int32))).toUInt32 >>> ((1 : Int32) &&& 31).toUInt32).toInt32))] [(.ref o0), (.int p1)])
  obtain ⟨T13, X13, e13, st13⟩ := getF X12 hx hZ hown (host := "") (Or.inl (hw _ (List.mem_of_getElem? (i := 25) rfl))) Via.refl e12 F (g := (mkF m 26 #[.val (.ref o0), .val (.int p1), .val (.int (0 : Int32)), .val (.int (((2 : Int32) / (2 : Int32)) - (1 : Int32))), .val (.int ((((0 : Int32) + (((2 : Int32) / (2 : Int32)) - (1 : Int32))).toUInt32 >>> ((1 : Int32) &&& 31).toUInt32).toInt32))] [(.ref o0), (.int p1)])) rfl rfl (hb hby d7_26)
  refine own_go st13 ?_
  show own_Ends _ _ _ _ _ _ _ T13 (mkF m 29 #[.val (.ref o0), .val (.int p1), .val (.int (0 : Int32)), .val (.int (((2 : Int32) / (2 : Int32)) - (1 : Int32))), .val (.int ((((0 : Int32) + (((2 : Int32) / (2 : Int32)) - (1 : Int32))).toUInt32 >>> ((1 : Int32) &&& 31).toUInt32).toInt32))] [(.ref ba), (.int p1)])
  refine own_go (fun _ k => XS.iconst X13.here hx rfl (hb hby d7_29) k) ?_
  show own_Ends _ _ _ _ _ _ _ T13 (mkF m 30 #[.val (.ref o0), .val (.int p1), .val (.int (0 : Int32)), .val (.int (((2 : Int32) / (2 : Int32)) - (1 : Int32))), .val (.int ((((0 : Int32) + (((2 : Int32) / (2 : Int32)) - (1 : Int32))).toUInt32 >>> ((1 : Int32) &&& 31).toUInt32).toInt32))] [(.int (2 : Int32)), (.ref ba), (.int p1)])
  refine own_go (fun _ k => XS.iload X13.here hx rfl (hb hby d7_30) rfl k) ?_
  show own_Ends _ _ _ _ _ _ _ T13 (mkF m 32 #[.val (.ref o0), .val (.int p1), .val (.int (0 : Int32)), .val (.int (((2 : Int32) / (2 : Int32)) - (1 : Int32))), .val (.int ((((0 : Int32) + (((2 : Int32) / (2 : Int32)) - (1 : Int32))).toUInt32 >>> ((1 : Int32) &&& 31).toUInt32).toInt32))] [(.int ((((0 : Int32) + (((2 : Int32) / (2 : Int32)) - (1 : Int32))).toUInt32 >>> ((1 : Int32) &&& 31).toUInt32).toInt32)), (.int (2 : Int32)), (.ref ba), (.int p1)])
  refine own_go (fun _ k => XS.imul X13.here hx rfl (hb hby d7_32) rfl k) ?_
  show own_Ends _ _ _ _ _ _ _ T13 (mkF m 33 #[.val (.ref o0), .val (.int p1), .val (.int (0 : Int32)), .val (.int (((2 : Int32) / (2 : Int32)) - (1 : Int32))), .val (.int ((((0 : Int32) + (((2 : Int32) / (2 : Int32)) - (1 : Int32))).toUInt32 >>> ((1 : Int32) &&& 31).toUInt32).toInt32))] [(.int ((2 : Int32) * ((((0 : Int32) + (((2 : Int32) / (2 : Int32)) - (1 : Int32))).toUInt32 >>> ((1 : Int32) &&& 31).toUInt32).toInt32))), (.ref ba), (.int p1)])
  refine own_go (fun _ k => own_ldI X13 hx hZ e13 A (i := 0) (v := (.int lo)) (by decide) (by decide) (by decide) f0 (g := (mkF m 33 #[.val (.ref o0), .val (.int p1), .val (.int (0 : Int32)), .val (.int (((2 : Int32) / (2 : Int32)) - (1 : Int32))), .val (.int ((((0 : Int32) + (((2 : Int32) / (2 : Int32)) - (1 : Int32))).toUInt32 >>> ((1 : Int32) &&& 31).toUInt32).toInt32))] [(.int ((2 : Int32) * ((((0 : Int32) + (((2 : Int32) / (2 : Int32)) - (1 : Int32))).toUInt32 >>> ((1 : Int32) &&& 31).toUInt32).toInt32))), (.ref ba), (.int p1)])) rfl rfl (hb hby d7_33) _ k) ?_
  show own_Ends _ _ _ _ _ _ _ T13 (mkF m 34 #[.val (.ref o0), .val (.int p1), .val (.int (0 : Int32)), .val (.int (((2 : Int32) / (2 : Int32)) - (1 : Int32))), .val (.int ((((0 : Int32) + (((2 : Int32) / (2 : Int32)) - (1 : Int32))).toUInt32 >>> ((1 : Int32) &&& 31).toUInt32).toInt32))] [(.int lo), (.int p1)])
  by_cases h1 : p1 < lo
  · refine own_go (fun _ k => XS.icmpNo X13.here hx rfl (hb hby d7_34) rfl (tlt h1).2.1 k) ?_
    show own_Ends _ _ _ _ _ _ _ T13 (mkF m 37 #[.val (.ref o0), .val (.int p1), .val (.int (0 : Int32)), .val (.int (((2 : Int32) / (2 : Int32)) - (1 : Int32))), .val (.int ((((0 : Int32) + (((2 : Int32) / (2 : Int32)) - (1 : Int32))).toUInt32 >>> ((1 : Int32) &&& 31).toUInt32).toInt32))] [])
    refine own_go (fun _ k => XS.iload X13.here hx rfl (hb hby d7_37) rfl k) ?_
    show own_Ends _ _ _ _ _ _ _ T13 (mkF m 39 #[.val (.ref o0), .val (.int p1), .val (.int (0 : Int32)), .val (.int (((2 : Int32) / (2 : Int32)) - (1 : Int32))), .val (.int ((((0 : Int32) + (((2 : Int32) / (2 : Int32)) - (1 : Int32))).toUInt32 >>> ((1 : Int32) &&& 31).toUInt32).toInt32))] [(.int ((((0 : Int32) + (((2 : Int32) / (2 : Int32)) - (1 : Int32))).toUInt32 >>> ((1 : Int32) &&& 31).toUInt32).toInt32))])
    refine own_go (fun _ k => XS.iconst X13.here hx rfl (hb hby d7_39) k) ?_
    show own_Ends _ _ _ _ _ _ _ T13 (mkF m 40 #[.val (.ref o0), .val (.int p1), .val (.int (0 : Int32)), .val (.int (((2 : Int32) / (2 : Int32)) - (1 : Int32))), .val (.int ((((0 : Int32) + (((2 : Int32) / (2 : Int32)) - (1 : Int32))).toUInt32 >>> ((1 : Int32) &&& 31).toUInt32).toInt32))] [(.int (1 : Int32)), (.int ((((0 : Int32) + (((2 : Int32) / (2 : Int32)) - (1 : Int32))).toUInt32 >>> ((1 : Int32) &&& 31).toUInt32).toInt32))])
    refine own_go (fun _ k => XS.isub X13.here hx rfl (hb hby d7_40) rfl k) ?_
    show own_Ends _ _ _ _ _ _ _ T13 (mkF m 41 #[.val (.ref o0), .val (.int p1), .val (.int (0 : Int32)), .val (.int (((2 : Int32) / (2 : Int32)) - (1 : Int32))), .val (.int ((((0 : Int32) + (((2 : Int32) / (2 : Int32)) - (1 : Int32))).toUInt32 >>> ((1 : Int32) &&& 31).toUInt32).toInt32))] [(.int (((((0 : Int32) + (((2 : Int32) / (2 : Int32)) - (1 : Int32))).toUInt32 >>> ((1 : Int32) &&& 31).toUInt32).toInt32) - (1 : Int32)))])
    refine own_go (fun _ k => XS.istoreN X13.here hx rfl (hb hby d7_41) rfl (l' := #[.val (.ref o0), .val (.int p1), .val (.int (0 : Int32)), .val (.int (((((0 : Int32) + (((2 : Int32) / (2 : Int32)) - (1 : Int32))).toUInt32 >>> ((1 : Int32) &&& 31).toUInt32).toInt32) - (1 : Int32))), .val (.int ((((0 : Int32) + (((2 : Int32) / (2 : Int32)) - (1 : Int32))).toUInt32 >>> ((1 : Int32) &&& 31).toUInt32).toInt32))]) rfl k) ?_
    show own_Ends _ _ _ _ _ _ _ T13 (mkF m 42 #[.val (.ref o0), .val (.int p1), .val (.int (0 : Int32)), .val (.int (((((0 : Int32) + (((2 : Int32) / (2 : Int32)) - (1 : Int32))).toUInt32 >>> ((1 : Int32) &&& 31).toUInt32).toInt32) - (1 : Int32))), .val (.int ((((0 : Int32) + (((2 : Int32) / (2 : Int32)) - (1 : Int32))).toUInt32 >>> ((1 : Int32) &&& 31).toUInt32).toInt32))] [])
    refine own_go (fun _ k => XS.goto X13.here hx rfl (pc0 := 42) (pc' := 70) rfl (hb hby d7_42) (by decide) (by decide) k) ?_
    show own_Ends _ _ _ _ _ _ _ T13 (mkF m 70 #[.val (.ref o0), .val (.int p1), .val (.int (0 : Int32)), .val (.int (((((0 : Int32) + (((2 : Int32) / (2 : Int32)) - (1 : Int32))).toUInt32 >>> ((1 : Int32) &&& 31).toUInt32).toInt32) - (1 : Int32))), .val (.int ((((0 : Int32) + (((2 : Int32) / (2 : Int32)) - (1 : Int32))).toUInt32 >>> ((1 : Int32) &&& 31).toUInt32).toInt32))] [])
    refine own_go (fun _ k => XS.goto X13.here hx rfl (pc0 := 70) (pc' := 12) rfl (hb hby d7_70) (by decide) (by decide) k) ?_
    show own_Ends _ _ _ _ _ _ _ T13 (mkF m 12 #[.val (.ref o0), .val (.int p1), .val (.int (0 : Int32)), .val (.int (((((0 : Int32) + (((2 : Int32) / (2 : Int32)) - (1 : Int32))).toUInt32 >>> ((1 : Int32) &&& 31).toUInt32).toInt32) - (1 : Int32))), .val (.int ((((0 : Int32) + (((2 : Int32) / (2 : Int32)) - (1 : Int32))).toUInt32 >>> ((1 : Int32) &&& 31).toUInt32).toInt32))] [])
    refine own_go (fun _ k => XS.iloadN X13.here hx rfl (hb hby d7_12) rfl k) ?_
    show own_Ends _ _ _ _ _ _ _ T13 (mkF m 13 #[.val (.ref o0), .val (.int p1), .val (.int (0 : Int32)), .val (.int (((((0 : Int32) + (((2 : Int32) / (2 : Int32)) - (1 : Int32))).toUInt32 >>> ((1 : Int32) &&& 31).toUInt32).toInt32) - (1 : Int32))), .val (.int ((((0 : Int32) + (((2 : Int32) / (2 : Int32)) - (1 : Int32))).toUInt32 >>> ((1 : Int32) &&& 31).toUInt32).toInt32))] [(.int (0 : Int32))])
    refine own_go (fun _ k => XS.iloadN X13.here hx rfl (hb hby d7_13) rfl k) ?_
    show own_Ends _ _ _ _ _ _ _ T13 (mkF m 14 #[.val (.ref o0), .val (.int p1), .val (.int (0 : Int32)), .val (.int (((((0 : Int32) + (((2 : Int32) / (2 : Int32)) - (1 : Int32))).toUInt32 >>> ((1 : Int32) &&& 31).toUInt32).toInt32) - (1 : Int32))), .val (.int ((((0 : Int32) + (((2 : Int32) / (2 : Int32)) - (1 : Int32))).toUInt32 >>> ((1 : Int32) &&& 31).toUInt32).toInt32))] [(.int (((((0 : Int32) + (((2 : Int32) / (2 : Int32)) - (1 : Int32))).toUInt32 >>> ((1 : Int32) &&& 31).toUInt32).toInt32) - (1 : Int32))), (.int (0 : Int32))])
    refine own_go (fun _ k => XS.icmpYes X13.here hx rfl (pc0 := 14) (pc' := 73) rfl (hb hby d7_14) rfl (tlt (by decide)).2.2.1 (by decide) (by decide) k) ?_
    show own_Ends _ _ _ _ _ _ _ T13 (mkF m 73 #[.val (.ref o0), .val (.int p1), .val (.int (0 : Int32)), .val (.int (((((0 : Int32) + (((2 : Int32) / (2 : Int32)) - (1 : Int32))).toUInt32 >>> ((1 : Int32) &&& 31).toUInt32).toInt32) - (1 : Int32))), .val (.int ((((0 : Int32) + (((2 : Int32) / (2 : Int32)) - (1 : Int32))).toUInt32 >>> ((1 : Int32) &&& 31).toUInt32).toInt32))] [])
    refine own_go (fun _ k => XS.iconst X13.here hx rfl (hb hby d7_73) k) ?_
    show own_Ends _ _ _ _ _ _ _ T13 (mkF m 74 #[.val (.ref o0), .val (.int p1), .val (.int (0 : Int32)), .val (.int (((((0 : Int32) + (((2 : Int32) / (2 : Int32)) - (1 : Int32))).toUInt32 >>> ((1 : Int32) &&& 31).toUInt32).toInt32) - (1 : Int32))), .val (.int ((((0 : Int32) + (((2 : Int32) / (2 : Int32)) - (1 : Int32))).toUInt32 >>> ((1 : Int32) &&& 31).toUInt32).toInt32))] [(.int (0 : Int32))])
    exact own_retZ X13 hx hlk hret (by decide) (hb hby d7_74) (by decide) (by decide) ⟨by rw [own_inr, if_pos h1], rfl, e13⟩
  · refine own_go (fun _ k => XS.icmpYes X13.here hx rfl (pc0 := 34) (pc' := 45) rfl (hb hby d7_34) rfl (flt h1).2.1 (by decide) (by decide) k) ?_
    show own_Ends _ _ _ _ _ _ _ T13 (mkF m 45 #[.val (.ref o0), .val (.int p1), .val (.int (0 : Int32)), .val (.int (((2 : Int32) / (2 : Int32)) - (1 : Int32))), .val (.int ((((0 : Int32) + (((2 : Int32) / (2 : Int32)) - (1 : Int32))).toUInt32 >>> ((1 : Int32) &&& 31).toUInt32).toInt32))] [])
    refine own_go (fun _ k => XS.iloadN X13.here hx rfl (hb hby d7_45) rfl k) ?_
    show own_Ends _ _ _ _ _ _ _ T13 (mkF m 46 #[.val (.ref o0), .val (.int p1), .val (.int (0 : Int32)), .val (.int (((2 : Int32) / (2 : Int32)) - (1 : Int32))), .val (.int ((((0 : Int32) + (((2 : Int32) / (2 : Int32)) - (1 : Int32))).toUInt32 >>> ((1 : Int32) &&& 31).toUInt32).toInt32))] [(.int p1)])
    refine own_go (fun _ k => XS.aloadN X13.here hx rfl (hb hby d7_46) rfl rfl k) ?_
    show own_Ends _ _ _ _ _ _ _ T13 (mkF m 47 #[.val (.ref o0), .val (.int p1), .val (.int (0 : Int32)), .val (.int (((2 : Int32) / (2 : Int32)) - (1 : Int32))), .val (.int ((((0 : Int32) + (((2 : Int32) / (2 : Int32)) - (1 : Int32))).toUInt32 >>> ((1 : Int32) &&& 31).toUInt32).toInt32))] [(.ref o0), (.int p1)])
    obtain ⟨T14, X14, e14, st14⟩ := getF X13 hx hZ hown (host := "") (Or.inl (hw _ (List.mem_of_getElem? (i := 25) rfl))) Via.refl e13 F (g := (mkF m 47 #[.val (.ref o0), .val (.int p1), .val (.int (0 : Int32)), .val (.int (((2 : Int32) / (2 : Int32)) - (1 : Int32))), .val (.int ((((0 : Int32) + (((2 : Int32) / (2 : Int32)) - (1 : Int32))).toUInt32 >>> ((1 : Int32) &&& 31).toUInt32).toInt32))] [(.ref o0), (.int p1)])) rfl rfl (hb hby d7_47)
    refine own_go st14 ?_
    show own_Ends _ _ _ _ _ _ _ T14 (mkF m 50 #[.val (.ref o0), .val (.int p1), .val (.int (0 : Int32)), .val (.int (((2 : Int32) / (2 : Int32)) - (1 : Int32))), .val (.int ((((0 : Int32) + (((2 : Int32) / (2 : Int32)) - (1 : Int32))).toUInt32 >>> ((1 : Int32) &&& 31).toUInt32).toInt32))] [(.ref ba), (.int p1)])
    refine own_go (fun _ k => XS.iconst X14.here hx rfl (hb hby d7_50) k) ?_
    show own_Ends _ _ _ _ _ _ _ T14 (mkF m 51 #[.val (.ref o0), .val (.int p1), .val (.int (0 : Int32)), .val (.int (((2 : Int32) / (2 : Int32)) - (1 : Int32))), .val (.int ((((0 : Int32) + (((2 : Int32) / (2 : Int32)) - (1 : Int32))).toUInt32 >>> ((1 : Int32) &&& 31).toUInt32).toInt32))] [(.int (2 : Int32)), (.ref ba), (.int p1)])
    refine own_go (fun _ k => XS.iload X14.here hx rfl (hb hby d7_51) rfl k) ?_
    show own_Ends _ _ _ _ _ _ _ T14 (mkF m 53 #[.val (.ref o0), .val (.int p1), .val (.int (0 : Int32)), .val (.int (((2 : Int32) / (2 : Int32)) - (1 : Int32))), .val (.int ((((0 : Int32) + (((2 : Int32) / (2 : Int32)) - (1 : Int32))).toUInt32 >>> ((1 : Int32) &&& 31).toUInt32).toInt32))] [(.int ((((0 : Int32) + (((2 : Int32) / (2 : Int32)) - (1 : Int32))).toUInt32 >>> ((1 : Int32) &&& 31).toUInt32).toInt32)), (.int (2 : Int32)), (.ref ba), (.int p1)])
    refine own_go (fun _ k => XS.imul X14.here hx rfl (hb hby d7_53) rfl k) ?_
    show own_Ends _ _ _ _ _ _ _ T14 (mkF m 54 #[.val (.ref o0), .val (.int p1), .val (.int (0 : Int32)), .val (.int (((2 : Int32) / (2 : Int32)) - (1 : Int32))), .val (.int ((((0 : Int32) + (((2 : Int32) / (2 : Int32)) - (1 : Int32))).toUInt32 >>> ((1 : Int32) &&& 31).toUInt32).toInt32))] [(.int ((2 : Int32) * ((((0 : Int32) + (((2 : Int32) / (2 : Int32)) - (1 : Int32))).toUInt32 >>> ((1 : Int32) &&& 31).toUInt32).toInt32))), (.ref ba), (.int p1)])
    refine own_go (fun _ k => XS.iconst X14.here hx rfl (hb hby d7_54) k) ?_
    show own_Ends _ _ _ _ _ _ _ T14 (mkF m 55 #[.val (.ref o0), .val (.int p1), .val (.int (0 : Int32)), .val (.int (((2 : Int32) / (2 : Int32)) - (1 : Int32))), .val (.int ((((0 : Int32) + (((2 : Int32) / (2 : Int32)) - (1 : Int32))).toUInt32 >>> ((1 : Int32) &&& 31).toUInt32).toInt32))] [(.int (1 : Int32)), (.int ((2 : Int32) * ((((0 : Int32) + (((2 : Int32) / (2 : Int32)) - (1 : Int32))).toUInt32 >>> ((1 : Int32) &&& 31).toUInt32).toInt32))), (.ref ba), (.int p1)])
    refine own_go (fun _ k => XS.iadd X14.here hx rfl (hb hby d7_55) rfl k) ?_
    show own_Ends _ _ _ _ _ _ _ T14 (mkF m 56 #[.val (.ref o0), .val (.int p1), .val (.int (0 : Int32)), .val (.int (((2 : Int32) / (2 : Int32)) - (1 : Int32))), .val (.int ((((0 : Int32) + (((2 : Int32) / (2 : Int32)) - (1 : Int32))).toUInt32 >>> ((1 : Int32) &&& 31).toUInt32).toInt32))] [(.int (((2 : Int32) * ((((0 : Int32) + (((2 : Int32) / (2 : Int32)) - (1 : Int32))).toUInt32 >>> ((1 : Int32) &&& 31).toUInt32).toInt32)) + (1 : Int32))), (.ref ba), (.int p1)])
    refine own_go (fun _ k => own_ldI X14 hx hZ e14 A (i := 1) (v := (.int hi)) (by decide) (by decide) (by decide) f1 (g := (mkF m 56 #[.val (.ref o0), .val (.int p1), .val (.int (0 : Int32)), .val (.int (((2 : Int32) / (2 : Int32)) - (1 : Int32))), .val (.int ((((0 : Int32) + (((2 : Int32) / (2 : Int32)) - (1 : Int32))).toUInt32 >>> ((1 : Int32) &&& 31).toUInt32).toInt32))] [(.int (((2 : Int32) * ((((0 : Int32) + (((2 : Int32) / (2 : Int32)) - (1 : Int32))).toUInt32 >>> ((1 : Int32) &&& 31).toUInt32).toInt32)) + (1 : Int32))), (.ref ba), (.int p1)])) rfl rfl (hb hby d7_56) _ k) ?_
    show own_Ends _ _ _ _ _ _ _ T14 (mkF m 57 #[.val (.ref o0), .val (.int p1), .val (.int (0 : Int32)), .val (.int (((2 : Int32) / (2 : Int32)) - (1 : Int32))), .val (.int ((((0 : Int32) + (((2 : Int32) / (2 : Int32)) - (1 : Int32))).toUInt32 >>> ((1 : Int32) &&& 31).toUInt32).toInt32))] [(.int hi), (.int p1)])
    by_cases h2 : hi < p1
    · refine own_go (fun _ k => XS.icmpNo X14.here hx rfl (hb hby d7_57) rfl (tlt h2).2.2.2 k) ?_
      show own_Ends _ _ _ _ _ _ _ T14 (mkF m 60 #[.val (.ref o0), .val (.int p1), .val (.int (0 : Int32)), .val (.int (((2 : Int32) / (2 : Int32)) - (1 : Int32))), .val (.int ((((0 : Int32) + (((2 : Int32) / (2 : Int32)) - (1 : Int32))).toUInt32 >>> ((1 : Int32) &&& 31).toUInt32).toInt32))] [])
      refine own_go (fun _ k => XS.iload X14.here hx rfl (hb hby d7_60) rfl k) ?_
      show own_Ends _ _ _ _ _ _ _ T14 (mkF m 62 #[.val (.ref o0), .val (.int p1), .val (.int (0 : Int32)), .val (.int (((2 : Int32) / (2 : Int32)) - (1 : Int32))), .val (.int ((((0 : Int32) + (((2 : Int32) / (2 : Int32)) - (1 : Int32))).toUInt32 >>> ((1 : Int32) &&& 31).toUInt32).toInt32))] [(.int ((((0 : Int32) + (((2 : Int32) / (2 : Int32)) - (1 : Int32))).toUInt32 >>> ((1 : Int32) &&& 31).toUInt32).toInt32))])
      refine own_go (fun _ k => XS.iconst X14.here hx rfl (hb hby d7_62) k) ?_
      show own_Ends _ _ _ _ _ _ _ T14 (mkF m 63 #[.val (.ref o0), .val (.int p1), .val (.int (0 : Int32)), .val (.int (((2 : Int32) / (2 : Int32)) - (1 : Int32))), .val (.int ((((0 : Int32) + (((2 : Int32) / (2 : Int32)) - (1 : Int32))).toUInt32 >>> ((1 : Int32) &&& 31).toUInt32).toInt32))] [(.int (1 : Int32)), (.int ((((0 : Int32) + (((2 : Int32) / (2 : Int32)) - (1 : Int32))).toUInt32 >>> ((1 : Int32) &&& 31).toUInt32).toInt32))])
      refine own_go (fun _ k => XS.iadd X14.here hx rfl (hb hby d7_63) rfl k) ?_
      show own_Ends _ _ _ _ _ _ _ T14 (mkF m 64 #[.val (.ref o0), .val (.int p1), .val (.int (0 : Int32)), .val (.int (((2 : Int32) / (2 : Int32)) - (1 : Int32))), .val (.int ((((0 : Int32) + (((2 : Int32) / (2 : Int32)) - (1 : Int32))).toUInt32 >>> ((1 : Int32) &&& 31).toUInt32).toInt32))] [(.int (((((0 : Int32) + (((2 : Int32) / (2 : Int32)) - (1 : Int32))).toUInt32 >>> ((1 : Int32) &&& 31).toUInt32).toInt32) + (1 : Int32)))])
      refine own_go (fun _ k => XS.istoreN X14.here hx rfl (hb hby d7_64) rfl (l' := #[.val (.ref o0), .val (.int p1), .val (.int (((((0 : Int32) + (((2 : Int32) / (2 : Int32)) - (1 : Int32))).toUInt32 >>> ((1 : Int32) &&& 31).toUInt32).toInt32) + (1 : Int32))), .val (.int (((2 : Int32) / (2 : Int32)) - (1 : Int32))), .val (.int ((((0 : Int32) + (((2 : Int32) / (2 : Int32)) - (1 : Int32))).toUInt32 >>> ((1 : Int32) &&& 31).toUInt32).toInt32))]) rfl k) ?_
      show own_Ends _ _ _ _ _ _ _ T14 (mkF m 65 #[.val (.ref o0), .val (.int p1), .val (.int (((((0 : Int32) + (((2 : Int32) / (2 : Int32)) - (1 : Int32))).toUInt32 >>> ((1 : Int32) &&& 31).toUInt32).toInt32) + (1 : Int32))), .val (.int (((2 : Int32) / (2 : Int32)) - (1 : Int32))), .val (.int ((((0 : Int32) + (((2 : Int32) / (2 : Int32)) - (1 : Int32))).toUInt32 >>> ((1 : Int32) &&& 31).toUInt32).toInt32))] [])
      refine own_go (fun _ k => XS.goto X14.here hx rfl (pc0 := 65) (pc' := 70) rfl (hb hby d7_65) (by decide) (by decide) k) ?_
      show own_Ends _ _ _ _ _ _ _ T14 (mkF m 70 #[.val (.ref o0), .val (.int p1), .val (.int (((((0 : Int32) + (((2 : Int32) / (2 : Int32)) - (1 : Int32))).toUInt32 >>> ((1 : Int32) &&& 31).toUInt32).toInt32) + (1 : Int32))), .val (.int (((2 : Int32) / (2 : Int32)) - (1 : Int32))), .val (.int ((((0 : Int32) + (((2 : Int32) / (2 : Int32)) - (1 : Int32))).toUInt32 >>> ((1 : Int32) &&& 31).toUInt32).toInt32))] [])
      refine own_go (fun _ k => XS.goto X14.here hx rfl (pc0 := 70) (pc' := 12) rfl (hb hby d7_70) (by decide) (by decide) k) ?_
      show own_Ends _ _ _ _ _ _ _ T14 (mkF m 12 #[.val (.ref o0), .val (.int p1), .val (.int (((((0 : Int32) + (((2 : Int32) / (2 : Int32)) - (1 : Int32))).toUInt32 >>> ((1 : Int32) &&& 31).toUInt32).toInt32) + (1 : Int32))), .val (.int (((2 : Int32) / (2 : Int32)) - (1 : Int32))), .val (.int ((((0 : Int32) + (((2 : Int32) / (2 : Int32)) - (1 : Int32))).toUInt32 >>> ((1 : Int32) &&& 31).toUInt32).toInt32))] [])
      refine own_go (fun _ k => XS.iloadN X14.here hx rfl (hb hby d7_12) rfl k) ?_
      show own_Ends _ _ _ _ _ _ _ T14 (mkF m 13 #[.val (.ref o0), .val (.int p1), .val (.int (((((0 : Int32) + (((2 : Int32) / (2 : Int32)) - (1 : Int32))).toUInt32 >>> ((1 : Int32) &&& 31).toUInt32).toInt32) + (1 : Int32))), .val (.int (((2 : Int32) / (2 : Int32)) - (1 : Int32))), .val (.int ((((0 : Int32) + (((2 : Int32) / (2 : Int32)) - (1 : Int32))).toUInt32 >>> ((1 : Int32) &&& 31).toUInt32).toInt32))] [(.int (((((0 : Int32) + (((2 : Int32) / (2 : Int32)) - (1 : Int32))).toUInt32 >>> ((1 : Int32) &&& 31).toUInt32).toInt32) + (1 : Int32)))])
      refine own_go (fun _ k => XS.iloadN X14.here hx rfl (hb hby d7_13) rfl k) ?_
      show own_Ends _ _ _ _ _ _ _ T14 (mkF m 14 #[.val (.ref o0), .val (.int p1), .val (.int (((((0 : Int32) + (((2 : Int32) / (2 : Int32)) - (1 : Int32))).toUInt32 >>> ((1 : Int32) &&& 31).toUInt32).toInt32) + (1 : Int32))), .val (.int (((2 : Int32) / (2 : Int32)) - (1 : Int32))), .val (.int ((((0 : Int32) + (((2 : Int32) / (2 : Int32)) - (1 : Int32))).toUInt32 >>> ((1 : Int32) &&& 31).toUInt32).toInt32))] [(.int (((2 : Int32) / (2 : Int32)) - (1 : Int32))), (.int (((((0 : Int32) + (((2 : Int32) / (2 : Int32)) - (1 : Int32))).toUInt32 >>> ((1 : Int32) &&& 31).toUInt32).toInt32) + (1 : Int32)))])
      refine own_go (fun _ k => XS.icmpYes X14.here hx rfl (pc0 := 14) (pc' := 73) rfl (hb hby d7_14) rfl (tlt (by decide)).2.2.1 (by decide) (by decide) k) ?_
      show own_Ends _ _ _ _ _ _ _ T14 (mkF m 73 #[.val (.ref o0), .val (.int p1), .val (.int (((((0 : Int32) + (((2 : Int32) / (2 : Int32)) - (1 : Int32))).toUInt32 >>> ((1 : Int32) &&& 31).toUInt32).toInt32) + (1 : Int32))), .val (.int (((2 : Int32) / (2 : Int32)) - (1 : Int32))), .val (.int ((((0 : Int32) + (((2 : Int32) / (2 : Int32)) - (1 : Int32))).toUInt32 >>> ((1 : Int32) &&& 31).toUInt32).toInt32))] [])
      refine own_go (fun _ k => XS.iconst X14.here hx rfl (hb hby d7_73) k) ?_
      show own_Ends _ _ _ _ _ _ _ T14 (mkF m 74 #[.val (.ref o0), .val (.int p1), .val (.int (((((0 : Int32) + (((2 : Int32) / (2 : Int32)) - (1 : Int32))).toUInt32 >>> ((1 : Int32) &&& 31).toUInt32).toInt32) + (1 : Int32))), .val (.int (((2 : Int32) / (2 : Int32)) - (1 : Int32))), .val (.int ((((0 : Int32) + (((2 : Int32) / (2 : Int32)) - (1 : Int32))).toUInt32 >>> ((1 : Int32) &&& 31).toUInt32).toInt32))] [(.int (0 : Int32))])
      exact own_retZ X14 hx hlk hret (by decide) (hb hby d7_74) (by decide) (by decide) ⟨by rw [own_inr, if_neg h1, if_pos h2], rfl, e14⟩
    · refine own_go (fun _ k => XS.icmpYes X14.here hx rfl (pc0 := 57) (pc' := 68) rfl (hb hby d7_57) rfl (flt h2).2.2.2 (by decide) (by decide) k) ?_
      show own_Ends _ _ _ _ _ _ _ T14 (mkF m 68 #[.val (.ref o0), .val (.int p1), .val (.int (0 : Int32)), .val (.int (((2 : Int32) / (2 : Int32)) - (1 : Int32))), .val (.int ((((0 : Int32) + (((2 : Int32) / (2 : Int32)) - (1 : Int32))).toUInt32 >>> ((1 : Int32) &&& 31).toUInt32).toInt32))] [])
      refine own_go (fun _ k => XS.iconst X14.here hx rfl (hb hby d7_68) k) ?_
      show own_Ends _ _ _ _ _ _ _ T14 (mkF m 69 #[.val (.ref o0), .val (.int p1), .val (.int (0 : Int32)), .val (.int (((2 : Int32) / (2 : Int32)) - (1 : Int32))), .val (.int ((((0 : Int32) + (((2 : Int32) / (2 : Int32)) - (1 : Int32))).toUInt32 >>> ((1 : Int32) &&& 31).toUInt32).toInt32))] [(.int (1 : Int32))])
      exact own_retZ X14 hx hlk hret (by decide) (hb hby d7_69) (by decide) (by decide) ⟨by rw [own_inr, if_neg h1, if_neg h2], rfl, e14⟩
set_option maxRecDepth 65536 in
set_option maxHeartbeats 40000000 in
theorem rm8 (l : Launch) (Z : State) (a0 : Array Value) (hw : ∀ d ∈ tables_1, d.before a0 Z = true) (o0 : Addr) (h0 : Heap) (ba : Addr) (kc : ClassId) (f : Nat → Value) (lo : Int32) (hi : Int32) (F : Fld Z h0 o0 "com/example/valq/valq/CodePointSet" "bounds" "[I" (.ref ba)) (A : own_Ar Z h0 ba kc .int 2 f) (f0 : f 0 = .int lo) (f1 : f 1 = .int hi) :
    own_C l (⟨"com/example/valq/valq/CodePointSet", "only", "()I"⟩ : MethodName) prog_9_method_10_code 1 (some .int) ({ frames := 0, cells := 0, slots := 0, locals := 0 } : Room) Z #[(.ref o0)] h0 (fun v h L => v = some (.int (own_only lo hi)) ∧ L = [] ∧ h = h0) := by
  refine own_enter pn_8 ?_
  intro p e s m below meth c s₁ X0 hx hby hml hown hnm hret hlk hZ e0
  replace hown : s.vm.findClass "com/example/valq/valq/CodePointSet" = some m.cls := hown
  have ef : entryFrame m #[(.ref o0)] 1 = mkF m 0 #[.val (.ref o0)] [] := by first | rfl | (simp [entryFrame, mkF, argsToLocals, Value.category, maxLocals]; done)
  refine own_cast ef ?_
  show own_Ends _ _ _ _ _ _ _ s₁ (mkF m 0 #[.val (.ref o0)] [])
  refine own_go (fun _ k => XS.aloadN X0.here hx rfl (hb hby d8_0) rfl rfl k) ?_
  show own_Ends _ _ _ _ _ _ _ s₁ (mkF m 1 #[.val (.ref o0)] [(.ref o0)])
  obtain ⟨T15, X15, e15, st15⟩ := getF X0 hx hZ hown (host := "") (Or.inl (hw _ (List.mem_of_getElem? (i := 25) rfl))) Via.refl e0 F (g := (mkF m 1 #[.val (.ref o0)] [(.ref o0)])) rfl rfl (hb hby d8_1)
  refine own_go st15 ?_
  show own_Ends _ _ _ _ _ _ _ T15 (mkF m 4 #[.val (.ref o0)] [(.ref ba)])
  refine own_go (fun _ k => own_len X15 hx hZ e15 A (z := (2 : Int32)) rfl (g := (mkF m 4 #[.val (.ref o0)] [(.ref ba)])) rfl rfl (hb hby d8_4) _ k) ?_
  show own_Ends _ _ _ _ _ _ _ T15 (mkF m 5 #[.val (.ref o0)] [(.int (2 : Int32))])
  refine own_go (fun _ k => XS.iconst X15.here hx rfl (hb hby d8_5) k) ?_
  show own_Ends _ _ _ _ _ _ _ T15 (mkF m 6 #[.val (.ref o0)] [(.int (2 : Int32)), (.int (2 : Int32))])
  refine own_go (fun _ k => XS.icmpNo X15.here hx rfl (hb hby d8_6) rfl (teq (rfl)).2 k) ?_
  show own_Ends _ _ _ _ _ _ _ T15 (mkF m 9 #[.val (.ref o0)] [])
  refine own_go (fun _ k => XS.aloadN X15.here hx rfl (hb hby d8_9) rfl rfl k) ?_
  show own_Ends _ _ _ _ _ _ _ T15 (mkF m 10 #[.val (.ref o0)] [(.ref o0)])
  obtain ⟨T16, X16, e16, st16⟩ := getF X15 hx hZ hown (host := "") (Or.inl (hw _ (List.mem_of_getElem? (i := 25) rfl))) Via.refl e15 F (g := (mkF m 10 #[.val (.ref o0)] [(.ref o0)])) rfl rfl (hb hby d8_10)
  refine own_go st16 ?_
  show own_Ends _ _ _ _ _ _ _ T16 (mkF m 13 #[.val (.ref o0)] [(.ref ba)])
  refine own_go (fun _ k => XS.iconst X16.here hx rfl (hb hby d8_13) k) ?_
  show own_Ends _ _ _ _ _ _ _ T16 (mkF m 14 #[.val (.ref o0)] [(.int (0 : Int32)), (.ref ba)])
  refine own_go (fun _ k => own_ldI X16 hx hZ e16 A (i := 0) (v := (.int lo)) (by decide) (by decide) (by decide) f0 (g := (mkF m 14 #[.val (.ref o0)] [(.int (0 : Int32)), (.ref ba)])) rfl rfl (hb hby d8_14) _ k) ?_
  show own_Ends _ _ _ _ _ _ _ T16 (mkF m 15 #[.val (.ref o0)] [(.int lo)])
  refine own_go (fun _ k => XS.aloadN X16.here hx rfl (hb hby d8_15) rfl rfl k) ?_
  show own_Ends _ _ _ _ _ _ _ T16 (mkF m 16 #[.val (.ref o0)] [(.ref o0), (.int lo)])
  obtain ⟨T17, X17, e17, st17⟩ := getF X16 hx hZ hown (host := "") (Or.inl (hw _ (List.mem_of_getElem? (i := 25) rfl))) Via.refl e16 F (g := (mkF m 16 #[.val (.ref o0)] [(.ref o0), (.int lo)])) rfl rfl (hb hby d8_16)
  refine own_go st17 ?_
  show own_Ends _ _ _ _ _ _ _ T17 (mkF m 19 #[.val (.ref o0)] [(.ref ba), (.int lo)])
  refine own_go (fun _ k => XS.iconst X17.here hx rfl (hb hby d8_19) k) ?_
  show own_Ends _ _ _ _ _ _ _ T17 (mkF m 20 #[.val (.ref o0)] [(.int (1 : Int32)), (.ref ba), (.int lo)])
  refine own_go (fun _ k => own_ldI X17 hx hZ e17 A (i := 1) (v := (.int hi)) (by decide) (by decide) (by decide) f1 (g := (mkF m 20 #[.val (.ref o0)] [(.int (1 : Int32)), (.ref ba), (.int lo)])) rfl rfl (hb hby d8_20) _ k) ?_
  show own_Ends _ _ _ _ _ _ _ T17 (mkF m 21 #[.val (.ref o0)] [(.int hi), (.int lo)])
  by_cases h1 : lo = hi
  · refine own_go (fun _ k => XS.icmpNo X17.here hx rfl (hb hby d8_21) rfl (teq h1).2 k) ?_
    show own_Ends _ _ _ _ _ _ _ T17 (mkF m 24 #[.val (.ref o0)] [])
    refine own_go (fun _ k => XS.aloadN X17.here hx rfl (hb hby d8_24) rfl rfl k) ?_
    show own_Ends _ _ _ _ _ _ _ T17 (mkF m 25 #[.val (.ref o0)] [(.ref o0)])
    obtain ⟨T18, X18, e18, st18⟩ := getF X17 hx hZ hown (host := "") (Or.inl (hw _ (List.mem_of_getElem? (i := 25) rfl))) Via.refl e17 F (g := (mkF m 25 #[.val (.ref o0)] [(.ref o0)])) rfl rfl (hb hby d8_25)
    refine own_go st18 ?_
    show own_Ends _ _ _ _ _ _ _ T18 (mkF m 28 #[.val (.ref o0)] [(.ref ba)])
    refine own_go (fun _ k => XS.iconst X18.here hx rfl (hb hby d8_28) k) ?_
    show own_Ends _ _ _ _ _ _ _ T18 (mkF m 29 #[.val (.ref o0)] [(.int (0 : Int32)), (.ref ba)])
    refine own_go (fun _ k => own_ldI X18 hx hZ e18 A (i := 0) (v := (.int lo)) (by decide) (by decide) (by decide) f0 (g := (mkF m 29 #[.val (.ref o0)] [(.int (0 : Int32)), (.ref ba)])) rfl rfl (hb hby d8_29) _ k) ?_
    show own_Ends _ _ _ _ _ _ _ T18 (mkF m 30 #[.val (.ref o0)] [(.int lo)])
    refine own_go (fun _ k => XS.goto X18.here hx rfl (pc0 := 30) (pc' := 34) rfl (hb hby d8_30) (by decide) (by decide) k) ?_
    show own_Ends _ _ _ _ _ _ _ T18 (mkF m 34 #[.val (.ref o0)] [(.int lo)])
    exact own_retI X18 hx hlk hret (hb hby d8_34) (by decide) (by decide) ⟨by rw [own_only, if_pos h1], rfl, e18⟩
  · refine own_go (fun _ k => XS.icmpYes X17.here hx rfl (pc0 := 21) (pc' := 33) rfl (hb hby d8_21) rfl (feq h1).2 (by decide) (by decide) k) ?_
    show own_Ends _ _ _ _ _ _ _ T17 (mkF m 33 #[.val (.ref o0)] [])
    refine own_go (fun _ k => XS.iconst X17.here hx rfl (hb hby d8_33) k) ?_
    show own_Ends _ _ _ _ _ _ _ T17 (mkF m 34 #[.val (.ref o0)] [(.int (-1 : Int32))])
    exact own_retI X17 hx hlk hret (hb hby d8_34) (by decide) (by decide) ⟨by rw [own_only, if_neg h1], rfl, e17⟩
set_option maxRecDepth 65536 in
set_option maxHeartbeats 40000000 in
theorem rm9 (l : Launch) (Z : State) (a0 : Array Value) (hw : ∀ d ∈ tables_1, d.before a0 Z = true) (o0 : Addr) (h0 : Heap) (ba : Addr) (kc : ClassId) (f : Nat → Value) (lo : Int32) (hi : Int32) (F : Fld Z h0 o0 "com/example/valq/valq/CodePointSet" "listed" "[I" (.ref ba)) (A : own_Ar Z h0 ba kc .int 2 f) (f0 : f 0 = .int lo) (f1 : f 1 = .int hi) :
    own_C l (⟨"com/example/valq/valq/CodePointSet", "listedCount", "()I"⟩ : MethodName) prog_9_method_12_code 1 (some .int) ({ frames := 0, cells := 0, slots := 0, locals := 0 } : Room) Z #[(.ref o0)] h0 (fun v h L => v = some (.int 1) ∧ L = [] ∧ h = h0) := by
  refine own_enter pn_9 ?_
  intro p e s m below meth c s₁ X0 hx hby hml hown hnm hret hlk hZ e0
  replace hown : s.vm.findClass "com/example/valq/valq/CodePointSet" = some m.cls := hown
  have ef : entryFrame m #[(.ref o0)] 1 = mkF m 0 #[.val (.ref o0)] [] := by first | rfl | (simp [entryFrame, mkF, argsToLocals, Value.category, maxLocals]; done)
  refine own_cast ef ?_
  show own_Ends _ _ _ _ _ _ _ s₁ (mkF m 0 #[.val (.ref o0)] [])
  refine own_go (fun _ k => XS.aloadN X0.here hx rfl (hb hby d9_0) rfl rfl k) ?_
  show own_Ends _ _ _ _ _ _ _ s₁ (mkF m 1 #[.val (.ref o0)] [(.ref o0)])
  obtain ⟨T19, X19, e19, st19⟩ := getF X0 hx hZ hown (host := "") (Or.inl (hw _ (List.mem_of_getElem? (i := 29) rfl))) Via.refl e0 F (g := (mkF m 1 #[.val (.ref o0)] [(.ref o0)])) rfl rfl (hb hby d9_1)
  refine own_go st19 ?_
  show own_Ends _ _ _ _ _ _ _ T19 (mkF m 4 #[.val (.ref o0)] [(.ref ba)])
  refine own_go (fun _ k => own_len X19 hx hZ e19 A (z := (2 : Int32)) rfl (g := (mkF m 4 #[.val (.ref o0)] [(.ref ba)])) rfl rfl (hb hby d9_4) _ k) ?_
  show own_Ends _ _ _ _ _ _ _ T19 (mkF m 5 #[.val (.ref o0)] [(.int (2 : Int32))])
  refine own_go (fun _ k => XS.iconst X19.here hx rfl (hb hby d9_5) k) ?_
  show own_Ends _ _ _ _ _ _ _ T19 (mkF m 6 #[.val (.ref o0)] [(.int (2 : Int32)), (.int (2 : Int32))])
  refine own_go (fun _ k => XS.idiv X19.here hx rfl (hb hby d9_6) rfl (by decide) k) ?_
  show own_Ends _ _ _ _ _ _ _ T19 (mkF m 7 #[.val (.ref o0)] [(.int ((2 : Int32) / (2 : Int32)))])
  exact own_retI X19 hx hlk hret (hb hby d9_7) (by decide) (by decide) ⟨rfl, rfl, e19⟩
set_option maxRecDepth 65536 in
set_option maxHeartbeats 40000000 in
theorem rm10 (l : Launch) (Z : State) (a0 : Array Value) (hw : ∀ d ∈ tables_1, d.before a0 Z = true) (o0 : Addr) (p1 : Int32) (h0 : Heap) (ba : Addr) (kc : ClassId) (f : Nat → Value) (lo : Int32) (hi : Int32) (F : Fld Z h0 o0 "com/example/valq/valq/CodePointSet" "listed" "[I" (.ref ba)) (A : own_Ar Z h0 ba kc .int 2 f) (f0 : f 0 = .int lo) (f1 : f 1 = .int hi) (hp : p1 = 0) :
    own_C l (⟨"com/example/valq/valq/CodePointSet", "listedFirst", "(I)I"⟩ : MethodName) prog_9_method_13_code 2 (some .int) ({ frames := 0, cells := 0, slots := 0, locals := 0 } : Room) Z #[(.ref o0), (.int p1)] h0 (fun v h L => v = some (.int lo) ∧ L = [] ∧ h = h0) := by
  refine own_enter pn_10 ?_
  intro p e s m below meth c s₁ X0 hx hby hml hown hnm hret hlk hZ e0
  replace hown : s.vm.findClass "com/example/valq/valq/CodePointSet" = some m.cls := hown
  have ef : entryFrame m #[(.ref o0), (.int p1)] 2 = mkF m 0 #[.val (.ref o0), .val (.int p1)] [] := by first | rfl | (simp [entryFrame, mkF, argsToLocals, Value.category, maxLocals]; done)
  refine own_cast ef ?_
  show own_Ends _ _ _ _ _ _ _ s₁ (mkF m 0 #[.val (.ref o0), .val (.int p1)] [])
  subst hp
  show own_Ends _ _ _ _ _ _ _ s₁ (mkF m 0 #[.val (.ref o0), .val (.int (0 : Int32))] [])
  refine own_go (fun _ k => XS.aloadN X0.here hx rfl (hb hby d10_0) rfl rfl k) ?_
  show own_Ends _ _ _ _ _ _ _ s₁ (mkF m 1 #[.val (.ref o0), .val (.int (0 : Int32))] [(.ref o0)])
  obtain ⟨T20, X20, e20, st20⟩ := getF X0 hx hZ hown (host := "") (Or.inl (hw _ (List.mem_of_getElem? (i := 29) rfl))) Via.refl e0 F (g := (mkF m 1 #[.val (.ref o0), .val (.int (0 : Int32))] [(.ref o0)])) rfl rfl (hb hby d10_1)
  refine own_go st20 ?_
  show own_Ends _ _ _ _ _ _ _ T20 (mkF m 4 #[.val (.ref o0), .val (.int (0 : Int32))] [(.ref ba)])
  refine own_go (fun _ k => XS.iconst X20.here hx rfl (hb hby d10_4) k) ?_
  show own_Ends _ _ _ _ _ _ _ T20 (mkF m 5 #[.val (.ref o0), .val (.int (0 : Int32))] [(.int (2 : Int32)), (.ref ba)])
  refine own_go (fun _ k => XS.iloadN X20.here hx rfl (hb hby d10_5) rfl k) ?_
  show own_Ends _ _ _ _ _ _ _ T20 (mkF m 6 #[.val (.ref o0), .val (.int (0 : Int32))] [(.int (0 : Int32)), (.int (2 : Int32)), (.ref ba)])
  refine own_go (fun _ k => XS.imul X20.here hx rfl (hb hby d10_6) rfl k) ?_
  show own_Ends _ _ _ _ _ _ _ T20 (mkF m 7 #[.val (.ref o0), .val (.int (0 : Int32))] [(.int ((2 : Int32) * (0 : Int32))), (.ref ba)])
  refine own_go (fun _ k => own_ldI X20 hx hZ e20 A (i := 0) (v := (.int lo)) (by decide) (by decide) (by decide) f0 (g := (mkF m 7 #[.val (.ref o0), .val (.int (0 : Int32))] [(.int ((2 : Int32) * (0 : Int32))), (.ref ba)])) rfl rfl (hb hby d10_7) _ k) ?_
  show own_Ends _ _ _ _ _ _ _ T20 (mkF m 8 #[.val (.ref o0), .val (.int (0 : Int32))] [(.int lo)])
  exact own_retI X20 hx hlk hret (hb hby d10_8) (by decide) (by decide) ⟨rfl, rfl, e20⟩
set_option maxRecDepth 65536 in
set_option maxHeartbeats 40000000 in
theorem rm11 (l : Launch) (Z : State) (a0 : Array Value) (hw : ∀ d ∈ tables_1, d.before a0 Z = true) (o0 : Addr) (p1 : Int32) (h0 : Heap) (ba : Addr) (kc : ClassId) (f : Nat → Value) (lo : Int32) (hi : Int32) (F : Fld Z h0 o0 "com/example/valq/valq/CodePointSet" "listed" "[I" (.ref ba)) (A : own_Ar Z h0 ba kc .int 2 f) (f0 : f 0 = .int lo) (f1 : f 1 = .int hi) (hp : p1 = 0) :
    own_C l (⟨"com/example/valq/valq/CodePointSet", "listedLast", "(I)I"⟩ : MethodName) prog_9_method_14_code 2 (some .int) ({ frames := 0, cells := 0, slots := 0, locals := 0 } : Room) Z #[(.ref o0), (.int p1)] h0 (fun v h L => v = some (.int hi) ∧ L = [] ∧ h = h0) := by
  refine own_enter pn_11 ?_
  intro p e s m below meth c s₁ X0 hx hby hml hown hnm hret hlk hZ e0
  replace hown : s.vm.findClass "com/example/valq/valq/CodePointSet" = some m.cls := hown
  have ef : entryFrame m #[(.ref o0), (.int p1)] 2 = mkF m 0 #[.val (.ref o0), .val (.int p1)] [] := by first | rfl | (simp [entryFrame, mkF, argsToLocals, Value.category, maxLocals]; done)
  refine own_cast ef ?_
  show own_Ends _ _ _ _ _ _ _ s₁ (mkF m 0 #[.val (.ref o0), .val (.int p1)] [])
  subst hp
  show own_Ends _ _ _ _ _ _ _ s₁ (mkF m 0 #[.val (.ref o0), .val (.int (0 : Int32))] [])
  refine own_go (fun _ k => XS.aloadN X0.here hx rfl (hb hby d11_0) rfl rfl k) ?_
  show own_Ends _ _ _ _ _ _ _ s₁ (mkF m 1 #[.val (.ref o0), .val (.int (0 : Int32))] [(.ref o0)])
  obtain ⟨T21, X21, e21, st21⟩ := getF X0 hx hZ hown (host := "") (Or.inl (hw _ (List.mem_of_getElem? (i := 29) rfl))) Via.refl e0 F (g := (mkF m 1 #[.val (.ref o0), .val (.int (0 : Int32))] [(.ref o0)])) rfl rfl (hb hby d11_1)
  refine own_go st21 ?_
  show own_Ends _ _ _ _ _ _ _ T21 (mkF m 4 #[.val (.ref o0), .val (.int (0 : Int32))] [(.ref ba)])
  refine own_go (fun _ k => XS.iconst X21.here hx rfl (hb hby d11_4) k) ?_
  show own_Ends _ _ _ _ _ _ _ T21 (mkF m 5 #[.val (.ref o0), .val (.int (0 : Int32))] [(.int (2 : Int32)), (.ref ba)])
  refine own_go (fun _ k => XS.iloadN X21.here hx rfl (hb hby d11_5) rfl k) ?_
  show own_Ends _ _ _ _ _ _ _ T21 (mkF m 6 #[.val (.ref o0), .val (.int (0 : Int32))] [(.int (0 : Int32)), (.int (2 : Int32)), (.ref ba)])
  refine own_go (fun _ k => XS.imul X21.here hx rfl (hb hby d11_6) rfl k) ?_
  show own_Ends _ _ _ _ _ _ _ T21 (mkF m 7 #[.val (.ref o0), .val (.int (0 : Int32))] [(.int ((2 : Int32) * (0 : Int32))), (.ref ba)])
  refine own_go (fun _ k => XS.iconst X21.here hx rfl (hb hby d11_7) k) ?_
  show own_Ends _ _ _ _ _ _ _ T21 (mkF m 8 #[.val (.ref o0), .val (.int (0 : Int32))] [(.int (1 : Int32)), (.int ((2 : Int32) * (0 : Int32))), (.ref ba)])
  refine own_go (fun _ k => XS.iadd X21.here hx rfl (hb hby d11_8) rfl k) ?_
  show own_Ends _ _ _ _ _ _ _ T21 (mkF m 9 #[.val (.ref o0), .val (.int (0 : Int32))] [(.int (((2 : Int32) * (0 : Int32)) + (1 : Int32))), (.ref ba)])
  refine own_go (fun _ k => own_ldI X21 hx hZ e21 A (i := 1) (v := (.int hi)) (by decide) (by decide) (by decide) f1 (g := (mkF m 9 #[.val (.ref o0), .val (.int (0 : Int32))] [(.int (((2 : Int32) * (0 : Int32)) + (1 : Int32))), (.ref ba)])) rfl rfl (hb hby d11_9) _ k) ?_
  show own_Ends _ _ _ _ _ _ _ T21 (mkF m 10 #[.val (.ref o0), .val (.int (0 : Int32))] [(.int hi)])
  exact own_retI X21 hx hlk hret (hb hby d11_10) (by decide) (by decide) ⟨rfl, rfl, e21⟩
set_option maxRecDepth 65536 in
set_option maxHeartbeats 40000000 in
theorem rm12 (l : Launch) (Z : State) (a0 : Array Value) (hw : ∀ d ∈ tables_1, d.before a0 Z = true) (o0 : Addr) (h0 : Heap) (wv : Int32) (F : Fld Z h0 o0 "com/example/valq/valq/CodePointSet" "categories" "I" (.int wv)) :
    own_C l (⟨"com/example/valq/valq/CodePointSet", "categories", "()I"⟩ : MethodName) prog_9_method_11_code 1 (some .int) ({ frames := 0, cells := 0, slots := 0, locals := 0 } : Room) Z #[(.ref o0)] h0 (fun v h L => v = some (.int wv) ∧ L = [] ∧ h = h0) := by
  refine own_enter pn_12 ?_
  intro p e s m below meth c s₁ X0 hx hby hml hown hnm hret hlk hZ e0
  replace hown : s.vm.findClass "com/example/valq/valq/CodePointSet" = some m.cls := hown
  have ef : entryFrame m #[(.ref o0)] 1 = mkF m 0 #[.val (.ref o0)] [] := by first | rfl | (simp [entryFrame, mkF, argsToLocals, Value.category, maxLocals]; done)
  refine own_cast ef ?_
  show own_Ends _ _ _ _ _ _ _ s₁ (mkF m 0 #[.val (.ref o0)] [])
  refine own_go (fun _ k => XS.aloadN X0.here hx rfl (hb hby d12_0) rfl rfl k) ?_
  show own_Ends _ _ _ _ _ _ _ s₁ (mkF m 1 #[.val (.ref o0)] [(.ref o0)])
  obtain ⟨T22, X22, e22, st22⟩ := getF X0 hx hZ hown (host := "") (Or.inl (hw _ (List.mem_of_getElem? (i := 27) rfl))) Via.refl e0 F (g := (mkF m 1 #[.val (.ref o0)] [(.ref o0)])) rfl rfl (hb hby d12_1)
  refine own_go st22 ?_
  show own_Ends _ _ _ _ _ _ _ T22 (mkF m 4 #[.val (.ref o0)] [(.int wv)])
  exact own_retI X22 hx hlk hret (hb hby d12_4) (by decide) (by decide) ⟨rfl, rfl, e22⟩
set_option maxRecDepth 65536 in
set_option maxHeartbeats 40000000 in
theorem rm13 (l : Launch) (Z : State) (a0 : Array Value) (hw : ∀ d ∈ tables_1, d.before a0 Z = true) (o0 : Addr) (h0 : Heap) (F : Fld Z h0 o0 "com/example/valq/valq/CodePointSet" "complemented" "Z" (.int (0 : Int32))) :
    own_C l (⟨"com/example/valq/valq/CodePointSet", "complemented", "()Z"⟩ : MethodName) prog_9_method_15_code 1 (some .boolean) ({ frames := 0, cells := 0, slots := 0, locals := 0 } : Room) Z #[(.ref o0)] h0 (fun v h L => v = some (.int 0) ∧ L = [] ∧ h = h0) := by
  refine own_enter pn_13 ?_
  intro p e s m below meth c s₁ X0 hx hby hml hown hnm hret hlk hZ e0
  replace hown : s.vm.findClass "com/example/valq/valq/CodePointSet" = some m.cls := hown
  have ef : entryFrame m #[(.ref o0)] 1 = mkF m 0 #[.val (.ref o0)] [] := by first | rfl | (simp [entryFrame, mkF, argsToLocals, Value.category, maxLocals]; done)
  refine own_cast ef ?_
  show own_Ends _ _ _ _ _ _ _ s₁ (mkF m 0 #[.val (.ref o0)] [])
  refine own_go (fun _ k => XS.aloadN X0.here hx rfl (hb hby d13_0) rfl rfl k) ?_
  show own_Ends _ _ _ _ _ _ _ s₁ (mkF m 1 #[.val (.ref o0)] [(.ref o0)])
  obtain ⟨T23, X23, e23, st23⟩ := getF X0 hx hZ hown (host := "") (Or.inl (hw _ (List.mem_of_getElem? (i := 31) rfl))) Via.refl e0 F (g := (mkF m 1 #[.val (.ref o0)] [(.ref o0)])) rfl rfl (hb hby d13_1)
  refine own_go st23 ?_
  show own_Ends _ _ _ _ _ _ _ T23 (mkF m 4 #[.val (.ref o0)] [(.int (0 : Int32))])
  exact own_retZ X23 hx hlk hret (by decide) (hb hby d13_4) (by decide) (by decide) ⟨rfl, rfl, e23⟩
set_option maxRecDepth 65536 in
set_option maxHeartbeats 40000000 in
theorem rm0 (l : Launch) (Z : State) (a0 : Array Value) (hw : ∀ d ∈ tables_1, d.before a0 Z = true) (p0 : Int32) (p1 : Int32) (p2 : Int32) (p3 : Int32) (h0 : Heap) :
    own_C l x code maxLocals ret room_1 Z #[(.int p0), (.int p1), (.int p2), (.int p3)] h0 (fun v h L => v = some (.int 1) ∧ Fr h0.size L) := by
  refine own_enter pn_0 ?_
  intro p e s m below meth c s₁ X0 hx hby hml hown hnm hret hlk hZ e0
  have hml : c.maxLocals = 13 := hml
  replace hown : s.vm.findClass "com/example/valq/valq/CodePointSetRangePinLaw" = some m.cls := hown
  have ef : entryFrame m #[(.int p0), (.int p1), (.int p2), (.int p3)] maxLocals = mkF m 0 #[.val (.int p0), .val (.int p1), .val (.int p2), .val (.int p3), .unset, .unset, .unset, .unset, .unset, .unset, .unset, .unset, .unset] [] := by first | rfl | (simp [entryFrame, mkF, argsToLocals, Value.category, maxLocals]; done)
  refine own_cast ef ?_
  show own_Ends _ _ _ _ _ _ _ s₁ (mkF m 0 #[.val (.int p0), .val (.int p1), .val (.int p2), .val (.int p3), .unset, .unset, .unset, .unset, .unset, .unset, .unset, .unset, .unset] [])
  have N0 := Fr.nil h0.size
  have K0 : Keep h0 h0 [] := Keep.refl _ _
  refine own_go (fun _ k => XS.iloadN X0.here hx rfl (hb hby at_0) rfl k) ?_
  show own_Ends _ _ _ _ _ _ _ s₁ (mkF m 1 #[.val (.int p0), .val (.int p1), .val (.int p2), .val (.int p3), .unset, .unset, .unset, .unset, .unset, .unset, .unset, .unset, .unset] [(.int p0)])
  refine own_go (fun _ k => X0.ldcInt hx hown (mvT hZ (hw _ (List.mem_of_getElem? (i := 0) rfl))) (g := (mkF m 1 #[.val (.int p0), .val (.int p1), .val (.int p2), .val (.int p3), .unset, .unset, .unset, .unset, .unset, .unset, .unset, .unset, .unset] [(.int p0)])) rfl (hb hby at_1) _ k) ?_
  show own_Ends _ _ _ _ _ _ _ s₁ (mkF m 3 #[.val (.int p0), .val (.int p1), .val (.int p2), .val (.int p3), .unset, .unset, .unset, .unset, .unset, .unset, .unset, .unset, .unset] [(.int (2147483647 : Int32)), (.int p0)])
  refine own_go (fun _ k => XS.iand X0.here hx rfl (hb hby at_3) rfl k) ?_
  show own_Ends _ _ _ _ _ _ _ s₁ (mkF m 4 #[.val (.int p0), .val (.int p1), .val (.int p2), .val (.int p3), .unset, .unset, .unset, .unset, .unset, .unset, .unset, .unset, .unset] [(.int (p0 &&& (2147483647 : Int32)))])
  refine own_go (fun _ k => X0.ldcInt hx hown (mvT hZ (hw _ (List.mem_of_getElem? (i := 1) rfl))) (g := (mkF m 4 #[.val (.int p0), .val (.int p1), .val (.int p2), .val (.int p3), .unset, .unset, .unset, .unset, .unset, .unset, .unset, .unset, .unset] [(.int (p0 &&& (2147483647 : Int32)))])) rfl (hb hby at_4) _ k) ?_
  show own_Ends _ _ _ _ _ _ _ s₁ (mkF m 6 #[.val (.int p0), .val (.int p1), .val (.int p2), .val (.int p3), .unset, .unset, .unset, .unset, .unset, .unset, .unset, .unset, .unset] [(.int (1114112 : Int32)), (.int (p0 &&& (2147483647 : Int32)))])
  refine own_go (fun _ k => iremM X0 hx rfl (hb hby at_6) rfl (by decide) k) ?_
  show own_Ends _ _ _ _ _ _ _ s₁ (mkF m 7 #[.val (.int p0), .val (.int p1), .val (.int p2), .val (.int p3), .unset, .unset, .unset, .unset, .unset, .unset, .unset, .unset, .unset] [(.int ((p0 &&& (2147483647 : Int32)) % (1114112 : Int32)))])
  refine own_go (fun _ k => XS.istore X0.here hx rfl (hb hby at_7) rfl (l' := #[.val (.int p0), .val (.int p1), .val (.int p2), .val (.int p3), .val (.int ((p0 &&& (2147483647 : Int32)) % (1114112 : Int32))), .unset, .unset, .unset, .unset, .unset, .unset, .unset, .unset]) rfl k) ?_
  show own_Ends _ _ _ _ _ _ _ s₁ (mkF m 9 #[.val (.int p0), .val (.int p1), .val (.int p2), .val (.int p3), .val (.int ((p0 &&& (2147483647 : Int32)) % (1114112 : Int32))), .unset, .unset, .unset, .unset, .unset, .unset, .unset, .unset] [])
  refine own_go (fun _ k => XS.iloadN X0.here hx rfl (hb hby at_9) rfl k) ?_
  show own_Ends _ _ _ _ _ _ _ s₁ (mkF m 10 #[.val (.int p0), .val (.int p1), .val (.int p2), .val (.int p3), .val (.int ((p0 &&& (2147483647 : Int32)) % (1114112 : Int32))), .unset, .unset, .unset, .unset, .unset, .unset, .unset, .unset] [(.int p1)])
  refine own_go (fun _ k => X0.ldcInt hx hown (mvT hZ (hw _ (List.mem_of_getElem? (i := 0) rfl))) (g := (mkF m 10 #[.val (.int p0), .val (.int p1), .val (.int p2), .val (.int p3), .val (.int ((p0 &&& (2147483647 : Int32)) % (1114112 : Int32))), .unset, .unset, .unset, .unset, .unset, .unset, .unset, .unset] [(.int p1)])) rfl (hb hby at_10) _ k) ?_
  show own_Ends _ _ _ _ _ _ _ s₁ (mkF m 12 #[.val (.int p0), .val (.int p1), .val (.int p2), .val (.int p3), .val (.int ((p0 &&& (2147483647 : Int32)) % (1114112 : Int32))), .unset, .unset, .unset, .unset, .unset, .unset, .unset, .unset] [(.int (2147483647 : Int32)), (.int p1)])
  refine own_go (fun _ k => XS.iand X0.here hx rfl (hb hby at_12) rfl k) ?_
  show own_Ends _ _ _ _ _ _ _ s₁ (mkF m 13 #[.val (.int p0), .val (.int p1), .val (.int p2), .val (.int p3), .val (.int ((p0 &&& (2147483647 : Int32)) % (1114112 : Int32))), .unset, .unset, .unset, .unset, .unset, .unset, .unset, .unset] [(.int (p1 &&& (2147483647 : Int32)))])
  refine own_go (fun _ k => X0.ldcInt hx hown (mvT hZ (hw _ (List.mem_of_getElem? (i := 1) rfl))) (g := (mkF m 13 #[.val (.int p0), .val (.int p1), .val (.int p2), .val (.int p3), .val (.int ((p0 &&& (2147483647 : Int32)) % (1114112 : Int32))), .unset, .unset, .unset, .unset, .unset, .unset, .unset, .unset] [(.int (p1 &&& (2147483647 : Int32)))])) rfl (hb hby at_13) _ k) ?_
  show own_Ends _ _ _ _ _ _ _ s₁ (mkF m 15 #[.val (.int p0), .val (.int p1), .val (.int p2), .val (.int p3), .val (.int ((p0 &&& (2147483647 : Int32)) % (1114112 : Int32))), .unset, .unset, .unset, .unset, .unset, .unset, .unset, .unset] [(.int (1114112 : Int32)), (.int (p1 &&& (2147483647 : Int32)))])
  refine own_go (fun _ k => iremM X0 hx rfl (hb hby at_15) rfl (by decide) k) ?_
  show own_Ends _ _ _ _ _ _ _ s₁ (mkF m 16 #[.val (.int p0), .val (.int p1), .val (.int p2), .val (.int p3), .val (.int ((p0 &&& (2147483647 : Int32)) % (1114112 : Int32))), .unset, .unset, .unset, .unset, .unset, .unset, .unset, .unset] [(.int ((p1 &&& (2147483647 : Int32)) % (1114112 : Int32)))])
  refine own_go (fun _ k => XS.istore X0.here hx rfl (hb hby at_16) rfl (l' := #[.val (.int p0), .val (.int p1), .val (.int p2), .val (.int p3), .val (.int ((p0 &&& (2147483647 : Int32)) % (1114112 : Int32))), .val (.int ((p1 &&& (2147483647 : Int32)) % (1114112 : Int32))), .unset, .unset, .unset, .unset, .unset, .unset, .unset]) rfl k) ?_
  show own_Ends _ _ _ _ _ _ _ s₁ (mkF m 18 #[.val (.int p0), .val (.int p1), .val (.int p2), .val (.int p3), .val (.int ((p0 &&& (2147483647 : Int32)) % (1114112 : Int32))), .val (.int ((p1 &&& (2147483647 : Int32)) % (1114112 : Int32))), .unset, .unset, .unset, .unset, .unset, .unset, .unset] [])
  refine own_go (fun _ k => XS.iload X0.here hx rfl (hb hby at_18) rfl k) ?_
  show own_Ends _ _ _ _ _ _ _ s₁ (mkF m 20 #[.val (.int p0), .val (.int p1), .val (.int p2), .val (.int p3), .val (.int ((p0 &&& (2147483647 : Int32)) % (1114112 : Int32))), .val (.int ((p1 &&& (2147483647 : Int32)) % (1114112 : Int32))), .unset, .unset, .unset, .unset, .unset, .unset, .unset] [(.int ((p0 &&& (2147483647 : Int32)) % (1114112 : Int32)))])
  refine own_go (fun _ k => XS.iload X0.here hx rfl (hb hby at_20) rfl k) ?_
  show own_Ends _ _ _ _ _ _ _ s₁ (mkF m 22 #[.val (.int p0), .val (.int p1), .val (.int p2), .val (.int p3), .val (.int ((p0 &&& (2147483647 : Int32)) % (1114112 : Int32))), .val (.int ((p1 &&& (2147483647 : Int32)) % (1114112 : Int32))), .unset, .unset, .unset, .unset, .unset, .unset, .unset] [(.int ((p1 &&& (2147483647 : Int32)) % (1114112 : Int32))), (.int ((p0 &&& (2147483647 : Int32)) % (1114112 : Int32)))])
  obtain ⟨v24, T24, L24, X24, hQ24, st24⟩ := own_callS X0 hx hZ hown (hw _ (List.mem_of_getElem? (i := 2) rfl)) (hw _ (List.mem_of_getElem? (i := 3) rfl)) (hw _ (List.mem_of_getElem? (i := 4) rfl)) (hw _ (List.mem_of_getElem? (i := 5) rfl)) (rm1 l Z a0 hw ((p0 &&& (2147483647 : Int32)) % (1114112 : Int32)) ((p1 &&& (2147483647 : Int32)) % (1114112 : Int32)) h0) e0 (g := (mkF m 22 #[.val (.int p0), .val (.int p1), .val (.int p2), .val (.int p3), .val (.int ((p0 &&& (2147483647 : Int32)) % (1114112 : Int32))), .val (.int ((p1 &&& (2147483647 : Int32)) % (1114112 : Int32))), .unset, .unset, .unset, .unset, .unset, .unset, .unset] [(.int ((p1 &&& (2147483647 : Int32)) % (1114112 : Int32))), (.int ((p0 &&& (2147483647 : Int32)) % (1114112 : Int32)))])) rfl (by rw [hml]; rfl) (argsL := [(.int ((p0 &&& (2147483647 : Int32)) % (1114112 : Int32))), (.int ((p1 &&& (2147483647 : Int32)) % (1114112 : Int32)))]) (rest := []) (lenOf pd_2 rfl) rfl rfl (W := 0) (by show 2 * 0 + _ ≤ _; exact Nat.le_of_eq rfl) (hb hby at_22) (by decide) (by decide) (by decide) (by decide) (by decide)
  obtain ⟨rfl, rfl, e24⟩ := hQ24
  refine own_go st24 ?_
  have N24 := Fr.app N0 (Fr.nil _)
  show own_Ends _ _ _ _ _ _ _ T24 (mkF m 25 #[.val (.int p0), .val (.int p1), .val (.int p2), .val (.int p3), .val (.int ((p0 &&& (2147483647 : Int32)) % (1114112 : Int32))), .val (.int ((p1 &&& (2147483647 : Int32)) % (1114112 : Int32))), .unset, .unset, .unset, .unset, .unset, .unset, .unset] [(.int (own_min ((p0 &&& (2147483647 : Int32)) % (1114112 : Int32)) ((p1 &&& (2147483647 : Int32)) % (1114112 : Int32))))])
  refine own_go (fun _ k => XS.istore X24.here hx rfl (hb hby at_25) rfl (l' := #[.val (.int p0), .val (.int p1), .val (.int p2), .val (.int p3), .val (.int ((p0 &&& (2147483647 : Int32)) % (1114112 : Int32))), .val (.int ((p1 &&& (2147483647 : Int32)) % (1114112 : Int32))), .val (.int (own_min ((p0 &&& (2147483647 : Int32)) % (1114112 : Int32)) ((p1 &&& (2147483647 : Int32)) % (1114112 : Int32)))), .unset, .unset, .unset, .unset, .unset, .unset]) rfl k) ?_
  show own_Ends _ _ _ _ _ _ _ T24 (mkF m 27 #[.val (.int p0), .val (.int p1), .val (.int p2), .val (.int p3), .val (.int ((p0 &&& (2147483647 : Int32)) % (1114112 : Int32))), .val (.int ((p1 &&& (2147483647 : Int32)) % (1114112 : Int32))), .val (.int (own_min ((p0 &&& (2147483647 : Int32)) % (1114112 : Int32)) ((p1 &&& (2147483647 : Int32)) % (1114112 : Int32)))), .unset, .unset, .unset, .unset, .unset, .unset] [])
  refine own_go (fun _ k => XS.iload X24.here hx rfl (hb hby at_27) rfl k) ?_
  show own_Ends _ _ _ _ _ _ _ T24 (mkF m 29 #[.val (.int p0), .val (.int p1), .val (.int p2), .val (.int p3), .val (.int ((p0 &&& (2147483647 : Int32)) % (1114112 : Int32))), .val (.int ((p1 &&& (2147483647 : Int32)) % (1114112 : Int32))), .val (.int (own_min ((p0 &&& (2147483647 : Int32)) % (1114112 : Int32)) ((p1 &&& (2147483647 : Int32)) % (1114112 : Int32)))), .unset, .unset, .unset, .unset, .unset, .unset] [(.int ((p0 &&& (2147483647 : Int32)) % (1114112 : Int32)))])
  refine own_go (fun _ k => XS.iload X24.here hx rfl (hb hby at_29) rfl k) ?_
  show own_Ends _ _ _ _ _ _ _ T24 (mkF m 31 #[.val (.int p0), .val (.int p1), .val (.int p2), .val (.int p3), .val (.int ((p0 &&& (2147483647 : Int32)) % (1114112 : Int32))), .val (.int ((p1 &&& (2147483647 : Int32)) % (1114112 : Int32))), .val (.int (own_min ((p0 &&& (2147483647 : Int32)) % (1114112 : Int32)) ((p1 &&& (2147483647 : Int32)) % (1114112 : Int32)))), .unset, .unset, .unset, .unset, .unset, .unset] [(.int ((p1 &&& (2147483647 : Int32)) % (1114112 : Int32))), (.int ((p0 &&& (2147483647 : Int32)) % (1114112 : Int32)))])
  obtain ⟨v25, T25, L25, X25, hQ25, st25⟩ := own_callS X24 hx hZ hown (hw _ (List.mem_of_getElem? (i := 6) rfl)) (hw _ (List.mem_of_getElem? (i := 7) rfl)) (hw _ (List.mem_of_getElem? (i := 4) rfl)) (hw _ (List.mem_of_getElem? (i := 8) rfl)) (rm2 l Z a0 hw ((p0 &&& (2147483647 : Int32)) % (1114112 : Int32)) ((p1 &&& (2147483647 : Int32)) % (1114112 : Int32)) h0) e24 (g := (mkF m 31 #[.val (.int p0), .val (.int p1), .val (.int p2), .val (.int p3), .val (.int ((p0 &&& (2147483647 : Int32)) % (1114112 : Int32))), .val (.int ((p1 &&& (2147483647 : Int32)) % (1114112 : Int32))), .val (.int (own_min ((p0 &&& (2147483647 : Int32)) % (1114112 : Int32)) ((p1 &&& (2147483647 : Int32)) % (1114112 : Int32)))), .unset, .unset, .unset, .unset, .unset, .unset] [(.int ((p1 &&& (2147483647 : Int32)) % (1114112 : Int32))), (.int ((p0 &&& (2147483647 : Int32)) % (1114112 : Int32)))])) rfl (by rw [hml]; rfl) (argsL := [(.int ((p0 &&& (2147483647 : Int32)) % (1114112 : Int32))), (.int ((p1 &&& (2147483647 : Int32)) % (1114112 : Int32)))]) (rest := []) (lenOf pd_2 rfl) rfl rfl (W := 0) (by show 2 * 0 + _ ≤ _; exact Nat.le_of_eq rfl) (hb hby at_31) (by decide) (by decide) (by decide) (by decide) (by decide)
  obtain ⟨rfl, rfl, e25⟩ := hQ25
  refine own_go st25 ?_
  have N25 := Fr.app N24 (Fr.nil _)
  show own_Ends _ _ _ _ _ _ _ T25 (mkF m 34 #[.val (.int p0), .val (.int p1), .val (.int p2), .val (.int p3), .val (.int ((p0 &&& (2147483647 : Int32)) % (1114112 : Int32))), .val (.int ((p1 &&& (2147483647 : Int32)) % (1114112 : Int32))), .val (.int (own_min ((p0 &&& (2147483647 : Int32)) % (1114112 : Int32)) ((p1 &&& (2147483647 : Int32)) % (1114112 : Int32)))), .unset, .unset, .unset, .unset, .unset, .unset] [(.int (own_max ((p0 &&& (2147483647 : Int32)) % (1114112 : Int32)) ((p1 &&& (2147483647 : Int32)) % (1114112 : Int32))))])
  generalize own_min ((p0 &&& (2147483647 : Int32)) % (1114112 : Int32)) ((p1 &&& (2147483647 : Int32)) % (1114112 : Int32)) = lo
  generalize own_max ((p0 &&& (2147483647 : Int32)) % (1114112 : Int32)) ((p1 &&& (2147483647 : Int32)) % (1114112 : Int32)) = hi
  generalize ((p0 &&& (2147483647 : Int32)) % (1114112 : Int32)) = px
  generalize ((p1 &&& (2147483647 : Int32)) % (1114112 : Int32)) = py
  show own_Ends _ _ _ _ _ _ _ T25 (mkF m 34 #[.val (.int p0), .val (.int p1), .val (.int p2), .val (.int p3), .val (.int px), .val (.int py), .val (.int lo), .unset, .unset, .unset, .unset, .unset, .unset] [(.int hi)])
  refine own_go (fun _ k => XS.istore X25.here hx rfl (hb hby at_34) rfl (l' := #[.val (.int p0), .val (.int p1), .val (.int p2), .val (.int p3), .val (.int px), .val (.int py), .val (.int lo), .val (.int hi), .unset, .unset, .unset, .unset, .unset]) rfl k) ?_
  show own_Ends _ _ _ _ _ _ _ T25 (mkF m 36 #[.val (.int p0), .val (.int p1), .val (.int p2), .val (.int p3), .val (.int px), .val (.int py), .val (.int lo), .val (.int hi), .unset, .unset, .unset, .unset, .unset] [])
  refine own_go (fun _ k => XS.iloadN X25.here hx rfl (hb hby at_36) rfl k) ?_
  show own_Ends _ _ _ _ _ _ _ T25 (mkF m 37 #[.val (.int p0), .val (.int p1), .val (.int p2), .val (.int p3), .val (.int px), .val (.int py), .val (.int lo), .val (.int hi), .unset, .unset, .unset, .unset, .unset] [(.int p3)])
  refine own_go (fun _ k => XS.bipush X25.here hx rfl (hb hby at_37) k) ?_
  show own_Ends _ _ _ _ _ _ _ T25 (mkF m 39 #[.val (.int p0), .val (.int p1), .val (.int p2), .val (.int p3), .val (.int px), .val (.int py), .val (.int lo), .val (.int hi), .unset, .unset, .unset, .unset, .unset] [(.int (7 : Int32)), (.int p3)])
  refine own_go (fun _ k => XS.iand X25.here hx rfl (hb hby at_39) rfl k) ?_
  show own_Ends _ _ _ _ _ _ _ T25 (mkF m 40 #[.val (.int p0), .val (.int p1), .val (.int p2), .val (.int p3), .val (.int px), .val (.int py), .val (.int lo), .val (.int hi), .unset, .unset, .unset, .unset, .unset] [(.int (p3 &&& (7 : Int32)))])
  refine own_go (fun _ k => XS.istore X25.here hx rfl (hb hby at_40) rfl (l' := #[.val (.int p0), .val (.int p1), .val (.int p2), .val (.int p3), .val (.int px), .val (.int py), .val (.int lo), .val (.int hi), .val (.int (p3 &&& (7 : Int32))), .unset, .unset, .unset, .unset]) rfl k) ?_
  show own_Ends _ _ _ _ _ _ _ T25 (mkF m 42 #[.val (.int p0), .val (.int p1), .val (.int p2), .val (.int p3), .val (.int px), .val (.int py), .val (.int lo), .val (.int hi), .val (.int (p3 &&& (7 : Int32))), .unset, .unset, .unset, .unset] [])
  refine own_go (fun _ k => XS.iload X25.here hx rfl (hb hby at_42) rfl k) ?_
  show own_Ends _ _ _ _ _ _ _ T25 (mkF m 44 #[.val (.int p0), .val (.int p1), .val (.int p2), .val (.int p3), .val (.int px), .val (.int py), .val (.int lo), .val (.int hi), .val (.int (p3 &&& (7 : Int32))), .unset, .unset, .unset, .unset] [(.int (p3 &&& (7 : Int32)))])
  have K121 : ∀ (pr : Int32), own_Ends p e s below room_1.cells room_1.slots (fun v h L => v = some (.int 1) ∧ Fr h0.size L) T25 (mkF m 121 #[.val (.int p0), .val (.int p1), .val (.int p2), .val (.int p3), .val (.int px), .val (.int py), .val (.int lo), .val (.int hi), .val (.int (p3 &&& (7 : Int32))), .val (.int pr), .unset, .unset, .unset] []) := by
    intro pr
    refine own_go (fun _ k => XS.iload X25.here hx rfl (hb hby at_121) rfl k) ?_
    show own_Ends _ _ _ _ _ _ _ T25 (mkF m 123 #[.val (.int p0), .val (.int p1), .val (.int p2), .val (.int p3), .val (.int px), .val (.int py), .val (.int lo), .val (.int hi), .val (.int (p3 &&& (7 : Int32))), .val (.int pr), .unset, .unset, .unset] [(.int lo)])
    refine own_go (fun _ k => XS.iload X25.here hx rfl (hb hby at_123) rfl k) ?_
    show own_Ends _ _ _ _ _ _ _ T25 (mkF m 125 #[.val (.int p0), .val (.int p1), .val (.int p2), .val (.int p3), .val (.int px), .val (.int py), .val (.int lo), .val (.int hi), .val (.int (p3 &&& (7 : Int32))), .val (.int pr), .unset, .unset, .unset] [(.int hi), (.int lo)])
    obtain ⟨v26, T26, L26, X26, hQ26, st26⟩ := own_callS X25 hx hZ hown (hw _ (List.mem_of_getElem? (i := 9) rfl)) (hw _ (List.mem_of_getElem? (i := 10) rfl)) (hw _ (List.mem_of_getElem? (i := 11) rfl)) (hw _ (List.mem_of_getElem? (i := 12) rfl)) (rm3 l Z a0 hw lo hi h0 h0.size K0.1) e25 (g := (mkF m 125 #[.val (.int p0), .val (.int p1), .val (.int p2), .val (.int p3), .val (.int px), .val (.int py), .val (.int lo), .val (.int hi), .val (.int (p3 &&& (7 : Int32))), .val (.int pr), .unset, .unset, .unset] [(.int hi), (.int lo)])) rfl (by rw [hml]; rfl) (argsL := [(.int lo), (.int hi)]) (rest := []) (lenOf pd_3 rfl) rfl rfl (W := 0) (by show 2 * 0 + _ ≤ _; exact Nat.le_of_eq rfl) (hb hby at_125) (by decide) (by decide) (by decide) (by decide) (by decide)
    obtain ⟨bo, ba, kc, f, rfl, N26q, K26, E26, B26, C26, D26, G26, A26, f0, f1⟩ := hQ26
    refine own_go st26 ?_
    have N26 := Fr.app N25 N26q
    have K_26 := K0.trans K26 all0
    show own_Ends _ _ _ _ _ _ _ T26 (mkF m 128 #[.val (.int p0), .val (.int p1), .val (.int p2), .val (.int p3), .val (.int px), .val (.int py), .val (.int lo), .val (.int hi), .val (.int (p3 &&& (7 : Int32))), .val (.int pr), .unset, .unset, .unset] [(.ref bo)])
    refine own_go (fun _ k => XS.astore X26.here hx rfl (hb hby at_128) rfl rfl (l' := #[.val (.int p0), .val (.int p1), .val (.int p2), .val (.int p3), .val (.int px), .val (.int py), .val (.int lo), .val (.int hi), .val (.int (p3 &&& (7 : Int32))), .val (.int pr), .val (.ref bo), .unset, .unset]) rfl k) ?_
    show own_Ends _ _ _ _ _ _ _ T26 (mkF m 130 #[.val (.int p0), .val (.int p1), .val (.int p2), .val (.int p3), .val (.int px), .val (.int py), .val (.int lo), .val (.int hi), .val (.int (p3 &&& (7 : Int32))), .val (.int pr), .val (.ref bo), .unset, .unset] [])
    refine own_go (fun _ k => XS.iload X26.here hx rfl (hb hby at_130) rfl k) ?_
    show own_Ends _ _ _ _ _ _ _ T26 (mkF m 132 #[.val (.int p0), .val (.int p1), .val (.int p2), .val (.int p3), .val (.int px), .val (.int py), .val (.int lo), .val (.int hi), .val (.int (p3 &&& (7 : Int32))), .val (.int pr), .val (.ref bo), .unset, .unset] [(.int lo)])
    refine own_go (fun _ k => XS.iload X26.here hx rfl (hb hby at_132) rfl k) ?_
    show own_Ends _ _ _ _ _ _ _ T26 (mkF m 134 #[.val (.int p0), .val (.int p1), .val (.int p2), .val (.int p3), .val (.int px), .val (.int py), .val (.int lo), .val (.int hi), .val (.int (p3 &&& (7 : Int32))), .val (.int pr), .val (.ref bo), .unset, .unset] [(.int pr), (.int lo)])
    have K151 : ∀ (cv : Int32) (hcv : own_inr lo hi pr = cv), own_Ends p e s below room_1.cells room_1.slots (fun v h L => v = some (.int 1) ∧ Fr h0.size L) T26 (mkF m 151 #[.val (.int p0), .val (.int p1), .val (.int p2), .val (.int p3), .val (.int px), .val (.int py), .val (.int lo), .val (.int hi), .val (.int (p3 &&& (7 : Int32))), .val (.int pr), .val (.ref bo), .val (.int cv), .unset] []) := by
      intro cv hcv
      refine own_go (fun _ k => XS.aload X26.here hx rfl (hb hby at_151) rfl rfl k) ?_
      show own_Ends _ _ _ _ _ _ _ T26 (mkF m 153 #[.val (.int p0), .val (.int p1), .val (.int p2), .val (.int p3), .val (.int px), .val (.int py), .val (.int lo), .val (.int hi), .val (.int (p3 &&& (7 : Int32))), .val (.int pr), .val (.ref bo), .val (.int cv), .unset] [(.ref bo)])
      refine own_go (fun _ k => XS.iload X26.here hx rfl (hb hby at_153) rfl k) ?_
      show own_Ends _ _ _ _ _ _ _ T26 (mkF m 155 #[.val (.int p0), .val (.int p1), .val (.int p2), .val (.int p3), .val (.int px), .val (.int py), .val (.int lo), .val (.int hi), .val (.int (p3 &&& (7 : Int32))), .val (.int pr), .val (.ref bo), .val (.int cv), .unset] [(.int pr), (.ref bo)])
      obtain ⟨v27, T27, L27, X27, hQ27, st27⟩ := own_callV X26 hx hZ hown (hw _ (List.mem_of_getElem? (i := 33) rfl)) (hw _ (List.mem_of_getElem? (i := 34) rfl)) (hw _ (List.mem_of_getElem? (i := 36) rfl)) (hw _ (List.mem_of_getElem? (i := 35) rfl)) (hw _ (List.mem_of_getElem? (i := 11) rfl)) (hw _ (List.mem_of_getElem? (i := 37) rfl)) (rm7 l Z a0 hw bo pr T26.heap ba kc f lo hi B26 A26 f0 f1) rfl (g := (mkF m 155 #[.val (.int p0), .val (.int p1), .val (.int p2), .val (.int p3), .val (.int px), .val (.int py), .val (.int lo), .val (.int hi), .val (.int (p3 &&& (7 : Int32))), .val (.int pr), .val (.ref bo), .val (.int cv), .unset] [(.int pr), (.ref bo)])) rfl (by rw [hml]; rfl) (a := bo) (argsL := [(.int pr)]) (rest := []) (E26) (lenOf pd_4 rfl) rfl rfl (W := 0) (by show 2 * 0 + _ ≤ _; exact Nat.le_of_eq rfl) (hb hby at_155) (by decide) (by decide) (by decide) (by decide) (by decide)
      obtain ⟨rfl, rfl, e27⟩ := hQ27
      refine own_go st27 ?_
      have N27 := Fr.app N26 (Fr.nil _)
      show own_Ends _ _ _ _ _ _ _ T27 (mkF m 158 #[.val (.int p0), .val (.int p1), .val (.int p2), .val (.int p3), .val (.int px), .val (.int py), .val (.int lo), .val (.int hi), .val (.int (p3 &&& (7 : Int32))), .val (.int pr), .val (.ref bo), .val (.int cv), .unset] [(.int (own_inr lo hi pr))])
      refine own_go (fun _ k => XS.iload X27.here hx rfl (hb hby at_158) rfl k) ?_
      show own_Ends _ _ _ _ _ _ _ T27 (mkF m 160 #[.val (.int p0), .val (.int p1), .val (.int p2), .val (.int p3), .val (.int px), .val (.int py), .val (.int lo), .val (.int hi), .val (.int (p3 &&& (7 : Int32))), .val (.int pr), .val (.ref bo), .val (.int cv), .unset] [(.int cv), (.int (own_inr lo hi pr))])
      refine own_go (fun _ k => XS.icmpYes X27.here hx rfl (pc0 := 160) (pc' := 165) rfl (hb hby at_160) rfl (teq hcv).1 (by decide) (by decide) k) ?_
      show own_Ends _ _ _ _ _ _ _ T27 (mkF m 165 #[.val (.int p0), .val (.int p1), .val (.int p2), .val (.int p3), .val (.int px), .val (.int py), .val (.int lo), .val (.int hi), .val (.int (p3 &&& (7 : Int32))), .val (.int pr), .val (.ref bo), .val (.int cv), .unset] [])
      refine own_go (fun _ k => XS.iload X27.here hx rfl (hb hby at_165) rfl k) ?_
      show own_Ends _ _ _ _ _ _ _ T27 (mkF m 167 #[.val (.int p0), .val (.int p1), .val (.int p2), .val (.int p3), .val (.int px), .val (.int py), .val (.int lo), .val (.int hi), .val (.int (p3 &&& (7 : Int32))), .val (.int pr), .val (.ref bo), .val (.int cv), .unset] [(.int lo)])
      refine own_go (fun _ k => XS.iload X27.here hx rfl (hb hby at_167) rfl k) ?_
      show own_Ends _ _ _ _ _ _ _ T27 (mkF m 169 #[.val (.int p0), .val (.int p1), .val (.int p2), .val (.int p3), .val (.int px), .val (.int py), .val (.int lo), .val (.int hi), .val (.int (p3 &&& (7 : Int32))), .val (.int pr), .val (.ref bo), .val (.int cv), .unset] [(.int hi), (.int lo)])
      by_cases h9 : lo = hi
      · refine own_go (fun _ k => XS.icmpNo X27.here hx rfl (hb hby at_169) rfl (teq h9).2 k) ?_
        show own_Ends _ _ _ _ _ _ _ T27 (mkF m 172 #[.val (.int p0), .val (.int p1), .val (.int p2), .val (.int p3), .val (.int px), .val (.int py), .val (.int lo), .val (.int hi), .val (.int (p3 &&& (7 : Int32))), .val (.int pr), .val (.ref bo), .val (.int cv), .unset] [])
        refine own_go (fun _ k => XS.iload X27.here hx rfl (hb hby at_172) rfl k) ?_
        show own_Ends _ _ _ _ _ _ _ T27 (mkF m 174 #[.val (.int p0), .val (.int p1), .val (.int p2), .val (.int p3), .val (.int px), .val (.int py), .val (.int lo), .val (.int hi), .val (.int (p3 &&& (7 : Int32))), .val (.int pr), .val (.ref bo), .val (.int cv), .unset] [(.int lo)])
        refine own_go (fun _ k => XS.goto X27.here hx rfl (pc0 := 174) (pc' := 178) rfl (hb hby at_174) (by decide) (by decide) k) ?_
        show own_Ends _ _ _ _ _ _ _ T27 (mkF m 178 #[.val (.int p0), .val (.int p1), .val (.int p2), .val (.int p3), .val (.int px), .val (.int py), .val (.int lo), .val (.int hi), .val (.int (p3 &&& (7 : Int32))), .val (.int pr), .val (.ref bo), .val (.int cv), .unset] [(.int lo)])
        refine own_go (fun _ k => XS.istore X27.here hx rfl (hb hby at_178) rfl (l' := #[.val (.int p0), .val (.int p1), .val (.int p2), .val (.int p3), .val (.int px), .val (.int py), .val (.int lo), .val (.int hi), .val (.int (p3 &&& (7 : Int32))), .val (.int pr), .val (.ref bo), .val (.int cv), .val (.int lo)]) rfl k) ?_
        show own_Ends _ _ _ _ _ _ _ T27 (mkF m 180 #[.val (.int p0), .val (.int p1), .val (.int p2), .val (.int p3), .val (.int px), .val (.int py), .val (.int lo), .val (.int hi), .val (.int (p3 &&& (7 : Int32))), .val (.int pr), .val (.ref bo), .val (.int cv), .val (.int lo)] [])
        refine own_go (fun _ k => XS.aload X27.here hx rfl (hb hby at_180) rfl rfl k) ?_
        show own_Ends _ _ _ _ _ _ _ T27 (mkF m 182 #[.val (.int p0), .val (.int p1), .val (.int p2), .val (.int p3), .val (.int px), .val (.int py), .val (.int lo), .val (.int hi), .val (.int (p3 &&& (7 : Int32))), .val (.int pr), .val (.ref bo), .val (.int cv), .val (.int lo)] [(.ref bo)])
        obtain ⟨v28, T28, L28, X28, hQ28, st28⟩ := own_callV X27 hx hZ hown (hw _ (List.mem_of_getElem? (i := 38) rfl)) (hw _ (List.mem_of_getElem? (i := 39) rfl)) (hw _ (List.mem_of_getElem? (i := 41) rfl)) (hw _ (List.mem_of_getElem? (i := 40) rfl)) (hw _ (List.mem_of_getElem? (i := 11) rfl)) (hw _ (List.mem_of_getElem? (i := 42) rfl)) (rm8 l Z a0 hw bo T26.heap ba kc f lo hi B26 A26 f0 f1) e27 (g := (mkF m 182 #[.val (.int p0), .val (.int p1), .val (.int p2), .val (.int p3), .val (.int px), .val (.int py), .val (.int lo), .val (.int hi), .val (.int (p3 &&& (7 : Int32))), .val (.int pr), .val (.ref bo), .val (.int cv), .val (.int lo)] [(.ref bo)])) rfl (by rw [hml]; rfl) (a := bo) (argsL := []) (rest := []) (E26) (lenOf pd_5 rfl) rfl rfl (W := 0) (by show 2 * 0 + _ ≤ _; exact Nat.le_of_eq rfl) (hb hby at_182) (by decide) (by decide) (by decide) (by decide) (by decide)
        obtain ⟨rfl, rfl, e28⟩ := hQ28
        refine own_go st28 ?_
        have N28 := Fr.app N27 (Fr.nil _)
        show own_Ends _ _ _ _ _ _ _ T28 (mkF m 185 #[.val (.int p0), .val (.int p1), .val (.int p2), .val (.int p3), .val (.int px), .val (.int py), .val (.int lo), .val (.int hi), .val (.int (p3 &&& (7 : Int32))), .val (.int pr), .val (.ref bo), .val (.int cv), .val (.int lo)] [(.int (own_only lo hi))])
        refine own_go (fun _ k => XS.iload X28.here hx rfl (hb hby at_185) rfl k) ?_
        show own_Ends _ _ _ _ _ _ _ T28 (mkF m 187 #[.val (.int p0), .val (.int p1), .val (.int p2), .val (.int p3), .val (.int px), .val (.int py), .val (.int lo), .val (.int hi), .val (.int (p3 &&& (7 : Int32))), .val (.int pr), .val (.ref bo), .val (.int cv), .val (.int lo)] [(.int lo), (.int (own_only lo hi))])
        refine own_go (fun _ k => XS.icmpYes X28.here hx rfl (pc0 := 187) (pc' := 192) rfl (hb hby at_187) rfl (teq (if_pos h9)).1 (by decide) (by decide) k) ?_
        show own_Ends _ _ _ _ _ _ _ T28 (mkF m 192 #[.val (.int p0), .val (.int p1), .val (.int p2), .val (.int p3), .val (.int px), .val (.int py), .val (.int lo), .val (.int hi), .val (.int (p3 &&& (7 : Int32))), .val (.int pr), .val (.ref bo), .val (.int cv), .val (.int lo)] [])
        refine own_go (fun _ k => XS.aload X28.here hx rfl (hb hby at_192) rfl rfl k) ?_
        show own_Ends _ _ _ _ _ _ _ T28 (mkF m 194 #[.val (.int p0), .val (.int p1), .val (.int p2), .val (.int p3), .val (.int px), .val (.int py), .val (.int lo), .val (.int hi), .val (.int (p3 &&& (7 : Int32))), .val (.int pr), .val (.ref bo), .val (.int cv), .val (.int lo)] [(.ref bo)])
        obtain ⟨v29, T29, L29, X29, hQ29, st29⟩ := own_callV X28 hx hZ hown (hw _ (List.mem_of_getElem? (i := 43) rfl)) (hw _ (List.mem_of_getElem? (i := 44) rfl)) (hw _ (List.mem_of_getElem? (i := 46) rfl)) (hw _ (List.mem_of_getElem? (i := 45) rfl)) (hw _ (List.mem_of_getElem? (i := 11) rfl)) (hw _ (List.mem_of_getElem? (i := 47) rfl)) (rm9 l Z a0 hw bo T26.heap ba kc f lo hi D26 A26 f0 f1) e28 (g := (mkF m 194 #[.val (.int p0), .val (.int p1), .val (.int p2), .val (.int p3), .val (.int px), .val (.int py), .val (.int lo), .val (.int hi), .val (.int (p3 &&& (7 : Int32))), .val (.int pr), .val (.ref bo), .val (.int cv), .val (.int lo)] [(.ref bo)])) rfl (by rw [hml]; rfl) (a := bo) (argsL := []) (rest := []) (E26) (lenOf pd_5 rfl) rfl rfl (W := 0) (by show 2 * 0 + _ ≤ _; exact Nat.le_of_eq rfl) (hb hby at_194) (by decide) (by decide) (by decide) (by decide) (by decide)
        obtain ⟨rfl, rfl, e29⟩ := hQ29
        refine own_go st29 ?_
        have N29 := Fr.app N28 (Fr.nil _)
        show own_Ends _ _ _ _ _ _ _ T29 (mkF m 197 #[.val (.int p0), .val (.int p1), .val (.int p2), .val (.int p3), .val (.int px), .val (.int py), .val (.int lo), .val (.int hi), .val (.int (p3 &&& (7 : Int32))), .val (.int pr), .val (.ref bo), .val (.int cv), .val (.int lo)] [(.int (1 : Int32))])
        refine own_go (fun _ k => XS.iconst X29.here hx rfl (hb hby at_197) k) ?_
        show own_Ends _ _ _ _ _ _ _ T29 (mkF m 198 #[.val (.int p0), .val (.int p1), .val (.int p2), .val (.int p3), .val (.int px), .val (.int py), .val (.int lo), .val (.int hi), .val (.int (p3 &&& (7 : Int32))), .val (.int pr), .val (.ref bo), .val (.int cv), .val (.int lo)] [(.int (1 : Int32)), (.int (1 : Int32))])
        refine own_go (fun _ k => XS.icmpYes X29.here hx rfl (pc0 := 198) (pc' := 203) rfl (hb hby at_198) rfl (teq (rfl)).1 (by decide) (by decide) k) ?_
        show own_Ends _ _ _ _ _ _ _ T29 (mkF m 203 #[.val (.int p0), .val (.int p1), .val (.int p2), .val (.int p3), .val (.int px), .val (.int py), .val (.int lo), .val (.int hi), .val (.int (p3 &&& (7 : Int32))), .val (.int pr), .val (.ref bo), .val (.int cv), .val (.int lo)] [])
        refine own_go (fun _ k => XS.aload X29.here hx rfl (hb hby at_203) rfl rfl k) ?_
        show own_Ends _ _ _ _ _ _ _ T29 (mkF m 205 #[.val (.int p0), .val (.int p1), .val (.int p2), .val (.int p3), .val (.int px), .val (.int py), .val (.int lo), .val (.int hi), .val (.int (p3 &&& (7 : Int32))), .val (.int pr), .val (.ref bo), .val (.int cv), .val (.int lo)] [(.ref bo)])
        refine own_go (fun _ k => XS.iconst X29.here hx rfl (hb hby at_205) k) ?_
        show own_Ends _ _ _ _ _ _ _ T29 (mkF m 206 #[.val (.int p0), .val (.int p1), .val (.int p2), .val (.int p3), .val (.int px), .val (.int py), .val (.int lo), .val (.int hi), .val (.int (p3 &&& (7 : Int32))), .val (.int pr), .val (.ref bo), .val (.int cv), .val (.int lo)] [(.int (0 : Int32)), (.ref bo)])
        obtain ⟨v30, T30, L30, X30, hQ30, st30⟩ := own_callV X29 hx hZ hown (hw _ (List.mem_of_getElem? (i := 48) rfl)) (hw _ (List.mem_of_getElem? (i := 49) rfl)) (hw _ (List.mem_of_getElem? (i := 51) rfl)) (hw _ (List.mem_of_getElem? (i := 50) rfl)) (hw _ (List.mem_of_getElem? (i := 11) rfl)) (hw _ (List.mem_of_getElem? (i := 52) rfl)) (rm10 l Z a0 hw bo 0 T26.heap ba kc f lo hi D26 A26 f0 f1 rfl) e29 (g := (mkF m 206 #[.val (.int p0), .val (.int p1), .val (.int p2), .val (.int p3), .val (.int px), .val (.int py), .val (.int lo), .val (.int hi), .val (.int (p3 &&& (7 : Int32))), .val (.int pr), .val (.ref bo), .val (.int cv), .val (.int lo)] [(.int (0 : Int32)), (.ref bo)])) rfl (by rw [hml]; rfl) (a := bo) (argsL := [(.int (0 : Int32))]) (rest := []) (E26) (lenOf pd_6 rfl) rfl rfl (W := 0) (by show 2 * 0 + _ ≤ _; exact Nat.le_of_eq rfl) (hb hby at_206) (by decide) (by decide) (by decide) (by decide) (by decide)
        obtain ⟨rfl, rfl, e30⟩ := hQ30
        refine own_go st30 ?_
        have N30 := Fr.app N29 (Fr.nil _)
        show own_Ends _ _ _ _ _ _ _ T30 (mkF m 209 #[.val (.int p0), .val (.int p1), .val (.int p2), .val (.int p3), .val (.int px), .val (.int py), .val (.int lo), .val (.int hi), .val (.int (p3 &&& (7 : Int32))), .val (.int pr), .val (.ref bo), .val (.int cv), .val (.int lo)] [(.int lo)])
        refine own_go (fun _ k => XS.iload X30.here hx rfl (hb hby at_209) rfl k) ?_
        show own_Ends _ _ _ _ _ _ _ T30 (mkF m 211 #[.val (.int p0), .val (.int p1), .val (.int p2), .val (.int p3), .val (.int px), .val (.int py), .val (.int lo), .val (.int hi), .val (.int (p3 &&& (7 : Int32))), .val (.int pr), .val (.ref bo), .val (.int cv), .val (.int lo)] [(.int lo), (.int lo)])
        refine own_go (fun _ k => XS.icmpYes X30.here hx rfl (pc0 := 211) (pc' := 216) rfl (hb hby at_211) rfl (teq (rfl)).1 (by decide) (by decide) k) ?_
        show own_Ends _ _ _ _ _ _ _ T30 (mkF m 216 #[.val (.int p0), .val (.int p1), .val (.int p2), .val (.int p3), .val (.int px), .val (.int py), .val (.int lo), .val (.int hi), .val (.int (p3 &&& (7 : Int32))), .val (.int pr), .val (.ref bo), .val (.int cv), .val (.int lo)] [])
        refine own_go (fun _ k => XS.aload X30.here hx rfl (hb hby at_216) rfl rfl k) ?_
        show own_Ends _ _ _ _ _ _ _ T30 (mkF m 218 #[.val (.int p0), .val (.int p1), .val (.int p2), .val (.int p3), .val (.int px), .val (.int py), .val (.int lo), .val (.int hi), .val (.int (p3 &&& (7 : Int32))), .val (.int pr), .val (.ref bo), .val (.int cv), .val (.int lo)] [(.ref bo)])
        refine own_go (fun _ k => XS.iconst X30.here hx rfl (hb hby at_218) k) ?_
        show own_Ends _ _ _ _ _ _ _ T30 (mkF m 219 #[.val (.int p0), .val (.int p1), .val (.int p2), .val (.int p3), .val (.int px), .val (.int py), .val (.int lo), .val (.int hi), .val (.int (p3 &&& (7 : Int32))), .val (.int pr), .val (.ref bo), .val (.int cv), .val (.int lo)] [(.int (0 : Int32)), (.ref bo)])
        obtain ⟨v31, T31, L31, X31, hQ31, st31⟩ := own_callV X30 hx hZ hown (hw _ (List.mem_of_getElem? (i := 53) rfl)) (hw _ (List.mem_of_getElem? (i := 54) rfl)) (hw _ (List.mem_of_getElem? (i := 56) rfl)) (hw _ (List.mem_of_getElem? (i := 55) rfl)) (hw _ (List.mem_of_getElem? (i := 11) rfl)) (hw _ (List.mem_of_getElem? (i := 57) rfl)) (rm11 l Z a0 hw bo 0 T26.heap ba kc f lo hi D26 A26 f0 f1 rfl) e30 (g := (mkF m 219 #[.val (.int p0), .val (.int p1), .val (.int p2), .val (.int p3), .val (.int px), .val (.int py), .val (.int lo), .val (.int hi), .val (.int (p3 &&& (7 : Int32))), .val (.int pr), .val (.ref bo), .val (.int cv), .val (.int lo)] [(.int (0 : Int32)), (.ref bo)])) rfl (by rw [hml]; rfl) (a := bo) (argsL := [(.int (0 : Int32))]) (rest := []) (E26) (lenOf pd_6 rfl) rfl rfl (W := 0) (by show 2 * 0 + _ ≤ _; exact Nat.le_of_eq rfl) (hb hby at_219) (by decide) (by decide) (by decide) (by decide) (by decide)
        obtain ⟨rfl, rfl, e31⟩ := hQ31
        refine own_go st31 ?_
        have N31 := Fr.app N30 (Fr.nil _)
        show own_Ends _ _ _ _ _ _ _ T31 (mkF m 222 #[.val (.int p0), .val (.int p1), .val (.int p2), .val (.int p3), .val (.int px), .val (.int py), .val (.int lo), .val (.int hi), .val (.int (p3 &&& (7 : Int32))), .val (.int pr), .val (.ref bo), .val (.int cv), .val (.int lo)] [(.int hi)])
        refine own_go (fun _ k => XS.iload X31.here hx rfl (hb hby at_222) rfl k) ?_
        show own_Ends _ _ _ _ _ _ _ T31 (mkF m 224 #[.val (.int p0), .val (.int p1), .val (.int p2), .val (.int p3), .val (.int px), .val (.int py), .val (.int lo), .val (.int hi), .val (.int (p3 &&& (7 : Int32))), .val (.int pr), .val (.ref bo), .val (.int cv), .val (.int lo)] [(.int hi), (.int hi)])
        refine own_go (fun _ k => XS.icmpYes X31.here hx rfl (pc0 := 224) (pc' := 229) rfl (hb hby at_224) rfl (teq (rfl)).1 (by decide) (by decide) k) ?_
        show own_Ends _ _ _ _ _ _ _ T31 (mkF m 229 #[.val (.int p0), .val (.int p1), .val (.int p2), .val (.int p3), .val (.int px), .val (.int py), .val (.int lo), .val (.int hi), .val (.int (p3 &&& (7 : Int32))), .val (.int pr), .val (.ref bo), .val (.int cv), .val (.int lo)] [])
        refine own_go (fun _ k => XS.aload X31.here hx rfl (hb hby at_229) rfl rfl k) ?_
        show own_Ends _ _ _ _ _ _ _ T31 (mkF m 231 #[.val (.int p0), .val (.int p1), .val (.int p2), .val (.int p3), .val (.int px), .val (.int py), .val (.int lo), .val (.int hi), .val (.int (p3 &&& (7 : Int32))), .val (.int pr), .val (.ref bo), .val (.int cv), .val (.int lo)] [(.ref bo)])
        obtain ⟨v32, T32, L32, X32, hQ32, st32⟩ := own_callV X31 hx hZ hown (hw _ (List.mem_of_getElem? (i := 58) rfl)) (hw _ (List.mem_of_getElem? (i := 59) rfl)) (hw _ (List.mem_of_getElem? (i := 61) rfl)) (hw _ (List.mem_of_getElem? (i := 60) rfl)) (hw _ (List.mem_of_getElem? (i := 11) rfl)) (hw _ (List.mem_of_getElem? (i := 62) rfl)) (rm12 l Z a0 hw bo T26.heap 0 C26) e31 (g := (mkF m 231 #[.val (.int p0), .val (.int p1), .val (.int p2), .val (.int p3), .val (.int px), .val (.int py), .val (.int lo), .val (.int hi), .val (.int (p3 &&& (7 : Int32))), .val (.int pr), .val (.ref bo), .val (.int cv), .val (.int lo)] [(.ref bo)])) rfl (by rw [hml]; rfl) (a := bo) (argsL := []) (rest := []) (E26) (lenOf pd_5 rfl) rfl rfl (W := 0) (by show 2 * 0 + _ ≤ _; exact Nat.le_of_eq rfl) (hb hby at_231) (by decide) (by decide) (by decide) (by decide) (by decide)
        obtain ⟨rfl, rfl, e32⟩ := hQ32
        refine own_go st32 ?_
        have N32 := Fr.app N31 (Fr.nil _)
        show own_Ends _ _ _ _ _ _ _ T32 (mkF m 234 #[.val (.int p0), .val (.int p1), .val (.int p2), .val (.int p3), .val (.int px), .val (.int py), .val (.int lo), .val (.int hi), .val (.int (p3 &&& (7 : Int32))), .val (.int pr), .val (.ref bo), .val (.int cv), .val (.int lo)] [(.int (0 : Int32))])
        refine own_go (fun _ k => XS.ifYes X32.here hx rfl (pc0 := 234) (pc' := 239) rfl (hb hby at_234) rfl ((if0 _ _).trans (teq (rfl)).1) (by decide) (by decide) k) ?_
        show own_Ends _ _ _ _ _ _ _ T32 (mkF m 239 #[.val (.int p0), .val (.int p1), .val (.int p2), .val (.int p3), .val (.int px), .val (.int py), .val (.int lo), .val (.int hi), .val (.int (p3 &&& (7 : Int32))), .val (.int pr), .val (.ref bo), .val (.int cv), .val (.int lo)] [])
        refine own_go (fun _ k => XS.aload X32.here hx rfl (hb hby at_239) rfl rfl k) ?_
        show own_Ends _ _ _ _ _ _ _ T32 (mkF m 241 #[.val (.int p0), .val (.int p1), .val (.int p2), .val (.int p3), .val (.int px), .val (.int py), .val (.int lo), .val (.int hi), .val (.int (p3 &&& (7 : Int32))), .val (.int pr), .val (.ref bo), .val (.int cv), .val (.int lo)] [(.ref bo)])
        obtain ⟨v33, T33, L33, X33, hQ33, st33⟩ := own_callV X32 hx hZ hown (hw _ (List.mem_of_getElem? (i := 63) rfl)) (hw _ (List.mem_of_getElem? (i := 64) rfl)) (hw _ (List.mem_of_getElem? (i := 66) rfl)) (hw _ (List.mem_of_getElem? (i := 65) rfl)) (hw _ (List.mem_of_getElem? (i := 11) rfl)) (hw _ (List.mem_of_getElem? (i := 67) rfl)) (rm13 l Z a0 hw bo T26.heap G26) e32 (g := (mkF m 241 #[.val (.int p0), .val (.int p1), .val (.int p2), .val (.int p3), .val (.int px), .val (.int py), .val (.int lo), .val (.int hi), .val (.int (p3 &&& (7 : Int32))), .val (.int pr), .val (.ref bo), .val (.int cv), .val (.int lo)] [(.ref bo)])) rfl (by rw [hml]; rfl) (a := bo) (argsL := []) (rest := []) (E26) (lenOf pd_7 rfl) rfl rfl (W := 0) (by show 2 * 0 + _ ≤ _; exact Nat.le_of_eq rfl) (hb hby at_241) (by decide) (by decide) (by decide) (by decide) (by decide)
        obtain ⟨rfl, rfl, e33⟩ := hQ33
        refine own_go st33 ?_
        have N33 := Fr.app N32 (Fr.nil _)
        show own_Ends _ _ _ _ _ _ _ T33 (mkF m 244 #[.val (.int p0), .val (.int p1), .val (.int p2), .val (.int p3), .val (.int px), .val (.int py), .val (.int lo), .val (.int hi), .val (.int (p3 &&& (7 : Int32))), .val (.int pr), .val (.ref bo), .val (.int cv), .val (.int lo)] [(.int (0 : Int32))])
        refine own_go (fun _ k => XS.ifNo X33.here hx rfl (hb hby at_244) rfl ((if0 _ _).trans (teq (rfl)).2) k) ?_
        show own_Ends _ _ _ _ _ _ _ T33 (mkF m 247 #[.val (.int p0), .val (.int p1), .val (.int p2), .val (.int p3), .val (.int px), .val (.int py), .val (.int lo), .val (.int hi), .val (.int (p3 &&& (7 : Int32))), .val (.int pr), .val (.ref bo), .val (.int cv), .val (.int lo)] [])
        refine own_go (fun _ k => XS.iconst X33.here hx rfl (hb hby at_247) k) ?_
        show own_Ends _ _ _ _ _ _ _ T33 (mkF m 248 #[.val (.int p0), .val (.int p1), .val (.int p2), .val (.int p3), .val (.int px), .val (.int py), .val (.int lo), .val (.int hi), .val (.int (p3 &&& (7 : Int32))), .val (.int pr), .val (.ref bo), .val (.int cv), .val (.int lo)] [(.int (1 : Int32))])
        refine own_go (fun _ k => XS.goto X33.here hx rfl (pc0 := 248) (pc' := 252) rfl (hb hby at_248) (by decide) (by decide) k) ?_
        show own_Ends _ _ _ _ _ _ _ T33 (mkF m 252 #[.val (.int p0), .val (.int p1), .val (.int p2), .val (.int p3), .val (.int px), .val (.int py), .val (.int lo), .val (.int hi), .val (.int (p3 &&& (7 : Int32))), .val (.int pr), .val (.ref bo), .val (.int cv), .val (.int lo)] [(.int (1 : Int32))])
        exact own_retZ X33 hx hlk hret (by decide) (hb hby at_252) (by decide) (by decide) ⟨rfl, N33⟩
      · refine own_go (fun _ k => XS.icmpYes X27.here hx rfl (pc0 := 169) (pc' := 177) rfl (hb hby at_169) rfl (feq h9).2 (by decide) (by decide) k) ?_
        show own_Ends _ _ _ _ _ _ _ T27 (mkF m 177 #[.val (.int p0), .val (.int p1), .val (.int p2), .val (.int p3), .val (.int px), .val (.int py), .val (.int lo), .val (.int hi), .val (.int (p3 &&& (7 : Int32))), .val (.int pr), .val (.ref bo), .val (.int cv), .unset] [])
        refine own_go (fun _ k => XS.iconst X27.here hx rfl (hb hby at_177) k) ?_
        show own_Ends _ _ _ _ _ _ _ T27 (mkF m 178 #[.val (.int p0), .val (.int p1), .val (.int p2), .val (.int p3), .val (.int px), .val (.int py), .val (.int lo), .val (.int hi), .val (.int (p3 &&& (7 : Int32))), .val (.int pr), .val (.ref bo), .val (.int cv), .unset] [(.int (-1 : Int32))])
        refine own_go (fun _ k => XS.istore X27.here hx rfl (hb hby at_178) rfl (l' := #[.val (.int p0), .val (.int p1), .val (.int p2), .val (.int p3), .val (.int px), .val (.int py), .val (.int lo), .val (.int hi), .val (.int (p3 &&& (7 : Int32))), .val (.int pr), .val (.ref bo), .val (.int cv), .val (.int (-1 : Int32))]) rfl k) ?_
        show own_Ends _ _ _ _ _ _ _ T27 (mkF m 180 #[.val (.int p0), .val (.int p1), .val (.int p2), .val (.int p3), .val (.int px), .val (.int py), .val (.int lo), .val (.int hi), .val (.int (p3 &&& (7 : Int32))), .val (.int pr), .val (.ref bo), .val (.int cv), .val (.int (-1 : Int32))] [])
        refine own_go (fun _ k => XS.aload X27.here hx rfl (hb hby at_180) rfl rfl k) ?_
        show own_Ends _ _ _ _ _ _ _ T27 (mkF m 182 #[.val (.int p0), .val (.int p1), .val (.int p2), .val (.int p3), .val (.int px), .val (.int py), .val (.int lo), .val (.int hi), .val (.int (p3 &&& (7 : Int32))), .val (.int pr), .val (.ref bo), .val (.int cv), .val (.int (-1 : Int32))] [(.ref bo)])
        obtain ⟨v34, T34, L34, X34, hQ34, st34⟩ := own_callV X27 hx hZ hown (hw _ (List.mem_of_getElem? (i := 38) rfl)) (hw _ (List.mem_of_getElem? (i := 39) rfl)) (hw _ (List.mem_of_getElem? (i := 41) rfl)) (hw _ (List.mem_of_getElem? (i := 40) rfl)) (hw _ (List.mem_of_getElem? (i := 11) rfl)) (hw _ (List.mem_of_getElem? (i := 42) rfl)) (rm8 l Z a0 hw bo T26.heap ba kc f lo hi B26 A26 f0 f1) e27 (g := (mkF m 182 #[.val (.int p0), .val (.int p1), .val (.int p2), .val (.int p3), .val (.int px), .val (.int py), .val (.int lo), .val (.int hi), .val (.int (p3 &&& (7 : Int32))), .val (.int pr), .val (.ref bo), .val (.int cv), .val (.int (-1 : Int32))] [(.ref bo)])) rfl (by rw [hml]; rfl) (a := bo) (argsL := []) (rest := []) (E26) (lenOf pd_5 rfl) rfl rfl (W := 0) (by show 2 * 0 + _ ≤ _; exact Nat.le_of_eq rfl) (hb hby at_182) (by decide) (by decide) (by decide) (by decide) (by decide)
        obtain ⟨rfl, rfl, e34⟩ := hQ34
        refine own_go st34 ?_
        have N34 := Fr.app N27 (Fr.nil _)
        show own_Ends _ _ _ _ _ _ _ T34 (mkF m 185 #[.val (.int p0), .val (.int p1), .val (.int p2), .val (.int p3), .val (.int px), .val (.int py), .val (.int lo), .val (.int hi), .val (.int (p3 &&& (7 : Int32))), .val (.int pr), .val (.ref bo), .val (.int cv), .val (.int (-1 : Int32))] [(.int (own_only lo hi))])
        refine own_go (fun _ k => XS.iload X34.here hx rfl (hb hby at_185) rfl k) ?_
        show own_Ends _ _ _ _ _ _ _ T34 (mkF m 187 #[.val (.int p0), .val (.int p1), .val (.int p2), .val (.int p3), .val (.int px), .val (.int py), .val (.int lo), .val (.int hi), .val (.int (p3 &&& (7 : Int32))), .val (.int pr), .val (.ref bo), .val (.int cv), .val (.int (-1 : Int32))] [(.int (-1 : Int32)), (.int (own_only lo hi))])
        refine own_go (fun _ k => XS.icmpYes X34.here hx rfl (pc0 := 187) (pc' := 192) rfl (hb hby at_187) rfl (teq (if_neg h9)).1 (by decide) (by decide) k) ?_
        show own_Ends _ _ _ _ _ _ _ T34 (mkF m 192 #[.val (.int p0), .val (.int p1), .val (.int p2), .val (.int p3), .val (.int px), .val (.int py), .val (.int lo), .val (.int hi), .val (.int (p3 &&& (7 : Int32))), .val (.int pr), .val (.ref bo), .val (.int cv), .val (.int (-1 : Int32))] [])
        refine own_go (fun _ k => XS.aload X34.here hx rfl (hb hby at_192) rfl rfl k) ?_
        show own_Ends _ _ _ _ _ _ _ T34 (mkF m 194 #[.val (.int p0), .val (.int p1), .val (.int p2), .val (.int p3), .val (.int px), .val (.int py), .val (.int lo), .val (.int hi), .val (.int (p3 &&& (7 : Int32))), .val (.int pr), .val (.ref bo), .val (.int cv), .val (.int (-1 : Int32))] [(.ref bo)])
        obtain ⟨v35, T35, L35, X35, hQ35, st35⟩ := own_callV X34 hx hZ hown (hw _ (List.mem_of_getElem? (i := 43) rfl)) (hw _ (List.mem_of_getElem? (i := 44) rfl)) (hw _ (List.mem_of_getElem? (i := 46) rfl)) (hw _ (List.mem_of_getElem? (i := 45) rfl)) (hw _ (List.mem_of_getElem? (i := 11) rfl)) (hw _ (List.mem_of_getElem? (i := 47) rfl)) (rm9 l Z a0 hw bo T26.heap ba kc f lo hi D26 A26 f0 f1) e34 (g := (mkF m 194 #[.val (.int p0), .val (.int p1), .val (.int p2), .val (.int p3), .val (.int px), .val (.int py), .val (.int lo), .val (.int hi), .val (.int (p3 &&& (7 : Int32))), .val (.int pr), .val (.ref bo), .val (.int cv), .val (.int (-1 : Int32))] [(.ref bo)])) rfl (by rw [hml]; rfl) (a := bo) (argsL := []) (rest := []) (E26) (lenOf pd_5 rfl) rfl rfl (W := 0) (by show 2 * 0 + _ ≤ _; exact Nat.le_of_eq rfl) (hb hby at_194) (by decide) (by decide) (by decide) (by decide) (by decide)
        obtain ⟨rfl, rfl, e35⟩ := hQ35
        refine own_go st35 ?_
        have N35 := Fr.app N34 (Fr.nil _)
        show own_Ends _ _ _ _ _ _ _ T35 (mkF m 197 #[.val (.int p0), .val (.int p1), .val (.int p2), .val (.int p3), .val (.int px), .val (.int py), .val (.int lo), .val (.int hi), .val (.int (p3 &&& (7 : Int32))), .val (.int pr), .val (.ref bo), .val (.int cv), .val (.int (-1 : Int32))] [(.int (1 : Int32))])
        refine own_go (fun _ k => XS.iconst X35.here hx rfl (hb hby at_197) k) ?_
        show own_Ends _ _ _ _ _ _ _ T35 (mkF m 198 #[.val (.int p0), .val (.int p1), .val (.int p2), .val (.int p3), .val (.int px), .val (.int py), .val (.int lo), .val (.int hi), .val (.int (p3 &&& (7 : Int32))), .val (.int pr), .val (.ref bo), .val (.int cv), .val (.int (-1 : Int32))] [(.int (1 : Int32)), (.int (1 : Int32))])
        refine own_go (fun _ k => XS.icmpYes X35.here hx rfl (pc0 := 198) (pc' := 203) rfl (hb hby at_198) rfl (teq (rfl)).1 (by decide) (by decide) k) ?_
        show own_Ends _ _ _ _ _ _ _ T35 (mkF m 203 #[.val (.int p0), .val (.int p1), .val (.int p2), .val (.int p3), .val (.int px), .val (.int py), .val (.int lo), .val (.int hi), .val (.int (p3 &&& (7 : Int32))), .val (.int pr), .val (.ref bo), .val (.int cv), .val (.int (-1 : Int32))] [])
        refine own_go (fun _ k => XS.aload X35.here hx rfl (hb hby at_203) rfl rfl k) ?_
        show own_Ends _ _ _ _ _ _ _ T35 (mkF m 205 #[.val (.int p0), .val (.int p1), .val (.int p2), .val (.int p3), .val (.int px), .val (.int py), .val (.int lo), .val (.int hi), .val (.int (p3 &&& (7 : Int32))), .val (.int pr), .val (.ref bo), .val (.int cv), .val (.int (-1 : Int32))] [(.ref bo)])
        refine own_go (fun _ k => XS.iconst X35.here hx rfl (hb hby at_205) k) ?_
        show own_Ends _ _ _ _ _ _ _ T35 (mkF m 206 #[.val (.int p0), .val (.int p1), .val (.int p2), .val (.int p3), .val (.int px), .val (.int py), .val (.int lo), .val (.int hi), .val (.int (p3 &&& (7 : Int32))), .val (.int pr), .val (.ref bo), .val (.int cv), .val (.int (-1 : Int32))] [(.int (0 : Int32)), (.ref bo)])
        obtain ⟨v36, T36, L36, X36, hQ36, st36⟩ := own_callV X35 hx hZ hown (hw _ (List.mem_of_getElem? (i := 48) rfl)) (hw _ (List.mem_of_getElem? (i := 49) rfl)) (hw _ (List.mem_of_getElem? (i := 51) rfl)) (hw _ (List.mem_of_getElem? (i := 50) rfl)) (hw _ (List.mem_of_getElem? (i := 11) rfl)) (hw _ (List.mem_of_getElem? (i := 52) rfl)) (rm10 l Z a0 hw bo 0 T26.heap ba kc f lo hi D26 A26 f0 f1 rfl) e35 (g := (mkF m 206 #[.val (.int p0), .val (.int p1), .val (.int p2), .val (.int p3), .val (.int px), .val (.int py), .val (.int lo), .val (.int hi), .val (.int (p3 &&& (7 : Int32))), .val (.int pr), .val (.ref bo), .val (.int cv), .val (.int (-1 : Int32))] [(.int (0 : Int32)), (.ref bo)])) rfl (by rw [hml]; rfl) (a := bo) (argsL := [(.int (0 : Int32))]) (rest := []) (E26) (lenOf pd_6 rfl) rfl rfl (W := 0) (by show 2 * 0 + _ ≤ _; exact Nat.le_of_eq rfl) (hb hby at_206) (by decide) (by decide) (by decide) (by decide) (by decide)
        obtain ⟨rfl, rfl, e36⟩ := hQ36
        refine own_go st36 ?_
        have N36 := Fr.app N35 (Fr.nil _)
        show own_Ends _ _ _ _ _ _ _ T36 (mkF m 209 #[.val (.int p0), .val (.int p1), .val (.int p2), .val (.int p3), .val (.int px), .val (.int py), .val (.int lo), .val (.int hi), .val (.int (p3 &&& (7 : Int32))), .val (.int pr), .val (.ref bo), .val (.int cv), .val (.int (-1 : Int32))] [(.int lo)])
        refine own_go (fun _ k => XS.iload X36.here hx rfl (hb hby at_209) rfl k) ?_
        show own_Ends _ _ _ _ _ _ _ T36 (mkF m 211 #[.val (.int p0), .val (.int p1), .val (.int p2), .val (.int p3), .val (.int px), .val (.int py), .val (.int lo), .val (.int hi), .val (.int (p3 &&& (7 : Int32))), .val (.int pr), .val (.ref bo), .val (.int cv), .val (.int (-1 : Int32))] [(.int lo), (.int lo)])
        refine own_go (fun _ k => XS.icmpYes X36.here hx rfl (pc0 := 211) (pc' := 216) rfl (hb hby at_211) rfl (teq (rfl)).1 (by decide) (by decide) k) ?_
        show own_Ends _ _ _ _ _ _ _ T36 (mkF m 216 #[.val (.int p0), .val (.int p1), .val (.int p2), .val (.int p3), .val (.int px), .val (.int py), .val (.int lo), .val (.int hi), .val (.int (p3 &&& (7 : Int32))), .val (.int pr), .val (.ref bo), .val (.int cv), .val (.int (-1 : Int32))] [])
        refine own_go (fun _ k => XS.aload X36.here hx rfl (hb hby at_216) rfl rfl k) ?_
        show own_Ends _ _ _ _ _ _ _ T36 (mkF m 218 #[.val (.int p0), .val (.int p1), .val (.int p2), .val (.int p3), .val (.int px), .val (.int py), .val (.int lo), .val (.int hi), .val (.int (p3 &&& (7 : Int32))), .val (.int pr), .val (.ref bo), .val (.int cv), .val (.int (-1 : Int32))] [(.ref bo)])
        refine own_go (fun _ k => XS.iconst X36.here hx rfl (hb hby at_218) k) ?_
        show own_Ends _ _ _ _ _ _ _ T36 (mkF m 219 #[.val (.int p0), .val (.int p1), .val (.int p2), .val (.int p3), .val (.int px), .val (.int py), .val (.int lo), .val (.int hi), .val (.int (p3 &&& (7 : Int32))), .val (.int pr), .val (.ref bo), .val (.int cv), .val (.int (-1 : Int32))] [(.int (0 : Int32)), (.ref bo)])
        obtain ⟨v37, T37, L37, X37, hQ37, st37⟩ := own_callV X36 hx hZ hown (hw _ (List.mem_of_getElem? (i := 53) rfl)) (hw _ (List.mem_of_getElem? (i := 54) rfl)) (hw _ (List.mem_of_getElem? (i := 56) rfl)) (hw _ (List.mem_of_getElem? (i := 55) rfl)) (hw _ (List.mem_of_getElem? (i := 11) rfl)) (hw _ (List.mem_of_getElem? (i := 57) rfl)) (rm11 l Z a0 hw bo 0 T26.heap ba kc f lo hi D26 A26 f0 f1 rfl) e36 (g := (mkF m 219 #[.val (.int p0), .val (.int p1), .val (.int p2), .val (.int p3), .val (.int px), .val (.int py), .val (.int lo), .val (.int hi), .val (.int (p3 &&& (7 : Int32))), .val (.int pr), .val (.ref bo), .val (.int cv), .val (.int (-1 : Int32))] [(.int (0 : Int32)), (.ref bo)])) rfl (by rw [hml]; rfl) (a := bo) (argsL := [(.int (0 : Int32))]) (rest := []) (E26) (lenOf pd_6 rfl) rfl rfl (W := 0) (by show 2 * 0 + _ ≤ _; exact Nat.le_of_eq rfl) (hb hby at_219) (by decide) (by decide) (by decide) (by decide) (by decide)
        obtain ⟨rfl, rfl, e37⟩ := hQ37
        refine own_go st37 ?_
        have N37 := Fr.app N36 (Fr.nil _)
        show own_Ends _ _ _ _ _ _ _ T37 (mkF m 222 #[.val (.int p0), .val (.int p1), .val (.int p2), .val (.int p3), .val (.int px), .val (.int py), .val (.int lo), .val (.int hi), .val (.int (p3 &&& (7 : Int32))), .val (.int pr), .val (.ref bo), .val (.int cv), .val (.int (-1 : Int32))] [(.int hi)])
        refine own_go (fun _ k => XS.iload X37.here hx rfl (hb hby at_222) rfl k) ?_
        show own_Ends _ _ _ _ _ _ _ T37 (mkF m 224 #[.val (.int p0), .val (.int p1), .val (.int p2), .val (.int p3), .val (.int px), .val (.int py), .val (.int lo), .val (.int hi), .val (.int (p3 &&& (7 : Int32))), .val (.int pr), .val (.ref bo), .val (.int cv), .val (.int (-1 : Int32))] [(.int hi), (.int hi)])
        refine own_go (fun _ k => XS.icmpYes X37.here hx rfl (pc0 := 224) (pc' := 229) rfl (hb hby at_224) rfl (teq (rfl)).1 (by decide) (by decide) k) ?_
        show own_Ends _ _ _ _ _ _ _ T37 (mkF m 229 #[.val (.int p0), .val (.int p1), .val (.int p2), .val (.int p3), .val (.int px), .val (.int py), .val (.int lo), .val (.int hi), .val (.int (p3 &&& (7 : Int32))), .val (.int pr), .val (.ref bo), .val (.int cv), .val (.int (-1 : Int32))] [])
        refine own_go (fun _ k => XS.aload X37.here hx rfl (hb hby at_229) rfl rfl k) ?_
        show own_Ends _ _ _ _ _ _ _ T37 (mkF m 231 #[.val (.int p0), .val (.int p1), .val (.int p2), .val (.int p3), .val (.int px), .val (.int py), .val (.int lo), .val (.int hi), .val (.int (p3 &&& (7 : Int32))), .val (.int pr), .val (.ref bo), .val (.int cv), .val (.int (-1 : Int32))] [(.ref bo)])
        obtain ⟨v38, T38, L38, X38, hQ38, st38⟩ := own_callV X37 hx hZ hown (hw _ (List.mem_of_getElem? (i := 58) rfl)) (hw _ (List.mem_of_getElem? (i := 59) rfl)) (hw _ (List.mem_of_getElem? (i := 61) rfl)) (hw _ (List.mem_of_getElem? (i := 60) rfl)) (hw _ (List.mem_of_getElem? (i := 11) rfl)) (hw _ (List.mem_of_getElem? (i := 62) rfl)) (rm12 l Z a0 hw bo T26.heap 0 C26) e37 (g := (mkF m 231 #[.val (.int p0), .val (.int p1), .val (.int p2), .val (.int p3), .val (.int px), .val (.int py), .val (.int lo), .val (.int hi), .val (.int (p3 &&& (7 : Int32))), .val (.int pr), .val (.ref bo), .val (.int cv), .val (.int (-1 : Int32))] [(.ref bo)])) rfl (by rw [hml]; rfl) (a := bo) (argsL := []) (rest := []) (E26) (lenOf pd_5 rfl) rfl rfl (W := 0) (by show 2 * 0 + _ ≤ _; exact Nat.le_of_eq rfl) (hb hby at_231) (by decide) (by decide) (by decide) (by decide) (by decide)
        obtain ⟨rfl, rfl, e38⟩ := hQ38
        refine own_go st38 ?_
        have N38 := Fr.app N37 (Fr.nil _)
        show own_Ends _ _ _ _ _ _ _ T38 (mkF m 234 #[.val (.int p0), .val (.int p1), .val (.int p2), .val (.int p3), .val (.int px), .val (.int py), .val (.int lo), .val (.int hi), .val (.int (p3 &&& (7 : Int32))), .val (.int pr), .val (.ref bo), .val (.int cv), .val (.int (-1 : Int32))] [(.int (0 : Int32))])
        refine own_go (fun _ k => XS.ifYes X38.here hx rfl (pc0 := 234) (pc' := 239) rfl (hb hby at_234) rfl ((if0 _ _).trans (teq (rfl)).1) (by decide) (by decide) k) ?_
        show own_Ends _ _ _ _ _ _ _ T38 (mkF m 239 #[.val (.int p0), .val (.int p1), .val (.int p2), .val (.int p3), .val (.int px), .val (.int py), .val (.int lo), .val (.int hi), .val (.int (p3 &&& (7 : Int32))), .val (.int pr), .val (.ref bo), .val (.int cv), .val (.int (-1 : Int32))] [])
        refine own_go (fun _ k => XS.aload X38.here hx rfl (hb hby at_239) rfl rfl k) ?_
        show own_Ends _ _ _ _ _ _ _ T38 (mkF m 241 #[.val (.int p0), .val (.int p1), .val (.int p2), .val (.int p3), .val (.int px), .val (.int py), .val (.int lo), .val (.int hi), .val (.int (p3 &&& (7 : Int32))), .val (.int pr), .val (.ref bo), .val (.int cv), .val (.int (-1 : Int32))] [(.ref bo)])
        obtain ⟨v39, T39, L39, X39, hQ39, st39⟩ := own_callV X38 hx hZ hown (hw _ (List.mem_of_getElem? (i := 63) rfl)) (hw _ (List.mem_of_getElem? (i := 64) rfl)) (hw _ (List.mem_of_getElem? (i := 66) rfl)) (hw _ (List.mem_of_getElem? (i := 65) rfl)) (hw _ (List.mem_of_getElem? (i := 11) rfl)) (hw _ (List.mem_of_getElem? (i := 67) rfl)) (rm13 l Z a0 hw bo T26.heap G26) e38 (g := (mkF m 241 #[.val (.int p0), .val (.int p1), .val (.int p2), .val (.int p3), .val (.int px), .val (.int py), .val (.int lo), .val (.int hi), .val (.int (p3 &&& (7 : Int32))), .val (.int pr), .val (.ref bo), .val (.int cv), .val (.int (-1 : Int32))] [(.ref bo)])) rfl (by rw [hml]; rfl) (a := bo) (argsL := []) (rest := []) (E26) (lenOf pd_7 rfl) rfl rfl (W := 0) (by show 2 * 0 + _ ≤ _; exact Nat.le_of_eq rfl) (hb hby at_241) (by decide) (by decide) (by decide) (by decide) (by decide)
        obtain ⟨rfl, rfl, e39⟩ := hQ39
        refine own_go st39 ?_
        have N39 := Fr.app N38 (Fr.nil _)
        show own_Ends _ _ _ _ _ _ _ T39 (mkF m 244 #[.val (.int p0), .val (.int p1), .val (.int p2), .val (.int p3), .val (.int px), .val (.int py), .val (.int lo), .val (.int hi), .val (.int (p3 &&& (7 : Int32))), .val (.int pr), .val (.ref bo), .val (.int cv), .val (.int (-1 : Int32))] [(.int (0 : Int32))])
        refine own_go (fun _ k => XS.ifNo X39.here hx rfl (hb hby at_244) rfl ((if0 _ _).trans (teq (rfl)).2) k) ?_
        show own_Ends _ _ _ _ _ _ _ T39 (mkF m 247 #[.val (.int p0), .val (.int p1), .val (.int p2), .val (.int p3), .val (.int px), .val (.int py), .val (.int lo), .val (.int hi), .val (.int (p3 &&& (7 : Int32))), .val (.int pr), .val (.ref bo), .val (.int cv), .val (.int (-1 : Int32))] [])
        refine own_go (fun _ k => XS.iconst X39.here hx rfl (hb hby at_247) k) ?_
        show own_Ends _ _ _ _ _ _ _ T39 (mkF m 248 #[.val (.int p0), .val (.int p1), .val (.int p2), .val (.int p3), .val (.int px), .val (.int py), .val (.int lo), .val (.int hi), .val (.int (p3 &&& (7 : Int32))), .val (.int pr), .val (.ref bo), .val (.int cv), .val (.int (-1 : Int32))] [(.int (1 : Int32))])
        refine own_go (fun _ k => XS.goto X39.here hx rfl (pc0 := 248) (pc' := 252) rfl (hb hby at_248) (by decide) (by decide) k) ?_
        show own_Ends _ _ _ _ _ _ _ T39 (mkF m 252 #[.val (.int p0), .val (.int p1), .val (.int p2), .val (.int p3), .val (.int px), .val (.int py), .val (.int lo), .val (.int hi), .val (.int (p3 &&& (7 : Int32))), .val (.int pr), .val (.ref bo), .val (.int cv), .val (.int (-1 : Int32))] [(.int (1 : Int32))])
        exact own_retZ X39 hx hlk hret (by decide) (hb hby at_252) (by decide) (by decide) ⟨rfl, N39⟩
    by_cases h1 : pr < lo
    · refine own_go (fun _ k => XS.icmpYes X26.here hx rfl (pc0 := 134) (pc' := 148) rfl (hb hby at_134) rfl (tlt h1).2.2.1 (by decide) (by decide) k) ?_
      show own_Ends _ _ _ _ _ _ _ T26 (mkF m 148 #[.val (.int p0), .val (.int p1), .val (.int p2), .val (.int p3), .val (.int px), .val (.int py), .val (.int lo), .val (.int hi), .val (.int (p3 &&& (7 : Int32))), .val (.int pr), .val (.ref bo), .unset, .unset] [])
      refine own_go (fun _ k => XS.iconst X26.here hx rfl (hb hby at_148) k) ?_
      show own_Ends _ _ _ _ _ _ _ T26 (mkF m 149 #[.val (.int p0), .val (.int p1), .val (.int p2), .val (.int p3), .val (.int px), .val (.int py), .val (.int lo), .val (.int hi), .val (.int (p3 &&& (7 : Int32))), .val (.int pr), .val (.ref bo), .unset, .unset] [(.int (0 : Int32))])
      refine own_go (fun _ k => XS.istore X26.here hx rfl (hb hby at_149) rfl (l' := #[.val (.int p0), .val (.int p1), .val (.int p2), .val (.int p3), .val (.int px), .val (.int py), .val (.int lo), .val (.int hi), .val (.int (p3 &&& (7 : Int32))), .val (.int pr), .val (.ref bo), .val (.int (0 : Int32)), .unset]) rfl k) ?_
      show own_Ends _ _ _ _ _ _ _ T26 (mkF m 151 #[.val (.int p0), .val (.int p1), .val (.int p2), .val (.int p3), .val (.int px), .val (.int py), .val (.int lo), .val (.int hi), .val (.int (p3 &&& (7 : Int32))), .val (.int pr), .val (.ref bo), .val (.int (0 : Int32)), .unset] [])
      exact K151 _ (if_pos h1)
    · refine own_go (fun _ k => XS.icmpNo X26.here hx rfl (hb hby at_134) rfl (flt h1).2.2.1 k) ?_
      show own_Ends _ _ _ _ _ _ _ T26 (mkF m 137 #[.val (.int p0), .val (.int p1), .val (.int p2), .val (.int p3), .val (.int px), .val (.int py), .val (.int lo), .val (.int hi), .val (.int (p3 &&& (7 : Int32))), .val (.int pr), .val (.ref bo), .unset, .unset] [])
      refine own_go (fun _ k => XS.iload X26.here hx rfl (hb hby at_137) rfl k) ?_
      show own_Ends _ _ _ _ _ _ _ T26 (mkF m 139 #[.val (.int p0), .val (.int p1), .val (.int p2), .val (.int p3), .val (.int px), .val (.int py), .val (.int lo), .val (.int hi), .val (.int (p3 &&& (7 : Int32))), .val (.int pr), .val (.ref bo), .unset, .unset] [(.int pr)])
      refine own_go (fun _ k => XS.iload X26.here hx rfl (hb hby at_139) rfl k) ?_
      show own_Ends _ _ _ _ _ _ _ T26 (mkF m 141 #[.val (.int p0), .val (.int p1), .val (.int p2), .val (.int p3), .val (.int px), .val (.int py), .val (.int lo), .val (.int hi), .val (.int (p3 &&& (7 : Int32))), .val (.int pr), .val (.ref bo), .unset, .unset] [(.int hi), (.int pr)])
      by_cases h2 : hi < pr
      · refine own_go (fun _ k => XS.icmpYes X26.here hx rfl (pc0 := 141) (pc' := 148) rfl (hb hby at_141) rfl (tlt h2).2.2.1 (by decide) (by decide) k) ?_
        show own_Ends _ _ _ _ _ _ _ T26 (mkF m 148 #[.val (.int p0), .val (.int p1), .val (.int p2), .val (.int p3), .val (.int px), .val (.int py), .val (.int lo), .val (.int hi), .val (.int (p3 &&& (7 : Int32))), .val (.int pr), .val (.ref bo), .unset, .unset] [])
        refine own_go (fun _ k => XS.iconst X26.here hx rfl (hb hby at_148) k) ?_
        show own_Ends _ _ _ _ _ _ _ T26 (mkF m 149 #[.val (.int p0), .val (.int p1), .val (.int p2), .val (.int p3), .val (.int px), .val (.int py), .val (.int lo), .val (.int hi), .val (.int (p3 &&& (7 : Int32))), .val (.int pr), .val (.ref bo), .unset, .unset] [(.int (0 : Int32))])
        refine own_go (fun _ k => XS.istore X26.here hx rfl (hb hby at_149) rfl (l' := #[.val (.int p0), .val (.int p1), .val (.int p2), .val (.int p3), .val (.int px), .val (.int py), .val (.int lo), .val (.int hi), .val (.int (p3 &&& (7 : Int32))), .val (.int pr), .val (.ref bo), .val (.int (0 : Int32)), .unset]) rfl k) ?_
        show own_Ends _ _ _ _ _ _ _ T26 (mkF m 151 #[.val (.int p0), .val (.int p1), .val (.int p2), .val (.int p3), .val (.int px), .val (.int py), .val (.int lo), .val (.int hi), .val (.int (p3 &&& (7 : Int32))), .val (.int pr), .val (.ref bo), .val (.int (0 : Int32)), .unset] [])
        exact K151 _ (by rw [own_inr, if_neg h1, if_pos h2])
      · refine own_go (fun _ k => XS.icmpNo X26.here hx rfl (hb hby at_141) rfl (flt h2).2.2.1 k) ?_
        show own_Ends _ _ _ _ _ _ _ T26 (mkF m 144 #[.val (.int p0), .val (.int p1), .val (.int p2), .val (.int p3), .val (.int px), .val (.int py), .val (.int lo), .val (.int hi), .val (.int (p3 &&& (7 : Int32))), .val (.int pr), .val (.ref bo), .unset, .unset] [])
        refine own_go (fun _ k => XS.iconst X26.here hx rfl (hb hby at_144) k) ?_
        show own_Ends _ _ _ _ _ _ _ T26 (mkF m 145 #[.val (.int p0), .val (.int p1), .val (.int p2), .val (.int p3), .val (.int px), .val (.int py), .val (.int lo), .val (.int hi), .val (.int (p3 &&& (7 : Int32))), .val (.int pr), .val (.ref bo), .unset, .unset] [(.int (1 : Int32))])
        refine own_go (fun _ k => XS.goto X26.here hx rfl (pc0 := 145) (pc' := 149) rfl (hb hby at_145) (by decide) (by decide) k) ?_
        show own_Ends _ _ _ _ _ _ _ T26 (mkF m 149 #[.val (.int p0), .val (.int p1), .val (.int p2), .val (.int p3), .val (.int px), .val (.int py), .val (.int lo), .val (.int hi), .val (.int (p3 &&& (7 : Int32))), .val (.int pr), .val (.ref bo), .unset, .unset] [(.int (1 : Int32))])
        refine own_go (fun _ k => XS.istore X26.here hx rfl (hb hby at_149) rfl (l' := #[.val (.int p0), .val (.int p1), .val (.int p2), .val (.int p3), .val (.int px), .val (.int py), .val (.int lo), .val (.int hi), .val (.int (p3 &&& (7 : Int32))), .val (.int pr), .val (.ref bo), .val (.int (1 : Int32)), .unset]) rfl k) ?_
        show own_Ends _ _ _ _ _ _ _ T26 (mkF m 151 #[.val (.int p0), .val (.int p1), .val (.int p2), .val (.int p3), .val (.int px), .val (.int py), .val (.int lo), .val (.int hi), .val (.int (p3 &&& (7 : Int32))), .val (.int pr), .val (.ref bo), .val (.int (1 : Int32)), .unset] [])
        exact K151 _ (by rw [own_inr, if_neg h1, if_neg h2])
  by_cases s0 : (p3 &&& (7 : Int32)) = (0 : Int32)
  · refine own_go (fun _ k => XS.ifNo X25.here hx rfl (hb hby at_44) rfl ((if0 _ _).trans (teq s0).2) k) ?_
    show own_Ends _ _ _ _ _ _ _ T25 (mkF m 47 #[.val (.int p0), .val (.int p1), .val (.int p2), .val (.int p3), .val (.int px), .val (.int py), .val (.int lo), .val (.int hi), .val (.int (p3 &&& (7 : Int32))), .unset, .unset, .unset, .unset] [])
    refine own_go (fun _ k => XS.iload X25.here hx rfl (hb hby at_47) rfl k) ?_
    show own_Ends _ _ _ _ _ _ _ T25 (mkF m 49 #[.val (.int p0), .val (.int p1), .val (.int p2), .val (.int p3), .val (.int px), .val (.int py), .val (.int lo), .val (.int hi), .val (.int (p3 &&& (7 : Int32))), .unset, .unset, .unset, .unset] [(.int lo)])
    refine own_go (fun _ k => XS.iconst X25.here hx rfl (hb hby at_49) k) ?_
    show own_Ends _ _ _ _ _ _ _ T25 (mkF m 50 #[.val (.int p0), .val (.int p1), .val (.int p2), .val (.int p3), .val (.int px), .val (.int py), .val (.int lo), .val (.int hi), .val (.int (p3 &&& (7 : Int32))), .unset, .unset, .unset, .unset] [(.int (1 : Int32)), (.int lo)])
    refine own_go (fun _ k => XS.isub X25.here hx rfl (hb hby at_50) rfl k) ?_
    show own_Ends _ _ _ _ _ _ _ T25 (mkF m 51 #[.val (.int p0), .val (.int p1), .val (.int p2), .val (.int p3), .val (.int px), .val (.int py), .val (.int lo), .val (.int hi), .val (.int (p3 &&& (7 : Int32))), .unset, .unset, .unset, .unset] [(.int (lo - (1 : Int32)))])
    refine own_go (fun _ k => XS.istore X25.here hx rfl (hb hby at_51) rfl (l' := #[.val (.int p0), .val (.int p1), .val (.int p2), .val (.int p3), .val (.int px), .val (.int py), .val (.int lo), .val (.int hi), .val (.int (p3 &&& (7 : Int32))), .val (.int (lo - (1 : Int32))), .unset, .unset, .unset]) rfl k) ?_
    show own_Ends _ _ _ _ _ _ _ T25 (mkF m 53 #[.val (.int p0), .val (.int p1), .val (.int p2), .val (.int p3), .val (.int px), .val (.int py), .val (.int lo), .val (.int hi), .val (.int (p3 &&& (7 : Int32))), .val (.int (lo - (1 : Int32))), .unset, .unset, .unset] [])
    refine own_go (fun _ k => XS.goto X25.here hx rfl (pc0 := 53) (pc' := 121) rfl (hb hby at_53) (by decide) (by decide) k) ?_
    show own_Ends _ _ _ _ _ _ _ T25 (mkF m 121 #[.val (.int p0), .val (.int p1), .val (.int p2), .val (.int p3), .val (.int px), .val (.int py), .val (.int lo), .val (.int hi), .val (.int (p3 &&& (7 : Int32))), .val (.int (lo - (1 : Int32))), .unset, .unset, .unset] [])
    exact K121 _
  · refine own_go (fun _ k => XS.ifYes X25.here hx rfl (pc0 := 44) (pc' := 56) rfl (hb hby at_44) rfl ((if0 _ _).trans (feq s0).2) (by decide) (by decide) k) ?_
    show own_Ends _ _ _ _ _ _ _ T25 (mkF m 56 #[.val (.int p0), .val (.int p1), .val (.int p2), .val (.int p3), .val (.int px), .val (.int py), .val (.int lo), .val (.int hi), .val (.int (p3 &&& (7 : Int32))), .unset, .unset, .unset, .unset] [])
    refine own_go (fun _ k => XS.iload X25.here hx rfl (hb hby at_56) rfl k) ?_
    show own_Ends _ _ _ _ _ _ _ T25 (mkF m 58 #[.val (.int p0), .val (.int p1), .val (.int p2), .val (.int p3), .val (.int px), .val (.int py), .val (.int lo), .val (.int hi), .val (.int (p3 &&& (7 : Int32))), .unset, .unset, .unset, .unset] [(.int (p3 &&& (7 : Int32)))])
    refine own_go (fun _ k => XS.iconst X25.here hx rfl (hb hby at_58) k) ?_
    show own_Ends _ _ _ _ _ _ _ T25 (mkF m 59 #[.val (.int p0), .val (.int p1), .val (.int p2), .val (.int p3), .val (.int px), .val (.int py), .val (.int lo), .val (.int hi), .val (.int (p3 &&& (7 : Int32))), .unset, .unset, .unset, .unset] [(.int (1 : Int32)), (.int (p3 &&& (7 : Int32)))])
    by_cases s1 : (p3 &&& (7 : Int32)) = (1 : Int32)
    · refine own_go (fun _ k => XS.icmpNo X25.here hx rfl (hb hby at_59) rfl (teq s1).2 k) ?_
      show own_Ends _ _ _ _ _ _ _ T25 (mkF m 62 #[.val (.int p0), .val (.int p1), .val (.int p2), .val (.int p3), .val (.int px), .val (.int py), .val (.int lo), .val (.int hi), .val (.int (p3 &&& (7 : Int32))), .unset, .unset, .unset, .unset] [])
      refine own_go (fun _ k => XS.iload X25.here hx rfl (hb hby at_62) rfl k) ?_
      show own_Ends _ _ _ _ _ _ _ T25 (mkF m 64 #[.val (.int p0), .val (.int p1), .val (.int p2), .val (.int p3), .val (.int px), .val (.int py), .val (.int lo), .val (.int hi), .val (.int (p3 &&& (7 : Int32))), .unset, .unset, .unset, .unset] [(.int lo)])
      refine own_go (fun _ k => XS.istore X25.here hx rfl (hb hby at_64) rfl (l' := #[.val (.int p0), .val (.int p1), .val (.int p2), .val (.int p3), .val (.int px), .val (.int py), .val (.int lo), .val (.int hi), .val (.int (p3 &&& (7 : Int32))), .val (.int lo), .unset, .unset, .unset]) rfl k) ?_
      show own_Ends _ _ _ _ _ _ _ T25 (mkF m 66 #[.val (.int p0), .val (.int p1), .val (.int p2), .val (.int p3), .val (.int px), .val (.int py), .val (.int lo), .val (.int hi), .val (.int (p3 &&& (7 : Int32))), .val (.int lo), .unset, .unset, .unset] [])
      refine own_go (fun _ k => XS.goto X25.here hx rfl (pc0 := 66) (pc' := 121) rfl (hb hby at_66) (by decide) (by decide) k) ?_
      show own_Ends _ _ _ _ _ _ _ T25 (mkF m 121 #[.val (.int p0), .val (.int p1), .val (.int p2), .val (.int p3), .val (.int px), .val (.int py), .val (.int lo), .val (.int hi), .val (.int (p3 &&& (7 : Int32))), .val (.int lo), .unset, .unset, .unset] [])
      exact K121 _
    · refine own_go (fun _ k => XS.icmpYes X25.here hx rfl (pc0 := 59) (pc' := 69) rfl (hb hby at_59) rfl (feq s1).2 (by decide) (by decide) k) ?_
      show own_Ends _ _ _ _ _ _ _ T25 (mkF m 69 #[.val (.int p0), .val (.int p1), .val (.int p2), .val (.int p3), .val (.int px), .val (.int py), .val (.int lo), .val (.int hi), .val (.int (p3 &&& (7 : Int32))), .unset, .unset, .unset, .unset] [])
      refine own_go (fun _ k => XS.iload X25.here hx rfl (hb hby at_69) rfl k) ?_
      show own_Ends _ _ _ _ _ _ _ T25 (mkF m 71 #[.val (.int p0), .val (.int p1), .val (.int p2), .val (.int p3), .val (.int px), .val (.int py), .val (.int lo), .val (.int hi), .val (.int (p3 &&& (7 : Int32))), .unset, .unset, .unset, .unset] [(.int (p3 &&& (7 : Int32)))])
      refine own_go (fun _ k => XS.iconst X25.here hx rfl (hb hby at_71) k) ?_
      show own_Ends _ _ _ _ _ _ _ T25 (mkF m 72 #[.val (.int p0), .val (.int p1), .val (.int p2), .val (.int p3), .val (.int px), .val (.int py), .val (.int lo), .val (.int hi), .val (.int (p3 &&& (7 : Int32))), .unset, .unset, .unset, .unset] [(.int (2 : Int32)), (.int (p3 &&& (7 : Int32)))])
      by_cases s2 : (p3 &&& (7 : Int32)) = (2 : Int32)
      · refine own_go (fun _ k => XS.icmpNo X25.here hx rfl (hb hby at_72) rfl (teq s2).2 k) ?_
        show own_Ends _ _ _ _ _ _ _ T25 (mkF m 75 #[.val (.int p0), .val (.int p1), .val (.int p2), .val (.int p3), .val (.int px), .val (.int py), .val (.int lo), .val (.int hi), .val (.int (p3 &&& (7 : Int32))), .unset, .unset, .unset, .unset] [])
        refine own_go (fun _ k => XS.iload X25.here hx rfl (hb hby at_75) rfl k) ?_
        show own_Ends _ _ _ _ _ _ _ T25 (mkF m 77 #[.val (.int p0), .val (.int p1), .val (.int p2), .val (.int p3), .val (.int px), .val (.int py), .val (.int lo), .val (.int hi), .val (.int (p3 &&& (7 : Int32))), .unset, .unset, .unset, .unset] [(.int hi)])
        refine own_go (fun _ k => XS.istore X25.here hx rfl (hb hby at_77) rfl (l' := #[.val (.int p0), .val (.int p1), .val (.int p2), .val (.int p3), .val (.int px), .val (.int py), .val (.int lo), .val (.int hi), .val (.int (p3 &&& (7 : Int32))), .val (.int hi), .unset, .unset, .unset]) rfl k) ?_
        show own_Ends _ _ _ _ _ _ _ T25 (mkF m 79 #[.val (.int p0), .val (.int p1), .val (.int p2), .val (.int p3), .val (.int px), .val (.int py), .val (.int lo), .val (.int hi), .val (.int (p3 &&& (7 : Int32))), .val (.int hi), .unset, .unset, .unset] [])
        refine own_go (fun _ k => XS.goto X25.here hx rfl (pc0 := 79) (pc' := 121) rfl (hb hby at_79) (by decide) (by decide) k) ?_
        show own_Ends _ _ _ _ _ _ _ T25 (mkF m 121 #[.val (.int p0), .val (.int p1), .val (.int p2), .val (.int p3), .val (.int px), .val (.int py), .val (.int lo), .val (.int hi), .val (.int (p3 &&& (7 : Int32))), .val (.int hi), .unset, .unset, .unset] [])
        exact K121 _
      · refine own_go (fun _ k => XS.icmpYes X25.here hx rfl (pc0 := 72) (pc' := 82) rfl (hb hby at_72) rfl (feq s2).2 (by decide) (by decide) k) ?_
        show own_Ends _ _ _ _ _ _ _ T25 (mkF m 82 #[.val (.int p0), .val (.int p1), .val (.int p2), .val (.int p3), .val (.int px), .val (.int py), .val (.int lo), .val (.int hi), .val (.int (p3 &&& (7 : Int32))), .unset, .unset, .unset, .unset] [])
        refine own_go (fun _ k => XS.iload X25.here hx rfl (hb hby at_82) rfl k) ?_
        show own_Ends _ _ _ _ _ _ _ T25 (mkF m 84 #[.val (.int p0), .val (.int p1), .val (.int p2), .val (.int p3), .val (.int px), .val (.int py), .val (.int lo), .val (.int hi), .val (.int (p3 &&& (7 : Int32))), .unset, .unset, .unset, .unset] [(.int (p3 &&& (7 : Int32)))])
        refine own_go (fun _ k => XS.iconst X25.here hx rfl (hb hby at_84) k) ?_
        show own_Ends _ _ _ _ _ _ _ T25 (mkF m 85 #[.val (.int p0), .val (.int p1), .val (.int p2), .val (.int p3), .val (.int px), .val (.int py), .val (.int lo), .val (.int hi), .val (.int (p3 &&& (7 : Int32))), .unset, .unset, .unset, .unset] [(.int (3 : Int32)), (.int (p3 &&& (7 : Int32)))])
        by_cases s3 : (p3 &&& (7 : Int32)) = (3 : Int32)
        · refine own_go (fun _ k => XS.icmpNo X25.here hx rfl (hb hby at_85) rfl (teq s3).2 k) ?_
          show own_Ends _ _ _ _ _ _ _ T25 (mkF m 88 #[.val (.int p0), .val (.int p1), .val (.int p2), .val (.int p3), .val (.int px), .val (.int py), .val (.int lo), .val (.int hi), .val (.int (p3 &&& (7 : Int32))), .unset, .unset, .unset, .unset] [])
          refine own_go (fun _ k => XS.iload X25.here hx rfl (hb hby at_88) rfl k) ?_
          show own_Ends _ _ _ _ _ _ _ T25 (mkF m 90 #[.val (.int p0), .val (.int p1), .val (.int p2), .val (.int p3), .val (.int px), .val (.int py), .val (.int lo), .val (.int hi), .val (.int (p3 &&& (7 : Int32))), .unset, .unset, .unset, .unset] [(.int hi)])
          refine own_go (fun _ k => XS.iconst X25.here hx rfl (hb hby at_90) k) ?_
          show own_Ends _ _ _ _ _ _ _ T25 (mkF m 91 #[.val (.int p0), .val (.int p1), .val (.int p2), .val (.int p3), .val (.int px), .val (.int py), .val (.int lo), .val (.int hi), .val (.int (p3 &&& (7 : Int32))), .unset, .unset, .unset, .unset] [(.int (1 : Int32)), (.int hi)])
          refine own_go (fun _ k => XS.iadd X25.here hx rfl (hb hby at_91) rfl k) ?_
          show own_Ends _ _ _ _ _ _ _ T25 (mkF m 92 #[.val (.int p0), .val (.int p1), .val (.int p2), .val (.int p3), .val (.int px), .val (.int py), .val (.int lo), .val (.int hi), .val (.int (p3 &&& (7 : Int32))), .unset, .unset, .unset, .unset] [(.int (hi + (1 : Int32)))])
          refine own_go (fun _ k => XS.istore X25.here hx rfl (hb hby at_92) rfl (l' := #[.val (.int p0), .val (.int p1), .val (.int p2), .val (.int p3), .val (.int px), .val (.int py), .val (.int lo), .val (.int hi), .val (.int (p3 &&& (7 : Int32))), .val (.int (hi + (1 : Int32))), .unset, .unset, .unset]) rfl k) ?_
          show own_Ends _ _ _ _ _ _ _ T25 (mkF m 94 #[.val (.int p0), .val (.int p1), .val (.int p2), .val (.int p3), .val (.int px), .val (.int py), .val (.int lo), .val (.int hi), .val (.int (p3 &&& (7 : Int32))), .val (.int (hi + (1 : Int32))), .unset, .unset, .unset] [])
          refine own_go (fun _ k => XS.goto X25.here hx rfl (pc0 := 94) (pc' := 121) rfl (hb hby at_94) (by decide) (by decide) k) ?_
          show own_Ends _ _ _ _ _ _ _ T25 (mkF m 121 #[.val (.int p0), .val (.int p1), .val (.int p2), .val (.int p3), .val (.int px), .val (.int py), .val (.int lo), .val (.int hi), .val (.int (p3 &&& (7 : Int32))), .val (.int (hi + (1 : Int32))), .unset, .unset, .unset] [])
          exact K121 _
        · refine own_go (fun _ k => XS.icmpYes X25.here hx rfl (pc0 := 85) (pc' := 97) rfl (hb hby at_85) rfl (feq s3).2 (by decide) (by decide) k) ?_
          show own_Ends _ _ _ _ _ _ _ T25 (mkF m 97 #[.val (.int p0), .val (.int p1), .val (.int p2), .val (.int p3), .val (.int px), .val (.int py), .val (.int lo), .val (.int hi), .val (.int (p3 &&& (7 : Int32))), .unset, .unset, .unset, .unset] [])
          refine own_go (fun _ k => XS.iload X25.here hx rfl (hb hby at_97) rfl k) ?_
          show own_Ends _ _ _ _ _ _ _ T25 (mkF m 99 #[.val (.int p0), .val (.int p1), .val (.int p2), .val (.int p3), .val (.int px), .val (.int py), .val (.int lo), .val (.int hi), .val (.int (p3 &&& (7 : Int32))), .unset, .unset, .unset, .unset] [(.int (p3 &&& (7 : Int32)))])
          refine own_go (fun _ k => XS.iconst X25.here hx rfl (hb hby at_99) k) ?_
          show own_Ends _ _ _ _ _ _ _ T25 (mkF m 100 #[.val (.int p0), .val (.int p1), .val (.int p2), .val (.int p3), .val (.int px), .val (.int py), .val (.int lo), .val (.int hi), .val (.int (p3 &&& (7 : Int32))), .unset, .unset, .unset, .unset] [(.int (4 : Int32)), (.int (p3 &&& (7 : Int32)))])
          by_cases s4 : (p3 &&& (7 : Int32)) = (4 : Int32)
          · refine own_go (fun _ k => XS.icmpNo X25.here hx rfl (hb hby at_100) rfl (teq s4).2 k) ?_
            show own_Ends _ _ _ _ _ _ _ T25 (mkF m 103 #[.val (.int p0), .val (.int p1), .val (.int p2), .val (.int p3), .val (.int px), .val (.int py), .val (.int lo), .val (.int hi), .val (.int (p3 &&& (7 : Int32))), .unset, .unset, .unset, .unset] [])
            refine own_go (fun _ k => XS.iload X25.here hx rfl (hb hby at_103) rfl k) ?_
            show own_Ends _ _ _ _ _ _ _ T25 (mkF m 105 #[.val (.int p0), .val (.int p1), .val (.int p2), .val (.int p3), .val (.int px), .val (.int py), .val (.int lo), .val (.int hi), .val (.int (p3 &&& (7 : Int32))), .unset, .unset, .unset, .unset] [(.int lo)])
            refine own_go (fun _ k => XS.iload X25.here hx rfl (hb hby at_105) rfl k) ?_
            show own_Ends _ _ _ _ _ _ _ T25 (mkF m 107 #[.val (.int p0), .val (.int p1), .val (.int p2), .val (.int p3), .val (.int px), .val (.int py), .val (.int lo), .val (.int hi), .val (.int (p3 &&& (7 : Int32))), .unset, .unset, .unset, .unset] [(.int hi), (.int lo)])
            refine own_go (fun _ k => XS.iload X25.here hx rfl (hb hby at_107) rfl k) ?_
            show own_Ends _ _ _ _ _ _ _ T25 (mkF m 109 #[.val (.int p0), .val (.int p1), .val (.int p2), .val (.int p3), .val (.int px), .val (.int py), .val (.int lo), .val (.int hi), .val (.int (p3 &&& (7 : Int32))), .unset, .unset, .unset, .unset] [(.int lo), (.int hi), (.int lo)])
            refine own_go (fun _ k => XS.isub X25.here hx rfl (hb hby at_109) rfl k) ?_
            show own_Ends _ _ _ _ _ _ _ T25 (mkF m 110 #[.val (.int p0), .val (.int p1), .val (.int p2), .val (.int p3), .val (.int px), .val (.int py), .val (.int lo), .val (.int hi), .val (.int (p3 &&& (7 : Int32))), .unset, .unset, .unset, .unset] [(.int (hi - lo)), (.int lo)])
            refine own_go (fun _ k => XS.iconst X25.here hx rfl (hb hby at_110) k) ?_
            show own_Ends _ _ _ _ _ _ _ T25 (mkF m 111 #[.val (.int p0), .val (.int p1), .val (.int p2), .val (.int p3), .val (.int px), .val (.int py), .val (.int lo), .val (.int hi), .val (.int (p3 &&& (7 : Int32))), .unset, .unset, .unset, .unset] [(.int (2 : Int32)), (.int (hi - lo)), (.int lo)])
            refine own_go (fun _ k => XS.idiv X25.here hx rfl (hb hby at_111) rfl (by decide) k) ?_
            show own_Ends _ _ _ _ _ _ _ T25 (mkF m 112 #[.val (.int p0), .val (.int p1), .val (.int p2), .val (.int p3), .val (.int px), .val (.int py), .val (.int lo), .val (.int hi), .val (.int (p3 &&& (7 : Int32))), .unset, .unset, .unset, .unset] [(.int ((hi - lo) / (2 : Int32))), (.int lo)])
            refine own_go (fun _ k => XS.iadd X25.here hx rfl (hb hby at_112) rfl k) ?_
            show own_Ends _ _ _ _ _ _ _ T25 (mkF m 113 #[.val (.int p0), .val (.int p1), .val (.int p2), .val (.int p3), .val (.int px), .val (.int py), .val (.int lo), .val (.int hi), .val (.int (p3 &&& (7 : Int32))), .unset, .unset, .unset, .unset] [(.int (lo + ((hi - lo) / (2 : Int32))))])
            refine own_go (fun _ k => XS.istore X25.here hx rfl (hb hby at_113) rfl (l' := #[.val (.int p0), .val (.int p1), .val (.int p2), .val (.int p3), .val (.int px), .val (.int py), .val (.int lo), .val (.int hi), .val (.int (p3 &&& (7 : Int32))), .val (.int (lo + ((hi - lo) / (2 : Int32)))), .unset, .unset, .unset]) rfl k) ?_
            show own_Ends _ _ _ _ _ _ _ T25 (mkF m 115 #[.val (.int p0), .val (.int p1), .val (.int p2), .val (.int p3), .val (.int px), .val (.int py), .val (.int lo), .val (.int hi), .val (.int (p3 &&& (7 : Int32))), .val (.int (lo + ((hi - lo) / (2 : Int32)))), .unset, .unset, .unset] [])
            refine own_go (fun _ k => XS.goto X25.here hx rfl (pc0 := 115) (pc' := 121) rfl (hb hby at_115) (by decide) (by decide) k) ?_
            show own_Ends _ _ _ _ _ _ _ T25 (mkF m 121 #[.val (.int p0), .val (.int p1), .val (.int p2), .val (.int p3), .val (.int px), .val (.int py), .val (.int lo), .val (.int hi), .val (.int (p3 &&& (7 : Int32))), .val (.int (lo + ((hi - lo) / (2 : Int32)))), .unset, .unset, .unset] [])
            exact K121 _
          · refine own_go (fun _ k => XS.icmpYes X25.here hx rfl (pc0 := 100) (pc' := 118) rfl (hb hby at_100) rfl (feq s4).2 (by decide) (by decide) k) ?_
            show own_Ends _ _ _ _ _ _ _ T25 (mkF m 118 #[.val (.int p0), .val (.int p1), .val (.int p2), .val (.int p3), .val (.int px), .val (.int py), .val (.int lo), .val (.int hi), .val (.int (p3 &&& (7 : Int32))), .unset, .unset, .unset, .unset] [])
            refine own_go (fun _ k => XS.iloadN X25.here hx rfl (hb hby at_118) rfl k) ?_
            show own_Ends _ _ _ _ _ _ _ T25 (mkF m 119 #[.val (.int p0), .val (.int p1), .val (.int p2), .val (.int p3), .val (.int px), .val (.int py), .val (.int lo), .val (.int hi), .val (.int (p3 &&& (7 : Int32))), .unset, .unset, .unset, .unset] [(.int p2)])
            refine own_go (fun _ k => XS.istore X25.here hx rfl (hb hby at_119) rfl (l' := #[.val (.int p0), .val (.int p1), .val (.int p2), .val (.int p3), .val (.int px), .val (.int py), .val (.int lo), .val (.int hi), .val (.int (p3 &&& (7 : Int32))), .val (.int p2), .unset, .unset, .unset]) rfl k) ?_
            show own_Ends _ _ _ _ _ _ _ T25 (mkF m 121 #[.val (.int p0), .val (.int p1), .val (.int p2), .val (.int p3), .val (.int px), .val (.int py), .val (.int lo), .val (.int hi), .val (.int (p3 &&& (7 : Int32))), .val (.int p2), .unset, .unset, .unset] [])
            exact K121 _
set_option maxRecDepth 65536 in
set_option maxHeartbeats 40000000 in
theorem comes_1 {Post : Tables → Env → Array Value → State → Outcome → State → Prop} (hpost : ∀ tb e args s v u, (limb_1_1.after args s (.returned v) u = true ∧ limb_1_2.after args s (.returned v) u = true ∧ True) → FrameEnd s (.returned v) u (Jvm.fieldLocs frame_1_writes args s ++ Jvm.arrayLocs frame_1_arrays args s ++ Jvm.staticLocs frame_1_statics s) 16 128 → Post tb e args s (.returned v) u) :
    ArmFor flags0 classFile x code maxLocals ret World_1 tables_1 room_1 Calls_1 rest_1 Pre_1 Post := by
  intro l hfl _ _ p e ha hc hk s m args below hf hA hF happ hP
  obtain ⟨hcalls, hrest, hpre⟩ := hP
  obtain ⟨-, -, -, hnamed, -, -, -, hat⟩ := (Spec.applies_iff hf).mp happ
  obtain ⟨hg, hn⟩ := and_e (Cond.before_iff.mp (show (Jvm.Cond.and given_1 narrow_1).before args s = true from hpre))
  obtain ⟨g0, gr0⟩ := and_e hg
  obtain ⟨ga0, gr1⟩ := and_e gr0
  obtain ⟨ga1, gr2⟩ := and_e gr1
  obtain ⟨ga2, gr3⟩ := and_e gr2
  have ga3 := gr3
  obtain ⟨w0, w1, w2, w3, rfl⟩ : ∃ w0 w1 w2 w3 : Value, args = #[w0, w1, w2, w3] := by
    have hs : args.size = 4 := by simpa [Cond.value, given_1] using g0
    obtain ⟨L⟩ := args
    match L, hs with
    | [w0, w1, w2, w3], _ => exact ⟨w0, w1, w2, w3, rfl⟩
  have hw := fun d (hd : d ∈ tables_1) => atoms_spec (ws := Jvm.Cond.code x code maxLocals ret :: tables_1) hat d (List.mem_cons_of_mem _ hd)
  have hfit : Fit s := fun {y c} hc i hi => by
    obtain ⟨ha, rfl⟩ := Array.getElem?_eq_some_iff.mp hc
    have q := List.all_eq_true.mp ((Array.all_eq_true_iff_forall_mem.mp hF) _ (Array.getElem_mem ha)) i (List.mem_range.mpr hi)
    simpa [Array.getElem?_eq_getElem hi] using q
  obtain ⟨i0, ei0⟩ := is_v ga0
  obtain rfl : w0 = (.int i0) := Option.some.inj ei0
  obtain ⟨i1, ei1⟩ := is_v ga1
  obtain rfl : w1 = (.int i1) := Option.some.inj ei1
  obtain ⟨i2, ei2⟩ := is_v ga2
  obtain rfl : w2 = (.int i2) := Option.some.inj ei2
  obtain ⟨i3, ei3⟩ := is_v ga3
  obtain rfl : w3 = (.int i3) := Option.some.inj ei3
  obtain ⟨n, o, h1, h2, h3, _, L, rfl, ⟨rfl, N⟩, hq⟩ := rm0 l s _ hw i0 i1 i2 i3 s.heap  tables_1 p e ha hc hk s m _ below hf ((Spec.applies_iff_loose hf).mp happ).1 ⟨rfl, State.Warmed39.refl s, rfl⟩ trivial
  refine ⟨n, _, h1, h2, h3, hpost _ _ _ _ _ _ ⟨Cond.after_iff.mpr rfl, Cond.after_iff.mpr (eq_i res_at (Term.int_eval (1)) rfl), trivial⟩ ⟨hq.1, hq.2.1, (hq.2.2.sift fun y hy => Or.inr (N y hy)).mono (by decide) (by decide)⟩⟩
theorem main_1_1 : Claimed_1_1 := comes_1 fun _ _ _ _ _ _ h hF => ⟨h.1, hF⟩
theorem main_1_2 : Claimed_1_2 := comes_1 fun _ _ _ _ _ _ h hF => ⟨h.2.1, hF⟩

end Jvm.Pilot.@@N@@
namespace Jvm.Pilot.@@N@@
open Jvm Jvm.ClassFile Sem Op Lib Jvm.Free Jvm.Stand Jvm.Pilot.@@N@@.Jvm.D
/-! MADE BY PROGRAM (witnessworld.py) out of the Statement's table words and the real class files: 10 classes; the members and pool entries that the words name. The judged class is class 1, her method 1. -/
namespace start1
open Jvm.ClassFile
def u (s : String) : CpInfo := .utf8 (stringToUtf16 s)
/-- a pool by its gaps: so many unusable entries, then the entry; so many at the end -/
def gap : Nat → List CpInfo → List CpInfo
  | 0, r => r
  | n + 1, r => .unusable :: gap n r
def poolList (es : List (Nat × CpInfo)) (last : Nat) : List CpInfo := es.foldr (fun e r => gap e.1 (e.2 :: r)) (gap last [])
def pool (es : List (Nat × CpInfo)) (last : Nat) : Array CpInfo := ⟨poolList es last⟩
def fileOf (pool : Array CpInfo) (this : Nat) (attrs : Array Attribute := #[]) (ms : Array MethodInfo := #[]) (fl : Nat := 33) (sup : Nat := 0) (ifs : Array Nat := #[]) (fds : Array FieldInfo := #[]) : ClassFile where
  minorVersion := 0
  majorVersion := 65
  constantPool := pool
  accessFlags := fl
  thisClass := this
  superClass := sup
  interfaces := ifs
  fields := fds
  methods := ms
  attributes := attrs
def plain (name : String) (sup : Option ClassId) : Class where
  name := name
  kind := .ordinary
  loader := none
  accessFlags := 33
  super := sup
  interfaces := #[]
  cf := none
  fields := #[]
  methods := #[]
  instanceTypes := #[]
  staticTypes := #[]
  resolved := #[]
  callSites := []
  init := .initialized
  statics := none
  mirror := none

def pool0 : Array CpInfo := pool [(5, u "<init>"), (0, u "()V"), (1, .class_ 10), (1, u "java/lang/Object")] 113

def k0c0 : Code := { maxStack := 0, maxLocals := 1, code := object_method_1_code, exceptionTable := #[], attributes := #[] }
def k0m0 : Method := { name := "<init>", desc := "()V", sig := { parameters := [], returnType := none }, accessFlags := 1, code := some k0c0 }
/-- java/lang/Object -/
def k0 : Class := { plain "java/lang/Object" none with
  accessFlags := 33
  interfaces := #[]
  cf := some (fileOf pool0 8 #[] #[{ accessFlags := 1, nameIndex := 5, descriptorIndex := 6, attributes := #[] }] 33 0 #[] #[])
  fields := #[]
  methods := #[k0m0]
  instanceTypes := #[]
  staticTypes := #[]
  resolved := Array.replicate 124 none
  statics := none }

def pool1 : Array CpInfo := pool [(2, .class_ 4), (1, u "java/lang/Object"), (0, u "<init>"), (0, u "()V"), (0, .integer 2147483647), (0, .integer 1114112), (0, .methodref 10 11), (0, .class_ 12), (0, .nameAndType 13 14), (0, u "java/lang/Math"), (0, u "min"), (0, u "(II)I"), (0, .methodref 10 16), (0, .nameAndType 17 14), (0, u "max"), (0, .methodref 19 20), (0, .class_ 21), (0, .nameAndType 22 23), (0, u "com/example/valq/valq/CodePointSet"), (0, u "range"), (0, u "(II)Lcom/example/valq/valq/CodePointSet;"), (0, .methodref 19 25), (0, .nameAndType 26 27), (0, u "contains"), (0, u "(I)Z"), (0, .methodref 19 29), (0, .nameAndType 30 31), (0, u "only"), (0, u "()I"), (0, .methodref 19 33), (0, .nameAndType 34 31), (0, u "listedCount"), (0, .methodref 19 36), (0, .nameAndType 37 38), (0, u "listedFirst"), (0, u "(I)I"), (0, .methodref 19 40), (0, .nameAndType 41 38), (0, u "listedLast"), (0, .methodref 19 43), (0, .nameAndType 44 31), (0, u "categories"), (0, .methodref 19 46), (0, .nameAndType 47 48), (0, u "complemented"), (0, u "()Z"), (0, .class_ 50), (0, u "com/example/valq/valq/CodePointSetRangePinLaw"), (2, u "law"), (0, u "(IIII)Z")] 3

def k1m0 : Method := { name := "<init>", desc := "()V", sig := { parameters := [], returnType := none }, accessFlags := 2, code := none }
def k1c1 : Code := { maxStack := 3, maxLocals := 13, code := code, exceptionTable := #[], attributes := #[] }
def k1m1 : Method := { name := "law", desc := "(IIII)Z", sig := { parameters := [.int, .int, .int, .int], returnType := some .boolean }, accessFlags := 9, code := some k1c1 }
/-- com/example/valq/valq/CodePointSetRangePinLaw -/
def k1 : Class := { plain "com/example/valq/valq/CodePointSetRangePinLaw" (some 0) with
  accessFlags := 49
  interfaces := #[]
  cf := some (fileOf pool1 49 #[] #[{ accessFlags := 2, nameIndex := 5, descriptorIndex := 6, attributes := #[] }, { accessFlags := 9, nameIndex := 53, descriptorIndex := 54, attributes := #[] }] 49 2 #[] #[])
  fields := #[]
  methods := #[k1m0, k1m1]
  instanceTypes := #[]
  staticTypes := #[]
  resolved := Array.replicate 58 none
  statics := none }

def pool2 : Array CpInfo := pool [(1, .class_ 2), (0, u "java/lang/Math"), (1, .class_ 6), (1, u "java/lang/Object"), (0, u "<init>"), (0, u "()V"), (89, .class_ 100), (1, u "java/lang/Math$RandomNumberGeneratorHolder"), (71, u "negativeZeroFloatBits"), (0, u "J"), (2, u "negativeZeroDoubleBits"), (21, u "max"), (2, u "min"), (43, u "$assertionsDisabled"), (0, u "Z"), (88, u "(II)I"), (2, u "twoToTheDoubleScaleDown"), (0, u "D"), (4, u "twoToTheDoubleScaleUp"), (9, u "E"), (3, u "PI"), (2, u "TAU"), (2, u "DEGREES_TO_RADIANS"), (0, u "RADIANS_TO_DEGREES")] 94

def k2m0 : Method := { name := "<init>", desc := "()V", sig := { parameters := [], returnType := none }, accessFlags := 2, code := none }
def k2c1 : Code := { maxStack := 2, maxLocals := 2, code := jdk_29_method_65_code, exceptionTable := #[], attributes := #[] }
def k2m1 : Method := { name := "max", desc := "(II)I", sig := { parameters := [.int, .int], returnType := some .int }, accessFlags := 9, code := some k2c1 }
def k2c2 : Code := { maxStack := 2, maxLocals := 2, code := jdk_29_method_69_code, exceptionTable := #[], attributes := #[] }
def k2m2 : Method := { name := "min", desc := "(II)I", sig := { parameters := [.int, .int], returnType := some .int }, accessFlags := 9, code := some k2c2 }
/-- java/lang/Math -/
def k2 : Class := { plain "java/lang/Math" (some 0) with
  accessFlags := 49
  interfaces := #[]
  cf := some (fileOf pool2 1 #[.nestMembers #[98]] #[{ accessFlags := 2, nameIndex := 7, descriptorIndex := 8, attributes := #[] }, { accessFlags := 9, nameIndex := 198, descriptorIndex := 335, attributes := #[] }, { accessFlags := 9, nameIndex := 201, descriptorIndex := 335, attributes := #[] }] 49 4 #[] #[{ accessFlags := 25, nameIndex := 354, descriptorIndex := 339, attributes := #[] }, { accessFlags := 25, nameIndex := 358, descriptorIndex := 339, attributes := #[] }, { accessFlags := 25, nameIndex := 361, descriptorIndex := 339, attributes := #[] }, { accessFlags := 26, nameIndex := 364, descriptorIndex := 339, attributes := #[] }, { accessFlags := 26, nameIndex := 365, descriptorIndex := 339, attributes := #[] }, { accessFlags := 26, nameIndex := 172, descriptorIndex := 173, attributes := #[] }, { accessFlags := 26, nameIndex := 176, descriptorIndex := 173, attributes := #[] }, { accessFlags := 8, nameIndex := 344, descriptorIndex := 339, attributes := #[] }, { accessFlags := 8, nameIndex := 338, descriptorIndex := 339, attributes := #[] }, { accessFlags := 4120, nameIndex := 245, descriptorIndex := 246, attributes := #[] }])
  fields := #[{ name := "E", type := .double, accessFlags := 25, slot := 0, constantValue := 0 }, { name := "PI", type := .double, accessFlags := 25, slot := 1, constantValue := 0 }, { name := "TAU", type := .double, accessFlags := 25, slot := 2, constantValue := 0 }, { name := "DEGREES_TO_RADIANS", type := .double, accessFlags := 26, slot := 3, constantValue := 0 }, { name := "RADIANS_TO_DEGREES", type := .double, accessFlags := 26, slot := 4, constantValue := 0 }, { name := "negativeZeroFloatBits", type := .long, accessFlags := 26, slot := 5, constantValue := 0 }, { name := "negativeZeroDoubleBits", type := .long, accessFlags := 26, slot := 6, constantValue := 0 }, { name := "twoToTheDoubleScaleUp", type := .double, accessFlags := 8, slot := 7, constantValue := 0 }, { name := "twoToTheDoubleScaleDown", type := .double, accessFlags := 8, slot := 8, constantValue := 0 }, { name := "$assertionsDisabled", type := .boolean, accessFlags := 4120, slot := 9, constantValue := 0 }]
  methods := #[k2m0, k2m1, k2m2]
  instanceTypes := #[]
  staticTypes := #[.double, .double, .double, .double, .double, .long, .long, .double, .double, .boolean]
  resolved := Array.replicate 460 none
  statics := none }

def pool3 : Array CpInfo := pool [(3, .methodref 4 5), (0, .class_ 6), (0, .nameAndType 7 8), (0, u "com/example/valq/valq/CodePointSet"), (0, u "<init>"), (0, u "([II[IZ)V"), (0, .methodref 10 11), (0, .class_ 12), (0, .nameAndType 7 13), (0, u "java/lang/Object"), (0, u "()V"), (0, .fieldref 4 15), (0, .nameAndType 16 17), (0, u "bounds"), (0, u "[I"), (0, .fieldref 4 19), (0, .nameAndType 20 21), (0, u "categories"), (0, u "I"), (0, .fieldref 4 23), (0, .nameAndType 24 17), (0, u "listed"), (0, .fieldref 4 26), (0, .nameAndType 27 28), (0, u "complemented"), (0, u "Z"), (0, .methodref 4 30), (0, .nameAndType 7 31), (0, u "([I)V"), (2, u "range"), (0, u "(II)Lcom/example/valq/valq/CodePointSet;"), (1, .class_ 39), (1, u "com/example/valq/valq/CodePointSet$Categories"), (17, u "()I"), (18, u "()Z"), (48, u "EMPTY"), (0, u "Lcom/example/valq/valq/CodePointSet;"), (3, u "NO_RANGES"), (6, u "hash"), (4, u "ALL_CATEGORIES"), (16, u "contains"), (0, u "(I)Z"), (0, u "only"), (0, u "listedCount"), (0, u "listedFirst"), (0, u "(I)I"), (0, u "listedLast")] 26

def k3c0 : Code := { maxStack := 5, maxLocals := 2, code := prog_9_method_1_code, exceptionTable := #[], attributes := #[] }
def k3m0 : Method := { name := "<init>", desc := "([I)V", sig := { parameters := [(.array .int)], returnType := none }, accessFlags := 2, code := some k3c0 }
def k3c1 : Code := { maxStack := 2, maxLocals := 5, code := prog_9_method_2_code, exceptionTable := #[], attributes := #[] }
def k3m1 : Method := { name := "<init>", desc := "([II[IZ)V", sig := { parameters := [(.array .int), .int, (.array .int), .boolean], returnType := none }, accessFlags := 2, code := some k3c1 }
def k3c2 : Code := { maxStack := 6, maxLocals := 2, code := prog_9_method_3_code, exceptionTable := #[], attributes := #[] }
def k3m2 : Method := { name := "range", desc := "(II)Lcom/example/valq/valq/CodePointSet;", sig := { parameters := [.int, .int], returnType := some (.object "com/example/valq/valq/CodePointSet") }, accessFlags := 8, code := some k3c2 }
def k3c3 : Code := { maxStack := 4, maxLocals := 5, code := prog_9_method_9_code, exceptionTable := #[], attributes := #[] }
def k3m3 : Method := { name := "contains", desc := "(I)Z", sig := { parameters := [.int], returnType := some .boolean }, accessFlags := 0, code := some k3c3 }
def k3c4 : Code := { maxStack := 3, maxLocals := 1, code := prog_9_method_10_code, exceptionTable := #[], attributes := #[] }
def k3m4 : Method := { name := "only", desc := "()I", sig := { parameters := [], returnType := some .int }, accessFlags := 0, code := some k3c4 }
def k3c5 : Code := { maxStack := 1, maxLocals := 1, code := prog_9_method_11_code, exceptionTable := #[], attributes := #[] }
def k3m5 : Method := { name := "categories", desc := "()I", sig := { parameters := [], returnType := some .int }, accessFlags := 0, code := some k3c5 }
def k3c6 : Code := { maxStack := 2, maxLocals := 1, code := prog_9_method_12_code, exceptionTable := #[], attributes := #[] }
def k3m6 : Method := { name := "listedCount", desc := "()I", sig := { parameters := [], returnType := some .int }, accessFlags := 0, code := some k3c6 }
def k3c7 : Code := { maxStack := 3, maxLocals := 2, code := prog_9_method_13_code, exceptionTable := #[], attributes := #[] }
def k3m7 : Method := { name := "listedFirst", desc := "(I)I", sig := { parameters := [.int], returnType := some .int }, accessFlags := 0, code := some k3c7 }
def k3c8 : Code := { maxStack := 3, maxLocals := 2, code := prog_9_method_14_code, exceptionTable := #[], attributes := #[] }
def k3m8 : Method := { name := "listedLast", desc := "(I)I", sig := { parameters := [.int], returnType := some .int }, accessFlags := 0, code := some k3c8 }
def k3c9 : Code := { maxStack := 1, maxLocals := 1, code := prog_9_method_15_code, exceptionTable := #[], attributes := #[] }
def k3m9 : Method := { name := "complemented", desc := "()Z", sig := { parameters := [], returnType := some .boolean }, accessFlags := 0, code := some k3c9 }
/-- com/example/valq/valq/CodePointSet -/
def k3 : Class := { plain "com/example/valq/valq/CodePointSet" (some 0) with
  accessFlags := 48
  interfaces := #[]
  cf := some (fileOf pool3 4 #[.nestMembers #[37]] #[{ accessFlags := 2, nameIndex := 7, descriptorIndex := 31, attributes := #[] }, { accessFlags := 2, nameIndex := 7, descriptorIndex := 8, attributes := #[] }, { accessFlags := 8, nameIndex := 34, descriptorIndex := 35, attributes := #[] }, { accessFlags := 0, nameIndex := 159, descriptorIndex := 160, attributes := #[] }, { accessFlags := 0, nameIndex := 161, descriptorIndex := 57, attributes := #[] }, { accessFlags := 0, nameIndex := 20, descriptorIndex := 57, attributes := #[] }, { accessFlags := 0, nameIndex := 162, descriptorIndex := 57, attributes := #[] }, { accessFlags := 0, nameIndex := 163, descriptorIndex := 164, attributes := #[] }, { accessFlags := 0, nameIndex := 165, descriptorIndex := 164, attributes := #[] }, { accessFlags := 0, nameIndex := 27, descriptorIndex := 76, attributes := #[] }] 48 10 #[] #[{ accessFlags := 26, nameIndex := 142, descriptorIndex := 21, attributes := #[] }, { accessFlags := 26, nameIndex := 130, descriptorIndex := 17, attributes := #[] }, { accessFlags := 26, nameIndex := 125, descriptorIndex := 126, attributes := #[] }, { accessFlags := 18, nameIndex := 16, descriptorIndex := 17, attributes := #[] }, { accessFlags := 18, nameIndex := 20, descriptorIndex := 21, attributes := #[] }, { accessFlags := 18, nameIndex := 24, descriptorIndex := 17, attributes := #[] }, { accessFlags := 18, nameIndex := 27, descriptorIndex := 28, attributes := #[] }, { accessFlags := 2, nameIndex := 137, descriptorIndex := 21, attributes := #[] }])
  fields := #[{ name := "ALL_CATEGORIES", type := .int, accessFlags := 26, slot := 0, constantValue := 0 }, { name := "NO_RANGES", type := (.array .int), accessFlags := 26, slot := 1, constantValue := 0 }, { name := "EMPTY", type := (.object "com/example/valq/valq/CodePointSet"), accessFlags := 26, slot := 2, constantValue := 0 }, { name := "bounds", type := (.array .int), accessFlags := 18, slot := 0, constantValue := 0 }, { name := "categories", type := .int, accessFlags := 18, slot := 1, constantValue := 0 }, { name := "listed", type := (.array .int), accessFlags := 18, slot := 2, constantValue := 0 }, { name := "complemented", type := .boolean, accessFlags := 18, slot := 3, constantValue := 0 }, { name := "hash", type := .int, accessFlags := 2, slot := 4, constantValue := 0 }]
  methods := #[k3m0, k3m1, k3m2, k3m3, k3m4, k3m5, k3m6, k3m7, k3m8, k3m9]
  instanceTypes := #[(.array .int), .int, (.array .int), .boolean, .int]
  staticTypes := #[.int, (.array .int), (.object "com/example/valq/valq/CodePointSet")]
  resolved := Array.replicate 192 none
  statics := none }

def pool4 : Array CpInfo := pool [(1, u "java/lang/Cloneable"), (0, .class_ 1), (0, u "java/lang/Object"), (0, .class_ 3)] 3

/-- java/lang/Cloneable -/
def k4 : Class := { plain "java/lang/Cloneable" (some 0) with
  accessFlags := 1537
  interfaces := #[]
  cf := some (fileOf pool4 2 #[] #[] 1537 4 #[] #[])
  fields := #[]
  methods := #[]
  instanceTypes := #[]
  staticTypes := #[]
  resolved := Array.replicate 8 none
  statics := none }

def pool5 : Array CpInfo := pool [(1, u "java/io/Serializable"), (0, .class_ 1), (0, u "java/lang/Object"), (0, .class_ 3)] 3

/-- java/io/Serializable -/
def k5 : Class := { plain "java/io/Serializable" (some 0) with
  accessFlags := 1537
  interfaces := #[]
  cf := some (fileOf pool5 2 #[] #[] 1537 4 #[] #[])
  fields := #[]
  methods := #[]
  instanceTypes := #[]
  staticTypes := #[]
  resolved := Array.replicate 8 none
  statics := none }

/-- the primitive byte -/
def k6 : Class := { plain "byte" none with kind := .primitive 'B', accessFlags := 0x411 }
/-- [B -/
def k7 : Class := { plain "[B" (some 0) with kind := .array 6 .byte, interfaces := #[4, 5], accessFlags := 1041 }

/-- the primitive int -/
def k8 : Class := { plain "int" none with kind := .primitive 'I', accessFlags := 0x411 }
/-- [I -/
def k9 : Class := { plain "[I" (some 0) with kind := .array 8 .int, interfaces := #[4, 5], accessFlags := 1041 }

def heap : Heap := #[]
def classes : Array Class := #[k0, k1, k2, k3, k4, k5, k6, k7, k8, k9]
def interned : List (Array UInt16 × Addr) := []
def slotsUsed : Nat := 0
def theMethod : MethodId := ⟨1, 1⟩
def args0 : Array Value := #[.int 5, .int 1, .int 2, .int 3]
def aboutOver (below : List Frame) : State where
  vm := { classes := classes, interned := interned.toArray }
  heap := heap
  slotsUsed := slotsUsed
  threads := #[{ frames := .invoking theMethod args0 :: below }]
def below0 : List Frame := [.native { method := ⟨0, 0⟩, args := #[] }]
def about1 : State := aboutOver below0
def p0 : Program := .bare "" "" ""
def e0 : Env := launch0.env 0 0 0
theorem w_frames : about1.frames = Frame.invoking theMethod args0 :: below0 := rfl
set_option maxRecDepth 65536 in
theorem w_args : argsFit about1.vm theMethod args0 = true := by decide +kernel
set_option maxRecDepth 65536 in
theorem w_heap : heapFits about1 = true := by decide +kernel
set_option maxRecDepth 65536 in
theorem w_runnable : about1.curStatus? = some .runnable := by decide +kernel
set_option maxRecDepth 65536 in
theorem w_alone : about1.alone = true := by decide +kernel
set_option maxRecDepth 65536 in
theorem w_named : about1.methodNamed? x = some theMethod := by decide +kernel
set_option maxRecDepth 65536 in
theorem w_hears : about1.hears theMethod below0 = true := by decide +kernel
set_option maxRecDepth 65536 in
theorem w_ripe : about1.ripe theMethod args0 below0 = true := by decide +kernel
theorem w_running : about1.status = .running := rfl
set_option maxRecDepth 65536 in
theorem w_room : about1.hasRoom e0.platform room_1 = true :=
  launch0.hasRoom_least _ room_1 (by decide +kernel) (by decide +kernel) (by decide +kernel) (by decide +kernel) (by decide +kernel) (by decide +kernel)
theorem allAtoms_all (ts : List Jvm.Cond) (a : Array Jvm.Value) (st : Jvm.State) : (allAtoms ts).before a st = ts.all (fun c => c.before a st) := by
  induction ts with
  | nil => rfl
  | cons c t ih =>
    show (Jvm.Cond.and c (allAtoms t)).before a st = _
    rw [Jvm.Cond.before_and, ih, List.all_cons]
def words1 : List Jvm.Cond := Jvm.Cond.code x code maxLocals ret :: tables_1
/-- a 'code' word, met by the world's own term for the bytes: nothing is compared byte by byte -/
theorem code_word {y : MethodName} {bytes : ByteArray} {mx : Nat} {rt : Option FieldType} {a : Array Value} {s : State} {m : MethodId} {meth : Method} {c : Code} (h1 : s.methodNamed? y = some m) (h2 : s.vm.method? m = some meth) (h3 : meth.code = some c) (h4 : c.code = bytes)
    (h5 : (c.maxLocals == mx && c.exceptionTable.isEmpty && decide (c.maxStack ≤ mostOperands) && decide (meth.sig.returnType = rt) && !meth.locks && decide (parseMethodDescriptor y.desc = some meth.sig)) = true) : (Jvm.Cond.code y bytes mx rt).before a s = true := by
  simp only [Bool.and_eq_true, beq_iff_eq, Bool.not_eq_true', decide_eq_true_eq] at h5
  obtain ⟨⟨⟨⟨⟨g1, g2⟩, g3⟩, g4⟩, g5⟩, g6⟩ := h5
  simp [Cond.before, Cond.holds, Cond.value, h1, h2, h3, h4, g1, g2, g3, g4, g5, g6]
def isCode : Jvm.Cond → Bool
  | .code _ _ _ _ => true
  | _ => false
theorem all_split {L : List Jvm.Cond} {P : Jvm.Cond → Bool} (h1 : L.all (fun c => isCode c || P c) = true) (h2 : ∀ c ∈ L.filter isCode, P c = true) : L.all P = true := by
  refine List.all_eq_true.mpr fun c hc => ?_
  have h := List.all_eq_true.mp h1 c hc
  rcases Bool.eq_false_or_eq_true (isCode c) with hi | hi
  · exact h2 c (List.mem_filter.mpr ⟨hc, hi⟩)
  · simpa [hi] using h
set_option maxRecDepth 65536 in
theorem w_c0 : (Jvm.Cond.code x code maxLocals ret).before args0 about1 = true := code_word (m := ⟨1, 1⟩) (meth := k1m1) (c := k1c1) (by decide +kernel) rfl rfl rfl (by decide +kernel)
set_option maxRecDepth 65536 in
theorem w_c1 : (Jvm.Cond.code ({ cls := "java/lang/Math", name := "min", desc := "(II)I" } : Jvm.MethodName) jdk_29_method_69_code (2 : Nat) (Option.some Jvm.ClassFile.FieldType.int)).before args0 about1 = true := code_word (m := ⟨2, 2⟩) (meth := k2m2) (c := k2c2) (by decide +kernel) rfl rfl rfl (by decide +kernel)
set_option maxRecDepth 65536 in
theorem w_c2 : (Jvm.Cond.code ({ cls := "java/lang/Math", name := "max", desc := "(II)I" } : Jvm.MethodName) jdk_29_method_65_code (2 : Nat) (Option.some Jvm.ClassFile.FieldType.int)).before args0 about1 = true := code_word (m := ⟨2, 1⟩) (meth := k2m1) (c := k2c1) (by decide +kernel) rfl rfl rfl (by decide +kernel)
set_option maxRecDepth 65536 in
theorem w_c3 : (Jvm.Cond.code ({ cls := "com/example/valq/valq/CodePointSet", name := "range", desc := "(II)Lcom/example/valq/valq/CodePointSet;" } : Jvm.MethodName) prog_9_method_3_code (2 : Nat) (Option.some (Jvm.ClassFile.FieldType.object "com/example/valq/valq/CodePointSet"))).before args0 about1 = true := code_word (m := ⟨3, 2⟩) (meth := k3m2) (c := k3c2) (by decide +kernel) rfl rfl rfl (by decide +kernel)
set_option maxRecDepth 65536 in
theorem w_c4 : (Jvm.Cond.code ({ cls := "com/example/valq/valq/CodePointSet", name := "<init>", desc := "([I)V" } : Jvm.MethodName) prog_9_method_1_code (2 : Nat) (Option.none : Option Jvm.ClassFile.FieldType)).before args0 about1 = true := code_word (m := ⟨3, 0⟩) (meth := k3m0) (c := k3c0) (by decide +kernel) rfl rfl rfl (by decide +kernel)
set_option maxRecDepth 65536 in
theorem w_c5 : (Jvm.Cond.code ({ cls := "com/example/valq/valq/CodePointSet", name := "<init>", desc := "([II[IZ)V" } : Jvm.MethodName) prog_9_method_2_code (5 : Nat) (Option.none : Option Jvm.ClassFile.FieldType)).before args0 about1 = true := code_word (m := ⟨3, 1⟩) (meth := k3m1) (c := k3c1) (by decide +kernel) rfl rfl rfl (by decide +kernel)
set_option maxRecDepth 65536 in
theorem w_c6 : (Jvm.Cond.code ({ cls := "java/lang/Object", name := "<init>", desc := "()V" } : Jvm.MethodName) object_method_1_code (1 : Nat) (Option.none : Option Jvm.ClassFile.FieldType)).before args0 about1 = true := code_word (m := ⟨0, 0⟩) (meth := k0m0) (c := k0c0) (by decide +kernel) rfl rfl rfl (by decide +kernel)
set_option maxRecDepth 65536 in
theorem w_c7 : (Jvm.Cond.code ({ cls := "com/example/valq/valq/CodePointSet", name := "contains", desc := "(I)Z" } : Jvm.MethodName) prog_9_method_9_code (5 : Nat) (Option.some Jvm.ClassFile.FieldType.boolean)).before args0 about1 = true := code_word (m := ⟨3, 3⟩) (meth := k3m3) (c := k3c3) (by decide +kernel) rfl rfl rfl (by decide +kernel)
set_option maxRecDepth 65536 in
theorem w_c8 : (Jvm.Cond.code ({ cls := "com/example/valq/valq/CodePointSet", name := "only", desc := "()I" } : Jvm.MethodName) prog_9_method_10_code (1 : Nat) (Option.some Jvm.ClassFile.FieldType.int)).before args0 about1 = true := code_word (m := ⟨3, 4⟩) (meth := k3m4) (c := k3c4) (by decide +kernel) rfl rfl rfl (by decide +kernel)
set_option maxRecDepth 65536 in
theorem w_c9 : (Jvm.Cond.code ({ cls := "com/example/valq/valq/CodePointSet", name := "listedCount", desc := "()I" } : Jvm.MethodName) prog_9_method_12_code (1 : Nat) (Option.some Jvm.ClassFile.FieldType.int)).before args0 about1 = true := code_word (m := ⟨3, 6⟩) (meth := k3m6) (c := k3c6) (by decide +kernel) rfl rfl rfl (by decide +kernel)
set_option maxRecDepth 65536 in
theorem w_c10 : (Jvm.Cond.code ({ cls := "com/example/valq/valq/CodePointSet", name := "listedFirst", desc := "(I)I" } : Jvm.MethodName) prog_9_method_13_code (2 : Nat) (Option.some Jvm.ClassFile.FieldType.int)).before args0 about1 = true := code_word (m := ⟨3, 7⟩) (meth := k3m7) (c := k3c7) (by decide +kernel) rfl rfl rfl (by decide +kernel)
set_option maxRecDepth 65536 in
theorem w_c11 : (Jvm.Cond.code ({ cls := "com/example/valq/valq/CodePointSet", name := "listedLast", desc := "(I)I" } : Jvm.MethodName) prog_9_method_14_code (2 : Nat) (Option.some Jvm.ClassFile.FieldType.int)).before args0 about1 = true := code_word (m := ⟨3, 8⟩) (meth := k3m8) (c := k3c8) (by decide +kernel) rfl rfl rfl (by decide +kernel)
set_option maxRecDepth 65536 in
theorem w_c12 : (Jvm.Cond.code ({ cls := "com/example/valq/valq/CodePointSet", name := "categories", desc := "()I" } : Jvm.MethodName) prog_9_method_11_code (1 : Nat) (Option.some Jvm.ClassFile.FieldType.int)).before args0 about1 = true := code_word (m := ⟨3, 5⟩) (meth := k3m5) (c := k3c5) (by decide +kernel) rfl rfl rfl (by decide +kernel)
set_option maxRecDepth 65536 in
theorem w_c13 : (Jvm.Cond.code ({ cls := "com/example/valq/valq/CodePointSet", name := "complemented", desc := "()Z" } : Jvm.MethodName) prog_9_method_15_code (1 : Nat) (Option.some Jvm.ClassFile.FieldType.boolean)).before args0 about1 = true := code_word (m := ⟨3, 9⟩) (meth := k3m9) (c := k3c9) (by decide +kernel) rfl rfl rfl (by decide +kernel)
def codes1 : List Jvm.Cond := [Jvm.Cond.code x code maxLocals ret, Jvm.Cond.code ({ cls := "java/lang/Math", name := "min", desc := "(II)I" } : Jvm.MethodName) jdk_29_method_69_code (2 : Nat) (Option.some Jvm.ClassFile.FieldType.int), Jvm.Cond.code ({ cls := "java/lang/Math", name := "max", desc := "(II)I" } : Jvm.MethodName) jdk_29_method_65_code (2 : Nat) (Option.some Jvm.ClassFile.FieldType.int), Jvm.Cond.code ({ cls := "com/example/valq/valq/CodePointSet", name := "range", desc := "(II)Lcom/example/valq/valq/CodePointSet;" } : Jvm.MethodName) prog_9_method_3_code (2 : Nat) (Option.some (Jvm.ClassFile.FieldType.object "com/example/valq/valq/CodePointSet")), Jvm.Cond.code ({ cls := "com/example/valq/valq/CodePointSet", name := "<init>", desc := "([I)V" } : Jvm.MethodName) prog_9_method_1_code (2 : Nat) (Option.none : Option Jvm.ClassFile.FieldType), Jvm.Cond.code ({ cls := "com/example/valq/valq/CodePointSet", name := "<init>", desc := "([II[IZ)V" } : Jvm.MethodName) prog_9_method_2_code (5 : Nat) (Option.none : Option Jvm.ClassFile.FieldType), Jvm.Cond.code ({ cls := "java/lang/Object", name := "<init>", desc := "()V" } : Jvm.MethodName) object_method_1_code (1 : Nat) (Option.none : Option Jvm.ClassFile.FieldType), Jvm.Cond.code ({ cls := "com/example/valq/valq/CodePointSet", name := "contains", desc := "(I)Z" } : Jvm.MethodName) prog_9_method_9_code (5 : Nat) (Option.some Jvm.ClassFile.FieldType.boolean), Jvm.Cond.code ({ cls := "com/example/valq/valq/CodePointSet", name := "only", desc := "()I" } : Jvm.MethodName) prog_9_method_10_code (1 : Nat) (Option.some Jvm.ClassFile.FieldType.int), Jvm.Cond.code ({ cls := "com/example/valq/valq/CodePointSet", name := "listedCount", desc := "()I" } : Jvm.MethodName) prog_9_method_12_code (1 : Nat) (Option.some Jvm.ClassFile.FieldType.int), Jvm.Cond.code ({ cls := "com/example/valq/valq/CodePointSet", name := "listedFirst", desc := "(I)I" } : Jvm.MethodName) prog_9_method_13_code (2 : Nat) (Option.some Jvm.ClassFile.FieldType.int), Jvm.Cond.code ({ cls := "com/example/valq/valq/CodePointSet", name := "listedLast", desc := "(I)I" } : Jvm.MethodName) prog_9_method_14_code (2 : Nat) (Option.some Jvm.ClassFile.FieldType.int), Jvm.Cond.code ({ cls := "com/example/valq/valq/CodePointSet", name := "categories", desc := "()I" } : Jvm.MethodName) prog_9_method_11_code (1 : Nat) (Option.some Jvm.ClassFile.FieldType.int), Jvm.Cond.code ({ cls := "com/example/valq/valq/CodePointSet", name := "complemented", desc := "()Z" } : Jvm.MethodName) prog_9_method_15_code (1 : Nat) (Option.some Jvm.ClassFile.FieldType.boolean)]
set_option maxRecDepth 65536 in
theorem codes_eq : words1.filter isCode = codes1 := rfl
theorem w_codes : ∀ c ∈ words1.filter isCode, c.before args0 about1 = true := by
  rw [codes_eq]
  intro c hc
  simp only [codes1, List.mem_cons, List.not_mem_nil, or_false] at hc
  rcases hc with rfl | rfl | rfl | rfl | rfl | rfl | rfl | rfl | rfl | rfl | rfl | rfl | rfl | rfl
  · exact w_c0
  · exact w_c1
  · exact w_c2
  · exact w_c3
  · exact w_c4
  · exact w_c5
  · exact w_c6
  · exact w_c7
  · exact w_c8
  · exact w_c9
  · exact w_c10
  · exact w_c11
  · exact w_c12
  · exact w_c13
set_option maxRecDepth 65536 in
theorem w_t1 : (words1.take 24).all (fun c => isCode c || c.before args0 about1) = true := by decide +kernel
set_option maxRecDepth 65536 in
theorem w_t2 : ((words1.drop 24).take 24).all (fun c => isCode c || c.before args0 about1) = true := by decide +kernel
set_option maxRecDepth 65536 in
theorem w_t3 : ((words1.drop 24).drop 24).all (fun c => isCode c || c.before args0 about1) = true := by decide +kernel
theorem w_tables : (allAtoms (Jvm.Cond.code x code maxLocals ret :: tables_1)).before args0 about1 = true := by
  rw [allAtoms_all]
  show words1.all (fun c => c.before args0 about1) = true
  refine all_split ?_ w_codes
  rw [← List.take_append_drop 24 words1, List.all_append, w_t1, ← List.take_append_drop 24 (words1.drop 24), List.all_append, w_t2, w_t3]
  rfl
set_option maxRecDepth 65536 in
theorem w_case : (Jvm.Cond.and given_1 narrow_1).before args0 about1 = true := by decide +kernel
theorem w_applies : (headSpec (Jvm.Cond.code x code maxLocals ret :: tables_1) room_1).applies x e0.platform about1 = true :=
  (Spec.applies_iff w_frames).mpr ⟨w_running, w_runnable, w_alone, w_named, w_hears, w_ripe, w_room, w_tables⟩
theorem atStart : AtStart classFile x code maxLocals ret World_1 tables_1 room_1 Calls_1 rest_1 Pre_1 launch0 p0 e0 about1 theMethod args0 below0 :=
  ⟨lists_1, trivial, launch0.admits_env _ _ _, launch0.least_env, fairChoices_fair.cas, fairChoices_fair.clock, w_frames, w_args, w_heap, w_applies, trivial, trivial, w_case⟩
end start1
theorem witness_1 : WitnessClaimed_1 := ⟨start1.p0, start1.e0, start1.about1, start1.theMethod, start1.args0, start1.below0, start1.atStart⟩
end Jvm.Pilot.@@N@@
